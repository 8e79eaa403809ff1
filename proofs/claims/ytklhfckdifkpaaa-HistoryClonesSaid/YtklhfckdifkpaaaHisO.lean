/- History: the example. -/
import Derived.Test.YtklhfckdifkpaaaHisN
set_option linter.unusedSimpArgs false
set_option linter.unusedVariables false
set_option linter.unnecessarySimpa false
namespace GL
open Go Go.Proofs
set_option maxRecDepth 8000
abbrev sA4 : ByteArray := ⟨#[65, 65, 65, 65]⟩
abbrev sB4 : ByteArray := ⟨#[66, 66, 66, 66]⟩
abbrev sCa : ByteArray := ⟨#[67, 65, 83, 72]⟩
abbrev sX : ByteArray := ⟨#[88]⟩
abbrev sY : ByteArray := ⟨#[89]⟩
abbrev qA : AC := ⟨sA4, 0, sCa⟩
abbrev qB : AC := ⟨sB4, 0, sCa⟩
abbrev kp1 : List PO := [⟨qA, -100⟩, ⟨qB, 100⟩]
abbrev kp2 : List PO := [⟨qB, -30⟩, ⟨qA, 30⟩]
abbrev kb1 : HB := ⟨1, 5, 0, [⟨sX, kp1⟩]⟩
abbrev kb2 : HB := ⟨2, 6, 10, [⟨sY, kp2⟩]⟩
theorem ka1 : bdE [] kb1 = 0 := by decide +kernel
theorem ka2 : bdE [kb1] kb2 = 0 := by decide +kernel
theorem ka3 : balA [kb1, kb2] qB 1 = 100 ∧ balE [kb1, kb2] 1 = 0 := by decide +kernel
theorem ka4 : balA [kb1, kb2] qB 2 = 70 ∧ balE [kb1, kb2] 2 = 0 := by decide +kernel
theorem ka5 : seqN [kb1, kb2] 6 0 = 1 := by decide +kernel
theorem ka6 : tur qB (dayP [kb1, kb2] 6) = (30, 0) := by decide +kernel
theorem kf1 : FB kb1 := by unfold FB; decide +kernel
theorem kf2 : FB kb2 := by unfold FB; decide +kernel
theorem kg0 : GS [] := ⟨GH.nil, by simp, fun b hb => by cases hb⟩
theorem kg1 : GS [kb1] := ⟨GH.nil.step ka1, by simp, fun b hb => by simp at hb; subst hb; exact kf1⟩
theorem kg2 : GS [kb1, kb2] := ⟨kg1.g.step ka2, by simp, fun b hb => by simp at hb; rcases hb with rfl | rfl; exact kf1; exact kf2⟩
theorem bxin1 {h : Heap} {B C : Nat} {s d m : Int} {r : ByteArray} {x y : PO} (h1 : Has h B (.cells (poL x ++ poL y).toArray tyPo)) (h2 : Has h C (.cells #[.string r, .slice (some ⟨B, 0, none⟩) 2 2] tyPt)) :
    BXin h ⟨s, d, m, some ⟨C, 0, none⟩, [⟨r, some ⟨B, 0, none⟩, [x, y], 2⟩], 1⟩ :=
  ⟨slG_has (f := ptL) (sz := 2) (fun _ => rfl) h2 rfl, fun p hp => by simp at hp; subst hp; exact slG_has (f := poL) (sz := 4) (fun _ => rfl) h1 rfl⟩
theorem k_turn {h : Heap} {p : Nat} (hr : HR h p [kb1, kb2]) : HCalls Try.prog 21 #[ptr p, acV qB, iV 6] h (Grow (.agg #[iV 30, iV 0]) h) := by
  have := c_turn qB 6 kg2 hr
  rwa [ka6] at this
theorem k_bal {h : Heap} {p : Nat} (n x : Int) (hr : HR h p [kb1, kb2]) (h1 : balA [kb1, kb2] qB n = x ∧ balE [kb1, kb2] n = 0) : HCalls Try.prog 16 #[ptr p, acV qB, iV n] h (Grow (.tuple #[iV x, iV 0]) h) := by
  have := c_balAt qB n kg2 hr
  rwa [h1.1, h1.2] at this
theorem k_seq {h : Heap} {p : Nat} (hr : HR h p [kb1, kb2]) : HCalls Try.prog 19 #[ptr p, .agg #[iV 6, iV 0]] h (Grow (iV 1) h) := by
  have := c_seqAt 6 0 kg2 hr
  rwa [ka5] at this
set_option maxHeartbeats 2000000 in
theorem c_known14 (h : Heap) : HCalls Try.prog 13 #[] h (Grow (.bool true) h) := by
  refine hcalls2 Try.func13 rfl (by decide +kernel) (by simp only [Try.ntmps13]; exact of_decide_eq_true rfl) ?_
  intro e hin
  have hE : Ext h h := Ext.refl h
  refine hx_seq ?_
  refine hx_region ?_
  refine WL.qq (by simp only [EN, Nat.reduceEqDiff, reduceIte, qv_assign, decide_true, Bool.not_true, Bool.not_false, decide_false, eq_self, if_true, if_false, Bool.or_true, Bool.and_true, Bool.or_false, Bool.and_self, Bool.false_or]; rfl) ?_
  refine WL.nil ?_
  refine th_norm ?_
  refine hx_seq ?_
  refine hx_region ?_
  refine WL.qq (by refine qv_bld (by simp only [EN, Nat.reduceEqDiff, reduceIte, AR, decide_true, Bool.not_true, Bool.not_false, decide_false, eq_self, if_true, if_false, Bool.or_true, Bool.and_true, Bool.or_false, Bool.and_self, Bool.false_or] <;> rfl) (by rw [bl35]; simp [Instr.fill, Value.cells]; rfl)) ?_
  refine WL.qq (by refine qv_bld (by simp only [EN, Nat.reduceEqDiff, reduceIte, AR, decide_true, Bool.not_true, Bool.not_false, decide_false, eq_self, if_true, if_false, Bool.or_true, Bool.and_true, Bool.or_false, Bool.and_self, Bool.false_or] <;> rfl) (by rw [bl35]; simp [Instr.fill, Value.cells]; rfl)) ?_
  refine WL.alloc2 zr35 ?_
  intro h1 B1 hx1 hlt1 hB1
  have hb0_1 := Nat.le_trans hE.size hlt1
  replace hE := hE.trans hx1
  have hEo1 := hx1
  simp only [Value.cells] at hB1
  refine WL.alloc2 zr35 ?_
  intro h2 B2 hx2 hlt2 hB2
  have hne1_2 : B2 ≠ B1 := by have := (Array.getElem?_eq_some_iff.1 hB1).1; omega
  have hb0_2 := Nat.le_trans hE.size hlt2
  have hbo1_2 := Nat.le_trans hEo1.size hlt2
  have hB1_s2 := hB1
  replace hE := hE.trans hx2
  replace hEo1 := hEo1.trans hx2
  replace hB1 := hB1.ext hx2
  have hEo2 := hx2
  simp only [Value.cells] at hB2
  refine WL.store (by simp only [EN, Nat.reduceEqDiff, reduceIte, decide_true, Bool.not_true, Bool.not_false, decide_false, eq_self, if_true, if_false, Bool.or_true, Bool.and_true, Bool.or_false, Bool.and_self, Bool.false_or, hB1.cell, hB2.cell] <;> rfl) sz35 (by simp only [EN, Nat.reduceEqDiff, reduceIte, Value.cells, decide_true, Bool.not_true, Bool.not_false, decide_false, eq_self, if_true, if_false, Bool.or_true, Bool.and_true, Bool.or_false, Bool.and_self, Bool.false_or, hB1.cell, hB2.cell] <;> rfl) rfl hB1 (by first | decide | (simp; done) | (simp; omega)) (by simp [Value.oneCell']) ?_
  intro h3 hw3
  replace hE := hw3.ext hE hb0_1
  replace hEo1 := hw3.ext hEo1 hlt1
  replace hB2 := hB2.wr hw3 hne1_2
  replace hB1 := hw3.at_
  try simp only [splc, List.take_succ_cons, List.take_zero, List.take_nil, List.drop_succ_cons, List.drop_zero, List.drop_nil, List.cons_append, List.nil_append, List.length_cons, List.length_nil, Nat.zero_add, Nat.add_zero, Nat.reduceAdd, List.append_nil] at hB1
  refine WL.store (by simp only [EN, Nat.reduceEqDiff, reduceIte, decide_true, Bool.not_true, Bool.not_false, decide_false, eq_self, if_true, if_false, Bool.or_true, Bool.and_true, Bool.or_false, Bool.and_self, Bool.false_or, hB1.cell, hB2.cell] <;> rfl) sz35 (by simp only [EN, Nat.reduceEqDiff, reduceIte, Value.cells, decide_true, Bool.not_true, Bool.not_false, decide_false, eq_self, if_true, if_false, Bool.or_true, Bool.and_true, Bool.or_false, Bool.and_self, Bool.false_or, hB1.cell, hB2.cell] <;> rfl) rfl hB2 (by first | decide | (simp; done) | (simp; omega)) (by simp [Value.oneCell']) ?_
  intro h4 hw4
  replace hE := hw4.ext hE hb0_2
  replace hEo1 := hw4.ext hEo1 hbo1_2
  replace hB1 := hB1.wr hw4 (Ne.symm hne1_2)
  replace hB2 := hw4.at_
  try simp only [splc, List.take_succ_cons, List.take_zero, List.take_nil, List.drop_succ_cons, List.drop_zero, List.drop_nil, List.cons_append, List.nil_append, List.length_cons, List.length_nil, Nat.zero_add, Nat.add_zero, Nat.reduceAdd, List.append_nil] at hB2
  refine WL.nil ?_
  refine th_norm ?_
  refine hx_seq ?_
  refine hx_region ?_
  have hE4 := hE
  refine WL.ce Try.call39 (by simp only [EN, Nat.reduceEqDiff, reduceIte, AR, decide_true, Bool.not_true, Bool.not_false, decide_false, eq_self, if_true, if_false, Bool.or_true, Bool.and_true, Bool.or_false, Bool.and_self, Bool.false_or, hB1.cell, hB2.cell]; exact c_newH _) ?_
  rintro _ h5 ⟨hx5, p, rfl, hI⟩
  replace hE := hE.trans hx5
  replace hEo1 := hEo1.trans hx5
  replace hB1 := hB1.ext hx5
  replace hB2 := hB2.ext hx5
  simp only [put_some]
  refine WL.qq (by simp only [EN, Nat.reduceEqDiff, reduceIte, qv_assign, decide_true, Bool.not_true, Bool.not_false, decide_false, eq_self, if_true, if_false, Bool.or_true, Bool.and_true, Bool.or_false, Bool.and_self, Bool.false_or, hB1.cell, hB2.cell]; rfl) ?_
  refine WL.nil ?_
  refine th_norm ?_
  refine hx_seq ?_
  refine hx_region ?_
  replace hI := hI.base hE4
  refine WL.qq (by simp only [EN, Nat.reduceEqDiff, reduceIte, qv_move, decide_true, Bool.not_true, Bool.not_false, decide_false, eq_self, if_true, if_false, Bool.or_true, Bool.and_true, Bool.or_false, Bool.and_self, Bool.false_or, hB1.cell, hB2.cell]; rfl) ?_
  refine WL.qq (by refine qv_bld (by simp only [EN, Nat.reduceEqDiff, reduceIte, AR, decide_true, Bool.not_true, Bool.not_false, decide_false, eq_self, if_true, if_false, Bool.or_true, Bool.and_true, Bool.or_false, Bool.and_self, Bool.false_or, hB1.cell, hB2.cell] <;> rfl) (by rw [bl41]; simp [Instr.fill, Value.cells]; rfl)) ?_
  refine WL.qq (by simp only [EN, Nat.reduceEqDiff, reduceIte, qv_load, ld35, readN, AR, Nat.zero_add, Nat.reduceAdd, decide_true, Bool.not_true, Bool.not_false, decide_false, eq_self, if_true, if_false, Bool.or_true, Bool.and_true, Bool.or_false, Bool.and_self, Bool.false_or, hB1.cell, hB2.cell]; rfl) ?_
  refine WL.qq (by refine qv_bld (by simp only [EN, Nat.reduceEqDiff, reduceIte, AR, decide_true, Bool.not_true, Bool.not_false, decide_false, eq_self, if_true, if_false, Bool.or_true, Bool.and_true, Bool.or_false, Bool.and_self, Bool.false_or, hB1.cell, hB2.cell] <;> rfl) (by rw [bl74]; simp [Instr.fill, Value.cells]; rfl)) ?_
  refine WL.qq (by simp only [EN, Nat.reduceEqDiff, reduceIte, qv_load, ld35, readN, AR, Nat.zero_add, Nat.reduceAdd, decide_true, Bool.not_true, Bool.not_false, decide_false, eq_self, if_true, if_false, Bool.or_true, Bool.and_true, Bool.or_false, Bool.and_self, Bool.false_or, hB1.cell, hB2.cell]; rfl) ?_
  refine WL.qq (by refine qv_bld (by simp only [EN, Nat.reduceEqDiff, reduceIte, AR, decide_true, Bool.not_true, Bool.not_false, decide_false, eq_self, if_true, if_false, Bool.or_true, Bool.and_true, Bool.or_false, Bool.and_self, Bool.false_or, hB1.cell, hB2.cell] <;> rfl) (by rw [bl74]; simp [Instr.fill, Value.cells]; rfl)) ?_
  refine WL.lit2 #[(.string ⟨#[]⟩), (.int .i64 0), (.string ⟨#[]⟩), (.int .i64 0), (.string ⟨#[]⟩), (.int .i64 0), (.string ⟨#[]⟩), (.int .i64 0)] Try.underlying70 sz74 zr74 (by decide) (by kernel_rfl) ⟨_, (by simp only [EN, Nat.reduceEqDiff, reduceIte, AR, decide_true, Bool.not_true, Bool.not_false, decide_false, eq_self, if_true, if_false, Bool.or_true, Bool.and_true, Bool.or_false, Bool.and_self, Bool.false_or, hB1.cell, hB2.cell]; simp [Instr.fill, Value.cells]; rfl), rfl⟩ ?_
  intro h6 B6 hx6 hlt6 hB6
  replace hE := hE.trans hx6
  replace hEo1 := hEo1.trans hx6
  replace hB1 := hB1.ext hx6
  replace hB2 := hB2.ext hx6
  replace hI := hI.ext hx6
  refine WL.qq (by refine qv_bld (by simp only [EN, Nat.reduceEqDiff, reduceIte, AR, decide_true, Bool.not_true, Bool.not_false, decide_false, eq_self, if_true, if_false, Bool.or_true, Bool.and_true, Bool.or_false, Bool.and_self, Bool.false_or, hB1.cell, hB2.cell, hB6.cell] <;> rfl) (by rw [bl72]; simp [Instr.fill, Value.cells]; rfl)) ?_
  refine WL.lit2 #[(.string ⟨#[]⟩), (.slice none 0 0)] Try.underlying53 sz72 zr72 (by decide) (by kernel_rfl) ⟨_, (by simp only [EN, Nat.reduceEqDiff, reduceIte, AR, decide_true, Bool.not_true, Bool.not_false, decide_false, eq_self, if_true, if_false, Bool.or_true, Bool.and_true, Bool.or_false, Bool.and_self, Bool.false_or, hB1.cell, hB2.cell, hB6.cell]; simp [Instr.fill, Value.cells]; rfl), rfl⟩ ?_
  intro h7 B7 hx7 hlt7 hB7
  replace hE := hE.trans hx7
  replace hEo1 := hEo1.trans hx7
  replace hB1 := hB1.ext hx7
  replace hB2 := hB2.ext hx7
  replace hI := hI.ext hx7
  replace hB6 := hB6.ext hx7
  refine WL.qq (by refine qv_bld (by simp only [EN, Nat.reduceEqDiff, reduceIte, AR, decide_true, Bool.not_true, Bool.not_false, decide_false, eq_self, if_true, if_false, Bool.or_true, Bool.and_true, Bool.or_false, Bool.and_self, Bool.false_or, hB1.cell, hB2.cell, hB6.cell, hB7.cell] <;> rfl) (by rw [bl55]; simp [Instr.fill, Value.cells]; rfl)) ?_
  refine WL.ce Try.call35 (by simp only [EN, Nat.reduceEqDiff, reduceIte, AR, decide_true, Bool.not_true, Bool.not_false, decide_false, eq_self, if_true, if_false, Bool.or_true, Bool.and_true, Bool.or_false, Bool.and_self, Bool.false_or, hB1.cell, hB2.cell, hB6.cell, hB7.cell]; exact c_append (⟨1, 5, 0, some ⟨B7, 0, none⟩, [⟨sX, some ⟨B6, 0, none⟩, kp1, 2⟩], 1⟩ : BX) kg0 hI (bxin1 hB6 hB7) kf1) ?_
  rintro _ h20 ⟨rfl, hI2, hty, -⟩
  simp only [put_some]
  rw [show (⟨1, 5, 0, some ⟨B7, 0, none⟩, [⟨sX, some ⟨B6, 0, none⟩, kp1, 2⟩], 1⟩ : BX).bd = kb1 from rfl, show stp [] kb1 = [kb1] from if_pos ka1] at hI2
  replace hI := hI2.mono (F' := fun _ => True) (fun _ _ => trivial)
  replace hE := hI.E
  replace hEo1 := Ext.refl h20
  replace hB1 : Has h20 B1 _ := hty.2 _ _ _ _ (by decide) (by decide) hB1
  replace hB2 : Has h20 B2 _ := hty.2 _ _ _ _ (by decide) (by decide) hB2
  replace hB6 : Has h20 B6 _ := hty.2 _ _ _ _ (by decide) (by decide) hB6
  replace hB7 : Has h20 B7 _ := hty.2 _ _ _ _ (by decide) (by decide) hB7
  refine WL.qq (by simp only [EN, Nat.reduceEqDiff, reduceIte, qv_assign, decide_true, Bool.not_true, Bool.not_false, decide_false, eq_self, if_true, if_false, Bool.or_true, Bool.and_true, Bool.or_false, Bool.and_self, Bool.false_or, hB1.cell, hB2.cell, hB6.cell, hB7.cell]; rfl) ?_
  refine WL.nil ?_
  refine th_norm ?_
  refine hx_seq ?_
  refine hx_region ?_
  refine WL.qq (by simp only [EN, Nat.reduceEqDiff, reduceIte, qv_move, decide_true, Bool.not_true, Bool.not_false, decide_false, eq_self, if_true, if_false, Bool.or_true, Bool.and_true, Bool.or_false, Bool.and_self, Bool.false_or, hB1.cell, hB2.cell, hB6.cell, hB7.cell]; rfl) ?_
  refine WL.qq (by refine qv_bld (by simp only [EN, Nat.reduceEqDiff, reduceIte, AR, decide_true, Bool.not_true, Bool.not_false, decide_false, eq_self, if_true, if_false, Bool.or_true, Bool.and_true, Bool.or_false, Bool.and_self, Bool.false_or, hB1.cell, hB2.cell, hB6.cell, hB7.cell] <;> rfl) (by rw [bl41]; simp [Instr.fill, Value.cells]; rfl)) ?_
  refine WL.qq (by simp only [EN, Nat.reduceEqDiff, reduceIte, qv_load, ld35, readN, AR, Nat.zero_add, Nat.reduceAdd, decide_true, Bool.not_true, Bool.not_false, decide_false, eq_self, if_true, if_false, Bool.or_true, Bool.and_true, Bool.or_false, Bool.and_self, Bool.false_or, hB1.cell, hB2.cell, hB6.cell, hB7.cell]; rfl) ?_
  refine WL.qq (by refine qv_bld (by simp only [EN, Nat.reduceEqDiff, reduceIte, AR, decide_true, Bool.not_true, Bool.not_false, decide_false, eq_self, if_true, if_false, Bool.or_true, Bool.and_true, Bool.or_false, Bool.and_self, Bool.false_or, hB1.cell, hB2.cell, hB6.cell, hB7.cell] <;> rfl) (by rw [bl74]; simp [Instr.fill, Value.cells]; rfl)) ?_
  refine WL.qq (by simp only [EN, Nat.reduceEqDiff, reduceIte, qv_load, ld35, readN, AR, Nat.zero_add, Nat.reduceAdd, decide_true, Bool.not_true, Bool.not_false, decide_false, eq_self, if_true, if_false, Bool.or_true, Bool.and_true, Bool.or_false, Bool.and_self, Bool.false_or, hB1.cell, hB2.cell, hB6.cell, hB7.cell]; rfl) ?_
  refine WL.qq (by refine qv_bld (by simp only [EN, Nat.reduceEqDiff, reduceIte, AR, decide_true, Bool.not_true, Bool.not_false, decide_false, eq_self, if_true, if_false, Bool.or_true, Bool.and_true, Bool.or_false, Bool.and_self, Bool.false_or, hB1.cell, hB2.cell, hB6.cell, hB7.cell] <;> rfl) (by rw [bl74]; simp [Instr.fill, Value.cells]; rfl)) ?_
  refine WL.lit2 #[(.string ⟨#[]⟩), (.int .i64 0), (.string ⟨#[]⟩), (.int .i64 0), (.string ⟨#[]⟩), (.int .i64 0), (.string ⟨#[]⟩), (.int .i64 0)] Try.underlying70 sz74 zr74 (by decide) (by kernel_rfl) ⟨_, (by simp only [EN, Nat.reduceEqDiff, reduceIte, AR, decide_true, Bool.not_true, Bool.not_false, decide_false, eq_self, if_true, if_false, Bool.or_true, Bool.and_true, Bool.or_false, Bool.and_self, Bool.false_or, hB1.cell, hB2.cell, hB6.cell, hB7.cell]; simp [Instr.fill, Value.cells]; rfl), rfl⟩ ?_
  intro h8 B8 hx8 hlt8 hB8
  replace hE := hE.trans hx8
  replace hEo1 := hEo1.trans hx8
  replace hB1 := hB1.ext hx8
  replace hB2 := hB2.ext hx8
  replace hI := hI.ext hx8
  replace hB6 := hB6.ext hx8
  replace hB7 := hB7.ext hx8
  refine WL.qq (by refine qv_bld (by simp only [EN, Nat.reduceEqDiff, reduceIte, AR, decide_true, Bool.not_true, Bool.not_false, decide_false, eq_self, if_true, if_false, Bool.or_true, Bool.and_true, Bool.or_false, Bool.and_self, Bool.false_or, hB1.cell, hB2.cell, hB6.cell, hB7.cell, hB8.cell] <;> rfl) (by rw [bl72]; simp [Instr.fill, Value.cells]; rfl)) ?_
  refine WL.lit2 #[(.string ⟨#[]⟩), (.slice none 0 0)] Try.underlying53 sz72 zr72 (by decide) (by kernel_rfl) ⟨_, (by simp only [EN, Nat.reduceEqDiff, reduceIte, AR, decide_true, Bool.not_true, Bool.not_false, decide_false, eq_self, if_true, if_false, Bool.or_true, Bool.and_true, Bool.or_false, Bool.and_self, Bool.false_or, hB1.cell, hB2.cell, hB6.cell, hB7.cell, hB8.cell]; simp [Instr.fill, Value.cells]; rfl), rfl⟩ ?_
  intro h9 B9 hx9 hlt9 hB9
  replace hE := hE.trans hx9
  replace hEo1 := hEo1.trans hx9
  replace hB1 := hB1.ext hx9
  replace hB2 := hB2.ext hx9
  replace hI := hI.ext hx9
  replace hB6 := hB6.ext hx9
  replace hB7 := hB7.ext hx9
  replace hB8 := hB8.ext hx9
  refine WL.qq (by refine qv_bld (by simp only [EN, Nat.reduceEqDiff, reduceIte, AR, decide_true, Bool.not_true, Bool.not_false, decide_false, eq_self, if_true, if_false, Bool.or_true, Bool.and_true, Bool.or_false, Bool.and_self, Bool.false_or, hB1.cell, hB2.cell, hB6.cell, hB7.cell, hB8.cell, hB9.cell] <;> rfl) (by rw [bl55]; simp [Instr.fill, Value.cells]; rfl)) ?_
  refine WL.ce Try.call35 (by simp only [EN, Nat.reduceEqDiff, reduceIte, AR, decide_true, Bool.not_true, Bool.not_false, decide_false, eq_self, if_true, if_false, Bool.or_true, Bool.and_true, Bool.or_false, Bool.and_self, Bool.false_or, hB1.cell, hB2.cell, hB6.cell, hB7.cell, hB8.cell, hB9.cell]; exact c_append (⟨2, 6, 10, some ⟨B9, 0, none⟩, [⟨sY, some ⟨B8, 0, none⟩, kp2, 2⟩], 1⟩ : BX) kg1 hI (bxin1 hB8 hB9) kf2) ?_
  rintro _ h21 ⟨rfl, hI2, hty, -⟩
  simp only [put_some]
  rw [show (⟨2, 6, 10, some ⟨B9, 0, none⟩, [⟨sY, some ⟨B8, 0, none⟩, kp2, 2⟩], 1⟩ : BX).bd = kb2 from rfl, show stp [kb1] kb2 = [kb1, kb2] from if_pos ka2] at hI2
  replace hI := hI2.mono (F' := fun _ => True) (fun _ _ => trivial)
  replace hE := hI.E
  replace hEo1 := Ext.refl h21
  replace hB1 : Has h21 B1 _ := hty.2 _ _ _ _ (by decide) (by decide) hB1
  replace hB2 : Has h21 B2 _ := hty.2 _ _ _ _ (by decide) (by decide) hB2
  replace hB6 : Has h21 B6 _ := hty.2 _ _ _ _ (by decide) (by decide) hB6
  replace hB7 : Has h21 B7 _ := hty.2 _ _ _ _ (by decide) (by decide) hB7
  replace hB8 : Has h21 B8 _ := hty.2 _ _ _ _ (by decide) (by decide) hB8
  replace hB9 : Has h21 B9 _ := hty.2 _ _ _ _ (by decide) (by decide) hB9
  refine WL.qq (by simp only [EN, Nat.reduceEqDiff, reduceIte, qv_assign, decide_true, Bool.not_true, Bool.not_false, decide_false, eq_self, if_true, if_false, Bool.or_true, Bool.and_true, Bool.or_false, Bool.and_self, Bool.false_or, hB1.cell, hB2.cell, hB6.cell, hB7.cell, hB8.cell, hB9.cell]; rfl) ?_
  refine WL.nil ?_
  refine th_norm ?_
  refine hx_seq ?_
  refine hx_region ?_
  refine WL.qq (by simp only [EN, Nat.reduceEqDiff, reduceIte, qv_move, decide_true, Bool.not_true, Bool.not_false, decide_false, eq_self, if_true, if_false, Bool.or_true, Bool.and_true, Bool.or_false, Bool.and_self, Bool.false_or, hB1.cell, hB2.cell, hB6.cell, hB7.cell, hB8.cell, hB9.cell]; rfl) ?_
  refine WL.qq (by simp only [EN, Nat.reduceEqDiff, reduceIte, qv_load, ld35, readN, AR, Nat.zero_add, Nat.reduceAdd, decide_true, Bool.not_true, Bool.not_false, decide_false, eq_self, if_true, if_false, Bool.or_true, Bool.and_true, Bool.or_false, Bool.and_self, Bool.false_or, hB1.cell, hB2.cell, hB6.cell, hB7.cell, hB8.cell, hB9.cell]; rfl) ?_
  refine WL.cg Try.call16 (by simp only [EN, Nat.reduceEqDiff, reduceIte, AR, decide_true, Bool.not_true, Bool.not_false, decide_false, eq_self, if_true, if_false, Bool.or_true, Bool.and_true, Bool.or_false, Bool.and_self, Bool.false_or, hB1.cell, hB2.cell, hB6.cell, hB7.cell, hB8.cell, hB9.cell]; exact k_bal 1 100 hI.hr ka3) ?_
  intro h10 hx10
  replace hE := hE.trans hx10
  replace hEo1 := hEo1.trans hx10
  replace hB1 := hB1.ext hx10
  replace hB2 := hB2.ext hx10
  replace hI := hI.ext hx10
  replace hB6 := hB6.ext hx10
  replace hB7 := hB7.ext hx10
  replace hB8 := hB8.ext hx10
  replace hB9 := hB9.ext hx10
  refine WL.qq (by simp only [EN, Nat.reduceEqDiff, reduceIte, qv_move, decide_true, Bool.not_true, Bool.not_false, decide_false, eq_self, if_true, if_false, Bool.or_true, Bool.and_true, Bool.or_false, Bool.and_self, Bool.false_or, hB1.cell, hB2.cell, hB6.cell, hB7.cell, hB8.cell, hB9.cell]; rfl) ?_
  refine WL.qq (by simp only [EN, Nat.reduceEqDiff, reduceIte, qv_extract, AR, decide_true, Bool.not_true, Bool.not_false, decide_false, eq_self, if_true, if_false, Bool.or_true, Bool.and_true, Bool.or_false, Bool.and_self, Bool.false_or, hB1.cell, hB2.cell, hB6.cell, hB7.cell, hB8.cell, hB9.cell]; rfl) ?_
  refine WL.qq (by simp only [EN, Nat.reduceEqDiff, reduceIte, qv_extract, AR, decide_true, Bool.not_true, Bool.not_false, decide_false, eq_self, if_true, if_false, Bool.or_true, Bool.and_true, Bool.or_false, Bool.and_self, Bool.false_or, hB1.cell, hB2.cell, hB6.cell, hB7.cell, hB8.cell, hB9.cell]; rfl) ?_
  refine WL.qq (by simp only [EN, Nat.reduceEqDiff, reduceIte, qv_assign, decide_true, Bool.not_true, Bool.not_false, decide_false, eq_self, if_true, if_false, Bool.or_true, Bool.and_true, Bool.or_false, Bool.and_self, Bool.false_or, hB1.cell, hB2.cell, hB6.cell, hB7.cell, hB8.cell, hB9.cell]; rfl) ?_
  refine WL.qq (by simp only [EN, Nat.reduceEqDiff, reduceIte, qv_assign, decide_true, Bool.not_true, Bool.not_false, decide_false, eq_self, if_true, if_false, Bool.or_true, Bool.and_true, Bool.or_false, Bool.and_self, Bool.false_or, hB1.cell, hB2.cell, hB6.cell, hB7.cell, hB8.cell, hB9.cell]; rfl) ?_
  refine WL.nil ?_
  refine th_norm ?_
  refine hx_seq ?_
  refine hx_region ?_
  refine WL.qq (by simp only [EN, Nat.reduceEqDiff, reduceIte, qv_move, decide_true, Bool.not_true, Bool.not_false, decide_false, eq_self, if_true, if_false, Bool.or_true, Bool.and_true, Bool.or_false, Bool.and_self, Bool.false_or, hB1.cell, hB2.cell, hB6.cell, hB7.cell, hB8.cell, hB9.cell]; rfl) ?_
  refine WL.qq (by simp only [EN, Nat.reduceEqDiff, reduceIte, qv_load, ld35, readN, AR, Nat.zero_add, Nat.reduceAdd, decide_true, Bool.not_true, Bool.not_false, decide_false, eq_self, if_true, if_false, Bool.or_true, Bool.and_true, Bool.or_false, Bool.and_self, Bool.false_or, hB1.cell, hB2.cell, hB6.cell, hB7.cell, hB8.cell, hB9.cell]; rfl) ?_
  refine WL.cg Try.call16 (by simp only [EN, Nat.reduceEqDiff, reduceIte, AR, decide_true, Bool.not_true, Bool.not_false, decide_false, eq_self, if_true, if_false, Bool.or_true, Bool.and_true, Bool.or_false, Bool.and_self, Bool.false_or, hB1.cell, hB2.cell, hB6.cell, hB7.cell, hB8.cell, hB9.cell]; exact k_bal 2 70 hI.hr ka4) ?_
  intro h11 hx11
  replace hE := hE.trans hx11
  replace hEo1 := hEo1.trans hx11
  replace hB1 := hB1.ext hx11
  replace hB2 := hB2.ext hx11
  replace hI := hI.ext hx11
  replace hB6 := hB6.ext hx11
  replace hB7 := hB7.ext hx11
  replace hB8 := hB8.ext hx11
  replace hB9 := hB9.ext hx11
  refine WL.qq (by simp only [EN, Nat.reduceEqDiff, reduceIte, qv_move, decide_true, Bool.not_true, Bool.not_false, decide_false, eq_self, if_true, if_false, Bool.or_true, Bool.and_true, Bool.or_false, Bool.and_self, Bool.false_or, hB1.cell, hB2.cell, hB6.cell, hB7.cell, hB8.cell, hB9.cell]; rfl) ?_
  refine WL.qq (by simp only [EN, Nat.reduceEqDiff, reduceIte, qv_extract, AR, decide_true, Bool.not_true, Bool.not_false, decide_false, eq_self, if_true, if_false, Bool.or_true, Bool.and_true, Bool.or_false, Bool.and_self, Bool.false_or, hB1.cell, hB2.cell, hB6.cell, hB7.cell, hB8.cell, hB9.cell]; rfl) ?_
  refine WL.qq (by simp only [EN, Nat.reduceEqDiff, reduceIte, qv_extract, AR, decide_true, Bool.not_true, Bool.not_false, decide_false, eq_self, if_true, if_false, Bool.or_true, Bool.and_true, Bool.or_false, Bool.and_self, Bool.false_or, hB1.cell, hB2.cell, hB6.cell, hB7.cell, hB8.cell, hB9.cell]; rfl) ?_
  refine WL.qq (by simp only [EN, Nat.reduceEqDiff, reduceIte, qv_assign, decide_true, Bool.not_true, Bool.not_false, decide_false, eq_self, if_true, if_false, Bool.or_true, Bool.and_true, Bool.or_false, Bool.and_self, Bool.false_or, hB1.cell, hB2.cell, hB6.cell, hB7.cell, hB8.cell, hB9.cell]; rfl) ?_
  refine WL.qq (by simp only [EN, Nat.reduceEqDiff, reduceIte, qv_assign, decide_true, Bool.not_true, Bool.not_false, decide_false, eq_self, if_true, if_false, Bool.or_true, Bool.and_true, Bool.or_false, Bool.and_self, Bool.false_or, hB1.cell, hB2.cell, hB6.cell, hB7.cell, hB8.cell, hB9.cell]; rfl) ?_
  refine WL.nil ?_
  refine th_norm ?_
  refine hx_seq ?_
  refine hx_region ?_
  refine WL.qq (by simp only [EN, Nat.reduceEqDiff, reduceIte, qv_move, decide_true, Bool.not_true, Bool.not_false, decide_false, eq_self, if_true, if_false, Bool.or_true, Bool.and_true, Bool.or_false, Bool.and_self, Bool.false_or, hB1.cell, hB2.cell, hB6.cell, hB7.cell, hB8.cell, hB9.cell]; rfl) ?_
  refine WL.qq (by simp only [EN, Nat.reduceEqDiff, reduceIte, qv_binOp, binv_eql, eq32, Option.map_some, decide_true, Bool.not_true, Bool.not_false, decide_false, eq_self, if_true, if_false, Bool.or_true, Bool.and_true, Bool.or_false, Bool.and_self, Bool.false_or, hB1.cell, hB2.cell, hB6.cell, hB7.cell, hB8.cell, hB9.cell]; rfl) ?_
  refine WL.qq (by simp only [EN, Nat.reduceEqDiff, reduceIte, qv_move, decide_true, Bool.not_true, Bool.not_false, decide_false, eq_self, if_true, if_false, Bool.or_true, Bool.and_true, Bool.or_false, Bool.and_self, Bool.false_or, hB1.cell, hB2.cell, hB6.cell, hB7.cell, hB8.cell, hB9.cell]; rfl) ?_
  refine WL.cq (gd_at (t := 49) rfl (by simp only [EN, Nat.reduceEqDiff, reduceIte, decide_true, Bool.not_true, Bool.not_false, decide_false, eq_self, if_true, if_false, Bool.or_true, Bool.and_true, Bool.or_false, Bool.and_self, Bool.false_or, hB1.cell, hB2.cell, hB6.cell, hB7.cell, hB8.cell, hB9.cell] <;> rfl)) (fun hg7_3 => by simp only [EN, Nat.reduceEqDiff, reduceIte, qv_move, decide_true, Bool.not_true, Bool.not_false, decide_false, eq_self, if_true, if_false, Bool.or_true, Bool.and_true, Bool.or_false, Bool.and_self, Bool.false_or, hB1.cell, hB2.cell, hB6.cell, hB7.cell, hB8.cell, hB9.cell, hg7_3, GR]; rfl) ?_
  refine WL.cq (gd_at (t := 49) rfl (by simp only [EN, Nat.reduceEqDiff, reduceIte, decide_true, Bool.not_true, Bool.not_false, decide_false, eq_self, if_true, if_false, Bool.or_true, Bool.and_true, Bool.or_false, Bool.and_self, Bool.false_or, hB1.cell, hB2.cell, hB6.cell, hB7.cell, hB8.cell, hB9.cell] <;> rfl)) (fun hg7_4 => by simp only [EN, Nat.reduceEqDiff, reduceIte, qv_binOp, binv_eql, eq32, Option.map_some, decide_true, Bool.not_true, Bool.not_false, decide_false, eq_self, if_true, if_false, Bool.or_true, Bool.and_true, Bool.or_false, Bool.and_self, Bool.false_or, hB1.cell, hB2.cell, hB6.cell, hB7.cell, hB8.cell, hB9.cell, hg7_4, GR]; rfl) ?_
  refine WL.qq (by simp only [EN, Nat.reduceEqDiff, reduceIte, qv_pick, pk_and, pk_or, GR, decide_true, Bool.not_true, Bool.not_false, decide_false, eq_self, if_true, if_false, Bool.or_true, Bool.and_true, Bool.or_false, Bool.and_self, Bool.false_or, hB1.cell, hB2.cell, hB6.cell, hB7.cell, hB8.cell, hB9.cell]; rfl) ?_
  refine WL.qq (by simp only [EN, Nat.reduceEqDiff, reduceIte, qv_move, decide_true, Bool.not_true, Bool.not_false, decide_false, eq_self, if_true, if_false, Bool.or_true, Bool.and_true, Bool.or_false, Bool.and_self, Bool.false_or, hB1.cell, hB2.cell, hB6.cell, hB7.cell, hB8.cell, hB9.cell]; rfl) ?_
  refine WL.cq (gd_at (t := 53) rfl (by simp only [EN, Nat.reduceEqDiff, reduceIte, decide_true, Bool.not_true, Bool.not_false, decide_false, eq_self, if_true, if_false, Bool.or_true, Bool.and_true, Bool.or_false, Bool.and_self, Bool.false_or, hB1.cell, hB2.cell, hB6.cell, hB7.cell, hB8.cell, hB9.cell] <;> rfl)) (fun hg7_7 => by simp only [EN, Nat.reduceEqDiff, reduceIte, qv_move, decide_true, Bool.not_true, Bool.not_false, decide_false, eq_self, if_true, if_false, Bool.or_true, Bool.and_true, Bool.or_false, Bool.and_self, Bool.false_or, hB1.cell, hB2.cell, hB6.cell, hB7.cell, hB8.cell, hB9.cell, hg7_7, GR]; rfl) ?_
  refine WL.cq (gd_at (t := 53) rfl (by simp only [EN, Nat.reduceEqDiff, reduceIte, decide_true, Bool.not_true, Bool.not_false, decide_false, eq_self, if_true, if_false, Bool.or_true, Bool.and_true, Bool.or_false, Bool.and_self, Bool.false_or, hB1.cell, hB2.cell, hB6.cell, hB7.cell, hB8.cell, hB9.cell] <;> rfl)) (fun hg7_8 => by simp only [EN, Nat.reduceEqDiff, reduceIte, qv_binOp, binv_eql, eq32, Option.map_some, decide_true, Bool.not_true, Bool.not_false, decide_false, eq_self, if_true, if_false, Bool.or_true, Bool.and_true, Bool.or_false, Bool.and_self, Bool.false_or, hB1.cell, hB2.cell, hB6.cell, hB7.cell, hB8.cell, hB9.cell, hg7_8, GR]; rfl) ?_
  refine WL.qq (by simp only [EN, Nat.reduceEqDiff, reduceIte, qv_pick, pk_and, pk_or, GR, decide_true, Bool.not_true, Bool.not_false, decide_false, eq_self, if_true, if_false, Bool.or_true, Bool.and_true, Bool.or_false, Bool.and_self, Bool.false_or, hB1.cell, hB2.cell, hB6.cell, hB7.cell, hB8.cell, hB9.cell]; rfl) ?_
  refine WL.qq (by simp only [EN, Nat.reduceEqDiff, reduceIte, qv_move, decide_true, Bool.not_true, Bool.not_false, decide_false, eq_self, if_true, if_false, Bool.or_true, Bool.and_true, Bool.or_false, Bool.and_self, Bool.false_or, hB1.cell, hB2.cell, hB6.cell, hB7.cell, hB8.cell, hB9.cell]; rfl) ?_
  refine WL.cq (gd_at (t := 57) rfl (by simp only [EN, Nat.reduceEqDiff, reduceIte, decide_true, Bool.not_true, Bool.not_false, decide_false, eq_self, if_true, if_false, Bool.or_true, Bool.and_true, Bool.or_false, Bool.and_self, Bool.false_or, hB1.cell, hB2.cell, hB6.cell, hB7.cell, hB8.cell, hB9.cell] <;> rfl)) (fun hg7_11 => by simp only [EN, Nat.reduceEqDiff, reduceIte, qv_move, decide_true, Bool.not_true, Bool.not_false, decide_false, eq_self, if_true, if_false, Bool.or_true, Bool.and_true, Bool.or_false, Bool.and_self, Bool.false_or, hB1.cell, hB2.cell, hB6.cell, hB7.cell, hB8.cell, hB9.cell, hg7_11, GR]; rfl) ?_
  refine WL.cq (gd_at (t := 57) rfl (by simp only [EN, Nat.reduceEqDiff, reduceIte, decide_true, Bool.not_true, Bool.not_false, decide_false, eq_self, if_true, if_false, Bool.or_true, Bool.and_true, Bool.or_false, Bool.and_self, Bool.false_or, hB1.cell, hB2.cell, hB6.cell, hB7.cell, hB8.cell, hB9.cell] <;> rfl)) (fun hg7_12 => by simp only [EN, Nat.reduceEqDiff, reduceIte, qv_binOp, binv_eql, eq32, Option.map_some, decide_true, Bool.not_true, Bool.not_false, decide_false, eq_self, if_true, if_false, Bool.or_true, Bool.and_true, Bool.or_false, Bool.and_self, Bool.false_or, hB1.cell, hB2.cell, hB6.cell, hB7.cell, hB8.cell, hB9.cell, hg7_12, GR]; rfl) ?_
  refine WL.qq (by simp only [EN, Nat.reduceEqDiff, reduceIte, qv_pick, pk_and, pk_or, GR, decide_true, Bool.not_true, Bool.not_false, decide_false, eq_self, if_true, if_false, Bool.or_true, Bool.and_true, Bool.or_false, Bool.and_self, Bool.false_or, hB1.cell, hB2.cell, hB6.cell, hB7.cell, hB8.cell, hB9.cell]; rfl) ?_
  refine WL.qq (by simp only [EN, Nat.reduceEqDiff, reduceIte, qv_move, decide_true, Bool.not_true, Bool.not_false, decide_false, eq_self, if_true, if_false, Bool.or_true, Bool.and_true, Bool.or_false, Bool.and_self, Bool.false_or, hB1.cell, hB2.cell, hB6.cell, hB7.cell, hB8.cell, hB9.cell]; rfl) ?_
  refine WL.cq (gd_at (t := 61) rfl (by simp only [EN, Nat.reduceEqDiff, reduceIte, decide_true, Bool.not_true, Bool.not_false, decide_false, eq_self, if_true, if_false, Bool.or_true, Bool.and_true, Bool.or_false, Bool.and_self, Bool.false_or, hB1.cell, hB2.cell, hB6.cell, hB7.cell, hB8.cell, hB9.cell] <;> rfl)) (fun hg7_15 => by simp only [EN, Nat.reduceEqDiff, reduceIte, qv_move, decide_true, Bool.not_true, Bool.not_false, decide_false, eq_self, if_true, if_false, Bool.or_true, Bool.and_true, Bool.or_false, Bool.and_self, Bool.false_or, hB1.cell, hB2.cell, hB6.cell, hB7.cell, hB8.cell, hB9.cell, hg7_15, GR]; rfl) ?_
  refine WL.cq (gd_at (t := 61) rfl (by simp only [EN, Nat.reduceEqDiff, reduceIte, decide_true, Bool.not_true, Bool.not_false, decide_false, eq_self, if_true, if_false, Bool.or_true, Bool.and_true, Bool.or_false, Bool.and_self, Bool.false_or, hB1.cell, hB2.cell, hB6.cell, hB7.cell, hB8.cell, hB9.cell] <;> rfl)) (fun hg7_16 => by simp only [EN, Nat.reduceEqDiff, reduceIte, qv_binOp, binv_eql, eq2, Option.map_some, decide_true, Bool.not_true, Bool.not_false, decide_false, eq_self, if_true, if_false, Bool.or_true, Bool.and_true, Bool.or_false, Bool.and_self, Bool.false_or, hB1.cell, hB2.cell, hB6.cell, hB7.cell, hB8.cell, hB9.cell, hg7_16, GR]; rfl) ?_
  refine WL.qq (by simp only [EN, Nat.reduceEqDiff, reduceIte, qv_pick, pk_and, pk_or, GR, decide_true, Bool.not_true, Bool.not_false, decide_false, eq_self, if_true, if_false, Bool.or_true, Bool.and_true, Bool.or_false, Bool.and_self, Bool.false_or, hB1.cell, hB2.cell, hB6.cell, hB7.cell, hB8.cell, hB9.cell]; rfl) ?_
  refine WL.qq (by simp only [EN, Nat.reduceEqDiff, reduceIte, qv_move, decide_true, Bool.not_true, Bool.not_false, decide_false, eq_self, if_true, if_false, Bool.or_true, Bool.and_true, Bool.or_false, Bool.and_self, Bool.false_or, hB1.cell, hB2.cell, hB6.cell, hB7.cell, hB8.cell, hB9.cell]; rfl) ?_
  refine WL.cq (gd_at (t := 65) rfl (by simp only [EN, Nat.reduceEqDiff, reduceIte, decide_true, Bool.not_true, Bool.not_false, decide_false, eq_self, if_true, if_false, Bool.or_true, Bool.and_true, Bool.or_false, Bool.and_self, Bool.false_or, hB1.cell, hB2.cell, hB6.cell, hB7.cell, hB8.cell, hB9.cell] <;> rfl)) (fun hg7_19 => by simp only [EN, Nat.reduceEqDiff, reduceIte, qv_move, decide_true, Bool.not_true, Bool.not_false, decide_false, eq_self, if_true, if_false, Bool.or_true, Bool.and_true, Bool.or_false, Bool.and_self, Bool.false_or, hB1.cell, hB2.cell, hB6.cell, hB7.cell, hB8.cell, hB9.cell, hg7_19, GR]; rfl) ?_
  refine WL.cq (gd_at (t := 65) rfl (by simp only [EN, Nat.reduceEqDiff, reduceIte, decide_true, Bool.not_true, Bool.not_false, decide_false, eq_self, if_true, if_false, Bool.or_true, Bool.and_true, Bool.or_false, Bool.and_self, Bool.false_or, hB1.cell, hB2.cell, hB6.cell, hB7.cell, hB8.cell, hB9.cell] <;> rfl)) (fun hg7_20 => by simp only [EN, Nat.reduceEqDiff, reduceIte, qv_binOp, binv_eql, eq2, Option.map_some, decide_true, Bool.not_true, Bool.not_false, decide_false, eq_self, if_true, if_false, Bool.or_true, Bool.and_true, Bool.or_false, Bool.and_self, Bool.false_or, hB1.cell, hB2.cell, hB6.cell, hB7.cell, hB8.cell, hB9.cell, hg7_20, GR]; rfl) ?_
  refine WL.qq (by simp only [EN, Nat.reduceEqDiff, reduceIte, qv_pick, pk_and, pk_or, GR, decide_true, Bool.not_true, Bool.not_false, decide_false, eq_self, if_true, if_false, Bool.or_true, Bool.and_true, Bool.or_false, Bool.and_self, Bool.false_or, hB1.cell, hB2.cell, hB6.cell, hB7.cell, hB8.cell, hB9.cell]; rfl) ?_
  refine WL.qq (by simp only [EN, Nat.reduceEqDiff, reduceIte, qv_move, decide_true, Bool.not_true, Bool.not_false, decide_false, eq_self, if_true, if_false, Bool.or_true, Bool.and_true, Bool.or_false, Bool.and_self, Bool.false_or, hB1.cell, hB2.cell, hB6.cell, hB7.cell, hB8.cell, hB9.cell]; rfl) ?_
  refine WL.cq (gd_at (t := 69) rfl (by simp only [EN, Nat.reduceEqDiff, reduceIte, decide_true, Bool.not_true, Bool.not_false, decide_false, eq_self, if_true, if_false, Bool.or_true, Bool.and_true, Bool.or_false, Bool.and_self, Bool.false_or, hB1.cell, hB2.cell, hB6.cell, hB7.cell, hB8.cell, hB9.cell] <;> rfl)) (fun hg7_23 => by simp only [EN, Nat.reduceEqDiff, reduceIte, qv_move, decide_true, Bool.not_true, Bool.not_false, decide_false, eq_self, if_true, if_false, Bool.or_true, Bool.and_true, Bool.or_false, Bool.and_self, Bool.false_or, hB1.cell, hB2.cell, hB6.cell, hB7.cell, hB8.cell, hB9.cell, hg7_23, GR]; rfl) ?_
  refine WL.cq (gd_at (t := 69) rfl (by simp only [EN, Nat.reduceEqDiff, reduceIte, decide_true, Bool.not_true, Bool.not_false, decide_false, eq_self, if_true, if_false, Bool.or_true, Bool.and_true, Bool.or_false, Bool.and_self, Bool.false_or, hB1.cell, hB2.cell, hB6.cell, hB7.cell, hB8.cell, hB9.cell] <;> rfl)) (fun hg7_24 => by refine qv_bld (by simp only [EN, Nat.reduceEqDiff, reduceIte, AR, decide_true, Bool.not_true, Bool.not_false, decide_false, eq_self, if_true, if_false, Bool.or_true, Bool.and_true, Bool.or_false, Bool.and_self, Bool.false_or, hB1.cell, hB2.cell, hB6.cell, hB7.cell, hB8.cell, hB9.cell, hg7_24, GR] <;> rfl) (by rw [bl41]; simp [Instr.fill, Value.cells]; rfl)) ?_
  refine WL.ccg (gd_at (t := 69) rfl (by simp only [EN, Nat.reduceEqDiff, reduceIte, decide_true, Bool.not_true, Bool.not_false, decide_false, eq_self, if_true, if_false, Bool.or_true, Bool.and_true, Bool.or_false, Bool.and_self, Bool.false_or, hB1.cell, hB2.cell, hB6.cell, hB7.cell, hB8.cell, hB9.cell] <;> rfl)) Try.call19 (fun hg7_25 => by simp only [EN, Nat.reduceEqDiff, reduceIte, AR, decide_true, Bool.not_true, Bool.not_false, decide_false, eq_self, if_true, if_false, Bool.or_true, Bool.and_true, Bool.or_false, Bool.and_self, Bool.false_or, hB1.cell, hB2.cell, hB6.cell, hB7.cell, hB8.cell, hB9.cell, hg7_25, GR]; exact k_seq hI.hr) ?_
  intro h12 hx12
  replace hE := hE.trans hx12
  replace hEo1 := hEo1.trans hx12
  replace hB1 := hB1.ext hx12
  replace hB2 := hB2.ext hx12
  replace hI := hI.ext hx12
  replace hB6 := hB6.ext hx12
  replace hB7 := hB7.ext hx12
  replace hB8 := hB8.ext hx12
  replace hB9 := hB9.ext hx12
  refine WL.cq (gd_at (t := 69) rfl (by simp only [EN, Nat.reduceEqDiff, reduceIte, decide_true, Bool.not_true, Bool.not_false, decide_false, eq_self, if_true, if_false, Bool.or_true, Bool.and_true, Bool.or_false, Bool.and_self, Bool.false_or, hB1.cell, hB2.cell, hB6.cell, hB7.cell, hB8.cell, hB9.cell] <;> rfl)) (fun hg7_26 => by simp only [EN, Nat.reduceEqDiff, reduceIte, qv_binOp, binv_eql, eq3, Option.map_some, decide_true, Bool.not_true, Bool.not_false, decide_false, eq_self, if_true, if_false, Bool.or_true, Bool.and_true, Bool.or_false, Bool.and_self, Bool.false_or, hB1.cell, hB2.cell, hB6.cell, hB7.cell, hB8.cell, hB9.cell, hg7_26, GR]; rfl) ?_
  refine WL.qq (by simp only [EN, Nat.reduceEqDiff, reduceIte, qv_pick, pk_and, pk_or, GR, decide_true, Bool.not_true, Bool.not_false, decide_false, eq_self, if_true, if_false, Bool.or_true, Bool.and_true, Bool.or_false, Bool.and_self, Bool.false_or, hB1.cell, hB2.cell, hB6.cell, hB7.cell, hB8.cell, hB9.cell]; rfl) ?_
  refine WL.qq (by simp only [EN, Nat.reduceEqDiff, reduceIte, qv_move, decide_true, Bool.not_true, Bool.not_false, decide_false, eq_self, if_true, if_false, Bool.or_true, Bool.and_true, Bool.or_false, Bool.and_self, Bool.false_or, hB1.cell, hB2.cell, hB6.cell, hB7.cell, hB8.cell, hB9.cell]; rfl) ?_
  refine WL.cq (gd_at (t := 75) rfl (by simp only [EN, Nat.reduceEqDiff, reduceIte, decide_true, Bool.not_true, Bool.not_false, decide_false, eq_self, if_true, if_false, Bool.or_true, Bool.and_true, Bool.or_false, Bool.and_self, Bool.false_or, hB1.cell, hB2.cell, hB6.cell, hB7.cell, hB8.cell, hB9.cell] <;> rfl)) (fun hg7_29 => by simp only [EN, Nat.reduceEqDiff, reduceIte, qv_move, decide_true, Bool.not_true, Bool.not_false, decide_false, eq_self, if_true, if_false, Bool.or_true, Bool.and_true, Bool.or_false, Bool.and_self, Bool.false_or, hB1.cell, hB2.cell, hB6.cell, hB7.cell, hB8.cell, hB9.cell, hg7_29, GR]; rfl) ?_
  refine WL.cq (gd_at (t := 75) rfl (by simp only [EN, Nat.reduceEqDiff, reduceIte, decide_true, Bool.not_true, Bool.not_false, decide_false, eq_self, if_true, if_false, Bool.or_true, Bool.and_true, Bool.or_false, Bool.and_self, Bool.false_or, hB1.cell, hB2.cell, hB6.cell, hB7.cell, hB8.cell, hB9.cell] <;> rfl)) (fun hg7_30 => by simp only [EN, Nat.reduceEqDiff, reduceIte, qv_load, ld35, readN, AR, Nat.zero_add, Nat.reduceAdd, decide_true, Bool.not_true, Bool.not_false, decide_false, eq_self, if_true, if_false, Bool.or_true, Bool.and_true, Bool.or_false, Bool.and_self, Bool.false_or, hB1.cell, hB2.cell, hB6.cell, hB7.cell, hB8.cell, hB9.cell, hg7_30, GR]; rfl) ?_
  refine WL.ccg (gd_at (t := 75) rfl (by simp only [EN, Nat.reduceEqDiff, reduceIte, decide_true, Bool.not_true, Bool.not_false, decide_false, eq_self, if_true, if_false, Bool.or_true, Bool.and_true, Bool.or_false, Bool.and_self, Bool.false_or, hB1.cell, hB2.cell, hB6.cell, hB7.cell, hB8.cell, hB9.cell] <;> rfl)) Try.call21 (fun hg7_31 => by simp only [EN, Nat.reduceEqDiff, reduceIte, AR, decide_true, Bool.not_true, Bool.not_false, decide_false, eq_self, if_true, if_false, Bool.or_true, Bool.and_true, Bool.or_false, Bool.and_self, Bool.false_or, hB1.cell, hB2.cell, hB6.cell, hB7.cell, hB8.cell, hB9.cell, hg7_31, GR]; exact k_turn hI.hr) ?_
  intro h13 hx13
  replace hE := hE.trans hx13
  replace hEo1 := hEo1.trans hx13
  replace hB1 := hB1.ext hx13
  replace hB2 := hB2.ext hx13
  replace hI := hI.ext hx13
  replace hB6 := hB6.ext hx13
  replace hB7 := hB7.ext hx13
  replace hB8 := hB8.ext hx13
  replace hB9 := hB9.ext hx13
  refine WL.cq (gd_at (t := 75) rfl (by simp only [EN, Nat.reduceEqDiff, reduceIte, decide_true, Bool.not_true, Bool.not_false, decide_false, eq_self, if_true, if_false, Bool.or_true, Bool.and_true, Bool.or_false, Bool.and_self, Bool.false_or, hB1.cell, hB2.cell, hB6.cell, hB7.cell, hB8.cell, hB9.cell] <;> rfl)) (fun hg7_32 => by refine qv_bld (by simp only [EN, Nat.reduceEqDiff, reduceIte, AR, decide_true, Bool.not_true, Bool.not_false, decide_false, eq_self, if_true, if_false, Bool.or_true, Bool.and_true, Bool.or_false, Bool.and_self, Bool.false_or, hB1.cell, hB2.cell, hB6.cell, hB7.cell, hB8.cell, hB9.cell, hg7_32, GR] <;> rfl) (by rw [bl48]; simp [Instr.fill, Value.cells]; rfl)) ?_
  refine WL.cq (gd_at (t := 75) rfl (by simp only [EN, Nat.reduceEqDiff, reduceIte, decide_true, Bool.not_true, Bool.not_false, decide_false, eq_self, if_true, if_false, Bool.or_true, Bool.and_true, Bool.or_false, Bool.and_self, Bool.false_or, hB1.cell, hB2.cell, hB6.cell, hB7.cell, hB8.cell, hB9.cell] <;> rfl)) (fun hg7_33 => by simp only [EN, Nat.reduceEqDiff, reduceIte, qv_binOp, binv_eql, eqs48, Option.map_some, decide_true, Bool.not_true, Bool.not_false, decide_false, eq_self, if_true, if_false, Bool.or_true, Bool.and_true, Bool.or_false, Bool.and_self, Bool.false_or, hB1.cell, hB2.cell, hB6.cell, hB7.cell, hB8.cell, hB9.cell, hg7_33, GR]; rfl) ?_
  refine WL.qq (by simp only [EN, Nat.reduceEqDiff, reduceIte, qv_pick, pk_and, pk_or, GR, decide_true, Bool.not_true, Bool.not_false, decide_false, eq_self, if_true, if_false, Bool.or_true, Bool.and_true, Bool.or_false, Bool.and_self, Bool.false_or, hB1.cell, hB2.cell, hB6.cell, hB7.cell, hB8.cell, hB9.cell]; rfl) ?_
  refine WL.qq (by simp only [EN, Nat.reduceEqDiff, reduceIte, qv_assign, decide_true, Bool.not_true, Bool.not_false, decide_false, eq_self, if_true, if_false, Bool.or_true, Bool.and_true, Bool.or_false, Bool.and_self, Bool.false_or, hB1.cell, hB2.cell, hB6.cell, hB7.cell, hB8.cell, hB9.cell]; rfl) ?_
  refine WL.nil ?_
  refine th_norm ?_
  refine hx_ret ?_
  refine fin_ret [.tmp 0] rfl rfl (by simp only [EN, Nat.reduceEqDiff, reduceIte, resv, decide_true, Bool.not_true, Bool.not_false, decide_false, eq_self, if_true, if_false, Bool.or_true, Bool.and_true, Bool.or_false, Bool.and_self, Bool.false_or, hB1.cell, hB2.cell, hB6.cell, hB7.cell, hB8.cell, hB9.cell]; rfl) ?_  -- ret 0 r7
  exact ⟨by simp only [retOf]; rw [show ((⟨1, 5, 0, some ⟨B7, 0, none⟩, [⟨sX, some ⟨B6, 0, none⟩, kp1, 2⟩], 1⟩ : BX).bd) = kb1 from rfl, show ((⟨2, 6, 10, some ⟨B9, 0, none⟩, [⟨sY, some ⟨B8, 0, none⟩, kp2, 2⟩], 1⟩ : BX).bd) = kb2 from rfl, ka1, ka2]; simp, hI.E⟩
end GL


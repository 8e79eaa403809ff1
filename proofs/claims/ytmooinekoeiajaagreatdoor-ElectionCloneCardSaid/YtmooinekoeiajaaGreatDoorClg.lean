/- The law ElectionClone returns true: a clone is equal and independent, and Equal agrees with the reference. No condition beyond the row's own. -/
import Derived.Test.YtmooinekoeiajaaGreatDoorClf
import Derived.Lay
import Derived.SevenTiedAt
import Derived.Test.YtmooinekoeiajaaGreatDoorRows
import Derived.Test.YtmooinekoeiajaaGreatDoorCards
import Derived.Test.YtmooinekoeiajaaGreatDoorTie
import Derived.Test.YtmooinekoeiajaaGreatDoorProg
set_option linter.unusedSimpArgs false
set_option linter.unusedVariables false
set_option linter.unnecessarySimpa false
namespace GL
open Go Go.Proofs
set_option maxRecDepth 8000
set_option maxHeartbeats 4000000 in
theorem l_clone (x y : SX) (a : Option Addr) (L : List OX) (c : Nat) (a' : Option Addr) (M : List OX) (c' : Nat) (hll : L.length ≤ 9223372036854775807) (hlm : M.length ≤ 9223372036854775807) {h : Heap} (hs : SuI h x) (hs2 : SuI h y) (hsL : SlG 6 oxL h a L) (hsM : SlG 6 oxL h a' M) :
    HCalls Tryz.prog 3 #[.agg (suC x), .agg (suC y), .slice a L.length c, .slice a' M.length c'] h (Grow (.bool true) h) := by
  have hsM0 := hsM
  refine hcalls2 Tryz.func3 rfl (by decide +kernel) (by simp only [Tryz.ntmps3]; exact of_decide_eq_true rfl) ?_
  intro e hin
  have e0 := hin 0 _ rfl
  have e1 := hin 1 _ rfl
  have e2 := hin 2 _ rfl
  have e3 := hin 3 _ rfl
  refine hx_seq (hx_region ?_)
  refine WL.box2 (by simp only [EN, Nat.reduceEqDiff, reduceIte, Value.cells, e0, decide_true, Bool.not_true, Bool.not_false, decide_false, eq_self, strEq, beq_self_eq_true]; rfl) ?_
  intro h1 B1 hx1 hlt1 hB1
  replace hs := hs.ext hx1
  replace hs2 := hs2.ext hx1
  replace hsL := hsL.ext hx1
  replace hsM := hsM.ext hx1
  refine WL.box2 (by simp only [EN, Nat.reduceEqDiff, reduceIte, Value.cells, e1, decide_true, Bool.not_true, Bool.not_false, decide_false, eq_self, strEq, beq_self_eq_true, hB1.cell]; rfl) ?_
  intro h2 B2 hx2 hlt2 hB2
  replace hs := hs.ext hx2
  replace hs2 := hs2.ext hx2
  replace hsL := hsL.ext hx2
  replace hsM := hsM.ext hx2
  replace hB1 := hB1.ext hx2
  refine WL.qq (by simp only [EN, Nat.reduceEqDiff, reduceIte, qv_assign, decide_true, Bool.not_true, Bool.not_false, decide_false, eq_self, strEq, beq_self_eq_true, hB1.cell, hB2.cell]; rfl) ?_
  refine WL.nil (th_norm (hx_seq (hx_seq (hx_region ?_))))
  refine WL.cg Tryz.call10 (by simp only [EN, Nat.reduceEqDiff, reduceIte, AR, decide_true, Bool.not_true, Bool.not_false, decide_false, eq_self, strEq, beq_self_eq_true, hB1.cell, hB2.cell]; exact c_known44 _) ?_
  intro h3 hx3
  replace hs := hs.ext hx3
  replace hs2 := hs2.ext hx3
  replace hsL := hsL.ext hx3
  replace hsM := hsM.ext hx3
  replace hB1 := hB1.ext hx3
  replace hB2 := hB2.ext hx3
  iterate 2 refine WL.qq (by simp only [EN, Nat.reduceEqDiff, reduceIte, qv_unOp, unv_not, decide_true, Bool.not_true, Bool.not_false, decide_false, eq_self, strEq, beq_self_eq_true, hB1.cell, hB2.cell, qv_move]; rfl) ?_
  refine WL.cq (gd_at (t := 22) rfl (by simp only [EN, Nat.reduceEqDiff, reduceIte, decide_true, Bool.not_true, Bool.not_false, decide_false, eq_self, strEq, beq_self_eq_true, hB1.cell, hB2.cell] <;> rfl)) (fun hg1_3 => by simp only [EN, Nat.reduceEqDiff, reduceIte, qv_load, ld27, readN, AR, Nat.zero_add, Nat.reduceAdd, decide_true, Bool.not_true, Bool.not_false, decide_false, eq_self, strEq, beq_self_eq_true, hB1.cell, hB2.cell, hg1_3, GR]; rfl) ?_
  refine WL.cq (gd_at (t := 22) rfl (by simp only [EN, Nat.reduceEqDiff, reduceIte, e2, decide_true, Bool.not_true, Bool.not_false, decide_false, eq_self, strEq, beq_self_eq_true, hB1.cell, hB2.cell] <;> rfl)) (fun hg1_4 => by simp only [EN, Nat.reduceEqDiff, reduceIte, qv_move, e2, decide_true, Bool.not_true, Bool.not_false, decide_false, eq_self, strEq, beq_self_eq_true, hB1.cell, hB2.cell, hg1_4, GR]; rfl) ?_
  refine WL.ccg (gd_at (t := 22) rfl (by simp only [EN, Nat.reduceEqDiff, reduceIte, decide_true, Bool.not_true, Bool.not_false, decide_false, eq_self, strEq, beq_self_eq_true, hB1.cell, hB2.cell] <;> rfl)) Tryz.call11 (fun hg1_5 => by simp only [EN, Nat.reduceEqDiff, reduceIte, AR, decide_true, Bool.not_true, Bool.not_false, decide_false, eq_self, strEq, beq_self_eq_true, hB1.cell, hB2.cell, hg1_5, GR]; exact c_small x a L.length c hll _) ?_
  intro h4 hx4
  replace hs := hs.ext hx4
  replace hs2 := hs2.ext hx4
  replace hsL := hsL.ext hx4
  replace hsM := hsM.ext hx4
  replace hB1 := hB1.ext hx4
  replace hB2 := hB2.ext hx4
  refine WL.cq (gd_at (t := 22) rfl (by simp only [EN, Nat.reduceEqDiff, reduceIte, decide_true, Bool.not_true, Bool.not_false, decide_false, eq_self, strEq, beq_self_eq_true, hB1.cell, hB2.cell] <;> rfl)) (fun hg1_6 => by simp only [EN, Nat.reduceEqDiff, reduceIte, qv_unOp, unv_not, decide_true, Bool.not_true, Bool.not_false, decide_false, eq_self, strEq, beq_self_eq_true, hB1.cell, hB2.cell, hg1_6, GR]; rfl) ?_
  iterate 2 refine WL.qq (by simp only [EN, Nat.reduceEqDiff, reduceIte, qv_pick, pk_and, pk_or, GR, decide_true, Bool.not_true, Bool.not_false, decide_false, eq_self, strEq, beq_self_eq_true, hB1.cell, hB2.cell, qv_move]; rfl) ?_
  refine WL.cq (gd_at (t := 28) rfl (by simp only [EN, Nat.reduceEqDiff, reduceIte, decide_true, Bool.not_true, Bool.not_false, decide_false, eq_self, strEq, beq_self_eq_true, hB1.cell, hB2.cell] <;> rfl)) (fun hg1_9 => by simp only [EN, Nat.reduceEqDiff, reduceIte, qv_load, ld27, readN, AR, Nat.zero_add, Nat.reduceAdd, decide_true, Bool.not_true, Bool.not_false, decide_false, eq_self, strEq, beq_self_eq_true, hB1.cell, hB2.cell, hg1_9, GR]; rfl) ?_
  refine WL.cq (gd_at (t := 28) rfl (by simp only [EN, Nat.reduceEqDiff, reduceIte, e3, decide_true, Bool.not_true, Bool.not_false, decide_false, eq_self, strEq, beq_self_eq_true, hB1.cell, hB2.cell] <;> rfl)) (fun hg1_10 => by simp only [EN, Nat.reduceEqDiff, reduceIte, qv_move, e3, decide_true, Bool.not_true, Bool.not_false, decide_false, eq_self, strEq, beq_self_eq_true, hB1.cell, hB2.cell, hg1_10, GR]; rfl) ?_
  refine WL.ccg (gd_at (t := 28) rfl (by simp only [EN, Nat.reduceEqDiff, reduceIte, decide_true, Bool.not_true, Bool.not_false, decide_false, eq_self, strEq, beq_self_eq_true, hB1.cell, hB2.cell] <;> rfl)) Tryz.call11 (fun hg1_11 => by simp only [EN, Nat.reduceEqDiff, reduceIte, AR, decide_true, Bool.not_true, Bool.not_false, decide_false, eq_self, strEq, beq_self_eq_true, hB1.cell, hB2.cell, hg1_11, GR]; exact c_small y a' M.length c' hlm _) ?_
  intro h5 hx5
  replace hs := hs.ext hx5
  replace hs2 := hs2.ext hx5
  replace hsL := hsL.ext hx5
  replace hsM := hsM.ext hx5
  replace hB1 := hB1.ext hx5
  replace hB2 := hB2.ext hx5
  refine WL.cq (gd_at (t := 28) rfl (by simp only [EN, Nat.reduceEqDiff, reduceIte, decide_true, Bool.not_true, Bool.not_false, decide_false, eq_self, strEq, beq_self_eq_true, hB1.cell, hB2.cell] <;> rfl)) (fun hg1_12 => by simp only [EN, Nat.reduceEqDiff, reduceIte, qv_unOp, unv_not, decide_true, Bool.not_true, Bool.not_false, decide_false, eq_self, strEq, beq_self_eq_true, hB1.cell, hB2.cell, hg1_12, GR]; rfl) ?_
  refine WL.qq (by simp only [EN, Nat.reduceEqDiff, reduceIte, qv_pick, pk_and, pk_or, GR, decide_true, Bool.not_true, Bool.not_false, decide_false, eq_self, strEq, beq_self_eq_true, hB1.cell, hB2.cell]; rfl) ?_
  refine WL.nil (th_norm ?_)
  refine hx_cond (by simp only [EN, Nat.reduceEqDiff, reduceIte, decide_true, Bool.not_true, Bool.not_false, decide_false, eq_self, strEq, beq_self_eq_true, hB1.cell, hB2.cell]; rfl) (fun hct33 => ?_) (fun hct33 => ?_)
  ·
   try simp only [BD] at hct33
   refine hx_seq (hx_region ?_)
   refine WL.cg Tryz.call10 (by simp only [EN, Nat.reduceEqDiff, reduceIte, AR, decide_true, Bool.not_true, Bool.not_false, decide_false, eq_self, strEq, beq_self_eq_true, hB1.cell, hB2.cell]; exact c_known44 _) ?_
   intro h6 hx6
   replace hs := hs.ext hx6
   replace hs2 := hs2.ext hx6
   replace hsL := hsL.ext hx6
   replace hsM := hsM.ext hx6
   replace hB1 := hB1.ext hx6
   replace hB2 := hB2.ext hx6
   refine WL.qq (by simp only [EN, Nat.reduceEqDiff, reduceIte, qv_assign, decide_true, Bool.not_true, Bool.not_false, decide_false, eq_self, strEq, beq_self_eq_true, hB1.cell, hB2.cell]; rfl) ?_
   refine WL.nil (th_norm (hx_ret (th_ret ?_)))
   refine fin_ret [.tmp 8] rfl rfl (by simp only [EN, Nat.reduceEqDiff, reduceIte, resv, e0, e1, e2, e3, decide_true, Bool.not_true, Bool.not_false, decide_false, eq_self, strEq, beq_self_eq_true, hB1.cell, hB2.cell]; rfl) ?_
   exact ⟨rfl, ((hx1).trans ((hx2).trans ((hx3).trans ((hx4).trans ((hx5).trans (hx6))))))⟩
  ·
   try simp only [BD] at hct33
   have hsm : smE x L.length ∧ smE y M.length := (by simpa using hct33)
   refine hx_skip (th_norm (hx_seq (hx_region ?_)))
   iterate 2 refine WL.qq (by simp only [EN, Nat.reduceEqDiff, reduceIte, qv_load, ld27, readN, AR, Nat.zero_add, Nat.reduceAdd, decide_true, Bool.not_true, Bool.not_false, decide_false, eq_self, strEq, beq_self_eq_true, hB1.cell, hB2.cell, qv_move, e2]; rfl) ?_
   have hz2 := Ext.size ((hx1).trans ((hx2).trans ((hx3).trans ((hx4).trans (hx5)))))
   refine WL.ce Tryz.call12 (by simp only [EN, Nat.reduceEqDiff, reduceIte, AR, decide_true, Bool.not_true, Bool.not_false, decide_false, eq_self, strEq, beq_self_eq_true, hB1.cell, hB2.cell]; exact c_run x hsm.1.1 hsm.1.2.1 a L c (by have := hsm.1.2.2; omega) hs hsL) ?_
   rintro _ h7 ⟨hx7, u, w, rfl, hR⟩
   replace hs := hs.ext hx7
   replace hs2 := hs2.ext hx7
   replace hsL := hsL.ext hx7
   replace hsM := hsM.ext hx7
   replace hB1 := hB1.ext hx7
   replace hB2 := hB2.ext hx7
   simp only [put_some]
   obtain ⟨a0, n0, k0, a1, n1, k1, x2, x3, x4, a5, n5, k5, b6, rfl⟩ := hR.shape
   iterate 5 refine WL.qq (by simp only [EN, Nat.reduceEqDiff, reduceIte, qv_move, decide_true, Bool.not_true, Bool.not_false, decide_false, eq_self, strEq, beq_self_eq_true, hB1.cell, hB2.cell, qv_extract, AR]; rfl) ?_
   have hRo := hR; have hXo := ((hx1).trans ((hx2).trans ((hx3).trans ((hx4).trans ((hx5).trans (hx7)))))); have hs2o := hs2; have hsMo := hsM; have hB2o := hB2
   refine WL.alloc2 zr34 ?_
   intro h8 B8 hx8 hlt8 hB8
   replace hs := hs.ext hx8
   replace hs2 := hs2.ext hx8
   replace hsL := hsL.ext hx8
   replace hsM := hsM.ext hx8
   replace hB1 := hB1.ext hx8
   replace hB2 := hB2.ext hx8
   replace hR := hR.ext hx8
   simp only [Value.cells] at hB8
   refine WL.qq (by simp only [EN, Nat.reduceEqDiff, reduceIte, qv_assign, decide_true, Bool.not_true, Bool.not_false, decide_false, eq_self, strEq, beq_self_eq_true, hB1.cell, hB2.cell, hB8.cell]; rfl) ?_
   refine WL.store (by simp only [EN, Nat.reduceEqDiff, reduceIte, decide_true, Bool.not_true, Bool.not_false, decide_false, eq_self, strEq, beq_self_eq_true, hB1.cell, hB2.cell, hB8.cell] <;> rfl) sz34 (by simp only [EN, Nat.reduceEqDiff, reduceIte, Value.cells, decide_true, Bool.not_true, Bool.not_false, decide_false, eq_self, strEq, beq_self_eq_true, hB1.cell, hB2.cell, hB8.cell] <;> rfl) rfl hB8 (by first | (simp [true_and]; done) | (simp [true_and]; omega) | omega) (by simp [Value.oneCell']) ?_
   intro h9 hw9
   have hx13 := hw9.ext hx8 hlt8
   have hX := hXo.trans hx13
   replace hR := hRo.ext hx13
   replace hs2 := hs2o.ext hx13
   replace hB2 := hB2o.ext hx13
   replace hsM := hsMo.ext hx13
   replace hB8 := hw9.at_
   try simp only [splc, List.take_succ_cons, List.take_zero, List.take_nil, List.drop_succ_cons, List.drop_zero, List.drop_nil, List.cons_append, List.nil_append, List.length_cons, List.length_nil, Nat.zero_add, Nat.add_zero, Nat.reduceAdd, List.append_nil] at hB8
   iterate 2 refine WL.qq (by simp only [EN, Nat.reduceEqDiff, reduceIte, qv_assign, decide_true, Bool.not_true, Bool.not_false, decide_false, eq_self, strEq, beq_self_eq_true, hB1.cell, hB2.cell, hB8.cell]; rfl) ?_
   refine WL.nil (th_norm (hx_seq (hx_region ?_)))
   iterate 2 refine WL.qq (by simp only [EN, Nat.reduceEqDiff, reduceIte, qv_load, ld27, readN, AR, Nat.zero_add, Nat.reduceAdd, decide_true, Bool.not_true, Bool.not_false, decide_false, eq_self, strEq, beq_self_eq_true, hB1.cell, hB2.cell, hB8.cell, qv_move, e3]; rfl) ?_
   refine WL.ce Tryz.call12 (by simp only [EN, Nat.reduceEqDiff, reduceIte, AR, decide_true, Bool.not_true, Bool.not_false, decide_false, eq_self, strEq, beq_self_eq_true, hB1.cell, hB2.cell, hB8.cell]; exact c_run y hsm.2.1 hsm.2.2.1 a' M c' (by have := hsm.2.2.2; omega) hs2 hsM) ?_
   rintro _ h10 ⟨hx10, u2, w2, rfl, hR2⟩
   replace hB2 := hB2.ext hx10
   replace hB8 := hB8.ext hx10
   replace hR := hR.ext hx10
   replace hs2 := hs2.ext hx10
   replace hsM := hsM.ext hx10
   simp only [put_some]
   obtain ⟨d0, m0, l0, d1, m1, l1, y2, y3, y4, d5, m5, l5, e6, rfl⟩ := hR2.shape
   iterate 5 refine WL.qq (by simp only [EN, Nat.reduceEqDiff, reduceIte, qv_move, decide_true, Bool.not_true, Bool.not_false, decide_false, eq_self, strEq, beq_self_eq_true, hB1.cell, hB2.cell, hB8.cell, qv_extract, AR]; rfl) ?_
   have hR2o := hR2; have hX2o := ((hX).trans (hx10)); have hR1o := hR; have hB8o := hB8
   refine WL.alloc2 zr34 ?_
   intro h11 B11 hx11 hlt11 hB11
   replace hB2 := hB2.ext hx11
   replace hB8 := hB8.ext hx11
   replace hR := hR.ext hx11
   replace hs2 := hs2.ext hx11
   replace hsM := hsM.ext hx11
   replace hR2 := hR2.ext hx11
   simp only [Value.cells] at hB11
   refine WL.qq (by simp only [EN, Nat.reduceEqDiff, reduceIte, qv_assign, decide_true, Bool.not_true, Bool.not_false, decide_false, eq_self, strEq, beq_self_eq_true, hB1.cell, hB2.cell, hB8.cell, hB11.cell]; rfl) ?_
   refine WL.store (by simp only [EN, Nat.reduceEqDiff, reduceIte, decide_true, Bool.not_true, Bool.not_false, decide_false, eq_self, strEq, beq_self_eq_true, hB1.cell, hB2.cell, hB8.cell, hB11.cell] <;> rfl) sz34 (by simp only [EN, Nat.reduceEqDiff, reduceIte, Value.cells, decide_true, Bool.not_true, Bool.not_false, decide_false, eq_self, strEq, beq_self_eq_true, hB1.cell, hB2.cell, hB8.cell, hB11.cell] <;> rfl) rfl hB11 (by first | (simp [true_and]; done) | (simp [true_and]; omega) | omega) (by simp [Value.oneCell']) ?_
   intro h12 hw12
   have hx14 := hw12.ext hx11 hlt11
   have hX2 := hX2o.trans hx14
   replace hR := hR1o.ext hx14
   replace hR2 := hR2o.ext hx14
   replace hB8 := hB8o.ext hx14
   replace hB11 := hw12.at_
   try simp only [splc, List.take_succ_cons, List.take_zero, List.take_nil, List.drop_succ_cons, List.drop_zero, List.drop_nil, List.cons_append, List.nil_append, List.length_cons, List.length_nil, Nat.zero_add, Nat.add_zero, Nat.reduceAdd, List.append_nil] at hB11
   iterate 2 refine WL.qq (by simp only [EN, Nat.reduceEqDiff, reduceIte, qv_assign, decide_true, Bool.not_true, Bool.not_false, decide_false, eq_self, strEq, beq_self_eq_true, hB1.cell, hB2.cell, hB8.cell, hB11.cell]; rfl) ?_
   refine WL.nil (th_norm (hx_seq (hx_seq (hx_region ?_))))
   iterate 3 refine WL.qq (by simp only [EN, Nat.reduceEqDiff, reduceIte, qv_move, decide_true, Bool.not_true, Bool.not_false, decide_false, eq_self, strEq, beq_self_eq_true, hB1.cell, hB2.cell, hB8.cell, hB11.cell, qv_unOp, unv_not]; rfl) ?_
   refine WL.cq (gd_at (t := 53) rfl (by simp only [EN, Nat.reduceEqDiff, reduceIte, decide_true, Bool.not_true, Bool.not_false, decide_false, eq_self, strEq, beq_self_eq_true, hB1.cell, hB2.cell, hB8.cell, hB11.cell] <;> rfl)) (fun hg5_3 => by simp only [EN, Nat.reduceEqDiff, reduceIte, qv_move, decide_true, Bool.not_true, Bool.not_false, decide_false, eq_self, strEq, beq_self_eq_true, hB1.cell, hB2.cell, hB8.cell, hB11.cell, hg5_3, GR]; rfl) ?_
   refine WL.cq (gd_at (t := 53) rfl (by simp only [EN, Nat.reduceEqDiff, reduceIte, decide_true, Bool.not_true, Bool.not_false, decide_false, eq_self, strEq, beq_self_eq_true, hB1.cell, hB2.cell, hB8.cell, hB11.cell] <;> rfl)) (fun hg5_4 => by simp only [EN, Nat.reduceEqDiff, reduceIte, qv_unOp, unv_not, decide_true, Bool.not_true, Bool.not_false, decide_false, eq_self, strEq, beq_self_eq_true, hB1.cell, hB2.cell, hB8.cell, hB11.cell, hg5_4, GR]; rfl) ?_
   iterate 2 refine WL.qq (by simp only [EN, Nat.reduceEqDiff, reduceIte, qv_pick, pk_and, pk_or, GR, decide_true, Bool.not_true, Bool.not_false, decide_false, eq_self, strEq, beq_self_eq_true, hB1.cell, hB2.cell, hB8.cell, hB11.cell, qv_move]; rfl) ?_
   refine WL.cq (gd_at (t := 57) rfl (by simp only [EN, Nat.reduceEqDiff, reduceIte, decide_true, Bool.not_true, Bool.not_false, decide_false, eq_self, strEq, beq_self_eq_true, hB1.cell, hB2.cell, hB8.cell, hB11.cell] <;> rfl)) (fun hg5_7 => by simp only [EN, Nat.reduceEqDiff, reduceIte, qv_move, decide_true, Bool.not_true, Bool.not_false, decide_false, eq_self, strEq, beq_self_eq_true, hB1.cell, hB2.cell, hB8.cell, hB11.cell, hg5_7, GR]; rfl) ?_
   refine WL.cq (gd_at (t := 57) rfl (by simp only [EN, Nat.reduceEqDiff, reduceIte, decide_true, Bool.not_true, Bool.not_false, decide_false, eq_self, strEq, beq_self_eq_true, hB1.cell, hB2.cell, hB8.cell, hB11.cell] <;> rfl)) (fun hg5_8 => by simp only [EN, Nat.reduceEqDiff, reduceIte, qv_unOp, unv_not, decide_true, Bool.not_true, Bool.not_false, decide_false, eq_self, strEq, beq_self_eq_true, hB1.cell, hB2.cell, hB8.cell, hB11.cell, hg5_8, GR]; rfl) ?_
   iterate 2 refine WL.qq (by simp only [EN, Nat.reduceEqDiff, reduceIte, qv_pick, pk_and, pk_or, GR, decide_true, Bool.not_true, Bool.not_false, decide_false, eq_self, strEq, beq_self_eq_true, hB1.cell, hB2.cell, hB8.cell, hB11.cell, qv_move]; rfl) ?_
   refine WL.cq (gd_at (t := 61) rfl (by simp only [EN, Nat.reduceEqDiff, reduceIte, decide_true, Bool.not_true, Bool.not_false, decide_false, eq_self, strEq, beq_self_eq_true, hB1.cell, hB2.cell, hB8.cell, hB11.cell] <;> rfl)) (fun hg5_11 => by simp only [EN, Nat.reduceEqDiff, reduceIte, qv_move, decide_true, Bool.not_true, Bool.not_false, decide_false, eq_self, strEq, beq_self_eq_true, hB1.cell, hB2.cell, hB8.cell, hB11.cell, hg5_11, GR]; rfl) ?_
   refine WL.cq (gd_at (t := 61) rfl (by simp only [EN, Nat.reduceEqDiff, reduceIte, decide_true, Bool.not_true, Bool.not_false, decide_false, eq_self, strEq, beq_self_eq_true, hB1.cell, hB2.cell, hB8.cell, hB11.cell] <;> rfl)) (fun hg5_12 => by simp only [EN, Nat.reduceEqDiff, reduceIte, qv_unOp, unv_not, decide_true, Bool.not_true, Bool.not_false, decide_false, eq_self, strEq, beq_self_eq_true, hB1.cell, hB2.cell, hB8.cell, hB11.cell, hg5_12, GR]; rfl) ?_
   refine WL.qq (by simp only [EN, Nat.reduceEqDiff, reduceIte, qv_pick, pk_and, pk_or, GR, decide_true, Bool.not_true, Bool.not_false, decide_false, eq_self, strEq, beq_self_eq_true, hB1.cell, hB2.cell, hB8.cell, hB11.cell]; rfl) ?_
   refine WL.nil (th_norm ?_)
   refine hx_cond (by simp only [EN, Nat.reduceEqDiff, reduceIte, decide_true, Bool.not_true, Bool.not_false, decide_false, eq_self, strEq, beq_self_eq_true, hB1.cell, hB2.cell, hB8.cell, hB11.cell]; rfl) (fun hct64 => ?_) (fun hct64 => ?_)
   ·
    try simp only [BD] at hct64
    refine hx_seq (hx_region ?_)
    iterate 2 refine WL.qq (by simp only [EN, Nat.reduceEqDiff, reduceIte, qv_move, decide_true, Bool.not_true, Bool.not_false, decide_false, eq_self, strEq, beq_self_eq_true, hB1.cell, hB2.cell, hB8.cell, hB11.cell]; rfl) ?_
    refine WL.cq (gd_at (t := 66) rfl (by simp only [EN, Nat.reduceEqDiff, reduceIte, decide_true, Bool.not_true, Bool.not_false, decide_false, eq_self, strEq, beq_self_eq_true, hB1.cell, hB2.cell, hB8.cell, hB11.cell] <;> rfl)) (fun hg6_2 => by simp only [EN, Nat.reduceEqDiff, reduceIte, qv_move, decide_true, Bool.not_true, Bool.not_false, decide_false, eq_self, strEq, beq_self_eq_true, hB1.cell, hB2.cell, hB8.cell, hB11.cell, hg6_2, GR]; rfl) ?_
    iterate 2 refine WL.qq (by simp only [EN, Nat.reduceEqDiff, reduceIte, qv_pick, pk_and, pk_or, GR, decide_true, Bool.not_true, Bool.not_false, decide_false, eq_self, strEq, beq_self_eq_true, hB1.cell, hB2.cell, hB8.cell, hB11.cell, qv_assign]; rfl) ?_
    refine WL.nil (th_norm (hx_ret (th_ret ?_)))
    refine fin_ret [.tmp 8] rfl rfl (by simp only [EN, Nat.reduceEqDiff, reduceIte, resv, e0, e1, e2, e3, decide_true, Bool.not_true, Bool.not_false, decide_false, eq_self, strEq, beq_self_eq_true, hB1.cell, hB2.cell, hB8.cell, hB11.cell]; rfl) ?_
    exact ⟨rfl, (hX2)⟩
   ·
    try simp only [BD] at hct64
    have hee : erX x = 0 ∧ erX y = 0 := (by simpa using hct64); obtain ⟨he, he2⟩ := hee
    obtain ⟨_, p, b, vh, vo, wh, wo, wc, rfl, hwe, hE, hI⟩ := hR.resolve_left (fun hh => hh.1 he)
    obtain ⟨_, p2, b2, vh2, vo2, wh2, wo2, wc2, rfl, hwe2, hF, hJ⟩ := hR2.resolve_left (fun hh => hh.1 he2)
    have hq := Value.agg.inj hwe; rw [hq] at hB8; clear hwe hq; have hq2 := Value.agg.inj hwe2; rw [hq2] at hB11; clear hwe2 hq2
    have gE : GoodE (runE (nwX x) L) := good_run (new_good he) L; have gF : GoodE (runE (nwX y) M) := good_run (new_good he2) M; have h40 : (runE (nwX x) L).hs.length ≤ 40 := (by rw [(runE_hs (nwX x) L).1, nw_len he]; exact hsm.1.1)
    generalize runE (nwX x) L = E at hE hI gE h40 hB8 hR
    generalize runE (nwX y) M = F at hF hJ gF hB11 hR2
    obtain ⟨ah, ch, rfl, _⟩ := id hI.sh; obtain ⟨ao, co, rfl, _⟩ := id hI.so; obtain ⟨ac, cc, rows, rfl, _⟩ := id hI.sc
    replace hE := hE.lower hz2; have hlo := hE.lo; replace hF := hF.lower (Nat.zero_le _)
    refine hx_skip (th_norm (hx_seq (hx_region ?_)))
    have hE := hE; have hI := hI; have hF := hF; have hJ := hJ; have hps := (Array.getElem?_eq_some_iff.1 hE.blk).1; have hbs := hE.map.lt
    refine WL.qq (by simp only [EN, Nat.reduceEqDiff, reduceIte, qv_move, decide_true, Bool.not_true, Bool.not_false, decide_false, eq_self, strEq, beq_self_eq_true, hB1.cell, hB2.cell, hB8.cell, hB11.cell]; rfl) ?_
    refine WL.ce Tryz.call13 (by simp only [EN, Nat.reduceEqDiff, reduceIte, AR, decide_true, Bool.not_true, Bool.not_false, decide_false, eq_self, strEq, beq_self_eq_true, hB1.cell, hB2.cell, hB8.cell, hB11.cell]; exact c_eclone gE.b hE) ?_
    rintro _ h13 ⟨hx13, p3, b3, vh3, vo3, rfl, hC⟩
    replace hB8 := hB8.ext hx13
    replace hB11 := hB11.ext hx13
    replace hR := hR.ext hx13
    replace hR2 := hR2.ext hx13
    simp only [put_some]
    obtain ⟨o1, o2, o3, o4⟩ := hC.off hps hbs
    replace hC := hC.lower (Nat.zero_le _)
    have hE := hE.ext hx13
    have hI := hI.ext hx13
    have hF := hF.ext hx13
    have hJ := hJ.ext hx13
    refine WL.qq (by simp only [EN, Nat.reduceEqDiff, reduceIte, qv_assign, decide_true, Bool.not_true, Bool.not_false, decide_false, eq_self, strEq, beq_self_eq_true, hB1.cell, hB2.cell, hB8.cell, hB11.cell]; rfl) ?_
    refine WL.nil (th_norm (hx_seq (hx_seq ?_)))
    apply hx_draw2 Rel.grows [] [5, 11, 14, 19] [(5, Spec.is _), (11, Spec.is _), (14, Spec.is _), (19, Spec.is _)] rfl (by decide +kernel) rfl
    iterate 3 refine LD.qq rfl rfl (by simp only [EN, Nat.reduceEqDiff, reduceIte, qv_move, decide_true, Bool.not_true, Bool.not_false, decide_false, eq_self, strEq, beq_self_eq_true, hB1.cell, hB2.cell, hB8.cell, hB11.cell, qv_binOp, binv_eql, eqz31, eqn31, eqm31, Option.map_some]; rfl) ?_
    refine LD.on (by rw [gOk_s (gd_at (t := 73) rfl (by simp only [EN, Nat.reduceEqDiff, reduceIte, decide_true, Bool.not_true, Bool.not_false, decide_false, eq_self, strEq, beq_self_eq_true, hB1.cell, hB2.cell, hB8.cell, hB11.cell] <;> rfl))]; rfl) ?_
    refine LD.qq rfl rfl (by simp only [EN, Nat.reduceEqDiff, reduceIte, qv_move, decide_true, Bool.not_true, Bool.not_false, decide_false, eq_self, strEq, beq_self_eq_true, hB1.cell, hB2.cell, hB8.cell, hB11.cell]; rfl) ?_
    refine LD.on (by rw [gOk_s (gd_at (t := 73) rfl (by simp only [EN, Nat.reduceEqDiff, reduceIte, decide_true, Bool.not_true, Bool.not_false, decide_false, eq_self, strEq, beq_self_eq_true, hB1.cell, hB2.cell, hB8.cell, hB11.cell] <;> rfl))]; rfl) ?_
    refine LD.qq rfl rfl (by simp only [EN, Nat.reduceEqDiff, reduceIte, qv_move, decide_true, Bool.not_true, Bool.not_false, decide_false, eq_self, strEq, beq_self_eq_true, hB1.cell, hB2.cell, hB8.cell, hB11.cell]; rfl) ?_
    refine LD.on (by rw [gOk_s (gd_at (t := 73) rfl (by simp only [EN, Nat.reduceEqDiff, reduceIte, decide_true, Bool.not_true, Bool.not_false, decide_false, eq_self, strEq, beq_self_eq_true, hB1.cell, hB2.cell, hB8.cell, hB11.cell] <;> rfl))]; rfl) ?_
    refine LD.ck rfl rfl Tryz.call14 (by intro hD hr; have hx : Ext _ _ := hr; have hB8 := hB8.ext hx; have hB11 := hB11.ext hx; have hR := hR.ext hx; have hR2 := hR2.ext hx; have hE := hE.ext hx; have hI := hI.ext hx; have hF := hF.ext hx; have hJ := hJ.ext hx; have hC := hC.ext hx; simp only [EN, Nat.reduceEqDiff, reduceIte, AR, decide_true, Bool.not_true, Bool.not_false, decide_false, eq_self, strEq, beq_self_eq_true, hB1.cell, hB2.cell, hB8.cell, hB11.cell]; exact c_equalS gE hC hE) ?_
    refine LD.on (by rw [gOk_s (gd_at (t := 73) rfl (by simp only [EN, Nat.reduceEqDiff, reduceIte, decide_true, Bool.not_true, Bool.not_false, decide_false, eq_self, strEq, beq_self_eq_true, hB1.cell, hB2.cell, hB8.cell, hB11.cell] <;> rfl))]; rfl) ?_
    iterate 3 refine LD.qq rfl rfl (by simp only [EN, Nat.reduceEqDiff, reduceIte, qv_unOp, unv_not, decide_true, Bool.not_true, Bool.not_false, decide_false, eq_self, strEq, beq_self_eq_true, hB1.cell, hB2.cell, hB8.cell, hB11.cell, qv_pick, pk_and, pk_or, GR, qv_move]; rfl) ?_
    refine LD.on (by rw [gOk_s (gd_at (t := 79) rfl (by simp only [EN, Nat.reduceEqDiff, reduceIte, decide_true, Bool.not_true, Bool.not_false, decide_false, eq_self, strEq, beq_self_eq_true, hB1.cell, hB2.cell, hB8.cell, hB11.cell] <;> rfl))]; rfl) ?_
    refine LD.qq rfl rfl (by simp only [EN, Nat.reduceEqDiff, reduceIte, qv_move, decide_true, Bool.not_true, Bool.not_false, decide_false, eq_self, strEq, beq_self_eq_true, hB1.cell, hB2.cell, hB8.cell, hB11.cell]; rfl) ?_
    refine LD.on (by rw [gOk_s (gd_at (t := 79) rfl (by simp only [EN, Nat.reduceEqDiff, reduceIte, decide_true, Bool.not_true, Bool.not_false, decide_false, eq_self, strEq, beq_self_eq_true, hB1.cell, hB2.cell, hB8.cell, hB11.cell] <;> rfl))]; rfl) ?_
    refine LD.qq rfl rfl (by simp only [EN, Nat.reduceEqDiff, reduceIte, qv_move, decide_true, Bool.not_true, Bool.not_false, decide_false, eq_self, strEq, beq_self_eq_true, hB1.cell, hB2.cell, hB8.cell, hB11.cell]; rfl) ?_
    refine LD.on (by rw [gOk_s (gd_at (t := 79) rfl (by simp only [EN, Nat.reduceEqDiff, reduceIte, decide_true, Bool.not_true, Bool.not_false, decide_false, eq_self, strEq, beq_self_eq_true, hB1.cell, hB2.cell, hB8.cell, hB11.cell] <;> rfl))]; rfl) ?_
    refine LD.ck rfl rfl Tryz.call14 (by intro hD hr; have hx : Ext _ _ := hr; have hB8 := hB8.ext hx; have hB11 := hB11.ext hx; have hR := hR.ext hx; have hR2 := hR2.ext hx; have hE := hE.ext hx; have hI := hI.ext hx; have hF := hF.ext hx; have hJ := hJ.ext hx; have hC := hC.ext hx; simp only [EN, Nat.reduceEqDiff, reduceIte, AR, decide_true, Bool.not_true, Bool.not_false, decide_false, eq_self, strEq, beq_self_eq_true, hB1.cell, hB2.cell, hB8.cell, hB11.cell]; exact c_equal gE.b hE hF) ?_
    refine LD.on (by rw [gOk_s (gd_at (t := 79) rfl (by simp only [EN, Nat.reduceEqDiff, reduceIte, decide_true, Bool.not_true, Bool.not_false, decide_false, eq_self, strEq, beq_self_eq_true, hB1.cell, hB2.cell, hB8.cell, hB11.cell] <;> rfl))]; rfl) ?_
    refine LD.qq rfl rfl (by simp only [EN, Nat.reduceEqDiff, reduceIte, qv_load, ld34, readN, AR, Nat.zero_add, Nat.reduceAdd, decide_true, Bool.not_true, Bool.not_false, decide_false, eq_self, strEq, beq_self_eq_true, hB1.cell, hB2.cell, hB8.cell, hB11.cell]; rfl) ?_
    refine LD.on (by rw [gOk_s (gd_at (t := 79) rfl (by simp only [EN, Nat.reduceEqDiff, reduceIte, decide_true, Bool.not_true, Bool.not_false, decide_false, eq_self, strEq, beq_self_eq_true, hB1.cell, hB2.cell, hB8.cell, hB11.cell] <;> rfl))]; rfl) ?_
    refine LD.qq rfl rfl (by simp only [EN, Nat.reduceEqDiff, reduceIte, qv_load, ld34, readN, AR, Nat.zero_add, Nat.reduceAdd, decide_true, Bool.not_true, Bool.not_false, decide_false, eq_self, strEq, beq_self_eq_true, hB1.cell, hB2.cell, hB8.cell, hB11.cell]; rfl) ?_
    refine LD.on (by rw [gOk_s (gd_at (t := 79) rfl (by simp only [EN, Nat.reduceEqDiff, reduceIte, decide_true, Bool.not_true, Bool.not_false, decide_false, eq_self, strEq, beq_self_eq_true, hB1.cell, hB2.cell, hB8.cell, hB11.cell] <;> rfl))]; rfl) ?_
    refine LD.ck rfl rfl Tryz.call15 (by intro hD hr; have hx : Ext _ _ := hr; have hB8 := hB8.ext hx; have hB11 := hB11.ext hx; have hR := hR.ext hx; have hR2 := hR2.ext hx; have hE := hE.ext hx; have hI := hI.ext hx; have hF := hF.ext hx; have hJ := hJ.ext hx; have hC := hC.ext hx; simp only [EN, Nat.reduceEqDiff, reduceIte, AR, decide_true, Bool.not_true, Bool.not_false, decide_false, eq_self, strEq, beq_self_eq_true, hB1.cell, hB2.cell, hB8.cell, hB11.cell]; exact c_sameG gE gF hI hJ) ?_
    refine LD.on (by rw [gOk_s (gd_at (t := 79) rfl (by simp only [EN, Nat.reduceEqDiff, reduceIte, decide_true, Bool.not_true, Bool.not_false, decide_false, eq_self, strEq, beq_self_eq_true, hB1.cell, hB2.cell, hB8.cell, hB11.cell] <;> rfl))]; rfl) ?_
    iterate 3 refine LD.qq rfl rfl (by simp only [EN, Nat.reduceEqDiff, reduceIte, qv_binOp, binv_neq, eq4, Option.map_some, decide_true, Bool.not_true, Bool.not_false, decide_false, eq_self, strEq, beq_self_eq_true, hB1.cell, hB2.cell, hB8.cell, hB11.cell, qv_pick, pk_and, pk_or, GR, qv_move]; rfl) ?_
    refine LD.on (by rw [gOk_s (gd_at (t := 88) rfl (by simp only [EN, Nat.reduceEqDiff, reduceIte, decide_true, Bool.not_true, Bool.not_false, decide_false, eq_self, strEq, beq_self_eq_true, hB1.cell, hB2.cell, hB8.cell, hB11.cell] <;> rfl))]; rfl) ?_
    refine LD.qq rfl rfl (by simp only [EN, Nat.reduceEqDiff, reduceIte, qv_move, decide_true, Bool.not_true, Bool.not_false, decide_false, eq_self, strEq, beq_self_eq_true, hB1.cell, hB2.cell, hB8.cell, hB11.cell]; rfl) ?_
    refine LD.on (by rw [gOk_s (gd_at (t := 88) rfl (by simp only [EN, Nat.reduceEqDiff, reduceIte, decide_true, Bool.not_true, Bool.not_false, decide_false, eq_self, strEq, beq_self_eq_true, hB1.cell, hB2.cell, hB8.cell, hB11.cell] <;> rfl))]; rfl) ?_
    refine LD.ck rfl rfl Tryz.call14 (by intro hD hr; have hx : Ext _ _ := hr; have hB8 := hB8.ext hx; have hB11 := hB11.ext hx; have hR := hR.ext hx; have hR2 := hR2.ext hx; have hE := hE.ext hx; have hI := hI.ext hx; have hF := hF.ext hx; have hJ := hJ.ext hx; have hC := hC.ext hx; simp only [EN, Nat.reduceEqDiff, reduceIte, AR, decide_true, Bool.not_true, Bool.not_false, decide_false, eq_self, strEq, beq_self_eq_true, hB1.cell, hB2.cell, hB8.cell, hB11.cell]; exact c_equalN p _) ?_
    refine LD.qq rfl rfl (by simp only [EN, Nat.reduceEqDiff, reduceIte, qv_pick, pk_and, pk_or, GR, decide_true, Bool.not_true, Bool.not_false, decide_false, eq_self, strEq, beq_self_eq_true, hB1.cell, hB2.cell, hB8.cell, hB11.cell]; rfl) ?_
    refine LD.nil ?_
    rintro h14 hx14 hF8
    replace hx14 : Ext _ _ := hx14
    replace hB8 := hB8.ext hx14
    replace hB11 := hB11.ext hx14
    replace hR := hR.ext hx14
    replace hR2 := hR2.ext hx14
    replace hE := hE.ext hx14
    replace hI := hI.ext hx14
    replace hF := hF.ext hx14
    replace hJ := hJ.ext hx14
    replace hC := hC.ext hx14
    refine WL.nil (th_norm ?_)
    refine hx_cond (by simp only [EN, Nat.reduceEqDiff, reduceIte, decide_true, Bool.not_true, Bool.not_false, decide_false, eq_self, strEq, beq_self_eq_true, hB1.cell, hB2.cell, hB8.cell, hB11.cell]; rfl) (fun hct91 => ?_) (fun hct91 => ?_)
    ·
     simp at hct91
    ·
     try simp only [BD] at hct91
     refine hx_skip (th_norm (hx_seq (hx_region ?_)))
     have hBAo2 := hB8; have hXo3 := ((hX2).trans ((hx13).trans (hx14)))
     refine WL.qq (by simp only [EN, Nat.reduceEqDiff, reduceIte, qv_load, ld34, readN, AR, Nat.zero_add, Nat.reduceAdd, decide_true, Bool.not_true, Bool.not_false, decide_false, eq_self, strEq, beq_self_eq_true, hB1.cell, hB2.cell, hB8.cell, hB11.cell]; rfl) ?_
     refine WL.allocSt zr34 sz34 (fun u => by simp only [EN, Nat.reduceEqDiff, reduceIte, Value.cells, decide_true, Bool.not_true, Bool.not_false, decide_false, eq_self, strEq, beq_self_eq_true, hB1.cell, hB2.cell, hB8.cell, hB11.cell]; rfl) ⟨rfl, rfl⟩ (by simp [Value.oneCell']) ?_
     intro h15 B15 hx15 hlt15 hB15
     replace hB8 := hB8.ext hx15
     replace hB11 := hB11.ext hx15
     replace hR := hR.ext hx15
     replace hR2 := hR2.ext hx15
     replace hE := hE.ext hx15
     replace hI := hI.ext hx15
     replace hF := hF.ext hx15
     replace hJ := hJ.ext hx15
     replace hC := hC.ext hx15
     refine WL.nil (th_norm (hx_seq (hx_seq (hx_region ?_))))
     have hX3 := ((hX2).trans ((hx13).trans ((hx14).trans (hx15)))); have hbD : h.size ≤ B15 := (by have h8 := Ext.size hXo3; have h9 := hlt15; omega); have hnAD : B8 ≠ B15 := (by have h8 := (Array.getElem?_eq_some_iff.1 hBAo2).1; have h9 := hlt15; omega); have hbx := (Array.getElem?_eq_some_iff.1 hB15).1; have hnD : B15 ∉ [p, b] := (by simp only [List.mem_cons, List.not_mem_nil, or_false]; rintro (hh | hh); (subst hh; have := hE.blk.un hB15; injection this with _ h9 _; exact absurd h9 (by decide)); exact hB15.nmap hE.map hh); have hnA : B8 ∉ [p, b] := (by simp only [List.mem_cons, List.not_mem_nil, or_false]; rintro (hh | hh); (subst hh; have := hE.blk.un hB8; injection this with _ h9 _; exact absurd h9 (by decide)); exact hB8.nmap hE.map hh)
     refine WL.qq (by simp only [EN, Nat.reduceEqDiff, reduceIte, qv_assign, decide_true, Bool.not_true, Bool.not_false, decide_false, eq_self, strEq, beq_self_eq_true, hB1.cell, hB2.cell, hB8.cell, hB11.cell, hB15.cell]; rfl) ?_
     refine WL.nil (th_norm (hx_block ?_))
     refine hx_loopG [8, 12, 19, 93, 94, 95, 96, 97, 98, 99, 100, 101, 102, 103, 104, 105, 106, 107, 108, 109, 110] (fun k e hL0 => ∃ (i : Nat) (F2 : EL) (ax : Option Addr) (nx : Nat) (cx : Nat), M.length - i = k ∧ (i ≤ M.length) ∧ (Ext h hL0) ∧ (Has hL0 B15 (.cells #[.slice ah E.hs.length ch, .slice ao E.os.length co, iV F2.d, iV F2.dd, iV F2.dm, .slice ax nx cx, .bool F2.cl] tyRE)) ∧ (Has hL0 B8 (.cells #[.slice ah E.hs.length ch, .slice ao E.os.length co, iV E.d, iV E.dd, iV E.dm, .slice ac E.hs.length cc, .bool E.cl] tyRE)) ∧ (GoodE F2) ∧ (F2 = runE E (M.take i)) ∧ (IsE hL0 h.size p b vh vo F2) ∧ (RI hL0 (.slice ah E.hs.length ch) (.slice ao E.os.length co) (.slice ax nx cx) F2) ∧ (RI hL0 (.slice ah E.hs.length ch) (.slice ao E.os.length co) (.slice ac E.hs.length cc) E) ∧ (IsE hL0 0 p3 b3 vh3 vo3 E) ∧ (b < Array.size hL0) ∧ e 19 = .int .i64 i) _ ⟨0, E, ac, E.hs.length, cc, rfl, ?_, ?_, ?_, ?_, ?_, ?_, ?_, ?_, ?_, ?_, ?_, ?_⟩ ?_
     · omega
     · exact hX3
     · exact hB15
     · exact hB8
     · exact gE
     · rfl
     · exact hE
     · exact hI
     · exact hI
     · exact hC
     · exact hE.map.lt
     · simp only [EN, Nat.reduceEqDiff, reduceIte, e0, e1, e2, e3, decide_true, Bool.not_true, Bool.not_false, decide_false, eq_self, strEq, beq_self_eq_true, hB1.cell, hB2.cell, hB8.cell, hB11.cell, hB15.cell] <;> rfl
     ·
      rintro k e0L hL0 hfr0 ⟨i, F2, ax, nx, cx, rfl, hi, hX, hB15, hB8, g, hEe, hE, hIx, hI, hC, hbb, i19_0⟩
      have k3_0 := hfr0 3 rfl; try simp only [EN, Nat.reduceEqDiff, reduceIte, e3, decide_true, Bool.not_true, Bool.not_false, decide_false, eq_self, strEq, beq_self_eq_true, hB1.cell, hB2.cell, hB8.cell, hB11.cell, hB15.cell] at k3_0
      have k9_0 := hfr0 9 rfl; try simp only [EN, Nat.reduceEqDiff, reduceIte, decide_true, Bool.not_true, Bool.not_false, decide_false, eq_self, strEq, beq_self_eq_true, hB1.cell, hB2.cell, hB8.cell, hB11.cell, hB15.cell] at k9_0
      have k10_0 := hfr0 10 rfl; try simp only [EN, Nat.reduceEqDiff, reduceIte, decide_true, Bool.not_true, Bool.not_false, decide_false, eq_self, strEq, beq_self_eq_true, hB1.cell, hB2.cell, hB8.cell, hB11.cell, hB15.cell] at k10_0
      have k17_0 := hfr0 17 rfl; try simp only [EN, Nat.reduceEqDiff, reduceIte, decide_true, Bool.not_true, Bool.not_false, decide_false, eq_self, strEq, beq_self_eq_true, hB1.cell, hB2.cell, hB8.cell, hB11.cell, hB15.cell] at k17_0
      have k18_0 := hfr0 18 rfl; try simp only [EN, Nat.reduceEqDiff, reduceIte, decide_true, Bool.not_true, Bool.not_false, decide_false, eq_self, strEq, beq_self_eq_true, hB1.cell, hB2.cell, hB8.cell, hB11.cell, hB15.cell] at k18_0
      refine hx_seq (hx_seq (hx_region ?_))
      iterate 4 refine WL.qq (by simp only [EN, Nat.reduceEqDiff, reduceIte, qv_move, i19_0, decide_true, Bool.not_true, Bool.not_false, decide_false, eq_self, strEq, beq_self_eq_true, hB1.cell, hB2.cell, hB8.cell, hB11.cell, hB15.cell, hB15.cell, hB8.cell, k3_0, qv_len, ln28, AR, qv_binOp, binv_lss]; rfl) ?_
      refine WL.nil (th_norm ?_)
      refine hx_cond (by simp only [EN, Nat.reduceEqDiff, reduceIte, decide_true, Bool.not_true, Bool.not_false, decide_false, eq_self, strEq, beq_self_eq_true, hB1.cell, hB2.cell, hB8.cell, hB11.cell, hB15.cell, hB15.cell, hB8.cell]; rfl) (fun hct96 => ?_) (fun hct96 => ?_)
      ·
       try simp only [BD] at hct96
       obtain ⟨o, ho⟩ := atG (l := M) (i := i) (by omega); obtain ⟨b1, o1', ha1, hr1⟩ := (hsM0.ext hX) i o ho
       have hst := runE_step (E := E) ho; rw [← hEe] at hst; have hhs := runE_hs E (M.take i); rw [← hEe] at hhs; have h40E : F2.hs.length ≤ 40 := (by rw [hhs.1]; exact h40)
       have hnb : b1 ∉ [p, b] := (by obtain ⟨_, _, h8, h9⟩ := hsM0 i o ho; rw [ha1] at h8; cases h8; have h7 := readN_cell h9 0 _ rfl; have := cell_at h7; simp; omega)
       refine hx_skip (th_norm (hx_seq (hx_block (hx_seq ?_))))
       apply hx_draw2M (Rel.isE 6 h.size p b vh vo F2 (stepE F2 o)) [10, 11] [6] [(6, (Spec.dox (.slice ah E.hs.length ch) (.slice ao E.os.length co) h.size p b vh vo (stepE F2 o)))] rfl (by decide +kernel) rfl dox_stable (fun _ _ => hE)
       refine LD.qr rfl rfl (fun hD hr => by have hB15 := hB15.gs hr.1 hnD; simp only [EN, Nat.reduceEqDiff, reduceIte, qv_move, k9_0, decide_true, Bool.not_true, Bool.not_false, decide_false, eq_self, strEq, beq_self_eq_true, hB1.cell, hB2.cell, hB8.cell, hB11.cell, hB15.cell, hB15.cell, hB8.cell]; rfl) ?_
       refine LD.qr rfl rfl (fun hD hr => by have hB15 := hB15.gs hr.1 hnD; simp only [EN, Nat.reduceEqDiff, reduceIte, qv_load, ld34, readN, AR, Nat.zero_add, Nat.reduceAdd, k18_0, decide_true, Bool.not_true, Bool.not_false, decide_false, eq_self, strEq, beq_self_eq_true, hB1.cell, hB2.cell, hB8.cell, hB11.cell, hB15.cell, hB15.cell, hB8.cell]; rfl) ?_
       refine LD.qr rfl rfl (fun hD hr => by have hB15 := hB15.gs hr.1 hnD; simp only [EN, Nat.reduceEqDiff, reduceIte, qv_move, k3_0, decide_true, Bool.not_true, Bool.not_false, decide_false, eq_self, strEq, beq_self_eq_true, hB1.cell, hB2.cell, hB8.cell, hB11.cell, hB15.cell, hB15.cell, hB8.cell]; rfl) ?_
       refine LD.qr rfl rfl (fun hD hr => by have hB15 := hB15.gs hr.1 hnD; simp only [EN, Nat.reduceEqDiff, reduceIte, qv_move, i19_0, decide_true, Bool.not_true, Bool.not_false, decide_false, eq_self, strEq, beq_self_eq_true, hB1.cell, hB2.cell, hB8.cell, hB11.cell, hB15.cell, hB15.cell, hB8.cell]; rfl) ?_
       refine LD.qr rfl rfl (fun hD hr => by have hB15 := hB15.gs hr.1 hnD; simp only [EN, Nat.reduceEqDiff, reduceIte, qv_indexAddr, decide_true, Bool.not_true, Bool.not_false, decide_false, eq_self, strEq, beq_self_eq_true, hB1.cell, hB2.cell, hB8.cell, hB11.cell, hB15.cell, hB15.cell, hB8.cell, ha1]; (try simp (disch := omega) only [ix28, Int.toNat_natCast]); rfl) ?_
       refine LD.qr rfl rfl (fun hD hr => by have hB15 := hB15.gs hr.1 hnD; simp only [EN, Nat.reduceEqDiff, reduceIte, k3_0, k9_0, k10_0, k17_0, k18_0, i19_0, decide_true, Bool.not_true, Bool.not_false, decide_false, eq_self, strEq, beq_self_eq_true, hB1.cell, hB2.cell, hB8.cell, hB11.cell, hB15.cell, hB15.cell, hB8.cell, qv_load, ld43, Int.toNat_natCast, hr.1.rd hr1 (by simp) hnb]; rfl) ?_
       refine LD.en rfl rfl (by intro hD hr hng hf; have hB15 := hB15.gs hr.1 hnD; exact EOp.mono (e_call Tryz.call16 (by simp only [EN, Nat.reduceEqDiff, reduceIte, k3_0, k9_0, k10_0, k17_0, k18_0, i19_0, decide_true, Bool.not_true, Bool.not_false, decide_false, eq_self, strEq, beq_self_eq_true, hB1.cell, hB2.cell, hB8.cell, hB11.cell, hB15.cell, hB15.cell, hB8.cell, List.map_toArray, List.map_cons, List.map_nil]; exact c_doX g h40E (hng rfl) (hIx.gs hr.1 hE) (Nat.lt_of_lt_of_le hbb hr.1.size) o)) (fun v h' hh => by obtain ⟨q1, q2, q3⟩ := hh; exact ⟨⟨q1, fun _ => q3.1⟩, q2, q3, fun k' hk' _ _ hk => absurd hk hk'⟩)) ?_
       intro u14_6 w14_6
       obtain ⟨a6, n6, c6, rfl⟩ := w14_6
       refine LD.qr rfl rfl (fun hD hr => by have hB15 := hB15.gs hr.1 hnD; simp only [EN, Nat.reduceEqDiff, reduceIte, qv_move, decide_true, Bool.not_true, Bool.not_false, decide_false, eq_self, strEq, beq_self_eq_true, hB1.cell, hB2.cell, hB8.cell, hB11.cell, hB15.cell, hB15.cell, hB8.cell]; rfl) ?_
       refine LD.qr rfl rfl (fun hD hr => by have hB15 := hB15.gs hr.1 hnD; simp only [EN, Nat.reduceEqDiff, reduceIte, qv_extract, AR, decide_true, Bool.not_true, Bool.not_false, decide_false, eq_self, strEq, beq_self_eq_true, hB1.cell, hB2.cell, hB8.cell, hB11.cell, hB15.cell, hB15.cell, hB8.cell]; rfl) ?_
       refine LD.qr rfl rfl (fun hD hr => by have hB15 := hB15.gs hr.1 hnD; simp only [EN, Nat.reduceEqDiff, reduceIte, qv_extract, AR, decide_true, Bool.not_true, Bool.not_false, decide_false, eq_self, strEq, beq_self_eq_true, hB1.cell, hB2.cell, hB8.cell, hB11.cell, hB15.cell, hB15.cell, hB8.cell]; rfl) ?_
       refine LD.skip rfl ?_
       refine LD.skip rfl ?_
       refine LD.nil ?_
       rintro h16 hr14 hF14
       obtain ⟨hT, hRI⟩ := hF14 (6, .tuple #[reV (.slice ah E.hs.length ch) (.slice ao E.os.length co) (.slice a6 n6 c6) (stepE F2 o), .bool true]) (by simp) _ rfl
       have hI2 := hRI _ rfl; have hI3 := hI.gs hr14.1 hE; have hC3 := hC.gs hr14.1 o1 o2 o3 o4; replace hB8 := hB8.gs hr14.1 hnA
       replace hB15 := hB15.gs hr14.1 hnD
       have hX7 : Ext h h16 := hr14.1.toExt hX (by simp; omega)
       have hb7 : b < Array.size h16 := Nat.lt_of_lt_of_le hbb hr14.1.size
       refine WL.store (by simp only [EN, Nat.reduceEqDiff, reduceIte, k18_0, decide_true, Bool.not_true, Bool.not_false, decide_false, eq_self, strEq, beq_self_eq_true, hB1.cell, hB2.cell, hB8.cell, hB11.cell, hB15.cell, hB15.cell, hB8.cell] <;> rfl) sz34 (by simp only [EN, Nat.reduceEqDiff, reduceIte, Value.cells, k18_0, decide_true, Bool.not_true, Bool.not_false, decide_false, eq_self, strEq, beq_self_eq_true, hB1.cell, hB2.cell, hB8.cell, hB11.cell, hB15.cell, hB15.cell, hB8.cell] <;> rfl) rfl hB15 (by first | (simp [true_and]; done) | (simp [true_and]; omega) | omega) (by simp [Value.oneCell']) ?_
       intro h17 hw17
       replace hX7 := hw17.ext hX7 hbD
       replace hT := hT.wrT hw17 hB15 (by decide) (by decide) (by decide)
       replace hI2 := hI2.wrT hw17 hB15 (by decide) (by decide) (by decide) (by decide)
       replace hI3 := hI3.wrT hw17 hB15 (by decide) (by decide) (by decide) (by decide)
       replace hC3 := hC3.wrT hw17 hB15 (by decide) (by decide) (by decide)
       replace hB8 := hB8.wr hw17 hnAD
       rw [← hw17.size] at hb7
       replace hB15 := hw17.at_
       try simp only [splc, List.take_succ_cons, List.take_zero, List.take_nil, List.drop_succ_cons, List.drop_zero, List.drop_nil, List.cons_append, List.nil_append, List.length_cons, List.length_nil, Nat.zero_add, Nat.add_zero, Nat.reduceAdd, List.append_nil] at hB15
       refine WL.qq (by simp only [EN, Nat.reduceEqDiff, reduceIte, qv_assign, decide_true, Bool.not_true, Bool.not_false, decide_false, eq_self, strEq, beq_self_eq_true, hB1.cell, hB2.cell, hB8.cell, hB11.cell, hB15.cell, hB15.cell, hB8.cell]; rfl) ?_
       refine WL.nil (th_norm (hx_seq (hx_region ?_)))
       iterate 2 refine WL.qq (by simp only [EN, Nat.reduceEqDiff, reduceIte, qv_move, decide_true, Bool.not_true, Bool.not_false, decide_false, eq_self, strEq, beq_self_eq_true, hB1.cell, hB2.cell, hB8.cell, hB11.cell, hB15.cell, hB15.cell, hB8.cell, qv_unOp, unv_not]; rfl) ?_
       refine WL.nil (th_norm ?_)
       refine hx_cond (by simp only [EN, Nat.reduceEqDiff, reduceIte, decide_true, Bool.not_true, Bool.not_false, decide_false, eq_self, strEq, beq_self_eq_true, hB1.cell, hB2.cell, hB8.cell, hB11.cell, hB15.cell, hB15.cell, hB8.cell]; rfl) (fun hct110 => ?_) (fun hct110 => ?_)
       ·
        simp at hct110
       ·
        try simp only [BD] at hct110
        refine hx_skip (bl_norm (th_norm (hx_region ?_)))
        iterate 3 refine WL.qq (by simp only [EN, Nat.reduceEqDiff, reduceIte, qv_move, i19_0, decide_true, Bool.not_true, Bool.not_false, decide_false, eq_self, strEq, beq_self_eq_true, hB1.cell, hB2.cell, hB8.cell, hB11.cell, hB15.cell, hB15.cell, hB8.cell, qv_binOp, binv_add, qv_assign]; (try simp (disch := omega) only [w64, w8, wu64]); rfl) ?_
        refine WL.nil (th_norm ?_)
        refine ⟨rfl, ?_, _, ?_, i + 1, stepE F2 o, a6, n6, c6, rfl, ?_, ?_, ?_, ?_, ?_, ?_, ?_, ?_, ?_, ?_, ?_, ?_⟩
        · (repeat (first | exact Fr.refl _ _ | refine Fr.set rfl ?_ | refine Fr.put rfl ?_ | with_reducible refine Fr.put0 ?_))
        · omega
        · omega
        · exact hX7
        · exact hB15
        · exact hB8
        · exact good_step g o
        · exact hst.symm
        · exact hT
        · exact hI2
        · exact hI3
        · exact hC3
        · exact hb7
        · simp only [EN, Nat.reduceEqDiff, reduceIte, k3_0, k9_0, k10_0, k17_0, k18_0, i19_0, decide_true, Bool.not_true, Bool.not_false, decide_false, eq_self, strEq, beq_self_eq_true, hB1.cell, hB2.cell, hB8.cell, hB11.cell, hB15.cell, hB15.cell, hB8.cell] <;> first | rfl | (congr 1; omega)
      ·
       try simp only [BD] at hct96
       refine hx_exit (th_exit (th_exit (bl_hit (th_norm (hx_seq ?_)))))
       apply hx_draw2 Rel.grows [] [2, 5] [(2, Spec.is _), (5, Spec.is _)] rfl (by decide +kernel) rfl
       iterate 2 refine LD.qq rfl rfl (by simp only [EN, Nat.reduceEqDiff, reduceIte, qv_move, k17_0, decide_true, Bool.not_true, Bool.not_false, decide_false, eq_self, strEq, beq_self_eq_true, hB1.cell, hB2.cell, hB8.cell, hB11.cell, hB15.cell, hB15.cell, hB8.cell, k9_0]; rfl) ?_
       refine LD.ck rfl rfl Tryz.call14 (by intro hD hr; have hx : Ext _ _ := hr; have hX := hX.ext hx; have hB15 := hB15.ext hx; have hB8 := hB8.ext hx; have hE := hE.ext hx; have hIx := hIx.ext hx; have hI := hI.ext hx; have hC := hC.ext hx; simp only [EN, Nat.reduceEqDiff, reduceIte, AR, decide_true, Bool.not_true, Bool.not_false, decide_false, eq_self, strEq, beq_self_eq_true, hB1.cell, hB2.cell, hB8.cell, hB11.cell, hB15.cell, hB15.cell, hB8.cell]; exact c_equal gE.b hC hE) ?_
       iterate 2 refine LD.qq rfl rfl (by simp only [EN, Nat.reduceEqDiff, reduceIte, qv_load, ld34, readN, AR, Nat.zero_add, Nat.reduceAdd, k10_0, decide_true, Bool.not_true, Bool.not_false, decide_false, eq_self, strEq, beq_self_eq_true, hB1.cell, hB2.cell, hB8.cell, hB11.cell, hB15.cell, hB15.cell, hB8.cell, k18_0]; rfl) ?_
       refine LD.ck rfl rfl Tryz.call15 (by intro hD hr; have hx : Ext _ _ := hr; have hX := hX.ext hx; have hB15 := hB15.ext hx; have hB8 := hB8.ext hx; have hE := hE.ext hx; have hIx := hIx.ext hx; have hI := hI.ext hx; have hC := hC.ext hx; simp only [EN, Nat.reduceEqDiff, reduceIte, AR, decide_true, Bool.not_true, Bool.not_false, decide_false, eq_self, strEq, beq_self_eq_true, hB1.cell, hB2.cell, hB8.cell, hB11.cell, hB15.cell, hB15.cell, hB8.cell]; exact c_sameG gE g hI hIx) ?_
       iterate 2 refine LD.qq rfl rfl (by simp only [EN, Nat.reduceEqDiff, reduceIte, qv_binOp, binv_eql, eq4, Option.map_some, decide_true, Bool.not_true, Bool.not_false, decide_false, eq_self, strEq, beq_self_eq_true, hB1.cell, hB2.cell, hB8.cell, hB11.cell, hB15.cell, hB15.cell, hB8.cell, qv_assign]; rfl) ?_
       refine LD.nil ?_
       rintro h18 hx18 hF17
       replace hx18 : Ext _ _ := hx18
       replace hX := hX.ext hx18
       replace hB15 := hB15.ext hx18
       replace hB8 := hB8.ext hx18
       replace hE := hE.ext hx18
       replace hIx := hIx.ext hx18
       replace hI := hI.ext hx18
       replace hC := hC.ext hx18
       refine WL.nil (th_norm (hx_ret ?_))
       refine fin_ret [.tmp 8] rfl rfl (by simp only [EN, Nat.reduceEqDiff, reduceIte, resv, k3_0, k9_0, k10_0, k17_0, k18_0, i19_0, decide_true, Bool.not_true, Bool.not_false, decide_false, eq_self, strEq, beq_self_eq_true, hB1.cell, hB2.cell, hB8.cell, hB11.cell, hB15.cell, hB15.cell, hB8.cell]; rfl) ?_
       exact ⟨by simp [retOf], hX⟩
end GL
namespace Go.Proofs.YtmooinekoeiajaaGreatDoor.electionClone
open Go.ChangeShapes Go.WideShapes Go.ChangeAt Go.RowKit
theorem own : ownKnob Tryz.prog.godebug = none := by kernel_rfl
theorem laid : laidOutB Tryz.prog = true := by kernel_rfl
set_option maxRecDepth 100000 in
theorem lifted (os : Os) (started : os.Started) (H : Type) (enc : TypeId × Value → H) :
    ReturnsInHanded {} Tryz.checked os 3 .any (fun w args => (Rows.electionCloneSpec.pre enc Tryz.prog Tryz.f3 Rows.electionCloneRow.domain false w args ∧ laidMetH Tryz.prog Rows.electionCloneRow.laid w) ∧ sizedMet enc Tryz.prog Tryz.f3 (OpenSpec.ofChange Rows.electionCloneSpec) false w args) (Rows.electionCloneSpec.post enc Tryz.prog Tryz.f3 false true false false) := by
  refine returnsInHanded_of_change_and (C := Tryz.checked) (X := fun w _ => laidMetH Tryz.prog Rows.electionCloneRow.laid w) (fun _ _ _ hh h => h.of_heap hh) own started (by kernel_rfl) Tryz.func3
    (ChangeSpec.witness_shaped (enc := enc) (C := Tryz.checked) (os := os) (X := fun w _ => laidMetH Tryz.prog Rows.electionCloneRow.laid w) false (World.laidAll Tryz.prog os Rows.electionCloneRow.laid) #[(.agg #[(.slice none 0 0), (.slice none 0 0), (.string ⟨#[]⟩), (.int .i64 0), (.int .i64 0)]), (.agg #[(.slice none 0 0), (.slice none 0 0), (.string ⟨#[]⟩), (.int .i64 0), (.int .i64 0)]), (.slice none 0 0), (.slice none 0 0)] 8 (World.laidAll_os _ _ _)
      (World.shaped_of_ZipB (by kernel_rfl) (by kernel_rfl)) (by kernel_rfl) (by kernel_rfl) (by kernel_rfl)
      (by rw [MakeChecks.laidMetH_plain _ _ _ (by kernel_rfl)]; exact laidMet_laidAll _ (by kernel_rfl) (by kernel_rfl))) ?_
  intro W base args ds gs before hval0 hW hcnd _ hL _
  have hval : ∀ (j : Nat) t v, Tryz.f3.params[j]? = some t → args[j]? = some v → Value.okWide Tryz.prog W .any base t v := hval0
  have hW' := hW
  obtain ⟨p, q, hA0, hV, rfl, hfz, hnd⟩ := hW
  have hA : DataW.TrodAll enc Tryz.prog W 0 (fun _ => true) true Tryz.f3.params.toList args.toList ds p := hA0
  rw [Tryz.params3] at hA hval
  obtain ⟨v0, vs0, d0, ds0, p0, q0, hargs, rfl, rfl, h0, r0⟩ := trodAll_cons hA
  obtain ⟨v1, vs1, d1, ds1, p1, q1, rfl, rfl, rfl, h1, r1⟩ := trodAll_cons r0
  obtain ⟨v2, vs2, d2, ds2, p2, q2, rfl, rfl, rfl, h2, r2⟩ := trodAll_cons r1
  obtain ⟨v3, vs3, d3, ds3, p3, q3, rfl, rfl, rfl, h3, r3⟩ := trodAll_cons r2
  obtain ⟨rfl, rfl, rfl⟩ := trodAll_nil r3
  obtain rfl : args = #[v0, v1, v2, v3] := by cases args; simp_all
  obtain ⟨rfl, rfl⟩ := trodVars_none hV
  obtain ⟨x, rfl, hx⟩ := GL.view_su (hval 0 27 v0 rfl rfl) h0
  obtain ⟨y, rfl, hy⟩ := GL.view_su (hval 1 27 v1 rfl rfl) h1
  obtain ⟨al, l, cl, rfl, hl, hll⟩ := GL.view_ops (hval 2 28 v2 rfl rfl) h2
  obtain ⟨am, m, cm, rfl, hm, hlm⟩ := GL.view_ops (hval 3 28 v3 rfl rfl) h3
  exact GL.law_done (tb := 4) laid (by kernel_rfl) rfl (by kernel_rfl) Tryz.underlying4 hW' rfl (GL.l_clone x y al l cl am m cm hll hlm hx hy hl hm)
theorem over : Rows.electionCloneRow.holds Tryz.pinned (OpenSpec.ofChange Rows.electionCloneSpec) :=
  OpenClaim.holds_of_wide 3 Tryz.f3 rfl rfl rfl rfl rfl rfl rfl ⟨rfl, rfl, rfl, rfl, rfl⟩ rfl rfl rfl rfl rfl (by kernel_rfl) Tryz.func3 (by kernel_rfl)
    (of_decide_eq_true (by kernel_rfl)) (by unfold Func.isWrapper; first | (rw [if_pos (by decide +kernel)]; kernel_rfl) | (rw [if_neg (by decide +kernel)]; exact ⟨rfl, rfl⟩))
    (fun os started H enc _ => lifted os started H enc)
theorem proved : Rows.ElectionCloneCardSaid :=
  Claim7.holds_tied_plain_at .later [] [.data, .pinned] true (true, "432ba5930207515d71965132727d0ce340d9dfecd27b298c3f46f89b49a71a5e") true over (fun _ h => by cases h) (by kernel_rfl) (fun _ h => by cases h) electionClone_row_tie rfl ⟨rfl, rfl⟩ (by kernel_rfl) rfl
    (fun f fn hf hfn => by
      obtain rfl : f = 3 := Option.some.inj ((show Tryz.prog.funcNamed "giro/girolaw44.ElectionClone" = some 3 by kernel_rfl).symm.trans hf) |>.symm
      obtain rfl : fn = Tryz.f3 := (Option.some.inj (Tryz.func3.symm.trans hfn)).symm
      exact ⟨by kernel_rfl, fun j t ht => by
        rw [Tryz.params3] at ht
        have hm : t ∈ [27, 27, 28, 28] := by simpa using Array.mem_of_getElem? ht
        have hall : ([27, 27, 28, 28].all fun u => !Tryz.prog.wantsStandIn u) = true := by kernel_rfl
        exact (show Tryz.prog.wantsStandIn t = false by simpa using List.all_eq_true.1 hall t hm)⟩)
    (by kernel_rfl)
end Go.Proofs.YtmooinekoeiajaaGreatDoor.electionClone

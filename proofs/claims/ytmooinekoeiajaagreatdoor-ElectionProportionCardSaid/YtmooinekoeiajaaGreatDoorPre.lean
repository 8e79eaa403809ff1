/- The law ElectionProportion returns true: of an oversubscribed option each holder is accepted for the same proportion of its chosen units, up to one unit, and never for more than it has chosen. No condition beyond the row's own. -/
import Derived.Test.YtmooinekoeiajaaGreatDoorPrd
import Derived.Lay
import Derived.SevenTiedAt
import Derived.Test.YtmooinekoeiajaaGreatDoorRows
import Derived.Test.YtmooinekoeiajaaGreatDoorCards
import Derived.Test.YtmooinekoeiajaaGreatDoorTie
import Derived.Test.YtmooinekoeiajaaGreatDoorProg
set_option linter.unusedSimpArgs false
set_option linter.unusedVariables false
set_option linter.unnecessarySimpa false
namespace GL
open Go Go.Proofs
set_option maxRecDepth 8000
set_option maxHeartbeats 4000000 in
theorem l_prop (x : SX) (a : Option Addr) (L : List OX) (c : Nat) (hll : L.length ≤ 9223372036854775807) {h : Heap} (hs : SuI h x) (hsL : SlG 6 oxL h a L) :
    HCalls Tryz.prog 7 #[.agg (suC x), .slice a L.length c] h (Grow (.bool true) h) := by
  refine hcalls2 Tryz.func7 rfl (by decide +kernel) (by simp only [Tryz.ntmps7]; exact of_decide_eq_true rfl) ?_
  intro e hin
  have e0 := hin 0 _ rfl
  have e1 := hin 1 _ rfl
  refine hx_seq (hx_region ?_)
  refine WL.box2 (by simp only [EN, Nat.reduceEqDiff, reduceIte, Value.cells, e0, decide_true, Bool.not_true, Bool.not_false, decide_false, eq_self, strEq]; rfl) ?_
  intro h1 B1 hx1 hlt1 hB1
  replace hs := hs.ext hx1
  replace hsL := hsL.ext hx1
  refine WL.qq (by simp only [EN, Nat.reduceEqDiff, reduceIte, qv_assign, decide_true, Bool.not_true, Bool.not_false, decide_false, eq_self, strEq, hB1.cell]; rfl) ?_
  refine WL.nil (th_norm (hx_seq (hx_seq (hx_region ?_))))
  refine WL.cg Tryz.call10 (by simp only [EN, Nat.reduceEqDiff, reduceIte, AR, decide_true, Bool.not_true, Bool.not_false, decide_false, eq_self, strEq, hB1.cell]; exact c_known44 _) ?_
  intro h2 hx2
  replace hs := hs.ext hx2
  replace hsL := hsL.ext hx2
  replace hB1 := hB1.ext hx2
  iterate 2 refine WL.qq (by simp only [EN, Nat.reduceEqDiff, reduceIte, qv_unOp, unv_not, decide_true, Bool.not_true, Bool.not_false, decide_false, eq_self, strEq, hB1.cell, qv_move]; rfl) ?_
  refine WL.cq (gd_at (t := 15) rfl (by simp only [EN, Nat.reduceEqDiff, reduceIte, decide_true, Bool.not_true, Bool.not_false, decide_false, eq_self, strEq, hB1.cell] <;> rfl)) (fun hg1_3 => by simp only [EN, Nat.reduceEqDiff, reduceIte, qv_load, ld27, readN, AR, Nat.zero_add, Nat.reduceAdd, decide_true, Bool.not_true, Bool.not_false, decide_false, eq_self, strEq, hB1.cell, hg1_3, GR]; rfl) ?_
  refine WL.cq (gd_at (t := 15) rfl (by simp only [EN, Nat.reduceEqDiff, reduceIte, e1, decide_true, Bool.not_true, Bool.not_false, decide_false, eq_self, strEq, hB1.cell] <;> rfl)) (fun hg1_4 => by simp only [EN, Nat.reduceEqDiff, reduceIte, qv_move, e1, decide_true, Bool.not_true, Bool.not_false, decide_false, eq_self, strEq, hB1.cell, hg1_4, GR]; rfl) ?_
  refine WL.ccg (gd_at (t := 15) rfl (by simp only [EN, Nat.reduceEqDiff, reduceIte, decide_true, Bool.not_true, Bool.not_false, decide_false, eq_self, strEq, hB1.cell] <;> rfl)) Tryz.call11 (fun hg1_5 => by simp only [EN, Nat.reduceEqDiff, reduceIte, AR, decide_true, Bool.not_true, Bool.not_false, decide_false, eq_self, strEq, hB1.cell, hg1_5, GR]; exact c_small x a L.length c hll _) ?_
  intro h3 hx3
  replace hs := hs.ext hx3
  replace hsL := hsL.ext hx3
  replace hB1 := hB1.ext hx3
  refine WL.cq (gd_at (t := 15) rfl (by simp only [EN, Nat.reduceEqDiff, reduceIte, decide_true, Bool.not_true, Bool.not_false, decide_false, eq_self, strEq, hB1.cell] <;> rfl)) (fun hg1_6 => by simp only [EN, Nat.reduceEqDiff, reduceIte, qv_unOp, unv_not, decide_true, Bool.not_true, Bool.not_false, decide_false, eq_self, strEq, hB1.cell, hg1_6, GR]; rfl) ?_
  refine WL.qq (by simp only [EN, Nat.reduceEqDiff, reduceIte, qv_pick, pk_and, pk_or, GR, decide_true, Bool.not_true, Bool.not_false, decide_false, eq_self, strEq, hB1.cell]; rfl) ?_
  refine WL.nil (th_norm ?_)
  refine hx_cond (by simp only [EN, Nat.reduceEqDiff, reduceIte, decide_true, Bool.not_true, Bool.not_false, decide_false, eq_self, strEq, hB1.cell]; rfl) (fun hct20 => ?_) (fun hct20 => ?_)
  ·
   try simp only [BD] at hct20
   refine hx_seq (hx_region ?_)
   refine WL.cg Tryz.call10 (by simp only [EN, Nat.reduceEqDiff, reduceIte, AR, decide_true, Bool.not_true, Bool.not_false, decide_false, eq_self, strEq, hB1.cell]; exact c_known44 _) ?_
   intro h4 hx4
   replace hs := hs.ext hx4
   replace hsL := hsL.ext hx4
   replace hB1 := hB1.ext hx4
   refine WL.qq (by simp only [EN, Nat.reduceEqDiff, reduceIte, qv_assign, decide_true, Bool.not_true, Bool.not_false, decide_false, eq_self, strEq, hB1.cell]; rfl) ?_
   refine WL.nil (th_norm (hx_ret (th_ret ?_)))
   refine fin_ret [.tmp 4] rfl rfl (by simp only [EN, Nat.reduceEqDiff, reduceIte, resv, e0, e1, decide_true, Bool.not_true, Bool.not_false, decide_false, eq_self, strEq, hB1.cell]; rfl) ?_
   exact ⟨rfl, ((hx1).trans ((hx2).trans ((hx3).trans (hx4))))⟩
  ·
   try simp only [BD] at hct20
   have hsm : smE x L.length := (by simpa using hct20)
   refine hx_skip (th_norm (hx_seq (hx_region ?_)))
   iterate 2 refine WL.qq (by simp only [EN, Nat.reduceEqDiff, reduceIte, qv_load, ld27, readN, AR, Nat.zero_add, Nat.reduceAdd, decide_true, Bool.not_true, Bool.not_false, decide_false, eq_self, strEq, hB1.cell, qv_move, e1]; rfl) ?_
   refine WL.ce Tryz.call25 (by simp only [EN, Nat.reduceEqDiff, reduceIte, AR, decide_true, Bool.not_true, Bool.not_false, decide_false, eq_self, strEq, hB1.cell]; exact c_closing x hsm.1 hsm.2.1 a L c (by have := hsm.2.2; omega) hs hsL) ?_
   rintro _ h5 ⟨hx5, u, rfl, hCz⟩
   replace hs := hs.ext hx5
   replace hsL := hsL.ext hx5
   replace hB1 := hB1.ext hx5
   simp only [put_some]
   iterate 5 refine WL.qq (by simp only [EN, Nat.reduceEqDiff, reduceIte, qv_move, decide_true, Bool.not_true, Bool.not_false, decide_false, eq_self, strEq, hB1.cell, qv_extract, AR, qv_assign]; rfl) ?_
   refine WL.nil (th_norm (hx_seq (hx_seq (hx_region ?_))))
   iterate 2 refine WL.qq (by simp only [EN, Nat.reduceEqDiff, reduceIte, qv_move, decide_true, Bool.not_true, Bool.not_false, decide_false, eq_self, strEq, hB1.cell, qv_unOp, unv_not]; rfl) ?_
   refine WL.nil (th_norm ?_)
   refine hx_cond (by simp only [EN, Nat.reduceEqDiff, reduceIte, decide_true, Bool.not_true, Bool.not_false, decide_false, eq_self, strEq, hB1.cell]; rfl) (fun hct29 => ?_) (fun hct29 => ?_)
   ·
    try simp only [BD] at hct29
    refine hx_seq (hx_region ?_)
    refine WL.qq (by simp only [EN, Nat.reduceEqDiff, reduceIte, qv_assign, decide_true, Bool.not_true, Bool.not_false, decide_false, eq_self, strEq, hB1.cell]; rfl) ?_
    refine WL.nil (th_norm (hx_ret (th_ret ?_)))
    refine fin_ret [.tmp 4] rfl rfl (by simp only [EN, Nat.reduceEqDiff, reduceIte, resv, e0, e1, decide_true, Bool.not_true, Bool.not_false, decide_false, eq_self, strEq, hB1.cell]; rfl) ?_
    exact ⟨rfl, ((hx1).trans ((hx2).trans ((hx3).trans (hx5))))⟩
   ·
    try simp only [BD] at hct29
    have he : erX x = 0 := (by simpa using hct29)
    obtain ⟨_, au, cu, rfl, hO⟩ := hCz.resolve_left (fun hh => hh.1 he); obtain ⟨gE, hin, hos, h640⟩ := cz_ok he hsm.1 L
    generalize chzE (nwX x) L = E at gE hin hos h640 hO hCz
    have hRS := slG_own (f := rxL) (sz := 4) (fun _ => rfl) hO rfl; have hll0 := hs.ll; have hlo0 := hs.lo
    refine hx_skip (th_norm (hx_seq (hx_seq (hx_region ?_))))
    refine WL.qq (by simp only [EN, Nat.reduceEqDiff, reduceIte, qv_assign, decide_true, Bool.not_true, Bool.not_false, decide_false, eq_self, strEq, hB1.cell]; rfl) ?_
    refine WL.nil (th_norm (hx_block ?_))
    refine hx_loopS [4, 7, 8, 9, 10, 11, 12, 30, 31, 32, 33, 34, 35, 36, 37, 38, 39, 40, 41, 42, 43, 44, 45, 46, 47, 48, 49, 50, 51, 52, 53, 54, 55, 56, 57, 58, 59, 60, 61, 62, 63, 64, 65, 66, 67, 68, 69, 70, 71, 72, 73, 74, 75, 76, 77, 78, 79, 80, 81, 82, 83, 84, 85, 86, 87, 88, 89, 90, 91, 92, 93, 94, 95, 96, 97, 98, 99, 100, 101, 102, 103, 104, 105, 106, 107, 108, 109, 110, 111, 112, 113, 114, 115, 116, 117, 118, 119, 120, 121, 122, 123, 124, 125, 126, 127, 128, 129, 130, 131, 132, 133, 134, 135, 136, 137, 138, 139, 140, 141, 142] (fun k e => ∃ (j : Nat), x.os.length - j = k ∧ (j ≤ x.os.length) ∧ e 7 = .int .i64 j) _ ⟨0, rfl, ?_, ?_⟩ ?_
    · omega
    · simp only [EN, Nat.reduceEqDiff, reduceIte, e0, e1, decide_true, Bool.not_true, Bool.not_false, decide_false, eq_self, strEq, hB1.cell] <;> rfl
    ·
     rintro k e0L hfr0 ⟨j, rfl, hj, i7_0⟩
     have k2_0 := hfr0 2 rfl; try simp only [EN, Nat.reduceEqDiff, reduceIte, decide_true, Bool.not_true, Bool.not_false, decide_false, eq_self, strEq, hB1.cell] at k2_0
     have k5_0 := hfr0 5 rfl; try simp only [EN, Nat.reduceEqDiff, reduceIte, decide_true, Bool.not_true, Bool.not_false, decide_false, eq_self, strEq, hB1.cell] at k5_0
     refine hx_seq (hx_seq (hx_region ?_))
     iterate 5 refine WL.qq (by simp only [EN, Nat.reduceEqDiff, reduceIte, qv_move, i7_0, decide_true, Bool.not_true, Bool.not_false, decide_false, eq_self, strEq, hB1.cell, qv_fieldAddr, fa27_1, Nat.zero_add, Nat.reduceAdd, k2_0, qv_load, ld23, readN, AR, qv_len, ln23, qv_binOp, binv_lss]; rfl) ?_
     refine WL.nil (th_norm ?_)
     refine hx_cond (by simp only [EN, Nat.reduceEqDiff, reduceIte, decide_true, Bool.not_true, Bool.not_false, decide_false, eq_self, strEq, hB1.cell]; rfl) (fun hct34 => ?_) (fun hct34 => ?_)
     ·
      try simp only [BD] at hct34
      obtain ⟨z, hz⟩ := atG (l := x.os) (i := j) (by omega); obtain ⟨b3, o3, ha3, _, hzs, hzn⟩ := si_rd hs.so hz; have hz' : E.os[j]? = some z := (by rw [hos]; exact hz); have hzq := gE.oq z (List.mem_of_getElem? hz')
      refine hx_skip (th_norm (hx_seq (hx_block (hx_seq (hx_region ?_)))))
      iterate 3 refine WL.qq (by simp only [EN, Nat.reduceEqDiff, reduceIte, qv_fieldAddr, fa27_1, Nat.zero_add, Nat.reduceAdd, k2_0, decide_true, Bool.not_true, Bool.not_false, decide_false, eq_self, strEq, hB1.cell, qv_load, ld23, readN, AR, qv_move, i7_0]; rfl) ?_
      refine WL.qq (by simp only [EN, Nat.reduceEqDiff, reduceIte, qv_indexAddr, decide_true, Bool.not_true, Bool.not_false, decide_false, eq_self, strEq, hB1.cell, ha3]; (try simp (disch := omega) only [ix23, Int.toNat_natCast]); rfl) ?_
      refine WL.qq (by simp only [EN, Nat.reduceEqDiff, reduceIte, qv_fieldAddr, fa68_1, Nat.zero_add, Nat.reduceAdd, decide_true, Bool.not_true, Bool.not_false, decide_false, eq_self, strEq, hB1.cell]; rfl) ?_
      refine WL.qq (by simp only [EN, Nat.reduceEqDiff, reduceIte, k2_0, k5_0, i7_0, decide_true, Bool.not_true, Bool.not_false, decide_false, eq_self, strEq, hB1.cell, qv_load, ld2, Int.toNat_natCast, hzn]; rfl) ?_
      refine WL.qq (by simp only [EN, Nat.reduceEqDiff, reduceIte, qv_assign, decide_true, Bool.not_true, Bool.not_false, decide_false, eq_self, strEq, hB1.cell]; rfl) ?_
      refine WL.nil (th_norm (hx_seq (hx_seq (hx_region ?_))))
      iterate 3 refine WL.qq (by simp only [EN, Nat.reduceEqDiff, reduceIte, qv_move, decide_true, Bool.not_true, Bool.not_false, decide_false, eq_self, strEq, hB1.cell, qv_binOp, binv_eql, eq2, Option.map_some]; rfl) ?_
      refine WL.cq (gd_at (t := 45) rfl (by simp only [EN, Nat.reduceEqDiff, reduceIte, decide_true, Bool.not_true, Bool.not_false, decide_false, eq_self, strEq, hB1.cell] <;> rfl)) (fun hg10_3 => by simp only [EN, Nat.reduceEqDiff, reduceIte, qv_move, decide_true, Bool.not_true, Bool.not_false, decide_false, eq_self, strEq, hB1.cell, hg10_3, GR]; rfl) ?_
      refine WL.cq (gd_at (t := 45) rfl (by simp only [EN, Nat.reduceEqDiff, reduceIte, decide_true, Bool.not_true, Bool.not_false, decide_false, eq_self, strEq, hB1.cell] <;> rfl)) (fun hg10_4 => by simp only [EN, Nat.reduceEqDiff, reduceIte, qv_binOp, binv_gtr, decide_true, Bool.not_true, Bool.not_false, decide_false, eq_self, strEq, hB1.cell, hg10_4, GR]; rfl) ?_
      refine WL.qq (by simp only [EN, Nat.reduceEqDiff, reduceIte, qv_pick, pk_and, pk_or, GR, decide_true, Bool.not_true, Bool.not_false, decide_false, eq_self, strEq, hB1.cell]; rfl) ?_
      refine WL.nil (th_norm ?_)
      refine hx_cond (by simp only [EN, Nat.reduceEqDiff, reduceIte, decide_true, Bool.not_true, Bool.not_false, decide_false, eq_self, strEq, hB1.cell]; rfl) (fun hct48 => ?_) (fun hct48 => ?_)
      ·
       try simp only [BD] at hct48
       refine hx_exit (th_exit (bl_hit (th_norm (hx_region ?_))))
       iterate 3 refine WL.qq (by simp only [EN, Nat.reduceEqDiff, reduceIte, qv_move, i7_0, decide_true, Bool.not_true, Bool.not_false, decide_false, eq_self, strEq, hB1.cell, qv_binOp, binv_add, qv_assign]; (try simp (disch := omega) only [w64, w8, wu64]); rfl) ?_
       refine WL.nil (th_norm ?_)
       refine ⟨rfl, rfl, ?_, _, ?_, j + 1, rfl, ?_, ?_⟩
       · (repeat (first | exact Fr.refl _ _ | refine Fr.set rfl ?_ | refine Fr.put rfl ?_ | with_reducible refine Fr.put0 ?_))
       · omega
       · omega
       · simp only [EN, Nat.reduceEqDiff, reduceIte, k2_0, k5_0, i7_0, decide_true, Bool.not_true, Bool.not_false, decide_false, eq_self, strEq, hB1.cell] <;> first | rfl | (congr 1; omega)
      ·
       try simp only [BD] at hct48
       have hz0 : 0 < z.n ∧ z.n ≤ 1000000000 := (by simp at hct48; omega)
       refine hx_skip (th_norm (hx_seq (hx_region ?_)))
       refine WL.qq (by simp only [EN, Nat.reduceEqDiff, reduceIte, qv_assign, decide_true, Bool.not_true, Bool.not_false, decide_false, eq_self, strEq, hB1.cell]; rfl) ?_
       refine WL.nil (th_norm (hx_seq (hx_seq (hx_region ?_))))
       refine WL.qq (by simp only [EN, Nat.reduceEqDiff, reduceIte, qv_assign, decide_true, Bool.not_true, Bool.not_false, decide_false, eq_self, strEq, hB1.cell]; rfl) ?_
       refine WL.nil (th_norm (hx_block ?_))
       refine hx_loopS [9, 10, 49, 50, 51, 52, 53, 54, 55, 56, 57, 58, 59, 60, 61, 62, 63, 64, 65, 66, 67, 68, 69, 70, 71, 72, 73] (fun k e => ∃ (q : Nat), (resE E).length - q = k ∧ (q ≤ (resE E).length) ∧ e 10 = .int .i64 q ∧ e 9 = iV (sumF (fun r : RR => if r.p = z.s then r.c else 0) ((resE E).take q))) _ ⟨0, rfl, ?_, ?_, ?_⟩ ?_
       · omega
       · simp only [EN, Nat.reduceEqDiff, reduceIte, k2_0, k5_0, i7_0, decide_true, Bool.not_true, Bool.not_false, decide_false, eq_self, strEq, hB1.cell] <;> rfl
       · simp only [EN, Nat.reduceEqDiff, reduceIte, k2_0, k5_0, i7_0, decide_true, Bool.not_true, Bool.not_false, decide_false, eq_self, strEq, hB1.cell] <;> simp [sumF]
       ·
        rintro k e1L hfr1 ⟨q, rfl, hq, i10_1, i9_1⟩
        have k2_1 := hfr1 2 rfl; try simp only [EN, Nat.reduceEqDiff, reduceIte, k2_0, decide_true, Bool.not_true, Bool.not_false, decide_false, eq_self, strEq, hB1.cell] at k2_1
        have k5_1 := hfr1 5 rfl; try simp only [EN, Nat.reduceEqDiff, reduceIte, k5_0, decide_true, Bool.not_true, Bool.not_false, decide_false, eq_self, strEq, hB1.cell] at k5_1
        have k7_1 := hfr1 7 rfl; try simp only [EN, Nat.reduceEqDiff, reduceIte, i7_0, decide_true, Bool.not_true, Bool.not_false, decide_false, eq_self, strEq, hB1.cell] at k7_1
        have k8_1 := hfr1 8 rfl; try simp only [EN, Nat.reduceEqDiff, reduceIte, decide_true, Bool.not_true, Bool.not_false, decide_false, eq_self, strEq, hB1.cell] at k8_1
        refine hx_seq (hx_seq (hx_region ?_))
        iterate 4 refine WL.qq (by simp only [EN, Nat.reduceEqDiff, reduceIte, qv_move, i10_1, decide_true, Bool.not_true, Bool.not_false, decide_false, eq_self, strEq, hB1.cell, k5_1, qv_len, ln45, AR, qv_binOp, binv_lss]; rfl) ?_
        refine WL.nil (th_norm ?_)
        refine hx_cond (by simp only [EN, Nat.reduceEqDiff, reduceIte, decide_true, Bool.not_true, Bool.not_false, decide_false, eq_self, strEq, hB1.cell]; rfl) (fun hct52 => ?_) (fun hct52 => ?_)
        ·
         try simp only [BD] at hct52
         obtain ⟨r, hr⟩ := atG (l := resE E) (i := q) (by omega); obtain ⟨b2, o2, ha2, hr2⟩ := hRS q _ hr; have hc1 := readN_cell hr2 1 _ rfl; have hc2 := readN_cell hr2 2 _ rfl
         have hsu := sumF_step (f := fun r : RR => if r.p = z.s then r.c else 0) hr; have hb2 := col_bd h640 (fun r => r.p = z.s) RR.c (fun r hr => (res_bd gE hr).1) q; have hb3 := (res_bd gE (List.mem_of_getElem? hr)).1
         refine hx_skip (th_norm (hx_seq (hx_block (hx_seq ?_))))
         apply hx_draw2 Rel.same [] [] [] rfl (by decide +kernel) rfl
         iterate 3 refine LD.qq rfl rfl (by simp only [EN, Nat.reduceEqDiff, reduceIte, qv_move, k5_1, decide_true, Bool.not_true, Bool.not_false, decide_false, eq_self, strEq, hB1.cell, i10_1, qv_indexAddr, ha2]; (try simp (disch := omega) only [ix45, Int.toNat_natCast]); rfl) ?_
         refine LD.qq rfl rfl (by simp only [EN, Nat.reduceEqDiff, reduceIte, qv_fieldAddr, fa64_1, Nat.zero_add, Nat.reduceAdd, decide_true, Bool.not_true, Bool.not_false, decide_false, eq_self, strEq, hB1.cell]; rfl) ?_
         refine LD.qq rfl rfl (by simp only [EN, Nat.reduceEqDiff, reduceIte, k2_1, k5_1, k7_1, k8_1, i10_1, i9_1, decide_true, Bool.not_true, Bool.not_false, decide_false, eq_self, strEq, hB1.cell, qv_load, ld9, Int.toNat_natCast, hc1]; rfl) ?_
         iterate 3 refine LD.qq rfl rfl (by simp only [EN, Nat.reduceEqDiff, reduceIte, qv_fieldAddr, fa27_1, Nat.zero_add, Nat.reduceAdd, k2_1, decide_true, Bool.not_true, Bool.not_false, decide_false, eq_self, strEq, hB1.cell, qv_load, ld23, readN, AR, qv_move, k7_1]; rfl) ?_
         refine LD.qq rfl rfl (by simp only [EN, Nat.reduceEqDiff, reduceIte, qv_indexAddr, decide_true, Bool.not_true, Bool.not_false, decide_false, eq_self, strEq, hB1.cell, ha3]; (try simp (disch := omega) only [ix23, Int.toNat_natCast]); rfl) ?_
         refine LD.qq rfl rfl (by simp only [EN, Nat.reduceEqDiff, reduceIte, qv_fieldAddr, fa68_0, Nat.zero_add, Nat.reduceAdd, decide_true, Bool.not_true, Bool.not_false, decide_false, eq_self, strEq, hB1.cell]; rfl) ?_
         refine LD.qq rfl rfl (by simp only [EN, Nat.reduceEqDiff, reduceIte, k2_1, k5_1, k7_1, k8_1, i10_1, i9_1, decide_true, Bool.not_true, Bool.not_false, decide_false, eq_self, strEq, hB1.cell, qv_load, ld9, Int.toNat_natCast, hzs]; rfl) ?_
         refine LD.qq rfl rfl (by simp only [EN, Nat.reduceEqDiff, reduceIte, qv_binOp, binv_eql, eq9, Option.map_some, decide_true, Bool.not_true, Bool.not_false, decide_false, eq_self, strEq, hB1.cell]; rfl) ?_
         refine LD.nil ?_
         rintro h5 rfl -
         refine WL.nil (th_norm ?_)
         refine hx_cond (by simp only [EN, Nat.reduceEqDiff, reduceIte, decide_true, Bool.not_true, Bool.not_false, decide_false, eq_self, strEq, hB1.cell]; rfl) (fun hct66 => ?_) (fun hct66 => ?_)
         ·
          try simp only [BD] at hct66
          have hro : r.p = z.s := (by simpa using hct66); rw [if_pos hro] at hsu
          refine hx_region ?_
          iterate 4 refine WL.qq (by simp only [EN, Nat.reduceEqDiff, reduceIte, qv_move, i9_1, decide_true, Bool.not_true, Bool.not_false, decide_false, eq_self, strEq, hB1.cell, k5_1, i10_1, qv_indexAddr, ha2]; (try simp (disch := omega) only [ix45, Int.toNat_natCast]); rfl) ?_
          refine WL.qq (by simp only [EN, Nat.reduceEqDiff, reduceIte, qv_fieldAddr, fa64_2, Nat.zero_add, Nat.reduceAdd, decide_true, Bool.not_true, Bool.not_false, decide_false, eq_self, strEq, hB1.cell]; rfl) ?_
          refine WL.qq (by simp only [EN, Nat.reduceEqDiff, reduceIte, k2_1, k5_1, k7_1, k8_1, i10_1, i9_1, decide_true, Bool.not_true, Bool.not_false, decide_false, eq_self, strEq, hB1.cell, qv_load, ld2, Int.toNat_natCast, hc2]; rfl) ?_
          iterate 2 refine WL.qq (by simp only [EN, Nat.reduceEqDiff, reduceIte, qv_binOp, binv_add, decide_true, Bool.not_true, Bool.not_false, decide_false, eq_self, strEq, hB1.cell, qv_assign]; (try simp (disch := omega) only [w64, w8, wu64]); rfl) ?_
          refine WL.nil (bl_norm (th_norm (hx_region ?_)))
          iterate 3 refine WL.qq (by simp only [EN, Nat.reduceEqDiff, reduceIte, qv_move, i10_1, decide_true, Bool.not_true, Bool.not_false, decide_false, eq_self, strEq, hB1.cell, qv_binOp, binv_add, qv_assign]; (try simp (disch := omega) only [w64, w8, wu64]); rfl) ?_
          refine WL.nil (th_norm ?_)
          refine ⟨rfl, rfl, ?_, _, ?_, q + 1, rfl, ?_, ?_, ?_⟩
          · (repeat (first | exact Fr.refl _ _ | refine Fr.set rfl ?_ | refine Fr.put rfl ?_ | with_reducible refine Fr.put0 ?_))
          · omega
          · omega
          · simp only [EN, Nat.reduceEqDiff, reduceIte, k2_1, k5_1, k7_1, k8_1, i10_1, i9_1, decide_true, Bool.not_true, Bool.not_false, decide_false, eq_self, strEq, hB1.cell] <;> first | rfl | (congr 1; omega)
          · simp only [EN, Nat.reduceEqDiff, reduceIte, k2_1, k5_1, k7_1, k8_1, i10_1, i9_1, decide_true, Bool.not_true, Bool.not_false, decide_false, eq_self, strEq, hB1.cell] <;> rw [hsu]
         ·
          try simp only [BD] at hct66
          have hro : ¬ r.p = z.s := (by simpa using hct66); rw [if_neg hro, Int.add_zero] at hsu
          refine hx_skip (bl_norm (th_norm (hx_region ?_)))
          iterate 3 refine WL.qq (by simp only [EN, Nat.reduceEqDiff, reduceIte, qv_move, i10_1, decide_true, Bool.not_true, Bool.not_false, decide_false, eq_self, strEq, hB1.cell, qv_binOp, binv_add, qv_assign]; (try simp (disch := omega) only [w64, w8, wu64]); rfl) ?_
          refine WL.nil (th_norm ?_)
          refine ⟨rfl, rfl, ?_, _, ?_, q + 1, rfl, ?_, ?_, ?_⟩
          · (repeat (first | exact Fr.refl _ _ | refine Fr.set rfl ?_ | refine Fr.put rfl ?_ | with_reducible refine Fr.put0 ?_))
          · omega
          · omega
          · simp only [EN, Nat.reduceEqDiff, reduceIte, k2_1, k5_1, k7_1, k8_1, i10_1, i9_1, decide_true, Bool.not_true, Bool.not_false, decide_false, eq_self, strEq, hB1.cell] <;> first | rfl | (congr 1; omega)
          · simp only [EN, Nat.reduceEqDiff, reduceIte, k2_1, k5_1, k7_1, k8_1, i10_1, i9_1, decide_true, Bool.not_true, Bool.not_false, decide_false, eq_self, strEq, hB1.cell] <;> rw [hsu]
        ·
         try simp only [BD] at hct52
         obtain rfl : q = (resE E).length := (by omega)
         rw [List.take_length, res_optc gE hz' hz0.1] at i9_1; obtain ⟨T, hT⟩ : ∃ T, T = (wsE E j).sum := ⟨_, rfl⟩; rw [← hT] at i9_1
         refine hx_exit (th_exit (th_exit (bl_hit (th_norm (hx_seq (hx_seq (hx_region ?_)))))))
         iterate 4 refine WL.qq (by simp only [EN, Nat.reduceEqDiff, reduceIte, qv_move, i9_1, decide_true, Bool.not_true, Bool.not_false, decide_false, eq_self, strEq, hB1.cell, k8_1, qv_binOp, binv_leq]; rfl) ?_
         refine WL.cq (gd_at (t := 77) rfl (by simp only [EN, Nat.reduceEqDiff, reduceIte, i9_1, decide_true, Bool.not_true, Bool.not_false, decide_false, eq_self, strEq, hB1.cell] <;> rfl)) (fun hg17_4 => by simp only [EN, Nat.reduceEqDiff, reduceIte, qv_move, i9_1, decide_true, Bool.not_true, Bool.not_false, decide_false, eq_self, strEq, hB1.cell, hg17_4, GR]; rfl) ?_
         refine WL.cq (gd_at (t := 77) rfl (by simp only [EN, Nat.reduceEqDiff, reduceIte, decide_true, Bool.not_true, Bool.not_false, decide_false, eq_self, strEq, hB1.cell] <;> rfl)) (fun hg17_5 => by simp only [EN, Nat.reduceEqDiff, reduceIte, qv_binOp, binv_gtr, decide_true, Bool.not_true, Bool.not_false, decide_false, eq_self, strEq, hB1.cell, hg17_5, GR]; rfl) ?_
         refine WL.qq (by simp only [EN, Nat.reduceEqDiff, reduceIte, qv_pick, pk_and, pk_or, GR, decide_true, Bool.not_true, Bool.not_false, decide_false, eq_self, strEq, hB1.cell]; rfl) ?_
         refine WL.nil (th_norm ?_)
         refine hx_cond (by simp only [EN, Nat.reduceEqDiff, reduceIte, decide_true, Bool.not_true, Bool.not_false, decide_false, eq_self, strEq, hB1.cell]; rfl) (fun hct80 => ?_) (fun hct80 => ?_)
         ·
          try simp only [BD] at hct80
          refine hx_exit (th_exit (bl_hit (th_norm (hx_region ?_))))
          iterate 3 refine WL.qq (by simp only [EN, Nat.reduceEqDiff, reduceIte, qv_move, k7_1, decide_true, Bool.not_true, Bool.not_false, decide_false, eq_self, strEq, hB1.cell, qv_binOp, binv_add, qv_assign]; (try simp (disch := omega) only [w64, w8, wu64]); rfl) ?_
          refine WL.nil (th_norm ?_)
          refine ⟨rfl, rfl, ?_, _, ?_, j + 1, rfl, ?_, ?_⟩
          · (repeat (first | exact Fr.refl _ _ | refine Fr.set rfl ?_ | refine Fr.put rfl ?_ | with_reducible refine Fr.put0 ?_ | refine Fr.trans ?_ (Fr.of hfr1 rfl)))
          · omega
          · omega
          · simp only [EN, Nat.reduceEqDiff, reduceIte, k2_1, k5_1, k7_1, k8_1, i10_1, i9_1, decide_true, Bool.not_true, Bool.not_false, decide_false, eq_self, strEq, hB1.cell] <;> first | rfl | (congr 1; omega)
         ·
          try simp only [BD] at hct80
          have hT0 : z.n < (T : Int) ∧ (T : Int) ≤ 1000000000 := (by simp at hct80; omega)
          refine hx_skip (th_norm (hx_seq (hx_region ?_)))
          refine WL.qq (by simp only [EN, Nat.reduceEqDiff, reduceIte, qv_assign, decide_true, Bool.not_true, Bool.not_false, decide_false, eq_self, strEq, hB1.cell]; rfl) ?_
          refine WL.nil (th_norm (hx_block ?_))
          refine hx_loopS [4, 11, 12, 81, 82, 83, 84, 85, 86, 87, 88, 89, 90, 91, 92, 93, 94, 95, 96, 97, 98, 99, 100, 101, 102, 103, 104, 105, 106, 107, 108, 109, 110, 111, 112, 113, 114, 115, 116, 117, 118, 119, 120, 121, 122, 123, 124, 125, 126, 127, 128, 129, 130, 131, 132, 133, 134, 135, 136, 137, 138, 139, 140, 141, 142] (fun k e => ∃ (q : Nat), (resE E).length - q = k ∧ (q ≤ (resE E).length) ∧ e 11 = .int .i64 q) _ ⟨0, rfl, ?_, ?_⟩ ?_
          · omega
          · simp only [EN, Nat.reduceEqDiff, reduceIte, k2_1, k5_1, k7_1, k8_1, i10_1, i9_1, decide_true, Bool.not_true, Bool.not_false, decide_false, eq_self, strEq, hB1.cell] <;> rfl
          ·
           rintro k e2L hfr2 ⟨q, rfl, hq, i11_2⟩
           have k2_2 := hfr2 2 rfl; try simp only [EN, Nat.reduceEqDiff, reduceIte, k2_1, decide_true, Bool.not_true, Bool.not_false, decide_false, eq_self, strEq, hB1.cell] at k2_2
           have k5_2 := hfr2 5 rfl; try simp only [EN, Nat.reduceEqDiff, reduceIte, k5_1, decide_true, Bool.not_true, Bool.not_false, decide_false, eq_self, strEq, hB1.cell] at k5_2
           have k7_2 := hfr2 7 rfl; try simp only [EN, Nat.reduceEqDiff, reduceIte, k7_1, decide_true, Bool.not_true, Bool.not_false, decide_false, eq_self, strEq, hB1.cell] at k7_2
           have k8_2 := hfr2 8 rfl; try simp only [EN, Nat.reduceEqDiff, reduceIte, k8_1, decide_true, Bool.not_true, Bool.not_false, decide_false, eq_self, strEq, hB1.cell] at k8_2
           have k9_2 := hfr2 9 rfl; try simp only [EN, Nat.reduceEqDiff, reduceIte, i9_1, decide_true, Bool.not_true, Bool.not_false, decide_false, eq_self, strEq, hB1.cell] at k9_2
           refine hx_seq (hx_seq (hx_region ?_))
           iterate 4 refine WL.qq (by simp only [EN, Nat.reduceEqDiff, reduceIte, qv_move, i11_2, decide_true, Bool.not_true, Bool.not_false, decide_false, eq_self, strEq, hB1.cell, k5_2, qv_len, ln45, AR, qv_binOp, binv_lss]; rfl) ?_
           refine WL.nil (th_norm ?_)
           refine hx_cond (by simp only [EN, Nat.reduceEqDiff, reduceIte, decide_true, Bool.not_true, Bool.not_false, decide_false, eq_self, strEq, hB1.cell]; rfl) (fun hct84 => ?_) (fun hct84 => ?_)
           ·
            try simp only [BD] at hct84
            obtain ⟨r, hr⟩ := atG (l := resE E) (i := q) (by omega); obtain ⟨b2, o2, ha2, hr2⟩ := hRS q _ hr; have hc1 := readN_cell hr2 1 _ rfl; have hc2 := readN_cell hr2 2 _ rfl; have hc3 := readN_cell hr2 3 _ rfl
            refine hx_skip (th_norm (hx_seq (hx_block (hx_seq (hx_seq ?_)))))
            apply hx_draw2 Rel.same [] [] [] rfl (by decide +kernel) rfl
            iterate 3 refine LD.qq rfl rfl (by simp only [EN, Nat.reduceEqDiff, reduceIte, qv_move, k5_2, decide_true, Bool.not_true, Bool.not_false, decide_false, eq_self, strEq, hB1.cell, i11_2, qv_indexAddr, ha2]; (try simp (disch := omega) only [ix45, Int.toNat_natCast]); rfl) ?_
            refine LD.qq rfl rfl (by simp only [EN, Nat.reduceEqDiff, reduceIte, qv_fieldAddr, fa64_1, Nat.zero_add, Nat.reduceAdd, decide_true, Bool.not_true, Bool.not_false, decide_false, eq_self, strEq, hB1.cell]; rfl) ?_
            refine LD.qq rfl rfl (by simp only [EN, Nat.reduceEqDiff, reduceIte, k2_2, k5_2, k7_2, k8_2, k9_2, i11_2, decide_true, Bool.not_true, Bool.not_false, decide_false, eq_self, strEq, hB1.cell, qv_load, ld9, Int.toNat_natCast, hc1]; rfl) ?_
            iterate 3 refine LD.qq rfl rfl (by simp only [EN, Nat.reduceEqDiff, reduceIte, qv_fieldAddr, fa27_1, Nat.zero_add, Nat.reduceAdd, k2_2, decide_true, Bool.not_true, Bool.not_false, decide_false, eq_self, strEq, hB1.cell, qv_load, ld23, readN, AR, qv_move, k7_2]; rfl) ?_
            refine LD.qq rfl rfl (by simp only [EN, Nat.reduceEqDiff, reduceIte, qv_indexAddr, decide_true, Bool.not_true, Bool.not_false, decide_false, eq_self, strEq, hB1.cell, ha3]; (try simp (disch := omega) only [ix23, Int.toNat_natCast]); rfl) ?_
            refine LD.qq rfl rfl (by simp only [EN, Nat.reduceEqDiff, reduceIte, qv_fieldAddr, fa68_0, Nat.zero_add, Nat.reduceAdd, decide_true, Bool.not_true, Bool.not_false, decide_false, eq_self, strEq, hB1.cell]; rfl) ?_
            refine LD.qq rfl rfl (by simp only [EN, Nat.reduceEqDiff, reduceIte, k2_2, k5_2, k7_2, k8_2, k9_2, i11_2, decide_true, Bool.not_true, Bool.not_false, decide_false, eq_self, strEq, hB1.cell, qv_load, ld9, Int.toNat_natCast, hzs]; rfl) ?_
            refine LD.qq rfl rfl (by simp only [EN, Nat.reduceEqDiff, reduceIte, qv_binOp, binv_neq, eq9, Option.map_some, decide_true, Bool.not_true, Bool.not_false, decide_false, eq_self, strEq, hB1.cell]; rfl) ?_
            refine LD.nil ?_
            rintro h5 rfl -
            refine WL.nil (th_norm ?_)
            refine hx_cond (by simp only [EN, Nat.reduceEqDiff, reduceIte, decide_true, Bool.not_true, Bool.not_false, decide_false, eq_self, strEq, hB1.cell]; rfl) (fun hct98 => ?_) (fun hct98 => ?_)
            ·
             try simp only [BD] at hct98
             refine hx_exit (th_exit (bl_hit (th_norm (hx_region ?_))))
             iterate 3 refine WL.qq (by simp only [EN, Nat.reduceEqDiff, reduceIte, qv_move, i11_2, decide_true, Bool.not_true, Bool.not_false, decide_false, eq_self, strEq, hB1.cell, qv_binOp, binv_add, qv_assign]; (try simp (disch := omega) only [w64, w8, wu64]); rfl) ?_
             refine WL.nil (th_norm ?_)
             refine ⟨rfl, rfl, ?_, _, ?_, q + 1, rfl, ?_, ?_⟩
             · (repeat (first | exact Fr.refl _ _ | refine Fr.set rfl ?_ | refine Fr.put rfl ?_ | with_reducible refine Fr.put0 ?_))
             · omega
             · omega
             · simp only [EN, Nat.reduceEqDiff, reduceIte, k2_2, k5_2, k7_2, k8_2, k9_2, i11_2, decide_true, Bool.not_true, Bool.not_false, decide_false, eq_self, strEq, hB1.cell] <;> first | rfl | (congr 1; omega)
            ·
             try simp only [BD] at hct98
             have hro : r.p = z.s := (by simpa using hct98); have hpr := res_prop gE hz' hz0.1 (by rw [← hT]; exact hT0.1) (List.mem_of_getElem? hr) hro; rw [← hT] at hpr; obtain ⟨p1, p2, p3, p4, p5, p6⟩ := hpr
             have m1 : 0 ≤ z.n * r.c ∧ z.n * r.c ≤ 1000000000000000000 := ⟨Int.mul_nonneg (by omega) p5, Int.le_trans (Int.mul_le_mul hz0.2 (show r.c ≤ 1000000000 by omega) p5 (by omega)) (by omega)⟩; have m2 : 0 ≤ r.a * (T : Int) ∧ r.a * (T : Int) ≤ 1000000000000000000 := ⟨Int.mul_nonneg p4 (by omega), Int.le_trans (Int.mul_le_mul (show r.a ≤ 1000000000 by omega) hT0.2 (by omega) (by omega)) (by omega)⟩
             refine hx_skip (th_norm (hx_seq (hx_region ?_)))
             iterate 4 refine WL.qq (by simp only [EN, Nat.reduceEqDiff, reduceIte, qv_move, k8_2, decide_true, Bool.not_true, Bool.not_false, decide_false, eq_self, strEq, hB1.cell, k5_2, i11_2, qv_indexAddr, ha2]; (try simp (disch := omega) only [ix45, Int.toNat_natCast]); rfl) ?_
             refine WL.qq (by simp only [EN, Nat.reduceEqDiff, reduceIte, qv_fieldAddr, fa64_2, Nat.zero_add, Nat.reduceAdd, decide_true, Bool.not_true, Bool.not_false, decide_false, eq_self, strEq, hB1.cell]; rfl) ?_
             refine WL.qq (by simp only [EN, Nat.reduceEqDiff, reduceIte, k2_2, k5_2, k7_2, k8_2, k9_2, i11_2, decide_true, Bool.not_true, Bool.not_false, decide_false, eq_self, strEq, hB1.cell, qv_load, ld2, Int.toNat_natCast, hc2]; rfl) ?_
             iterate 2 refine WL.qq (by simp only [EN, Nat.reduceEqDiff, reduceIte, qv_binOp, binv_mul, decide_true, Bool.not_true, Bool.not_false, decide_false, eq_self, strEq, hB1.cell, qv_assign]; (try simp (disch := omega) only [w64, w8, wu64]); rfl) ?_
             refine WL.nil (th_norm (hx_seq ?_))
             apply hx_draw2 Rel.same [] [] [] rfl (by decide +kernel) rfl
             iterate 3 refine LD.qq rfl rfl (by simp only [EN, Nat.reduceEqDiff, reduceIte, qv_move, k5_2, decide_true, Bool.not_true, Bool.not_false, decide_false, eq_self, strEq, hB1.cell, i11_2, qv_indexAddr, ha2]; (try simp (disch := omega) only [ix45, Int.toNat_natCast]); rfl) ?_
             refine LD.qq rfl rfl (by simp only [EN, Nat.reduceEqDiff, reduceIte, qv_fieldAddr, fa64_3, Nat.zero_add, Nat.reduceAdd, decide_true, Bool.not_true, Bool.not_false, decide_false, eq_self, strEq, hB1.cell]; rfl) ?_
             refine LD.qq rfl rfl (by simp only [EN, Nat.reduceEqDiff, reduceIte, k2_2, k5_2, k7_2, k8_2, k9_2, i11_2, decide_true, Bool.not_true, Bool.not_false, decide_false, eq_self, strEq, hB1.cell, qv_load, ld2, Int.toNat_natCast, hc3]; rfl) ?_
             iterate 3 refine LD.qq rfl rfl (by simp only [EN, Nat.reduceEqDiff, reduceIte, qv_move, k5_2, decide_true, Bool.not_true, Bool.not_false, decide_false, eq_self, strEq, hB1.cell, i11_2, qv_indexAddr, ha2]; (try simp (disch := omega) only [ix45, Int.toNat_natCast]); rfl) ?_
             refine LD.qq rfl rfl (by simp only [EN, Nat.reduceEqDiff, reduceIte, qv_fieldAddr, fa64_2, Nat.zero_add, Nat.reduceAdd, decide_true, Bool.not_true, Bool.not_false, decide_false, eq_self, strEq, hB1.cell]; rfl) ?_
             refine LD.qq rfl rfl (by simp only [EN, Nat.reduceEqDiff, reduceIte, k2_2, k5_2, k7_2, k8_2, k9_2, i11_2, decide_true, Bool.not_true, Bool.not_false, decide_false, eq_self, strEq, hB1.cell, qv_load, ld2, Int.toNat_natCast, hc2]; rfl) ?_
             iterate 2 refine LD.qq rfl rfl (by simp only [EN, Nat.reduceEqDiff, reduceIte, qv_binOp, binv_gtr, decide_true, Bool.not_true, Bool.not_false, decide_false, eq_self, strEq, hB1.cell, qv_move]; rfl) ?_
             refine LD.cq rfl rfl (gd_at (t := 117) rfl (by simp only [EN, Nat.reduceEqDiff, reduceIte, k5_2, decide_true, Bool.not_true, Bool.not_false, decide_false, eq_self, strEq, hB1.cell] <;> rfl)) (fun hg23_12 => by simp only [EN, Nat.reduceEqDiff, reduceIte, qv_move, k5_2, decide_true, Bool.not_true, Bool.not_false, decide_false, eq_self, strEq, hB1.cell, hg23_12, GR]; rfl) ?_
             refine LD.cq rfl rfl (gd_at (t := 117) rfl (by simp only [EN, Nat.reduceEqDiff, reduceIte, i11_2, decide_true, Bool.not_true, Bool.not_false, decide_false, eq_self, strEq, hB1.cell] <;> rfl)) (fun hg23_13 => by simp only [EN, Nat.reduceEqDiff, reduceIte, qv_move, i11_2, decide_true, Bool.not_true, Bool.not_false, decide_false, eq_self, strEq, hB1.cell, hg23_13, GR]; rfl) ?_
             refine LD.cq rfl rfl (gd_at (t := 117) rfl (by simp only [EN, Nat.reduceEqDiff, reduceIte, decide_true, Bool.not_true, Bool.not_false, decide_false, eq_self, strEq, hB1.cell] <;> rfl)) (fun hg23_14 => by have hq0 := hg23_14; (try simp only [BD] at hq0); simp only [EN, Nat.reduceEqDiff, reduceIte, qv_indexAddr, decide_true, Bool.not_true, Bool.not_false, decide_false, eq_self, strEq, hB1.cell, ha2, hg23_14, GR]; (try simp (disch := omega) only [ix45, Int.toNat_natCast]); rfl) ?_
             refine LD.cq rfl rfl (gd_at (t := 117) rfl (by simp only [EN, Nat.reduceEqDiff, reduceIte, decide_true, Bool.not_true, Bool.not_false, decide_false, eq_self, strEq, hB1.cell] <;> rfl)) (fun hg23_15 => by simp only [EN, Nat.reduceEqDiff, reduceIte, qv_fieldAddr, fa64_3, Nat.zero_add, Nat.reduceAdd, decide_true, Bool.not_true, Bool.not_false, decide_false, eq_self, strEq, hB1.cell, hg23_15, GR]; rfl) ?_
             refine LD.cq rfl rfl (gd_at (t := 117) rfl (by simp only [EN, Nat.reduceEqDiff, reduceIte, decide_true, Bool.not_true, Bool.not_false, decide_false, eq_self, strEq, hB1.cell] <;> rfl)) (fun hg23_16 => by simp only [EN, Nat.reduceEqDiff, reduceIte, k2_2, k5_2, k7_2, k8_2, k9_2, i11_2, decide_true, Bool.not_true, Bool.not_false, decide_false, eq_self, strEq, hB1.cell, GR, hg23_16, qv_load, ld2, Int.toNat_natCast, hc3]; rfl) ?_
             refine LD.cq rfl rfl (gd_at (t := 117) rfl (by simp only [EN, Nat.reduceEqDiff, reduceIte, k9_2, decide_true, Bool.not_true, Bool.not_false, decide_false, eq_self, strEq, hB1.cell] <;> rfl)) (fun hg23_17 => by simp only [EN, Nat.reduceEqDiff, reduceIte, qv_move, k9_2, decide_true, Bool.not_true, Bool.not_false, decide_false, eq_self, strEq, hB1.cell, hg23_17, GR]; rfl) ?_
             refine LD.cq rfl rfl (gd_at (t := 117) rfl (by simp only [EN, Nat.reduceEqDiff, reduceIte, decide_true, Bool.not_true, Bool.not_false, decide_false, eq_self, strEq, hB1.cell] <;> rfl)) (fun hg23_18 => by have hq0 := hg23_18; (try simp only [BD] at hq0); simp only [EN, Nat.reduceEqDiff, reduceIte, qv_binOp, binv_mul, decide_true, Bool.not_true, Bool.not_false, decide_false, eq_self, strEq, hB1.cell, hg23_18, GR]; (try simp (disch := omega) only [w64, w8, wu64]); rfl) ?_
             refine LD.cq rfl rfl (gd_at (t := 117) rfl (by simp only [EN, Nat.reduceEqDiff, reduceIte, decide_true, Bool.not_true, Bool.not_false, decide_false, eq_self, strEq, hB1.cell] <;> rfl)) (fun hg23_19 => by simp only [EN, Nat.reduceEqDiff, reduceIte, qv_move, decide_true, Bool.not_true, Bool.not_false, decide_false, eq_self, strEq, hB1.cell, hg23_19, GR]; rfl) ?_
             refine LD.cq rfl rfl (gd_at (t := 117) rfl (by simp only [EN, Nat.reduceEqDiff, reduceIte, k9_2, decide_true, Bool.not_true, Bool.not_false, decide_false, eq_self, strEq, hB1.cell] <;> rfl)) (fun hg23_20 => by simp only [EN, Nat.reduceEqDiff, reduceIte, qv_move, k9_2, decide_true, Bool.not_true, Bool.not_false, decide_false, eq_self, strEq, hB1.cell, hg23_20, GR]; rfl) ?_
             refine LD.cq rfl rfl (gd_at (t := 117) rfl (by simp only [EN, Nat.reduceEqDiff, reduceIte, decide_true, Bool.not_true, Bool.not_false, decide_false, eq_self, strEq, hB1.cell] <;> rfl)) (fun hg23_21 => by have hq0 := hg23_21; (try simp only [BD] at hq0); simp only [EN, Nat.reduceEqDiff, reduceIte, qv_binOp, binv_sub, decide_true, Bool.not_true, Bool.not_false, decide_false, eq_self, strEq, hB1.cell, hg23_21, GR]; (try simp (disch := omega) only [w64, w8, wu64]); rfl) ?_
             refine LD.cq rfl rfl (gd_at (t := 117) rfl (by simp only [EN, Nat.reduceEqDiff, reduceIte, decide_true, Bool.not_true, Bool.not_false, decide_false, eq_self, strEq, hB1.cell] <;> rfl)) (fun hg23_22 => by simp only [EN, Nat.reduceEqDiff, reduceIte, qv_binOp, binv_leq, decide_true, Bool.not_true, Bool.not_false, decide_false, eq_self, strEq, hB1.cell, hg23_22, GR]; rfl) ?_
             iterate 2 refine LD.qq rfl rfl (by simp only [EN, Nat.reduceEqDiff, reduceIte, qv_pick, pk_and, pk_or, GR, decide_true, Bool.not_true, Bool.not_false, decide_false, eq_self, strEq, hB1.cell, qv_move]; rfl) ?_
             refine LD.cq rfl rfl (gd_at (t := 130) rfl (by simp only [EN, Nat.reduceEqDiff, reduceIte, k5_2, decide_true, Bool.not_true, Bool.not_false, decide_false, eq_self, strEq, hB1.cell] <;> rfl)) (fun hg23_25 => by simp only [EN, Nat.reduceEqDiff, reduceIte, qv_move, k5_2, decide_true, Bool.not_true, Bool.not_false, decide_false, eq_self, strEq, hB1.cell, hg23_25, GR]; rfl) ?_
             refine LD.cq rfl rfl (gd_at (t := 130) rfl (by simp only [EN, Nat.reduceEqDiff, reduceIte, i11_2, decide_true, Bool.not_true, Bool.not_false, decide_false, eq_self, strEq, hB1.cell] <;> rfl)) (fun hg23_26 => by simp only [EN, Nat.reduceEqDiff, reduceIte, qv_move, i11_2, decide_true, Bool.not_true, Bool.not_false, decide_false, eq_self, strEq, hB1.cell, hg23_26, GR]; rfl) ?_
             refine LD.cq rfl rfl (gd_at (t := 130) rfl (by simp only [EN, Nat.reduceEqDiff, reduceIte, decide_true, Bool.not_true, Bool.not_false, decide_false, eq_self, strEq, hB1.cell] <;> rfl)) (fun hg23_27 => by have hq0 := hg23_27; (try simp only [BD] at hq0); simp only [EN, Nat.reduceEqDiff, reduceIte, qv_indexAddr, decide_true, Bool.not_true, Bool.not_false, decide_false, eq_self, strEq, hB1.cell, ha2, hg23_27, GR]; (try simp (disch := omega) only [ix45, Int.toNat_natCast]); rfl) ?_
             refine LD.cq rfl rfl (gd_at (t := 130) rfl (by simp only [EN, Nat.reduceEqDiff, reduceIte, decide_true, Bool.not_true, Bool.not_false, decide_false, eq_self, strEq, hB1.cell] <;> rfl)) (fun hg23_28 => by simp only [EN, Nat.reduceEqDiff, reduceIte, qv_fieldAddr, fa64_3, Nat.zero_add, Nat.reduceAdd, decide_true, Bool.not_true, Bool.not_false, decide_false, eq_self, strEq, hB1.cell, hg23_28, GR]; rfl) ?_
             refine LD.cq rfl rfl (gd_at (t := 130) rfl (by simp only [EN, Nat.reduceEqDiff, reduceIte, decide_true, Bool.not_true, Bool.not_false, decide_false, eq_self, strEq, hB1.cell] <;> rfl)) (fun hg23_29 => by simp only [EN, Nat.reduceEqDiff, reduceIte, k2_2, k5_2, k7_2, k8_2, k9_2, i11_2, decide_true, Bool.not_true, Bool.not_false, decide_false, eq_self, strEq, hB1.cell, GR, hg23_29, qv_load, ld2, Int.toNat_natCast, hc3]; rfl) ?_
             refine LD.cq rfl rfl (gd_at (t := 130) rfl (by simp only [EN, Nat.reduceEqDiff, reduceIte, k9_2, decide_true, Bool.not_true, Bool.not_false, decide_false, eq_self, strEq, hB1.cell] <;> rfl)) (fun hg23_30 => by simp only [EN, Nat.reduceEqDiff, reduceIte, qv_move, k9_2, decide_true, Bool.not_true, Bool.not_false, decide_false, eq_self, strEq, hB1.cell, hg23_30, GR]; rfl) ?_
             refine LD.cq rfl rfl (gd_at (t := 130) rfl (by simp only [EN, Nat.reduceEqDiff, reduceIte, decide_true, Bool.not_true, Bool.not_false, decide_false, eq_self, strEq, hB1.cell] <;> rfl)) (fun hg23_31 => by have hq0 := hg23_31; (try simp only [BD] at hq0); simp only [EN, Nat.reduceEqDiff, reduceIte, qv_binOp, binv_mul, decide_true, Bool.not_true, Bool.not_false, decide_false, eq_self, strEq, hB1.cell, hg23_31, GR]; (try simp (disch := omega) only [w64, w8, wu64]); rfl) ?_
             refine LD.cq rfl rfl (gd_at (t := 130) rfl (by simp only [EN, Nat.reduceEqDiff, reduceIte, decide_true, Bool.not_true, Bool.not_false, decide_false, eq_self, strEq, hB1.cell] <;> rfl)) (fun hg23_32 => by simp only [EN, Nat.reduceEqDiff, reduceIte, qv_move, decide_true, Bool.not_true, Bool.not_false, decide_false, eq_self, strEq, hB1.cell, hg23_32, GR]; rfl) ?_
             refine LD.cq rfl rfl (gd_at (t := 130) rfl (by simp only [EN, Nat.reduceEqDiff, reduceIte, k9_2, decide_true, Bool.not_true, Bool.not_false, decide_false, eq_self, strEq, hB1.cell] <;> rfl)) (fun hg23_33 => by simp only [EN, Nat.reduceEqDiff, reduceIte, qv_move, k9_2, decide_true, Bool.not_true, Bool.not_false, decide_false, eq_self, strEq, hB1.cell, hg23_33, GR]; rfl) ?_
             refine LD.cq rfl rfl (gd_at (t := 130) rfl (by simp only [EN, Nat.reduceEqDiff, reduceIte, decide_true, Bool.not_true, Bool.not_false, decide_false, eq_self, strEq, hB1.cell] <;> rfl)) (fun hg23_34 => by have hq0 := hg23_34; (try simp only [BD] at hq0); simp only [EN, Nat.reduceEqDiff, reduceIte, qv_binOp, binv_add, decide_true, Bool.not_true, Bool.not_false, decide_false, eq_self, strEq, hB1.cell, hg23_34, GR]; (try simp (disch := omega) only [w64, w8, wu64]); rfl) ?_
             refine LD.cq rfl rfl (gd_at (t := 130) rfl (by simp only [EN, Nat.reduceEqDiff, reduceIte, decide_true, Bool.not_true, Bool.not_false, decide_false, eq_self, strEq, hB1.cell] <;> rfl)) (fun hg23_35 => by simp only [EN, Nat.reduceEqDiff, reduceIte, qv_binOp, binv_geq, decide_true, Bool.not_true, Bool.not_false, decide_false, eq_self, strEq, hB1.cell, hg23_35, GR]; rfl) ?_
             refine LD.qq rfl rfl (by simp only [EN, Nat.reduceEqDiff, reduceIte, qv_pick, pk_and, pk_or, GR, decide_true, Bool.not_true, Bool.not_false, decide_false, eq_self, strEq, hB1.cell]; rfl) ?_
             refine LD.nil ?_
             rintro h5 rfl -
             refine WL.nil (th_norm ?_)
             refine hx_cond (by simp only [EN, Nat.reduceEqDiff, reduceIte, decide_true, Bool.not_true, Bool.not_false, decide_false, eq_self, strEq, hB1.cell]; rfl) (fun hct142 => ?_) (fun hct142 => ?_)
             ·
              exact absurd hct142 (by simp; omega)
             ·
              try simp only [BD] at hct142
              refine hx_skip (bl_norm (th_norm (hx_region ?_)))
              iterate 3 refine WL.qq (by simp only [EN, Nat.reduceEqDiff, reduceIte, qv_move, i11_2, decide_true, Bool.not_true, Bool.not_false, decide_false, eq_self, strEq, hB1.cell, qv_binOp, binv_add, qv_assign]; (try simp (disch := omega) only [w64, w8, wu64]); rfl) ?_
              refine WL.nil (th_norm ?_)
              refine ⟨rfl, rfl, ?_, _, ?_, q + 1, rfl, ?_, ?_⟩
              · (repeat (first | exact Fr.refl _ _ | refine Fr.set rfl ?_ | refine Fr.put rfl ?_ | with_reducible refine Fr.put0 ?_))
              · omega
              · omega
              · simp only [EN, Nat.reduceEqDiff, reduceIte, k2_2, k5_2, k7_2, k8_2, k9_2, i11_2, decide_true, Bool.not_true, Bool.not_false, decide_false, eq_self, strEq, hB1.cell] <;> first | rfl | (congr 1; omega)
           ·
            try simp only [BD] at hct84
            refine hx_exit (th_exit (th_exit (bl_hit (bl_norm (th_norm (hx_region ?_))))))
            iterate 3 refine WL.qq (by simp only [EN, Nat.reduceEqDiff, reduceIte, qv_move, k7_2, decide_true, Bool.not_true, Bool.not_false, decide_false, eq_self, strEq, hB1.cell, qv_binOp, binv_add, qv_assign]; (try simp (disch := omega) only [w64, w8, wu64]); rfl) ?_
            refine WL.nil (th_norm ?_)
            refine ⟨rfl, rfl, ?_, _, ?_, j + 1, rfl, ?_, ?_⟩
            · (repeat (first | exact Fr.refl _ _ | refine Fr.set rfl ?_ | refine Fr.put rfl ?_ | with_reducible refine Fr.put0 ?_ | refine Fr.trans ?_ (Fr.of hfr2 rfl) | refine Fr.trans ?_ (Fr.of hfr1 rfl)))
            · omega
            · omega
            · simp only [EN, Nat.reduceEqDiff, reduceIte, k2_2, k5_2, k7_2, k8_2, k9_2, i11_2, decide_true, Bool.not_true, Bool.not_false, decide_false, eq_self, strEq, hB1.cell] <;> first | rfl | (congr 1; omega)
     ·
      try simp only [BD] at hct34
      refine hx_exit (th_exit (th_exit (bl_hit (th_norm (hx_seq (hx_region ?_))))))
      refine WL.qq (by simp only [EN, Nat.reduceEqDiff, reduceIte, qv_assign, decide_true, Bool.not_true, Bool.not_false, decide_false, eq_self, strEq, hB1.cell]; rfl) ?_
      refine WL.nil (th_norm (hx_ret ?_))
      refine fin_ret [.tmp 4] rfl rfl (by simp only [EN, Nat.reduceEqDiff, reduceIte, resv, k2_0, k5_0, i7_0, decide_true, Bool.not_true, Bool.not_false, decide_false, eq_self, strEq, hB1.cell]; rfl) ?_
      exact ⟨by simp [retOf], ((hx1).trans ((hx2).trans ((hx3).trans (hx5))))⟩
end GL
namespace Go.Proofs.YtmooinekoeiajaaGreatDoor.electionProportion
open Go.ChangeShapes Go.WideShapes Go.ChangeAt Go.RowKit
theorem own : ownKnob Tryz.prog.godebug = none := by kernel_rfl
theorem laid : laidOutB Tryz.prog = true := by kernel_rfl
set_option maxRecDepth 100000 in
theorem lifted (os : Os) (started : os.Started) (H : Type) (enc : TypeId × Value → H) :
    ReturnsInHanded {} Tryz.checked os 7 .any (fun w args => (Rows.electionProportionSpec.pre enc Tryz.prog Tryz.f7 Rows.electionProportionRow.domain false w args ∧ laidMetH Tryz.prog Rows.electionProportionRow.laid w) ∧ sizedMet enc Tryz.prog Tryz.f7 (OpenSpec.ofChange Rows.electionProportionSpec) false w args) (Rows.electionProportionSpec.post enc Tryz.prog Tryz.f7 false true false false) := by
  refine returnsInHanded_of_change_and (C := Tryz.checked) (X := fun w _ => laidMetH Tryz.prog Rows.electionProportionRow.laid w) (fun _ _ _ hh h => h.of_heap hh) own started (by kernel_rfl) Tryz.func7
    (ChangeSpec.witness_shaped (enc := enc) (C := Tryz.checked) (os := os) (X := fun w _ => laidMetH Tryz.prog Rows.electionProportionRow.laid w) false (World.laidAll Tryz.prog os Rows.electionProportionRow.laid) #[(.agg #[(.slice none 0 0), (.slice none 0 0), (.string ⟨#[]⟩), (.int .i64 0), (.int .i64 0)]), (.slice none 0 0)] 8 (World.laidAll_os _ _ _)
      (World.shaped_of_ZipB (by kernel_rfl) (by kernel_rfl)) (by kernel_rfl) (by kernel_rfl) (by kernel_rfl)
      (by rw [MakeChecks.laidMetH_plain _ _ _ (by kernel_rfl)]; exact laidMet_laidAll _ (by kernel_rfl) (by kernel_rfl))) ?_
  intro W base args ds gs before hval0 hW hcnd _ hL _
  have hval : ∀ (j : Nat) t v, Tryz.f7.params[j]? = some t → args[j]? = some v → Value.okWide Tryz.prog W .any base t v := hval0
  have hW' := hW
  obtain ⟨p, q, hA0, hV, rfl, hfz, hnd⟩ := hW
  have hA : DataW.TrodAll enc Tryz.prog W 0 (fun _ => true) true Tryz.f7.params.toList args.toList ds p := hA0
  rw [Tryz.params7] at hA hval
  obtain ⟨v0, vs0, d0, ds0, p0, q0, hargs, rfl, rfl, h0, r0⟩ := trodAll_cons hA
  obtain ⟨v1, vs1, d1, ds1, p1, q1, rfl, rfl, rfl, h1, r1⟩ := trodAll_cons r0
  obtain ⟨rfl, rfl, rfl⟩ := trodAll_nil r1
  obtain rfl : args = #[v0, v1] := by cases args; simp_all
  obtain ⟨rfl, rfl⟩ := trodVars_none hV
  obtain ⟨x, rfl, hx⟩ := GL.view_su (hval 0 27 v0 rfl rfl) h0
  obtain ⟨al, l, cl, rfl, hl, hll⟩ := GL.view_ops (hval 1 28 v1 rfl rfl) h1
  exact GL.law_done (tb := 4) laid (by kernel_rfl) rfl (by kernel_rfl) Tryz.underlying4 hW' rfl (GL.l_prop x al l cl hll hx hl)
theorem over : Rows.electionProportionRow.holds Tryz.pinned (OpenSpec.ofChange Rows.electionProportionSpec) :=
  OpenClaim.holds_of_wide 7 Tryz.f7 rfl rfl rfl rfl rfl rfl rfl ⟨rfl, rfl, rfl, rfl, rfl⟩ rfl rfl rfl rfl rfl (by kernel_rfl) Tryz.func7 (by kernel_rfl)
    (of_decide_eq_true (by kernel_rfl)) (by unfold Func.isWrapper; first | (rw [if_pos (by decide +kernel)]; kernel_rfl) | (rw [if_neg (by decide +kernel)]; exact ⟨rfl, rfl⟩))
    (fun os started H enc _ => lifted os started H enc)
theorem proved : Rows.ElectionProportionCardSaid :=
  Claim7.holds_tied_plain_at .later [] [.data, .pinned] true (true, "432ba5930207515d71965132727d0ce340d9dfecd27b298c3f46f89b49a71a5e") true over (fun _ h => by cases h) (by kernel_rfl) (fun _ h => by cases h) electionProportion_row_tie rfl ⟨rfl, rfl⟩ (by kernel_rfl) rfl
    (fun f fn hf hfn => by
      obtain rfl : f = 7 := Option.some.inj ((show Tryz.prog.funcNamed "giro/girolaw44.ElectionProportion" = some 7 by kernel_rfl).symm.trans hf) |>.symm
      obtain rfl : fn = Tryz.f7 := (Option.some.inj (Tryz.func7.symm.trans hfn)).symm
      exact ⟨by kernel_rfl, fun j t ht => by
        rw [Tryz.params7] at ht
        have hm : t ∈ [27, 28] := by simpa using Array.mem_of_getElem? ht
        have hall : ([27, 28].all fun u => !Tryz.prog.wantsStandIn u) = true := by kernel_rfl
        exact (show Tryz.prog.wantsStandIn t = false by simpa using List.all_eq_true.1 hall t hm)⟩)
    (by kernel_rfl)
end Go.Proofs.YtmooinekoeiajaaGreatDoor.electionProportion

/- History: bundles converted back; Same; At. -/
import Derived.Test.YtklhfckdifkpaaaHisI
set_option linter.unusedSimpArgs false
set_option linter.unusedVariables false
set_option linter.unnecessarySimpa false
namespace GL
open Go Go.Proofs
set_option maxRecDepth 8000
set_option maxHeartbeats 4000000 in
theorem c_back (x : BX) (hlen : x.ps.length ≤ 1000000 ∧ ∀ p ∈ x.ps, p.ps.length ≤ 1000000) {h : Heap} (hbi : BXin h x) :
    HCalls Try.prog 26 #[.agg (bdL x).toArray] h fun v h' => Ext h h' ∧ ∃ y : BX, v = .agg (bdL y).toArray ∧ y.bd = x.bd ∧ BXin h' y := by
  have kbi := hbi
  refine hcalls2 Try.func26 rfl (by decide +kernel) (by simp only [Try.ntmps26]; exact of_decide_eq_true rfl) ?_
  intro e hin
  have e0 := hin 0 _ rfl
  refine hx_seq ?_
  refine hx_region ?_
  refine WL.box2 (by simp only [EN, Nat.reduceEqDiff, reduceIte, Value.cells, e0]; rfl) ?_
  intro h1 B1 hx1 hlt1 hB1
  have k1 := (Array.getElem?_eq_some_iff.1 hB1).1; have kz1 := hx1.size
  refine WL.alloc2 zr45 ?_
  intro h2 B2 hx2 hlt2 hB2
  replace hB1 := hB1.ext hx2
  simp only [Value.cells] at hB2
  refine WL.nil ?_
  refine th_norm ?_
  refine hx_seq ?_
  refine hx_region ?_
  have k2 := (Array.getElem?_eq_some_iff.1 hB2).1; have k1b := (Array.getElem?_eq_some_iff.1 hB1).1; have kz2 := Ext.size ((hx1).trans (hx2))
  refine WL.qq (by simp only [EN, Nat.reduceEqDiff, reduceIte, qv_fieldAddr, fa55_0, Nat.zero_add, Nat.reduceAdd, hB1.cell, hB2.cell]; rfl) ?_
  refine WL.qq (by simp only [EN, Nat.reduceEqDiff, reduceIte, qv_load, ld3, readN, AR, Nat.zero_add, Nat.reduceAdd, hB1.cell, hB2.cell]; rfl) ?_
  refine WL.qq (by simp only [EN, Nat.reduceEqDiff, reduceIte, qv_fieldAddr, fa55_1, Nat.zero_add, Nat.reduceAdd, hB1.cell, hB2.cell]; rfl) ?_
  refine WL.qq (by simp only [EN, Nat.reduceEqDiff, reduceIte, qv_fieldAddr, fa41_0, Nat.zero_add, Nat.reduceAdd, hB1.cell, hB2.cell]; rfl) ?_
  refine WL.qq (by simp only [EN, Nat.reduceEqDiff, reduceIte, qv_load, ld3, readN, AR, Nat.zero_add, Nat.reduceAdd, hB1.cell, hB2.cell]; rfl) ?_
  refine WL.qq (by simp only [EN, Nat.reduceEqDiff, reduceIte, qv_fieldAddr, fa55_1, Nat.zero_add, Nat.reduceAdd, hB1.cell, hB2.cell]; rfl) ?_
  refine WL.qq (by simp only [EN, Nat.reduceEqDiff, reduceIte, qv_fieldAddr, fa41_1, Nat.zero_add, Nat.reduceAdd, hB1.cell, hB2.cell]; rfl) ?_
  refine WL.qq (by simp only [EN, Nat.reduceEqDiff, reduceIte, qv_load, ld3, readN, AR, Nat.zero_add, Nat.reduceAdd, hB1.cell, hB2.cell]; rfl) ?_
  refine WL.qq (by refine qv_bld (by simp only [EN, Nat.reduceEqDiff, reduceIte, AR, hB1.cell, hB2.cell] <;> rfl) (by rw [bl45]; simp [Instr.fill, Value.cells]; rfl)) ?_
  refine WL.allocSt zr45 sz45 (fun u => by simp only [EN, Nat.reduceEqDiff, reduceIte, Value.cells, hB1.cell, hB2.cell]; rfl) ⟨rfl, rfl⟩ (by simp [Value.oneCell']) ?_
  intro h3 B3 hx3 hlt3 hB3
  replace hB1 := hB1.ext hx3
  replace hB2 := hB2.ext hx3
  refine WL.nil ?_
  refine th_norm ?_
  refine hx_seq ?_
  refine hx_seq ?_
  refine hx_region ?_
  refine WL.qq (by simp only [EN, Nat.reduceEqDiff, reduceIte, qv_assign, hB1.cell, hB2.cell, hB3.cell]; rfl) ?_
  refine WL.nil ?_
  refine th_norm ?_
  refine hx_block ?_
  refine hx_loopG [4, 5, 6, 7, 17, 18, 19, 20, 21, 22, 23, 24, 25, 26, 27, 28, 29, 30, 31, 32, 33, 34, 35, 36, 37, 38, 39, 40, 41, 42, 43, 44, 45, 46, 47, 48, 49, 50, 51, 52, 53, 54, 55, 56, 57, 58, 59, 60, 61, 62, 63, 64, 65, 66, 67, 68, 69, 70, 71, 72, 73, 74] (fun k e hL0 => ∃ (i : Nat) (M : List PX) (vo : Value), x.ps.length - i = k ∧ (i ≤ x.ps.length) ∧ (Ext h hL0) ∧ (Has hL0 B1 (.cells (bdL x).toArray tyB)) ∧ (Has hL0 B2 (.cells #[iV 0, iV 0, iV 0, .slice none 0 0] 45)) ∧ (Has hL0 B3 (.cells #[iV x.s, iV x.day, iV x.mn, vo] 45)) ∧ (Own hL0 h.size 79 2 vo M.length (M.flatMap ptL)) ∧ (M.length = i) ∧ (M.map PX.pt = (x.ps.take i).map PX.pt) ∧ (PQs 76 (fun g => h.size ≤ g) hL0 M) ∧ e 4 = .int .i64 i) _ ⟨0, [], .slice none 0 0, rfl, ?_, ?_, ?_, ?_, ?_, ?_, ?_, ?_, ?_, ?_⟩ ?_
  · omega
  · exact ((hx1).trans ((hx2).trans (hx3)))
  · exact hB1
  · exact hB2
  · exact hB3
  · exact Own.nil
  · rfl
  · rfl
  · intro m hm; cases hm
  · simp only [EN, Nat.reduceEqDiff, reduceIte, e0, hB1.cell, hB2.cell, hB3.cell] <;> rfl
  ·
    rintro k e0L hL0 hfr0 ⟨i, M, vo, rfl, hi, hXe, hB1, hB2, hB3, ho, hMl, hM, hMr, i4_0⟩
    have k1_0 := hfr0 1 rfl; try simp only [EN, Nat.reduceEqDiff, reduceIte, hB1.cell, hB2.cell, hB3.cell] at k1_0
    have k2_0 := hfr0 2 rfl; try simp only [EN, Nat.reduceEqDiff, reduceIte, hB1.cell, hB2.cell, hB3.cell] at k2_0
    have k3_0 := hfr0 3 rfl; try simp only [EN, Nat.reduceEqDiff, reduceIte, hB1.cell, hB2.cell, hB3.cell] at k3_0
    refine hx_seq ?_
    refine hx_seq ?_
    refine hx_region ?_
    refine WL.qq (by simp only [EN, Nat.reduceEqDiff, reduceIte, qv_move, i4_0, hB1.cell, hB2.cell, hB3.cell]; rfl) ?_
    refine WL.qq (by simp only [EN, Nat.reduceEqDiff, reduceIte, qv_fieldAddr, fa55_2, Nat.zero_add, Nat.reduceAdd, k1_0, hB1.cell, hB2.cell, hB3.cell]; rfl) ?_
    refine WL.qq (by simp only [EN, Nat.reduceEqDiff, reduceIte, qv_load, ld53, readN, AR, Nat.zero_add, Nat.reduceAdd, hB1.cell, hB2.cell, hB3.cell]; rfl) ?_
    refine WL.qq (by simp only [EN, Nat.reduceEqDiff, reduceIte, qv_len, ln53, AR, hB1.cell, hB2.cell, hB3.cell]; rfl) ?_
    refine WL.qq (by simp only [EN, Nat.reduceEqDiff, reduceIte, qv_binOp, binv_lss, hB1.cell, hB2.cell, hB3.cell]; rfl) ?_
    refine WL.nil ?_
    refine th_norm ?_
    refine hx_cond (by simp only [EN, Nat.reduceEqDiff, reduceIte, hB1.cell, hB2.cell, hB3.cell]; rfl) (fun hct21 => ?_) (fun hct21 => ?_)
    ·
      try simp only [BD] at hct21
      obtain ⟨q, hq⟩ := atG (l := x.ps) (i := i) (by omega)
      obtain ⟨b1, o1, ha1, _, hp0, hp1⟩ := pt_rd (kbi.1.ext hXe) hq
      have hql := hlen.2 q (List.mem_of_getElem? hq); have hqi : SlG 4 poL h q.a q.ps := kbi.2 q (List.mem_of_getElem? hq)
      have w1 := (Array.getElem?_eq_some_iff.1 hB1).1; have w2 := (Array.getElem?_eq_some_iff.1 hB2).1; have w3 := (Array.getElem?_eq_some_iff.1 hB3).1; have w4 := hXe.size; have w5 := ho.block
      replace hMr := hMr.lt
      refine hx_skip ?_
      refine th_norm ?_
      refine hx_seq ?_
      refine hx_block ?_
      refine hx_seq ?_
      refine hx_region ?_
      refine WL.qq (by simp only [EN, Nat.reduceEqDiff, reduceIte, qv_fieldAddr, fa55_2, Nat.zero_add, Nat.reduceAdd, k1_0, hB1.cell, hB2.cell, hB3.cell]; rfl) ?_
      refine WL.qq (by simp only [EN, Nat.reduceEqDiff, reduceIte, qv_load, ld53, readN, AR, Nat.zero_add, Nat.reduceAdd, hB1.cell, hB2.cell, hB3.cell]; rfl) ?_
      refine WL.qq (by simp only [EN, Nat.reduceEqDiff, reduceIte, qv_move, i4_0, hB1.cell, hB2.cell, hB3.cell]; rfl) ?_
      refine WL.qq (by simp only [EN, Nat.reduceEqDiff, reduceIte, qv_indexAddr, hB1.cell, hB2.cell, hB3.cell, ha1]; (try simp (disch := omega) only [ix53, Int.toNat_natCast]); rfl) ?_
      refine WL.qq (by simp only [EN, Nat.reduceEqDiff, reduceIte, qv_fieldAddr, fa72_0, Nat.zero_add, Nat.reduceAdd, hB1.cell, hB2.cell, hB3.cell]; rfl) ?_
      refine WL.qq (by simp only [EN, Nat.reduceEqDiff, reduceIte, k1_0, k2_0, k3_0, i4_0, hB1.cell, hB2.cell, hB3.cell, qv_load, ld9, Int.toNat_natCast, hp0]; rfl) ?_
      refine WL.qq (by refine qv_bld (by simp only [EN, Nat.reduceEqDiff, reduceIte, AR, hB1.cell, hB2.cell, hB3.cell] <;> rfl) (by rw [bl79]; simp [Instr.fill, Value.cells]; rfl)) ?_
      refine WL.allocSt zr79 sz79 (fun u => by simp only [EN, Nat.reduceEqDiff, reduceIte, Value.cells, hB1.cell, hB2.cell, hB3.cell]; rfl) ⟨rfl, rfl⟩ (by simp [Value.oneCell']) ?_
      intro h4 B4 hx4 hlt4 hB4
      replace hB1 := hB1.ext hx4
      replace hB2 := hB2.ext hx4
      replace hB3 := hB3.ext hx4
      replace ho := ho.ext hx4
      replace hMr := hMr.ext hx4
      refine WL.nil ?_
      refine th_norm ?_
      refine hx_seq ?_
      refine hx_seq ?_
      refine hx_region ?_
      have hX5 := hXe.trans (hx4); replace hMr := hMr.mono (F' := fun g => h.size ≤ g ∧ g < B4) (fun c hc => ⟨hc.1, by omega⟩)
      refine WL.qq (by simp only [EN, Nat.reduceEqDiff, reduceIte, qv_assign, hB1.cell, hB2.cell, hB3.cell, hB4.cell]; rfl) ?_
      refine WL.nil ?_
      refine th_norm ?_
      refine hx_block ?_
      refine hx_loopG [6, 7, 31, 32, 33, 34, 35, 36, 37, 38, 39, 40, 41, 42, 43, 44, 45, 46, 47, 48, 49, 50, 51, 52, 53, 54, 55, 56, 57, 58, 59, 60, 61, 62, 63, 64, 65, 66, 67, 68] (fun k e hL1 => ∃ (j : Nat) (v : Value), q.ps.length - j = k ∧ (j ≤ q.ps.length) ∧ (Ext h hL1) ∧ (Has hL1 B1 (.cells (bdL x).toArray tyB)) ∧ (Has hL1 B2 (.cells #[iV 0, iV 0, iV 0, .slice none 0 0] 45)) ∧ (Has hL1 B3 (.cells #[iV x.s, iV x.day, iV x.mn, vo] 45)) ∧ (Own hL1 h.size 79 2 vo M.length (M.flatMap ptL)) ∧ (PQs 76 (fun g => h.size ≤ g ∧ g < B4) hL1 M) ∧ (Has hL1 B4 (.cells #[.string q.r, v] 79)) ∧ (Own hL1 B4 76 4 v j ((q.ps.take j).flatMap poL)) ∧ e 6 = .int .i64 j) _ ⟨0, .slice none 0 0, rfl, ?_, ?_, ?_, ?_, ?_, ?_, ?_, ?_, ?_, ?_⟩ ?_
      · omega
      · exact hX5
      · exact hB1
      · exact hB2
      · exact hB3
      · exact ho
      · exact hMr
      · exact hB4
      · exact Own.nil
      · simp only [EN, Nat.reduceEqDiff, reduceIte, k1_0, k2_0, k3_0, i4_0, hB1.cell, hB2.cell, hB3.cell, hB4.cell] <;> rfl
      ·
        rintro k e1L hL1 hfr1 ⟨j, v, rfl, hj, hXe, hB1, hB2, hB3, ho, hMr, hB4, hv, i6_1⟩
        have k1_1 := hfr1 1 rfl; try simp only [EN, Nat.reduceEqDiff, reduceIte, k1_0, hB1.cell, hB2.cell, hB3.cell, hB4.cell] at k1_1
        have k2_1 := hfr1 2 rfl; try simp only [EN, Nat.reduceEqDiff, reduceIte, k2_0, hB1.cell, hB2.cell, hB3.cell, hB4.cell] at k2_1
        have k3_1 := hfr1 3 rfl; try simp only [EN, Nat.reduceEqDiff, reduceIte, k3_0, hB1.cell, hB2.cell, hB3.cell, hB4.cell] at k3_1
        have k4_1 := hfr1 4 rfl; try simp only [EN, Nat.reduceEqDiff, reduceIte, i4_0, hB1.cell, hB2.cell, hB3.cell, hB4.cell] at k4_1
        have k5_1 := hfr1 5 rfl; try simp only [EN, Nat.reduceEqDiff, reduceIte, hB1.cell, hB2.cell, hB3.cell, hB4.cell] at k5_1
        obtain ⟨b1, o1, ha1, _, hp0, hp1⟩ := pt_rd (kbi.1.ext hXe) hq
        refine hx_seq ?_
        refine hx_seq ?_
        refine hx_region ?_
        refine WL.qq (by simp only [EN, Nat.reduceEqDiff, reduceIte, qv_move, i6_1, hB1.cell, hB2.cell, hB3.cell, hB4.cell]; rfl) ?_
        refine WL.qq (by simp only [EN, Nat.reduceEqDiff, reduceIte, qv_fieldAddr, fa55_2, Nat.zero_add, Nat.reduceAdd, k1_1, hB1.cell, hB2.cell, hB3.cell, hB4.cell]; rfl) ?_
        refine WL.qq (by simp only [EN, Nat.reduceEqDiff, reduceIte, qv_load, ld53, readN, AR, Nat.zero_add, Nat.reduceAdd, hB1.cell, hB2.cell, hB3.cell, hB4.cell]; rfl) ?_
        refine WL.qq (by simp only [EN, Nat.reduceEqDiff, reduceIte, qv_move, k4_1, hB1.cell, hB2.cell, hB3.cell, hB4.cell]; rfl) ?_
        refine WL.qq (by simp only [EN, Nat.reduceEqDiff, reduceIte, qv_indexAddr, hB1.cell, hB2.cell, hB3.cell, hB4.cell, ha1]; (try simp (disch := omega) only [ix53, Int.toNat_natCast]); rfl) ?_
        refine WL.qq (by simp only [EN, Nat.reduceEqDiff, reduceIte, qv_fieldAddr, fa72_1, Nat.zero_add, Nat.reduceAdd, hB1.cell, hB2.cell, hB3.cell, hB4.cell]; rfl) ?_
        refine WL.qq (by simp only [EN, Nat.reduceEqDiff, reduceIte, k1_1, k2_1, k3_1, k4_1, k5_1, i6_1, hB1.cell, hB2.cell, hB3.cell, hB4.cell, qv_load, ld70, Int.toNat_natCast, hp1]; rfl) ?_
        refine WL.qq (by simp only [EN, Nat.reduceEqDiff, reduceIte, qv_len, ln70, AR, hB1.cell, hB2.cell, hB3.cell, hB4.cell]; rfl) ?_
        refine WL.qq (by simp only [EN, Nat.reduceEqDiff, reduceIte, qv_binOp, binv_lss, hB1.cell, hB2.cell, hB3.cell, hB4.cell]; rfl) ?_
        refine WL.nil ?_
        refine th_norm ?_
        refine hx_cond (by simp only [EN, Nat.reduceEqDiff, reduceIte, hB1.cell, hB2.cell, hB3.cell, hB4.cell]; rfl) (fun hct39 => ?_) (fun hct39 => ?_)
        ·
          try simp only [BD] at hct39
          obtain ⟨y, hy⟩ := atG (l := q.ps) (i := j) (by omega)
          obtain ⟨b2, o2, ha2, hr4, _⟩ := po_rd (hqi.ext hXe) hy
          refine hx_skip ?_
          refine th_norm ?_
          refine hx_seq ?_
          refine hx_block ?_
          refine hx_seq ?_
          refine hx_region ?_
          refine WL.qq (by simp only [EN, Nat.reduceEqDiff, reduceIte, qv_fieldAddr, fa55_2, Nat.zero_add, Nat.reduceAdd, k1_1, hB1.cell, hB2.cell, hB3.cell, hB4.cell]; rfl) ?_
          refine WL.qq (by simp only [EN, Nat.reduceEqDiff, reduceIte, qv_load, ld53, readN, AR, Nat.zero_add, Nat.reduceAdd, hB1.cell, hB2.cell, hB3.cell, hB4.cell]; rfl) ?_
          refine WL.qq (by simp only [EN, Nat.reduceEqDiff, reduceIte, qv_move, k4_1, hB1.cell, hB2.cell, hB3.cell, hB4.cell]; rfl) ?_
          refine WL.qq (by simp only [EN, Nat.reduceEqDiff, reduceIte, qv_indexAddr, hB1.cell, hB2.cell, hB3.cell, hB4.cell, ha1]; (try simp (disch := omega) only [ix53, Int.toNat_natCast]); rfl) ?_
          refine WL.qq (by simp only [EN, Nat.reduceEqDiff, reduceIte, qv_fieldAddr, fa72_1, Nat.zero_add, Nat.reduceAdd, hB1.cell, hB2.cell, hB3.cell, hB4.cell]; rfl) ?_
          refine WL.qq (by simp only [EN, Nat.reduceEqDiff, reduceIte, k1_1, k2_1, k3_1, k4_1, k5_1, i6_1, hB1.cell, hB2.cell, hB3.cell, hB4.cell, qv_load, ld70, Int.toNat_natCast, hp1]; rfl) ?_
          refine WL.qq (by simp only [EN, Nat.reduceEqDiff, reduceIte, qv_move, i6_1, hB1.cell, hB2.cell, hB3.cell, hB4.cell]; rfl) ?_
          refine WL.qq (by simp only [EN, Nat.reduceEqDiff, reduceIte, qv_indexAddr, hB1.cell, hB2.cell, hB3.cell, hB4.cell, ha2]; (try simp (disch := omega) only [ix70, Int.toNat_natCast]); rfl) ?_
          refine WL.qq (by simp only [EN, Nat.reduceEqDiff, reduceIte, k1_1, k2_1, k3_1, k4_1, k5_1, i6_1, hB1.cell, hB2.cell, hB3.cell, hB4.cell, qv_load, ld74, Int.toNat_natCast, hr4]; rfl) ?_
          refine WL.allocSt zr74 sz74 (fun u => by simp only [EN, Nat.reduceEqDiff, reduceIte, Value.cells, hB1.cell, hB2.cell, hB3.cell, hB4.cell]; rfl) ⟨rfl, rfl⟩ (by simp [Value.oneCell']) ?_
          intro h5 B5 hx5 hlt5 hB5
          replace hB1 := hB1.ext hx5
          replace hB2 := hB2.ext hx5
          replace hB3 := hB3.ext hx5
          replace hB4 := hB4.ext hx5
          replace ho := ho.ext hx5
          replace hMr := hMr.ext hx5
          replace hv := hv.ext hx5
          refine WL.nil ?_
          refine th_norm ?_
          refine hx_region ?_
          have hX9 := hXe.trans (hx5); have w9 := hX9.size; have w4b := (Array.getElem?_eq_some_iff.1 hB4).1
          refine WL.qq (by simp only [EN, Nat.reduceEqDiff, reduceIte, qv_fieldAddr, fa79_1, Nat.zero_add, Nat.reduceAdd, k5_1, hB1.cell, hB2.cell, hB3.cell, hB4.cell, hB5.cell]; rfl) ?_
          refine WL.qq (by simp only [EN, Nat.reduceEqDiff, reduceIte, qv_load, ld77, readN, AR, Nat.zero_add, Nat.reduceAdd, hB1.cell, hB2.cell, hB3.cell, hB4.cell, hB5.cell]; rfl) ?_
          refine WL.qq (by simp only [EN, Nat.reduceEqDiff, reduceIte, qv_fieldAddr, fa74_0, Nat.zero_add, Nat.reduceAdd, hB1.cell, hB2.cell, hB3.cell, hB4.cell, hB5.cell]; rfl) ?_
          refine WL.qq (by simp only [EN, Nat.reduceEqDiff, reduceIte, qv_fieldAddr, fa35_0, Nat.zero_add, Nat.reduceAdd, hB1.cell, hB2.cell, hB3.cell, hB4.cell, hB5.cell]; rfl) ?_
          refine WL.qq (by simp only [EN, Nat.reduceEqDiff, reduceIte, qv_load, ld9, readN, AR, Nat.zero_add, Nat.reduceAdd, hB1.cell, hB2.cell, hB3.cell, hB4.cell, hB5.cell]; rfl) ?_
          refine WL.qq (by simp only [EN, Nat.reduceEqDiff, reduceIte, qv_fieldAddr, fa74_0, Nat.zero_add, Nat.reduceAdd, hB1.cell, hB2.cell, hB3.cell, hB4.cell, hB5.cell]; rfl) ?_
          refine WL.qq (by simp only [EN, Nat.reduceEqDiff, reduceIte, qv_fieldAddr, fa35_1, Nat.zero_add, Nat.reduceAdd, hB1.cell, hB2.cell, hB3.cell, hB4.cell, hB5.cell]; rfl) ?_
          refine WL.qq (by simp only [EN, Nat.reduceEqDiff, reduceIte, qv_load, ld3, readN, AR, Nat.zero_add, Nat.reduceAdd, hB1.cell, hB2.cell, hB3.cell, hB4.cell, hB5.cell]; rfl) ?_
          refine WL.qq (by simp only [EN, Nat.reduceEqDiff, reduceIte, qv_fieldAddr, fa74_0, Nat.zero_add, Nat.reduceAdd, hB1.cell, hB2.cell, hB3.cell, hB4.cell, hB5.cell]; rfl) ?_
          refine WL.qq (by simp only [EN, Nat.reduceEqDiff, reduceIte, qv_fieldAddr, fa35_2, Nat.zero_add, Nat.reduceAdd, hB1.cell, hB2.cell, hB3.cell, hB4.cell, hB5.cell]; rfl) ?_
          refine WL.qq (by simp only [EN, Nat.reduceEqDiff, reduceIte, qv_load, ld9, readN, AR, Nat.zero_add, Nat.reduceAdd, hB1.cell, hB2.cell, hB3.cell, hB4.cell, hB5.cell]; rfl) ?_
          refine WL.qq (by refine qv_bld (by simp only [EN, Nat.reduceEqDiff, reduceIte, AR, hB1.cell, hB2.cell, hB3.cell, hB4.cell, hB5.cell] <;> rfl) (by rw [bl24]; simp [Instr.fill, Value.cells]; rfl)) ?_
          refine WL.qq (by simp only [EN, Nat.reduceEqDiff, reduceIte, qv_fieldAddr, fa74_1, Nat.zero_add, Nat.reduceAdd, hB1.cell, hB2.cell, hB3.cell, hB4.cell, hB5.cell]; rfl) ?_
          refine WL.qq (by simp only [EN, Nat.reduceEqDiff, reduceIte, qv_load, ld2, readN, AR, Nat.zero_add, Nat.reduceAdd, hB1.cell, hB2.cell, hB3.cell, hB4.cell, hB5.cell]; rfl) ?_
          refine WL.qq (by refine qv_bld (by simp only [EN, Nat.reduceEqDiff, reduceIte, AR, hB1.cell, hB2.cell, hB3.cell, hB4.cell, hB5.cell] <;> rfl) (by rw [bl76]; simp [Instr.fill, Value.cells]; rfl)) ?_
          refine WL.push (bytes := 48) Try.underlying77 (inf_of Try.type76) rfl rfl rfl rfl (by decide) (by decide) sz76 zr76 (fun u => by simp only [EN, Nat.reduceEqDiff, reduceIte, k1_1, k2_1, k3_1, k4_1, k5_1, i6_1, hB1.cell, hB2.cell, hB3.cell, hB4.cell, hB5.cell]) hv (c := (poL y).toArray) (by simp only [EN, Nat.reduceEqDiff, reduceIte, k1_1, k2_1, k3_1, k4_1, k5_1, i6_1, hB1.cell, hB2.cell, hB3.cell, hB4.cell, hB5.cell, Value.cells] <;> rfl) rfl (by simp [Value.oneCell']) (by simp only [maxLen]; omega) (by omega) (by omega) ?_
          intro h40 v40 B40 hv40 hg40 hpl40 hn40
          have hB440 := hB4.gr hg40 (hv.ncell hB4 (by decide))
          skip
          refine WL.qq (by simp only [EN, Nat.reduceEqDiff, reduceIte, qv_fieldAddr, fa79_1, Nat.zero_add, Nat.reduceAdd, k5_1, hB1.cell, hB2.cell, hB3.cell, hB4.cell, hB5.cell]; rfl) ?_
          refine WL.store (by simp only [EN, Nat.reduceEqDiff, reduceIte, k1_1, k2_1, k3_1, k4_1, k5_1, i6_1, hB1.cell, hB2.cell, hB3.cell, hB4.cell, hB5.cell] <;> rfl) sz77 (by simp only [EN, Nat.reduceEqDiff, reduceIte, k1_1, k2_1, k3_1, k4_1, k5_1, i6_1, hB1.cell, hB2.cell, hB3.cell, hB4.cell, hB5.cell]; exact hv40.cells) rfl hB440 (by simp) (by simp [hv40.one]) ?_
          intro h41 hw41
          have hv41 := hv40.keep (h' := h41) (fun c hc => hw41.same c fun hh => by subst hh; exact hv40.ncell hB440 (by decide) hc)
          have hB441 := hw41.at_
          simp only [splc, List.take_succ_cons, List.take_zero, List.take_nil, List.drop_succ_cons, List.drop_zero, List.drop_nil, List.cons_append, List.nil_append, List.length_cons, List.length_nil, Nat.zero_add, Nat.add_zero, Nat.reduceAdd, List.append_nil] at hB441
          have hM41 := (hMr.gr hg40 hv).wr hw41 hB440 (by decide)
          have ho41 := (ho.keep (h' := h40) (fun c hc => hg40.same c (ho.block c hc).2 (fun hh => by obtain ⟨cu, hcu⟩ := hv.typ c hh; exact ho.ncell hcu (by decide) hc))).keep (h' := h41) (fun c hc => hw41.same c (by have := w5 c hc; omega))
          refine WL.nil ?_
          refine bl_norm ?_
          refine th_norm ?_
          refine hx_region ?_
          refine WL.qq (by simp only [EN, Nat.reduceEqDiff, reduceIte, qv_move, i6_1, hB1.cell, hB2.cell, hB3.cell, hB4.cell, hB5.cell]; rfl) ?_
          refine WL.qq (by simp only [EN, Nat.reduceEqDiff, reduceIte, qv_binOp, binv_add, hB1.cell, hB2.cell, hB3.cell, hB4.cell, hB5.cell]; (try simp (disch := omega) only [w64, w8, wu64]); rfl) ?_
          refine WL.qq (by simp only [EN, Nat.reduceEqDiff, reduceIte, qv_assign, hB1.cell, hB2.cell, hB3.cell, hB4.cell, hB5.cell]; rfl) ?_
          refine WL.nil ?_
          refine th_norm ?_
          refine ⟨rfl, ?_, _, ?_, j + 1, v40, rfl, ?_, ?_, ?_, ?_, ?_, ?_, ?_, ?_, ?_, ?_⟩  -- again 0 of loop 1
          · (repeat (first | exact Fr.refl _ _ | refine Fr.set rfl ?_ | refine Fr.put rfl ?_ | with_reducible refine Fr.put0 ?_))
          · omega
          · omega
          · exact hw41.ext (hg40.ext hX9 (fun c hc => by have := (hv.block c hc).1; omega)) (by omega)
          · exact (hB1.gr hg40 (hv.ncell hB1 (by decide))).wr hw41 (by omega)
          · exact (hB2.gr hg40 (hv.ncell hB2 (by decide))).wr hw41 (by omega)
          · exact (hB3.gr hg40 (hv.ncell hB3 (by decide))).wr hw41 (by omega)
          · exact ho41
          · exact hM41
          · exact hB441
          · rw [List.take_add_one, hy, List.flatMap_append]; exact hv41
          · simp only [EN, Nat.reduceEqDiff, reduceIte, k1_1, k2_1, k3_1, k4_1, k5_1, i6_1, hB1.cell, hB2.cell, hB3.cell, hB4.cell, hB5.cell] <;> first | rfl | (congr 1; omega)
        ·
          try simp only [BD] at hct39
          obtain rfl : j = q.ps.length := (by omega)
          rw [List.take_length] at hv
          obtain ⟨a9, c9, rfl, hle9, _, _⟩ := hv.shape
          have hsq := SlR.own (f := poL) (sz := 4) (fun _ => rfl) hv rfl; have hbq := hv.block
          refine hx_exit ?_
          refine th_exit ?_
          refine th_exit ?_
          refine bl_hit ?_
          refine th_norm ?_
          refine hx_region ?_
          refine WL.qq (by simp only [EN, Nat.reduceEqDiff, reduceIte, qv_fieldAddr, fa45_3, Nat.zero_add, Nat.reduceAdd, k3_1, hB1.cell, hB2.cell, hB3.cell, hB4.cell]; rfl) ?_
          refine WL.qq (by simp only [EN, Nat.reduceEqDiff, reduceIte, qv_load, ld43, readN, AR, Nat.zero_add, Nat.reduceAdd, hB1.cell, hB2.cell, hB3.cell, hB4.cell]; rfl) ?_
          refine WL.qq (by simp only [EN, Nat.reduceEqDiff, reduceIte, qv_load, ld79, readN, AR, Nat.zero_add, Nat.reduceAdd, k5_1, hB1.cell, hB2.cell, hB3.cell, hB4.cell]; rfl) ?_
          refine WL.push (bytes := 40) Try.underlying43 (inf_of Try.type79) rfl rfl rfl rfl (by decide) (by decide) sz79 zr79 (fun u => by simp only [EN, Nat.reduceEqDiff, reduceIte, k1_1, k2_1, k3_1, k4_1, k5_1, i6_1, hB1.cell, hB2.cell, hB3.cell, hB4.cell]) ho (c := (ptL ⟨q.r, a9, q.ps, c9⟩).toArray) (by simp only [EN, Nat.reduceEqDiff, reduceIte, k1_1, k2_1, k3_1, k4_1, k5_1, i6_1, hB1.cell, hB2.cell, hB3.cell, hB4.cell, Value.cells] <;> rfl) rfl (by simp [Value.oneCell']) (by simp only [maxLen]; omega) (by omega) hXe.size ?_
          intro h50 v50 B50 ho50 hg50 hpl50 hn50
          have hB350 := hB3.gr hg50 (ho.ncell hB3 (by decide))
          skip
          refine WL.qq (by simp only [EN, Nat.reduceEqDiff, reduceIte, qv_fieldAddr, fa45_3, Nat.zero_add, Nat.reduceAdd, k3_1, hB1.cell, hB2.cell, hB3.cell, hB4.cell]; rfl) ?_
          refine WL.store (by simp only [EN, Nat.reduceEqDiff, reduceIte, k1_1, k2_1, k3_1, k4_1, k5_1, i6_1, hB1.cell, hB2.cell, hB3.cell, hB4.cell] <;> rfl) sz43 (by simp only [EN, Nat.reduceEqDiff, reduceIte, k1_1, k2_1, k3_1, k4_1, k5_1, i6_1, hB1.cell, hB2.cell, hB3.cell, hB4.cell]; exact ho50.cells) rfl hB350 (by simp) (by simp [ho50.one]) ?_
          intro h51 hw51
          have ho51 := ho50.keep (h' := h51) (fun c hc => hw51.same c fun hh => by subst hh; exact ho50.ncell hB350 (by decide) hc)
          have hB351 := hw51.at_
          simp only [splc, List.take_succ_cons, List.take_zero, List.take_nil, List.drop_succ_cons, List.drop_zero, List.drop_nil, List.cons_append, List.nil_append, List.length_cons, List.length_nil, Nat.zero_add, Nat.add_zero, Nat.reduceAdd, List.append_nil] at hB351
          have hall : PQs 76 (fun g => h.size ≤ g) hL1 (M ++ [⟨q.r, a9, q.ps, c9⟩]) := (hMr.mono (fun c hc => hc.1)).snoc ⟨hsq, fun c off ha => by have := (hbq c (by rw [show a9 = some ⟨c, off, none⟩ from ha]; rfl)).1; omega⟩
          have hall51 := (hall.gro hg50 ho (by decide)).wr hw51 hB350 (by decide)
          refine WL.nil ?_
          refine bl_norm ?_
          refine th_norm ?_
          refine hx_region ?_
          refine WL.qq (by simp only [EN, Nat.reduceEqDiff, reduceIte, qv_move, k4_1, hB1.cell, hB2.cell, hB3.cell, hB4.cell]; rfl) ?_
          refine WL.qq (by simp only [EN, Nat.reduceEqDiff, reduceIte, qv_binOp, binv_add, hB1.cell, hB2.cell, hB3.cell, hB4.cell]; (try simp (disch := omega) only [w64, w8, wu64]); rfl) ?_
          refine WL.qq (by simp only [EN, Nat.reduceEqDiff, reduceIte, qv_assign, hB1.cell, hB2.cell, hB3.cell, hB4.cell]; rfl) ?_
          refine WL.nil ?_
          refine th_norm ?_
          refine ⟨rfl, ?_, _, ?_, i + 1, M ++ [⟨q.r, a9, q.ps, c9⟩], v50, rfl, ?_, ?_, ?_, ?_, ?_, ?_, ?_, ?_, ?_, ?_⟩  -- again 0 of loop 0
          · (repeat (first | exact Fr.refl _ _ | refine Fr.set rfl ?_ | refine Fr.put rfl ?_ | with_reducible refine Fr.put0 ?_ | refine Fr.trans ?_ (Fr.of hfr1 rfl)))
          · omega
          · omega
          · exact hw51.ext (hg50.ext hXe (fun c hc => (ho.block c hc).1)) (by omega)
          · exact (hB1.gr hg50 (ho.ncell hB1 (by decide))).wr hw51 (by omega)
          · exact (hB2.gr hg50 (ho.ncell hB2 (by decide))).wr hw51 (by omega)
          · exact hB351
          · rw [List.length_append, List.flatMap_append]; exact ho51
          · rw [List.length_append, hMl]; rfl
          · rw [List.map_append, hM, List.take_add_one, hq, List.map_append]; rfl
          · exact hall51
          · simp only [EN, Nat.reduceEqDiff, reduceIte, k1_1, k2_1, k3_1, k4_1, k5_1, i6_1, hB1.cell, hB2.cell, hB3.cell, hB4.cell] <;> first | rfl | (congr 1; omega)
    ·
      try simp only [BD] at hct21
      have hie2 : i = x.ps.length := (by omega)
      have hM9 : M.map PX.pt = x.ps.map PX.pt := (by rw [hM, hie2, List.take_length])
      obtain ⟨a8, c8, rfl, _, _⟩ := ho.shape
      refine hx_exit ?_
      refine th_exit ?_
      refine th_exit ?_
      refine bl_hit ?_
      refine th_norm ?_
      refine hx_seq ?_
      refine hx_region ?_
      refine WL.qq (by simp only [EN, Nat.reduceEqDiff, reduceIte, qv_load, ld45, readN, AR, Nat.zero_add, Nat.reduceAdd, k3_0, hB1.cell, hB2.cell, hB3.cell]; rfl) ?_
      refine WL.store (by simp only [EN, Nat.reduceEqDiff, reduceIte, k2_0, hB1.cell, hB2.cell, hB3.cell] <;> rfl) sz45 (by simp only [EN, Nat.reduceEqDiff, reduceIte, Value.cells, k2_0, hB1.cell, hB2.cell, hB3.cell] <;> rfl) rfl hB2 (by first | (simp [true_and]; done) | (simp [true_and]; omega) | omega) (by simp [Value.oneCell']) ?_
      intro h6 hw6
      have ho8 := ho.keep (fun c hc => hw6.same c (fun hh => by subst hh; exact ho.ncell hB2 (by decide) hc))
      have hMr8 := hMr.wr hw6 hB2 (by decide)
      have hX8 := hw6.ext hXe (by omega)
      replace hB2 := hw6.at_
      simp only [splc, List.take_succ_cons, List.take_zero, List.take_nil, List.drop_succ_cons, List.drop_zero, List.drop_nil, List.cons_append, List.nil_append, List.length_cons, List.length_nil, Nat.zero_add, Nat.add_zero, Nat.reduceAdd, List.append_nil] at hB2
      refine WL.nil ?_
      refine th_norm ?_
      refine hx_ret ?_
      refine fin_ret [.cell 2 45] rfl rfl (by simp only [EN, Nat.reduceEqDiff, reduceIte, resv, ld45, readN, AR, Nat.zero_add, Nat.reduceAdd, k1_0, k2_0, k3_0, i4_0, hB1.cell, hB2.cell, hB3.cell]; rfl) ?_  -- ret 0 r12
      exact ⟨hX8, ⟨x.s, x.day, x.mn, a8, M, c8⟩, rfl, by simp only [BX.bd]; rw [hM9], slG_own (f := ptL) (sz := 2) (fun _ => rfl) ho8 rfl, fun m hm => (hMr8 m hm).sl.rd⟩
end GL


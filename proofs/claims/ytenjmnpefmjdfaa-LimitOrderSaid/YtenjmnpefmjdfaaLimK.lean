/- Limits: the reference counts members and sets limits. -/
import Derived.Test.YtenjmnpefmjdfaaLimJ
set_option linter.unusedSimpArgs false
set_option linter.unusedVariables false
set_option linter.unnecessarySimpa false
namespace GL
open Go Go.Proofs
set_option maxRecDepth 8000
theorem flM_mem {F : List L2} {x : L2} {a : ByteArray} : a ∈ flM F x ↔ netR F x.1.f x.1.t ≠ 0 ∧ (a = x.1.f ∨ a = x.1.t) := by
  unfold flM
  by_cases h : netR F x.1.f x.1.t = 0
  · simp [h]
  · simp [h]
theorem c_rMent (al : Option Addr) (Ls : List L2) (cl : Nat) (af : Option Addr) (F : List L2) (cf : Nat) (hlL : Ls.length ≤ 100000) (hlF : F.length ≤ 100000) {h : Heap} (hs1 : SlG 3 limL h al Ls) (hs2 : SlG 3 limL h af F) :
    HCalls Try.prog 58 #[rfV al Ls.length cl af F.length cf] h (Grow (iV (cntR Ls F)) h) := by
  refine hcalls2 Try.func58 rfl (by decide +kernel) (by simp only [Try.ntmps58]; exact of_decide_eq_true rfl) ?_
  intro e hin
  have e0 := hin 0 _ rfl
  have k1 := hs1; have k2 := hs2
  refine hx_seq ?_
  refine hx_region ?_
  refine WL.box2 (by simp only [EN, Nat.reduceEqDiff, reduceIte, Value.cells, e0, strEq]; rfl) ?_
  intro h1 B1 hx1 hlt1 hB1
  replace hs1 := hs1.ext hx1
  replace hs2 := hs2.ext hx1
  refine WL.qq (by simp only [EN, Nat.reduceEqDiff, reduceIte, qv_assign, strEq, hB1.cell]; rfl) ?_
  refine WL.nil ?_
  refine th_norm ?_
  refine hx_seq ?_
  refine hx_region ?_
  refine WL.qq (by simp only [EN, Nat.reduceEqDiff, reduceIte, qv_assign, strEq, hB1.cell]; rfl) ?_
  refine WL.nil ?_
  refine th_norm ?_
  refine hx_seq ?_
  refine hx_seq ?_
  refine hx_region ?_
  refine WL.qq (by simp only [EN, Nat.reduceEqDiff, reduceIte, qv_assign, strEq, hB1.cell]; rfl) ?_
  refine WL.nil ?_
  refine th_norm ?_
  refine hx_block ?_
  refine hx_loopG [3, 4, 6, 7, 8, 9, 10, 11, 12, 13, 14, 15, 16, 17, 18, 19, 20, 21, 22, 23, 24, 25, 26, 27, 28, 29, 30, 31, 32, 33, 34, 35] (fun k e hL0 => ∃ (i : Nat) (l : List ByteArray) (v : Value), Ls.length - i = k ∧ (i ≤ Ls.length) ∧ (Ext h hL0) ∧ (Has hL0 B1 (.cells #[.slice al Ls.length cl, .slice af F.length cf] 41)) ∧ (Own hL0 h.size 9 1 v l.length (l.flatMap strL)) ∧ (l.Nodup) ∧ (∀ a, a ∈ l ↔ a ∈ ments (Ls.take i)) ∧ (l.length ≤ 2 * i) ∧ e 4 = .int .i64 i ∧ e 3 = v) _ ⟨0, [], .slice none 0 0, rfl, ?_, ?_, ?_, ?_, ?_, ?_, ?_, ?_, ?_⟩ ?_
  · omega
  · exact hx1
  · exact hB1
  · exact Own.nil
  · simp
  · intro a; simp [ments]
  · simp
  · simp only [EN, Nat.reduceEqDiff, reduceIte, e0, strEq, hB1.cell] <;> rfl
  · simp only [EN, Nat.reduceEqDiff, reduceIte, e0, strEq, hB1.cell] <;> rfl
  ·
    rintro k e0L hL0 hfr0 ⟨i, l, v, rfl, hi, hE, hB, ho, hnd, hm, hll, i4_0, i3_0⟩
    have k1_0 := hfr0 1 rfl; try simp only [EN, Nat.reduceEqDiff, reduceIte, strEq, hB1.cell] at k1_0
    have hs1 := k1.ext hE
    refine hx_seq ?_
    refine hx_seq ?_
    refine hx_region ?_
    refine WL.qq (by simp only [EN, Nat.reduceEqDiff, reduceIte, qv_move, i4_0, strEq, hB1.cell, hB.cell]; rfl) ?_
    refine WL.qq (by simp only [EN, Nat.reduceEqDiff, reduceIte, qv_fieldAddr, fa41_0, Nat.zero_add, Nat.reduceAdd, k1_0, strEq, hB1.cell, hB.cell]; rfl) ?_
    refine WL.qq (by simp only [EN, Nat.reduceEqDiff, reduceIte, qv_load, ld38, readN, AR, Nat.zero_add, Nat.reduceAdd, strEq, hB1.cell, hB.cell]; rfl) ?_
    refine WL.qq (by simp only [EN, Nat.reduceEqDiff, reduceIte, qv_len, ln38, AR, strEq, hB1.cell, hB.cell]; rfl) ?_
    refine WL.qq (by simp only [EN, Nat.reduceEqDiff, reduceIte, qv_binOp, binv_lss, strEq, hB1.cell, hB.cell]; rfl) ?_
    refine WL.nil ?_
    refine th_norm ?_
    refine hx_cond (by simp only [EN, Nat.reduceEqDiff, reduceIte, strEq, hB1.cell, hB.cell]; rfl) (fun hct10 => ?_) (fun hct10 => ?_)
    ·
      try simp only [BD] at hct10
      obtain ⟨x, hx⟩ := atG (l := Ls) (i := i) (by omega)
      obtain ⟨b, off, rfl, hr3, hc0, hc1, hc2⟩ := lim_rd hs1 hx
      refine hx_skip ?_
      refine th_norm ?_
      refine hx_seq ?_
      refine hx_block ?_
      refine hx_seq ?_
      refine hx_region ?_
      refine WL.qq (by simp only [EN, Nat.reduceEqDiff, reduceIte, qv_move, i3_0, strEq, hB1.cell, hB.cell]; rfl) ?_
      refine WL.qq (by simp only [EN, Nat.reduceEqDiff, reduceIte, qv_fieldAddr, fa41_0, Nat.zero_add, Nat.reduceAdd, k1_0, strEq, hB1.cell, hB.cell]; rfl) ?_
      refine WL.qq (by simp only [EN, Nat.reduceEqDiff, reduceIte, qv_load, ld38, readN, AR, Nat.zero_add, Nat.reduceAdd, strEq, hB1.cell, hB.cell]; rfl) ?_
      refine WL.qq (by simp only [EN, Nat.reduceEqDiff, reduceIte, qv_move, i4_0, strEq, hB1.cell, hB.cell]; rfl) ?_
      refine WL.qq (by simp only [EN, Nat.reduceEqDiff, reduceIte, qv_indexAddr, strEq, hB1.cell, hB.cell]; (try simp (disch := omega) only [ix38, Int.toNat_natCast]); rfl) ?_
      refine WL.qq (by simp only [EN, Nat.reduceEqDiff, reduceIte, qv_fieldAddr, fa57_0, Nat.zero_add, Nat.reduceAdd, strEq, hB1.cell, hB.cell]; rfl) ?_
      refine WL.qq (by simp only [EN, Nat.reduceEqDiff, reduceIte, k1_0, i4_0, i3_0, strEq, hB1.cell, hB.cell, qv_load, ld9, Int.toNat_natCast, Nat.add_zero, hc0]; rfl) ?_
      refine WL.ce Try.call65 (by simp only [EN, Nat.reduceEqDiff, reduceIte, AR, strEq, hB1.cell, hB.cell]; exact c_rAdd l x.1.f (by omega) rfl hE.size ho) ?_
      rintro v5 h5 ⟨ho5, hg5⟩
      simp only [put_some]
      replace hE := hg5.ext hE (fun c hc => (ho.block c hc).1)
      replace hB := hB.gr hg5 (ho.ncell hB (by decide))
      replace hs1 := k1.ext hE
      have hnd5 := addL_nd (s := x.1.f) hnd; have hl5 := addL_len (l := l) (s := x.1.f)
      obtain ⟨b', off', hbo, hr3', hc0', hc1', hc2'⟩ := lim_rd hs1 hx; cases hbo
      refine WL.qq (by simp only [EN, Nat.reduceEqDiff, reduceIte, qv_assign, strEq, hB1.cell, hB.cell]; rfl) ?_
      refine WL.nil ?_
      refine th_norm ?_
      refine hx_seq ?_
      refine hx_region ?_
      refine WL.qq (by simp only [EN, Nat.reduceEqDiff, reduceIte, qv_fieldAddr, fa41_0, Nat.zero_add, Nat.reduceAdd, k1_0, strEq, hB1.cell, hB.cell]; rfl) ?_
      refine WL.qq (by simp only [EN, Nat.reduceEqDiff, reduceIte, qv_load, ld38, readN, AR, Nat.zero_add, Nat.reduceAdd, strEq, hB1.cell, hB.cell]; rfl) ?_
      refine WL.qq (by simp only [EN, Nat.reduceEqDiff, reduceIte, qv_move, i4_0, strEq, hB1.cell, hB.cell]; rfl) ?_
      refine WL.qq (by simp only [EN, Nat.reduceEqDiff, reduceIte, qv_indexAddr, strEq, hB1.cell, hB.cell]; (try simp (disch := omega) only [ix38, Int.toNat_natCast]); rfl) ?_
      refine WL.qq (by simp only [EN, Nat.reduceEqDiff, reduceIte, qv_fieldAddr, fa57_1, Nat.zero_add, Nat.reduceAdd, strEq, hB1.cell, hB.cell]; rfl) ?_
      refine WL.qq (by simp only [EN, Nat.reduceEqDiff, reduceIte, k1_0, i4_0, i3_0, strEq, hB1.cell, hB.cell, qv_load, ld9, Int.toNat_natCast, hc1']; rfl) ?_
      refine WL.qq (by simp only [EN, Nat.reduceEqDiff, reduceIte, qv_binOp, binv_neq, eq9, Option.map_some, strEq, hB1.cell, hB.cell]; rfl) ?_
      refine WL.nil ?_
      refine th_norm ?_
      refine hx_cond (by simp only [EN, Nat.reduceEqDiff, reduceIte, strEq, hB1.cell, hB.cell]; rfl) (fun hct27 => ?_) (fun hct27 => ?_)
      ·
        try simp only [BD] at hct27
        refine hx_region ?_
        refine WL.qq (by simp only [EN, Nat.reduceEqDiff, reduceIte, qv_move, i3_0, strEq, hB1.cell, hB.cell]; rfl) ?_
        refine WL.qq (by simp only [EN, Nat.reduceEqDiff, reduceIte, qv_fieldAddr, fa41_0, Nat.zero_add, Nat.reduceAdd, k1_0, strEq, hB1.cell, hB.cell]; rfl) ?_
        refine WL.qq (by simp only [EN, Nat.reduceEqDiff, reduceIte, qv_load, ld38, readN, AR, Nat.zero_add, Nat.reduceAdd, strEq, hB1.cell, hB.cell]; rfl) ?_
        refine WL.qq (by simp only [EN, Nat.reduceEqDiff, reduceIte, qv_move, i4_0, strEq, hB1.cell, hB.cell]; rfl) ?_
        refine WL.qq (by simp only [EN, Nat.reduceEqDiff, reduceIte, qv_indexAddr, strEq, hB1.cell, hB.cell]; (try simp (disch := omega) only [ix38, Int.toNat_natCast]); rfl) ?_
        refine WL.qq (by simp only [EN, Nat.reduceEqDiff, reduceIte, qv_fieldAddr, fa57_1, Nat.zero_add, Nat.reduceAdd, strEq, hB1.cell, hB.cell]; rfl) ?_
        refine WL.qq (by simp only [EN, Nat.reduceEqDiff, reduceIte, k1_0, i4_0, i3_0, strEq, hB1.cell, hB.cell, qv_load, ld9, Int.toNat_natCast, hc1']; rfl) ?_
        refine WL.ce Try.call65 (by simp only [EN, Nat.reduceEqDiff, reduceIte, AR, strEq, hB1.cell, hB.cell]; exact c_rAdd (addL l x.1.f) x.1.t (by omega) rfl hE.size ho5) ?_
        rintro v7 h7 ⟨ho7, hg7⟩
        simp only [put_some]
        replace hE := hg7.ext hE (fun c hc => (ho5.block c hc).1)
        replace hB := hB.gr hg7 (ho5.ncell hB (by decide))
        have hnd7 := addL_nd (s := x.1.t) hnd5; have hl7 := addL_len (l := addL l x.1.f) (s := x.1.t)
        refine WL.qq (by simp only [EN, Nat.reduceEqDiff, reduceIte, qv_assign, strEq, hB1.cell, hB.cell]; rfl) ?_
        refine WL.nil ?_
        refine bl_norm ?_
        refine th_norm ?_
        refine hx_region ?_
        refine WL.qq (by simp only [EN, Nat.reduceEqDiff, reduceIte, qv_move, i4_0, strEq, hB1.cell, hB.cell]; rfl) ?_
        refine WL.qq (by simp only [EN, Nat.reduceEqDiff, reduceIte, qv_binOp, binv_add, strEq, hB1.cell, hB.cell]; (try simp (disch := omega) only [w64, w8, wu64]); rfl) ?_
        refine WL.qq (by simp only [EN, Nat.reduceEqDiff, reduceIte, qv_assign, strEq, hB1.cell, hB.cell]; rfl) ?_
        refine WL.nil ?_
        refine th_norm ?_
        refine ⟨rfl, ?_, _, ?_, i + 1, addL (addL l x.1.f) x.1.t, v7, rfl, ?_, ?_, ?_, ?_, ?_, ?_, ?_, ?_, ?_⟩  -- again 0 of loop 0
        · (repeat (first | exact Fr.refl _ _ | refine Fr.set rfl ?_ | refine Fr.put rfl ?_ | with_reducible refine Fr.put0 ?_))
        · omega
        · omega
        · exact hE
        · exact hB
        · exact ho7
        · exact hnd7
        · intro a; have hte : x.1.t ≠ em := (by simpa using hct27); rw [mem_addL, mem_addL, ments_take hx, hm a, ment, if_neg hte]; simp [or_assoc]
        · omega
        · simp only [EN, Nat.reduceEqDiff, reduceIte, k1_0, i4_0, i3_0, strEq, hB1.cell, hB.cell] <;> first | rfl | (congr 1; omega)
        · simp only [EN, Nat.reduceEqDiff, reduceIte, k1_0, i4_0, i3_0, strEq, hB1.cell, hB.cell] <;> first | rfl | (congr 1; omega)
      ·
        try simp only [BD] at hct27
        refine hx_skip ?_
        refine bl_norm ?_
        refine th_norm ?_
        refine hx_region ?_
        refine WL.qq (by simp only [EN, Nat.reduceEqDiff, reduceIte, qv_move, i4_0, strEq, hB1.cell, hB.cell]; rfl) ?_
        refine WL.qq (by simp only [EN, Nat.reduceEqDiff, reduceIte, qv_binOp, binv_add, strEq, hB1.cell, hB.cell]; (try simp (disch := omega) only [w64, w8, wu64]); rfl) ?_
        refine WL.qq (by simp only [EN, Nat.reduceEqDiff, reduceIte, qv_assign, strEq, hB1.cell, hB.cell]; rfl) ?_
        refine WL.nil ?_
        refine th_norm ?_
        refine ⟨rfl, ?_, _, ?_, i + 1, addL l x.1.f, v5, rfl, ?_, ?_, ?_, ?_, ?_, ?_, ?_, ?_, ?_⟩  -- again 1 of loop 0
        · (repeat (first | exact Fr.refl _ _ | refine Fr.set rfl ?_ | refine Fr.put rfl ?_ | with_reducible refine Fr.put0 ?_))
        · omega
        · omega
        · exact hE
        · exact hB
        · exact ho5
        · exact hnd5
        · intro a; have hte : x.1.t = em := (by simpa using hct27); rw [mem_addL, ments_take hx, hm a, ment, if_pos hte]; simp
        · omega
        · simp only [EN, Nat.reduceEqDiff, reduceIte, k1_0, i4_0, i3_0, strEq, hB1.cell, hB.cell] <;> first | rfl | (congr 1; omega)
        · simp only [EN, Nat.reduceEqDiff, reduceIte, k1_0, i4_0, i3_0, strEq, hB1.cell, hB.cell] <;> first | rfl | (congr 1; omega)
    ·
      try simp only [BD] at hct10
      have hil : Ls.length ≤ i := (by omega); rw [List.take_of_length_le hil] at hm
      refine hx_exit ?_
      refine th_exit ?_
      refine th_exit ?_
      refine bl_hit ?_
      refine th_norm ?_
      refine hx_seq ?_
      refine hx_seq ?_
      refine hx_region ?_
      refine WL.qq (by simp only [EN, Nat.reduceEqDiff, reduceIte, qv_assign, strEq, hB1.cell, hB.cell]; rfl) ?_
      refine WL.nil ?_
      refine th_norm ?_
      refine hx_block ?_
      refine hx_loopG [3, 5, 36, 37, 38, 39, 40, 41, 42, 43, 44, 45, 46, 47, 48, 49, 50, 51, 52, 53, 54, 55, 56, 57, 58, 59, 60, 61, 62, 63, 64, 65, 66, 67, 68, 69, 70, 71, 72, 73] (fun k e hL1 => ∃ (j : Nat) (l : List ByteArray) (v : Value), F.length - j = k ∧ (j ≤ F.length) ∧ (Ext h hL1) ∧ (Has hL1 B1 (.cells #[.slice al Ls.length cl, .slice af F.length cf] 41)) ∧ (Own hL1 h.size 9 1 v l.length (l.flatMap strL)) ∧ (l.Nodup) ∧ (∀ a, a ∈ l ↔ a ∈ ments Ls ∨ a ∈ (F.take j).flatMap (flM F)) ∧ (l.length ≤ 2 * Ls.length + 2 * j) ∧ e 5 = .int .i64 j ∧ e 3 = v) _ ⟨0, l, v, rfl, ?_, ?_, ?_, ?_, ?_, ?_, ?_, ?_, ?_⟩ ?_
      · omega
      · exact hE
      · exact hB
      · exact ho
      · exact hnd
      · intro a; rw [hm a]; simp
      · omega
      · simp only [EN, Nat.reduceEqDiff, reduceIte, k1_0, i4_0, i3_0, strEq, hB1.cell, hB.cell] <;> rfl
      · simp only [EN, Nat.reduceEqDiff, reduceIte, k1_0, i4_0, i3_0, strEq, hB1.cell, hB.cell] <;> rfl
      ·
        rintro k e1L hL1 hfr1 ⟨j, l, v, rfl, hj, hE, hB, ho, hnd, hm, hll, i5_1, i3_1⟩
        have k1_1 := hfr1 1 rfl; try simp only [EN, Nat.reduceEqDiff, reduceIte, k1_0, strEq, hB1.cell, hB.cell] at k1_1
        have hs2 := k2.ext hE
        refine hx_seq ?_
        refine hx_seq ?_
        refine hx_region ?_
        refine WL.qq (by simp only [EN, Nat.reduceEqDiff, reduceIte, qv_move, i5_1, strEq, hB1.cell, hB.cell, hB.cell]; rfl) ?_
        refine WL.qq (by simp only [EN, Nat.reduceEqDiff, reduceIte, qv_fieldAddr, fa41_1, Nat.zero_add, Nat.reduceAdd, k1_1, strEq, hB1.cell, hB.cell, hB.cell]; rfl) ?_
        refine WL.qq (by simp only [EN, Nat.reduceEqDiff, reduceIte, qv_load, ld39, readN, AR, Nat.zero_add, Nat.reduceAdd, strEq, hB1.cell, hB.cell, hB.cell]; rfl) ?_
        refine WL.qq (by simp only [EN, Nat.reduceEqDiff, reduceIte, qv_len, ln39, AR, strEq, hB1.cell, hB.cell, hB.cell]; rfl) ?_
        refine WL.qq (by simp only [EN, Nat.reduceEqDiff, reduceIte, qv_binOp, binv_lss, strEq, hB1.cell, hB.cell, hB.cell]; rfl) ?_
        refine WL.nil ?_
        refine th_norm ?_
        refine hx_cond (by simp only [EN, Nat.reduceEqDiff, reduceIte, strEq, hB1.cell, hB.cell, hB.cell]; rfl) (fun hct40 => ?_) (fun hct40 => ?_)
        ·
          try simp only [BD] at hct40
          obtain ⟨x, hx⟩ := atG (l := F) (i := j) (by omega)
          obtain ⟨b, off, rfl, hr3, hc0, hc1, hc2⟩ := lim_rd hs2 hx
          refine hx_skip ?_
          refine th_norm ?_
          refine hx_seq ?_
          refine hx_block ?_
          refine hx_seq ?_
          apply hx_draw2 Rel.grows [] [13] [(13, Spec.is _)] rfl (by decide +kernel) rfl
          refine LD.qq rfl rfl (by simp only [EN, Nat.reduceEqDiff, reduceIte, qv_load, ld41, readN, AR, Nat.zero_add, Nat.reduceAdd, k1_1, strEq, hB1.cell, hB.cell, hB.cell]; rfl) ?_
          refine LD.qq rfl rfl (by simp only [EN, Nat.reduceEqDiff, reduceIte, qv_fieldAddr, fa41_1, Nat.zero_add, Nat.reduceAdd, k1_1, strEq, hB1.cell, hB.cell, hB.cell]; rfl) ?_
          refine LD.qq rfl rfl (by simp only [EN, Nat.reduceEqDiff, reduceIte, qv_load, ld39, readN, AR, Nat.zero_add, Nat.reduceAdd, strEq, hB1.cell, hB.cell, hB.cell]; rfl) ?_
          refine LD.qq rfl rfl (by simp only [EN, Nat.reduceEqDiff, reduceIte, qv_move, i5_1, strEq, hB1.cell, hB.cell, hB.cell]; rfl) ?_
          refine LD.qq rfl rfl (by simp only [EN, Nat.reduceEqDiff, reduceIte, qv_indexAddr, strEq, hB1.cell, hB.cell, hB.cell]; (try simp (disch := omega) only [ix39, Int.toNat_natCast]); rfl) ?_
          refine LD.qq rfl rfl (by simp only [EN, Nat.reduceEqDiff, reduceIte, qv_fieldAddr, fa47_0, Nat.zero_add, Nat.reduceAdd, strEq, hB1.cell, hB.cell, hB.cell]; rfl) ?_
          refine LD.qq rfl rfl (by simp only [EN, Nat.reduceEqDiff, reduceIte, k1_1, i5_1, i3_1, strEq, hB1.cell, hB.cell, hB.cell, qv_load, ld9, Int.toNat_natCast, Nat.add_zero, hc0]; rfl) ?_
          refine LD.qq rfl rfl (by simp only [EN, Nat.reduceEqDiff, reduceIte, qv_fieldAddr, fa41_1, Nat.zero_add, Nat.reduceAdd, k1_1, strEq, hB1.cell, hB.cell, hB.cell]; rfl) ?_
          refine LD.qq rfl rfl (by simp only [EN, Nat.reduceEqDiff, reduceIte, qv_load, ld39, readN, AR, Nat.zero_add, Nat.reduceAdd, strEq, hB1.cell, hB.cell, hB.cell]; rfl) ?_
          refine LD.qq rfl rfl (by simp only [EN, Nat.reduceEqDiff, reduceIte, qv_move, i5_1, strEq, hB1.cell, hB.cell, hB.cell]; rfl) ?_
          refine LD.qq rfl rfl (by simp only [EN, Nat.reduceEqDiff, reduceIte, qv_indexAddr, strEq, hB1.cell, hB.cell, hB.cell]; (try simp (disch := omega) only [ix39, Int.toNat_natCast]); rfl) ?_
          refine LD.qq rfl rfl (by simp only [EN, Nat.reduceEqDiff, reduceIte, qv_fieldAddr, fa47_1, Nat.zero_add, Nat.reduceAdd, strEq, hB1.cell, hB.cell, hB.cell]; rfl) ?_
          refine LD.qq rfl rfl (by simp only [EN, Nat.reduceEqDiff, reduceIte, k1_1, i5_1, i3_1, strEq, hB1.cell, hB.cell, hB.cell, qv_load, ld9, Int.toNat_natCast, hc1]; rfl) ?_
          refine LD.ck rfl rfl Try.call50 (by intro hD hr; have hx : Ext _ _ := hr; have hB := hB.ext hx; have ho := ho.ext hx; have hE := hE.ext hx; simp only [EN, Nat.reduceEqDiff, reduceIte, AR, strEq, hB1.cell, hB.cell, hB.cell]; exact c_rNet al Ls.length cl _ F cf x.1.f x.1.t (by omega) (k2.ext hE)) ?_
          refine LD.qq rfl rfl (by simp only [EN, Nat.reduceEqDiff, reduceIte, qv_binOp, binv_neq, eq2, Option.map_some, strEq, hB1.cell, hB.cell, hB.cell]; rfl) ?_
          refine LD.nil ?_
          rintro h2 hx2 hF11
          replace hx2 : Ext _ _ := hx2
          replace hB := hB.ext hx2
          replace ho := ho.ext hx2
          replace hE := hE.ext hx2
          refine WL.nil ?_
          refine th_norm ?_
          refine hx_cond (by simp only [EN, Nat.reduceEqDiff, reduceIte, strEq, hB1.cell, hB.cell, hB.cell]; rfl) (fun hct57 => ?_) (fun hct57 => ?_)
          ·
            try simp only [BD] at hct57
            refine hx_seq ?_
            refine hx_region ?_
            have hs2 := k2.ext hE; obtain ⟨b', off', hbo, hr3', hc0', hc1', hc2'⟩ := lim_rd hs2 hx; cases hbo
            refine WL.qq (by simp only [EN, Nat.reduceEqDiff, reduceIte, qv_move, i3_1, strEq, hB1.cell, hB.cell, hB.cell]; rfl) ?_
            refine WL.qq (by simp only [EN, Nat.reduceEqDiff, reduceIte, qv_fieldAddr, fa41_1, Nat.zero_add, Nat.reduceAdd, k1_1, strEq, hB1.cell, hB.cell, hB.cell]; rfl) ?_
            refine WL.qq (by simp only [EN, Nat.reduceEqDiff, reduceIte, qv_load, ld39, readN, AR, Nat.zero_add, Nat.reduceAdd, strEq, hB1.cell, hB.cell, hB.cell]; rfl) ?_
            refine WL.qq (by simp only [EN, Nat.reduceEqDiff, reduceIte, qv_move, i5_1, strEq, hB1.cell, hB.cell, hB.cell]; rfl) ?_
            refine WL.qq (by simp only [EN, Nat.reduceEqDiff, reduceIte, qv_indexAddr, strEq, hB1.cell, hB.cell, hB.cell]; (try simp (disch := omega) only [ix39, Int.toNat_natCast]); rfl) ?_
            refine WL.qq (by simp only [EN, Nat.reduceEqDiff, reduceIte, qv_fieldAddr, fa47_0, Nat.zero_add, Nat.reduceAdd, strEq, hB1.cell, hB.cell, hB.cell]; rfl) ?_
            refine WL.qq (by simp only [EN, Nat.reduceEqDiff, reduceIte, k1_1, i5_1, i3_1, strEq, hB1.cell, hB.cell, hB.cell, qv_load, ld9, Int.toNat_natCast, Nat.add_zero, hc0']; rfl) ?_
            refine WL.ce Try.call65 (by simp only [EN, Nat.reduceEqDiff, reduceIte, AR, strEq, hB1.cell, hB.cell, hB.cell]; exact c_rAdd l x.1.f (by omega) rfl hE.size ho) ?_
            rintro v5 h5 ⟨ho5, hg5⟩
            simp only [put_some]
            replace hE := hg5.ext hE (fun c hc => (ho.block c hc).1)
            replace hB := hB.gr hg5 (ho.ncell hB (by decide))
            replace hs2 := k2.ext hE
            have hnd5 := addL_nd (s := x.1.f) hnd; have hl5 := addL_len (l := l) (s := x.1.f)
            obtain ⟨b', off', hbo, hr3', hc0', hc1', hc2'⟩ := lim_rd hs2 hx; cases hbo
            refine WL.qq (by simp only [EN, Nat.reduceEqDiff, reduceIte, qv_assign, strEq, hB1.cell, hB.cell, hB.cell]; rfl) ?_
            refine WL.nil ?_
            refine th_norm ?_
            refine hx_region ?_
            refine WL.qq (by simp only [EN, Nat.reduceEqDiff, reduceIte, qv_move, i3_1, strEq, hB1.cell, hB.cell, hB.cell]; rfl) ?_
            refine WL.qq (by simp only [EN, Nat.reduceEqDiff, reduceIte, qv_fieldAddr, fa41_1, Nat.zero_add, Nat.reduceAdd, k1_1, strEq, hB1.cell, hB.cell, hB.cell]; rfl) ?_
            refine WL.qq (by simp only [EN, Nat.reduceEqDiff, reduceIte, qv_load, ld39, readN, AR, Nat.zero_add, Nat.reduceAdd, strEq, hB1.cell, hB.cell, hB.cell]; rfl) ?_
            refine WL.qq (by simp only [EN, Nat.reduceEqDiff, reduceIte, qv_move, i5_1, strEq, hB1.cell, hB.cell, hB.cell]; rfl) ?_
            refine WL.qq (by simp only [EN, Nat.reduceEqDiff, reduceIte, qv_indexAddr, strEq, hB1.cell, hB.cell, hB.cell]; (try simp (disch := omega) only [ix39, Int.toNat_natCast]); rfl) ?_
            refine WL.qq (by simp only [EN, Nat.reduceEqDiff, reduceIte, qv_fieldAddr, fa47_1, Nat.zero_add, Nat.reduceAdd, strEq, hB1.cell, hB.cell, hB.cell]; rfl) ?_
            refine WL.qq (by simp only [EN, Nat.reduceEqDiff, reduceIte, k1_1, i5_1, i3_1, strEq, hB1.cell, hB.cell, hB.cell, qv_load, ld9, Int.toNat_natCast, hc1']; rfl) ?_
            refine WL.ce Try.call65 (by simp only [EN, Nat.reduceEqDiff, reduceIte, AR, strEq, hB1.cell, hB.cell, hB.cell]; exact c_rAdd (addL l x.1.f) x.1.t (by omega) rfl hE.size ho5) ?_
            rintro v7 h7 ⟨ho7, hg7⟩
            simp only [put_some]
            replace hE := hg7.ext hE (fun c hc => (ho5.block c hc).1)
            replace hB := hB.gr hg7 (ho5.ncell hB (by decide))
            have hnd7 := addL_nd (s := x.1.t) hnd5; have hl7 := addL_len (l := addL l x.1.f) (s := x.1.t)
            refine WL.qq (by simp only [EN, Nat.reduceEqDiff, reduceIte, qv_assign, strEq, hB1.cell, hB.cell, hB.cell]; rfl) ?_
            refine WL.nil ?_
            refine bl_norm ?_
            refine th_norm ?_
            refine hx_region ?_
            refine WL.qq (by simp only [EN, Nat.reduceEqDiff, reduceIte, qv_move, i5_1, strEq, hB1.cell, hB.cell, hB.cell]; rfl) ?_
            refine WL.qq (by simp only [EN, Nat.reduceEqDiff, reduceIte, qv_binOp, binv_add, strEq, hB1.cell, hB.cell, hB.cell]; (try simp (disch := omega) only [w64, w8, wu64]); rfl) ?_
            refine WL.qq (by simp only [EN, Nat.reduceEqDiff, reduceIte, qv_assign, strEq, hB1.cell, hB.cell, hB.cell]; rfl) ?_
            refine WL.nil ?_
            refine th_norm ?_
            refine ⟨rfl, ?_, _, ?_, j + 1, addL (addL l x.1.f) x.1.t, v7, rfl, ?_, ?_, ?_, ?_, ?_, ?_, ?_, ?_, ?_⟩  -- again 0 of loop 1
            · (repeat (first | exact Fr.refl _ _ | refine Fr.set rfl ?_ | refine Fr.put rfl ?_ | with_reducible refine Fr.put0 ?_))
            · omega
            · omega
            · exact hE
            · exact hB
            · exact ho7
            · exact hnd7
            · intro a; have hne : netR F x.1.f x.1.t ≠ 0 := (by simpa using hct57); rw [mem_addL, mem_addL, flM_take hx, hm a, flM_mem]; simp [hne, or_assoc]
            · omega
            · simp only [EN, Nat.reduceEqDiff, reduceIte, k1_1, i5_1, i3_1, strEq, hB1.cell, hB.cell, hB.cell] <;> first | rfl | (congr 1; omega)
            · simp only [EN, Nat.reduceEqDiff, reduceIte, k1_1, i5_1, i3_1, strEq, hB1.cell, hB.cell, hB.cell] <;> first | rfl | (congr 1; omega)
          ·
            try simp only [BD] at hct57
            refine hx_skip ?_
            refine bl_norm ?_
            refine th_norm ?_
            refine hx_region ?_
            refine WL.qq (by simp only [EN, Nat.reduceEqDiff, reduceIte, qv_move, i5_1, strEq, hB1.cell, hB.cell, hB.cell]; rfl) ?_
            refine WL.qq (by simp only [EN, Nat.reduceEqDiff, reduceIte, qv_binOp, binv_add, strEq, hB1.cell, hB.cell, hB.cell]; (try simp (disch := omega) only [w64, w8, wu64]); rfl) ?_
            refine WL.qq (by simp only [EN, Nat.reduceEqDiff, reduceIte, qv_assign, strEq, hB1.cell, hB.cell, hB.cell]; rfl) ?_
            refine WL.nil ?_
            refine th_norm ?_
            refine ⟨rfl, ?_, _, ?_, j + 1, l, v, rfl, ?_, ?_, ?_, ?_, ?_, ?_, ?_, ?_, ?_⟩  -- again 1 of loop 1
            · (repeat (first | exact Fr.refl _ _ | refine Fr.set rfl ?_ | refine Fr.put rfl ?_ | with_reducible refine Fr.put0 ?_))
            · omega
            · omega
            · exact hE
            · exact hB
            · exact ho
            · exact hnd
            · intro a; have hne : netR F x.1.f x.1.t = 0 := (by simpa using hct57); rw [flM_take hx, hm a, flM_mem]; simp [hne]
            · omega
            · simp only [EN, Nat.reduceEqDiff, reduceIte, k1_1, i5_1, i3_1, strEq, hB1.cell, hB.cell, hB.cell] <;> first | rfl | (congr 1; omega)
            · simp only [EN, Nat.reduceEqDiff, reduceIte, k1_1, i5_1, i3_1, strEq, hB1.cell, hB.cell, hB.cell] <;> first | rfl | (congr 1; omega)
        ·
          try simp only [BD] at hct40
          have hjl : F.length ≤ j := (by omega); rw [List.take_of_length_le hjl] at hm
          obtain ⟨a9, c9, hv9⟩ := ho.slice; subst hv9
          have hcnt : l.length = cntR Ls F := nub_len hnd (fun a => (by rw [hm a, List.mem_append]))
          refine hx_exit ?_
          refine th_exit ?_
          refine th_exit ?_
          refine bl_hit ?_
          refine th_norm ?_
          refine hx_seq ?_
          refine hx_region ?_
          refine WL.qq (by simp only [EN, Nat.reduceEqDiff, reduceIte, qv_move, i3_1, strEq, hB1.cell, hB.cell, hB.cell]; rfl) ?_
          refine WL.qq (by simp only [EN, Nat.reduceEqDiff, reduceIte, qv_len, ln37, AR, strEq, hB1.cell, hB.cell, hB.cell]; rfl) ?_
          refine WL.qq (by simp only [EN, Nat.reduceEqDiff, reduceIte, qv_assign, strEq, hB1.cell, hB.cell, hB.cell]; rfl) ?_
          refine WL.nil ?_
          refine th_norm ?_
          refine hx_ret ?_
          refine fin_ret [.tmp 2] rfl rfl (by simp only [EN, Nat.reduceEqDiff, reduceIte, resv, k1_1, i5_1, i3_1, strEq, hB1.cell, hB.cell, hB.cell]; rfl) ?_  -- ret 0 r14
          exact ⟨by simp [retOf, hcnt], hE⟩
/-! The reference sets a limit. -/
def insR (q : PK) (a : Int) : Bool → List L2 → List L2
  | d, [] => if d = true then [] else [(q, a)]
  | d, x :: l => if x.1 = q then insR q a d l else if d = false ∧ kLt q x.1 then (q, a) :: x :: insR q a true l else x :: insR q a d l
theorem insR_drop {Ls : List L2} {i : Nat} {x : L2} (hx : Ls[i]? = some x) (q : PK) (a : Int) (d : Bool) : insR q a d (Ls.drop i) = if x.1 = q then insR q a d (Ls.drop (i + 1)) else if d = false ∧ kLt q x.1 then (q, a) :: x :: insR q a true (Ls.drop (i + 1)) else x :: insR q a d (Ls.drop (i + 1)) := by
  rw [drop_atG hx]; rfl
theorem insR_len (q : PK) (a : Int) : ∀ (l : List L2) (d : Bool), (insR q a d l).length ≤ l.length + 1
  | [], d => by cases d <;> simp [insR]
  | x :: l, d => by
    have h1 := insR_len q a l d
    have h2 := insR_len q a l true
    have h3 : (insR q a true l).length ≤ l.length := by
      clear h1 h2
      induction l with
      | nil => simp [insR]
      | cons y l ih => simp only [insR]; split; (simp; omega); (simp; exact ih)
    simp only [insR]
    split
    · simp; omega
    · split
      · simp; omega
      · simp; omega
/-- The state in which the reference lays a new list. -/
structure ST (h0 : Heap) (B1 B2 B3 : Nat) (al : Option Addr) (n cl : Nat) (af : Option Addr) (m cf : Nat) (v : Value) (out : List L2) (hx : Heap) : Prop where
  E : Ext h0 hx
  b1 : Has hx B1 (.cells #[.slice al n cl, .slice af m cf] 41)
  b2 : Has hx B2 (.cells #[.slice none 0 0, .slice none 0 0] 41)
  b3 : Has hx B3 (.cells #[v, .slice af m cf] 41)
  ow : Own hx h0.size 57 3 v out.length (out.flatMap limL)
section
variable {h0 hx hy hz : Heap} {B1 B2 B3 : Nat} {al : Option Addr} {n cl : Nat} {af : Option Addr} {m cf : Nat} {v v' : Value} {out : List L2} {x : L2}
theorem ST.ext (hS : ST h0 B1 B2 B3 al n cl af m cf v out hx) (hE : Ext hx hy) : ST h0 B1 B2 B3 al n cl af m cf v out hy := ⟨hS.E.trans hE, hS.b1.ext hE, hS.b2.ext hE, hS.b3.ext hE, hS.ow.ext hE⟩
theorem ST.mid (hS : ST h0 B1 B2 B3 al n cl af m cf v out hx) (hg : Gr hx hy v.ownBlock) : Ext h0 hy ∧ Has hy B3 (.cells #[v, .slice af m cf] 41) :=
  ⟨hg.ext hS.E (fun c hc => (hS.ow.block c hc).1), hS.b3.gr hg (hS.ow.ncell hS.b3 (by decide))⟩
theorem ST.put (hS : ST h0 B1 B2 B3 al n cl af m cf v out hx) (hg : Gr hx hy v.ownBlock) (ho : Own hy h0.size 57 3 v' (out.length + 1) (out.flatMap limL ++ limL x)) (hw : Wr hy hz B3 (.cells (splc #[v, .slice af m cf] 0 [v']) 41))
    (h1 : B1 ≠ B3) (h2 : B2 ≠ B3) (h3 : h0.size ≤ B3) : ST h0 B1 B2 B3 al n cl af m cf v' (out ++ [x]) hz := by
  have hb3 := (hS.mid hg).2
  refine ⟨hw.ext (hS.mid hg).1 h3, (hS.b1.gr hg (hS.ow.ncell hS.b1 (by decide))).wr hw h1, (hS.b2.gr hg (hS.ow.ncell hS.b2 (by decide))).wr hw h2, hw.at_, ?_⟩
  rw [List.length_append, List.flatMap_append]
  have := ho.keep (h' := hz) (fun c hc => hw.same c fun hh => by subst hh; exact ho.ncell hb3 (by decide) hc)
  simpa using this
end
structure R2 (hx : Heap) (b : Nat) (cs : Array Value) : Prop where
  b1 : Has hx b (.cells cs 41)
  b3 : Has hx b (.cells cs 41)
set_option maxHeartbeats 1000000 in
theorem c_rset (al : Option Addr) (Ls : List L2) (cl : Nat) (af : Option Addr) (m cf : Nat) (q : PK) (a : Int) (hlL : Ls.length ≤ 100000) {h : Heap} (hs1 : SlG 3 limL h al Ls) :
    HCalls Try.prog 57 #[rfV al Ls.length cl af m cf, .string q.f, .string q.t, iV a] h fun v h' => Ext h h' ∧ ∃ vl, v = .agg #[vl, .slice af m cf] ∧ Own h' h.size 57 3 vl (insR q a (decide (a < 0)) Ls).length ((insR q a (decide (a < 0)) Ls).flatMap limL) := by
  refine hcalls2 Try.func57 rfl (by decide +kernel) (by simp only [Try.ntmps57]; exact of_decide_eq_true rfl) ?_
  intro e hin
  have e0 := hin 0 _ rfl
  have e1 := hin 1 _ rfl
  have e2 := hin 2 _ rfl
  have e3 := hin 3 _ rfl
  have k1 := hs1
  refine hx_seq ?_
  refine hx_region ?_
  refine WL.box2 (by simp only [EN, Nat.reduceEqDiff, reduceIte, Value.cells, e0, strEq]; rfl) ?_
  intro h1 B1 hx1 hlt1 hB1
  replace hs1 := hs1.ext hx1
  have hl1 := (Array.getElem?_eq_some_iff.1 hB1).1
  refine WL.alloc2 zr41 ?_
  intro h2 B2 hx2 hlt2 hB2
  replace hs1 := hs1.ext hx2
  replace hB1 := hB1.ext hx2
  simp only [Value.cells] at hB2
  refine WL.nil ?_
  refine th_norm ?_
  refine hx_seq ?_
  refine hx_region ?_
  have hl2 := (Array.getElem?_eq_some_iff.1 hB2).1
  refine WL.qq (by simp only [EN, Nat.reduceEqDiff, reduceIte, qv_fieldAddr, fa41_1, Nat.zero_add, Nat.reduceAdd, strEq, hB1.cell, hB2.cell]; rfl) ?_
  refine WL.qq (by simp only [EN, Nat.reduceEqDiff, reduceIte, qv_load, ld39, readN, AR, Nat.zero_add, Nat.reduceAdd, strEq, hB1.cell, hB2.cell]; rfl) ?_
  refine WL.qq (by refine qv_bld (by simp only [EN, Nat.reduceEqDiff, reduceIte, AR, strEq, hB1.cell, hB2.cell] <;> rfl) (by rw [bl41]; simp [Instr.fill, Value.cells]; rfl)) ?_
  refine WL.allocSt zr41 sz41 (fun u => by simp only [EN, Nat.reduceEqDiff, reduceIte, Value.cells, strEq, hB1.cell, hB2.cell]; rfl) ⟨rfl, rfl⟩ (by simp [Value.oneCell']) ?_
  intro h3 B3 hx3 hlt3 hB3
  replace hs1 := hs1.ext hx3
  replace hB1 := hB1.ext hx3
  replace hB2 := hB2.ext hx3
  refine WL.nil ?_
  refine th_norm ?_
  refine hx_seq ?_
  refine hx_region ?_
  have hS : ST h B1 B2 B3 al Ls.length cl af m cf (.slice none 0 0) [] h3 := ⟨((hx1).trans ((hx2).trans (hx3))), hB1, hB2, hB3, Own.nil⟩
  have hs1z := hx1.size; have hs2z := hx2.size
  have hn1 : B1 ≠ B3 := (by omega); have hn2 : B2 ≠ B3 := (by omega); have hn3 : h.size ≤ B3 := (by omega); have hn2h : h.size ≤ B2 := (by omega)
  refine WL.qq (by simp only [EN, Nat.reduceEqDiff, reduceIte, qv_move, e3, strEq, hB1.cell, hB2.cell, hB3.cell]; rfl) ?_
  refine WL.qq (by simp only [EN, Nat.reduceEqDiff, reduceIte, qv_binOp, binv_lss, strEq, hB1.cell, hB2.cell, hB3.cell]; rfl) ?_
  refine WL.qq (by simp only [EN, Nat.reduceEqDiff, reduceIte, qv_assign, strEq, hB1.cell, hB2.cell, hB3.cell]; rfl) ?_
  refine WL.nil ?_
  refine th_norm ?_
  refine hx_seq ?_
  refine hx_seq ?_
  refine hx_region ?_
  refine WL.qq (by simp only [EN, Nat.reduceEqDiff, reduceIte, qv_assign, strEq, hB1.cell, hB2.cell, hB3.cell]; rfl) ?_
  refine WL.nil ?_
  refine th_norm ?_
  refine hx_block ?_
  refine hx_loopG [10, 11, 12, 18, 19, 20, 21, 22, 23, 24, 25, 26, 27, 28, 29, 30, 31, 32, 33, 34, 35, 36, 37, 38, 39, 40, 41, 42, 43, 44, 45, 46, 47, 48, 49, 50, 51, 52, 53, 54, 55, 56, 57, 58, 59, 60, 61, 62, 63, 64, 65, 66, 67, 68, 69, 70, 71, 72, 73, 74] (fun k e hL0 => ∃ (i : Nat) (d : Bool) (out : List L2) (v : Value), Ls.length - i = k ∧ (i ≤ Ls.length) ∧ (ST h B1 B2 B3 al Ls.length cl af m cf v out hL0) ∧ (out ++ insR q a d (Ls.drop i) = insR q a (decide (a < 0)) Ls) ∧ e 11 = .int .i64 i ∧ e 10 = .bool d) _ ⟨0, decide (a < 0), [], .slice none 0 0, rfl, ?_, ?_, ?_, ?_, ?_⟩ ?_
  · omega
  · exact hS
  · rfl
  · simp only [EN, Nat.reduceEqDiff, reduceIte, e0, e1, e2, e3, strEq, hB1.cell, hB2.cell, hB3.cell] <;> rfl
  · simp only [EN, Nat.reduceEqDiff, reduceIte, e0, e1, e2, e3, strEq, hB1.cell, hB2.cell, hB3.cell] <;> rfl
  ·
    rintro k e0L hL0 hfr0 ⟨i, d, out, v, rfl, hi, hS, hr, i11_0, i10_0⟩
    have k1_0 := hfr0 1 rfl; try simp only [EN, Nat.reduceEqDiff, reduceIte, e1, strEq, hB1.cell, hB2.cell, hB3.cell] at k1_0
    have k2_0 := hfr0 2 rfl; try simp only [EN, Nat.reduceEqDiff, reduceIte, e2, strEq, hB1.cell, hB2.cell, hB3.cell] at k2_0
    have k3_0 := hfr0 3 rfl; try simp only [EN, Nat.reduceEqDiff, reduceIte, e3, strEq, hB1.cell, hB2.cell, hB3.cell] at k3_0
    have k4_0 := hfr0 4 rfl; try simp only [EN, Nat.reduceEqDiff, reduceIte, strEq, hB1.cell, hB2.cell, hB3.cell] at k4_0
    have k8_0 := hfr0 8 rfl; try simp only [EN, Nat.reduceEqDiff, reduceIte, strEq, hB1.cell, hB2.cell, hB3.cell] at k8_0
    have k9_0 := hfr0 9 rfl; try simp only [EN, Nat.reduceEqDiff, reduceIte, strEq, hB1.cell, hB2.cell, hB3.cell] at k9_0
    have hs1 := k1.ext hS.E; have hln := insR_len q a Ls (decide (a < 0)); rw [← hr, List.length_append] at hln
    refine hx_seq ?_
    refine hx_seq ?_
    refine hx_region ?_
    refine WL.qq (by simp only [EN, Nat.reduceEqDiff, reduceIte, qv_move, i11_0, strEq, hB1.cell, hB2.cell, hB3.cell, hS.b1.cell, hS.b3.cell]; rfl) ?_
    refine WL.qq (by simp only [EN, Nat.reduceEqDiff, reduceIte, qv_fieldAddr, fa41_0, Nat.zero_add, Nat.reduceAdd, k4_0, strEq, hB1.cell, hB2.cell, hB3.cell, hS.b1.cell, hS.b3.cell]; rfl) ?_
    refine WL.qq (by simp only [EN, Nat.reduceEqDiff, reduceIte, qv_load, ld38, readN, AR, Nat.zero_add, Nat.reduceAdd, strEq, hB1.cell, hB2.cell, hB3.cell, hS.b1.cell, hS.b3.cell]; rfl) ?_
    refine WL.qq (by simp only [EN, Nat.reduceEqDiff, reduceIte, qv_len, ln38, AR, strEq, hB1.cell, hB2.cell, hB3.cell, hS.b1.cell, hS.b3.cell]; rfl) ?_
    refine WL.qq (by simp only [EN, Nat.reduceEqDiff, reduceIte, qv_binOp, binv_lss, strEq, hB1.cell, hB2.cell, hB3.cell, hS.b1.cell, hS.b3.cell]; rfl) ?_
    refine WL.nil ?_
    refine th_norm ?_
    refine hx_cond (by simp only [EN, Nat.reduceEqDiff, reduceIte, strEq, hB1.cell, hB2.cell, hB3.cell, hS.b1.cell, hS.b3.cell]; rfl) (fun hct22 => ?_) (fun hct22 => ?_)
    ·
      try simp only [BD] at hct22
      obtain ⟨x, hx⟩ := atG (l := Ls) (i := i) (by omega)
      obtain ⟨b, off, rfl, hr3, hc0, hc1, hc2⟩ := lim_rd hs1 hx
      have hdr := insR_drop hx q a d
      refine hx_skip ?_
      refine th_norm ?_
      refine hx_seq ?_
      refine hx_block ?_
      refine hx_seq ?_
      refine hx_region ?_
      refine WL.qq (by simp only [EN, Nat.reduceEqDiff, reduceIte, qv_fieldAddr, fa41_0, Nat.zero_add, Nat.reduceAdd, k4_0, strEq, hB1.cell, hB2.cell, hB3.cell, hS.b1.cell, hS.b3.cell]; rfl) ?_
      refine WL.qq (by simp only [EN, Nat.reduceEqDiff, reduceIte, qv_load, ld38, readN, AR, Nat.zero_add, Nat.reduceAdd, strEq, hB1.cell, hB2.cell, hB3.cell, hS.b1.cell, hS.b3.cell]; rfl) ?_
      refine WL.qq (by simp only [EN, Nat.reduceEqDiff, reduceIte, qv_move, i11_0, strEq, hB1.cell, hB2.cell, hB3.cell, hS.b1.cell, hS.b3.cell]; rfl) ?_
      refine WL.qq (by simp only [EN, Nat.reduceEqDiff, reduceIte, qv_indexAddr, strEq, hB1.cell, hB2.cell, hB3.cell, hS.b1.cell, hS.b3.cell]; (try simp (disch := omega) only [ix38, Int.toNat_natCast]); rfl) ?_
      refine WL.qq (by simp only [EN, Nat.reduceEqDiff, reduceIte, k1_0, k2_0, k3_0, k4_0, k8_0, k9_0, i11_0, i10_0, strEq, hB1.cell, hB2.cell, hB3.cell, hS.b1.cell, hS.b3.cell, qv_load, ld57, Int.toNat_natCast, hr3]; rfl) ?_
      have hs0 := hS.ow.block; have hz3 := (Array.getElem?_eq_some_iff.1 hS.b3).1
      refine WL.allocSt zr57 sz57 (fun u => by simp only [EN, Nat.reduceEqDiff, reduceIte, Value.cells, strEq, hB1.cell, hB2.cell, hB3.cell, hS.b1.cell, hS.b3.cell]; rfl) ⟨rfl, rfl⟩ (by simp [Value.oneCell']) ?_
      intro h4 B4 hx4 hlt4 hB4
      replace hS := hS.ext hx4
      refine WL.nil ?_
      refine th_norm ?_
      refine hx_seq ?_
      refine hx_seq ?_
      refine hx_region ?_
      have hn4 : v.ownBlock ≠ some B4 := fun hh => (by have := (hs0 _ hh).2; omega)
      have hn34 : B4 ≠ B3 := (by omega)
      refine WL.qq (by simp only [EN, Nat.reduceEqDiff, reduceIte, qv_fieldAddr, fa57_0, Nat.zero_add, Nat.reduceAdd, strEq, hB1.cell, hB2.cell, hB3.cell, hS.b1.cell, hS.b3.cell, hB4.cell]; rfl) ?_
      refine WL.qq (by simp only [EN, Nat.reduceEqDiff, reduceIte, qv_load, ld9, readN, AR, Nat.zero_add, Nat.reduceAdd, strEq, hB1.cell, hB2.cell, hB3.cell, hS.b1.cell, hS.b3.cell, hB4.cell]; rfl) ?_
      refine WL.qq (by simp only [EN, Nat.reduceEqDiff, reduceIte, qv_move, k1_0, strEq, hB1.cell, hB2.cell, hB3.cell, hS.b1.cell, hS.b3.cell, hB4.cell]; rfl) ?_
      refine WL.qq (by simp only [EN, Nat.reduceEqDiff, reduceIte, qv_binOp, binv_eql, eq9, Option.map_some, strEq, hB1.cell, hB2.cell, hB3.cell, hS.b1.cell, hS.b3.cell, hB4.cell]; rfl) ?_
      refine WL.qq (by simp only [EN, Nat.reduceEqDiff, reduceIte, qv_move, strEq, hB1.cell, hB2.cell, hB3.cell, hS.b1.cell, hS.b3.cell, hB4.cell]; rfl) ?_
      refine WL.cq (gd_at (t := 34) rfl (by simp only [EN, Nat.reduceEqDiff, reduceIte, strEq, hB1.cell, hB2.cell, hB3.cell, hS.b1.cell, hS.b3.cell, hB4.cell] <;> rfl)) (fun hg7_5 => by simp only [EN, Nat.reduceEqDiff, reduceIte, qv_fieldAddr, fa57_1, Nat.zero_add, Nat.reduceAdd, strEq, hB1.cell, hB2.cell, hB3.cell, hS.b1.cell, hS.b3.cell, hB4.cell, hg7_5, GR]; rfl) ?_
      refine WL.cq (gd_at (t := 34) rfl (by simp only [EN, Nat.reduceEqDiff, reduceIte, strEq, hB1.cell, hB2.cell, hB3.cell, hS.b1.cell, hS.b3.cell, hB4.cell] <;> rfl)) (fun hg7_6 => by simp only [EN, Nat.reduceEqDiff, reduceIte, qv_load, ld9, readN, AR, Nat.zero_add, Nat.reduceAdd, strEq, hB1.cell, hB2.cell, hB3.cell, hS.b1.cell, hS.b3.cell, hB4.cell, hg7_6, GR]; rfl) ?_
      refine WL.cq (gd_at (t := 34) rfl (by simp only [EN, Nat.reduceEqDiff, reduceIte, k2_0, strEq, hB1.cell, hB2.cell, hB3.cell, hS.b1.cell, hS.b3.cell, hB4.cell] <;> rfl)) (fun hg7_7 => by simp only [EN, Nat.reduceEqDiff, reduceIte, qv_move, k2_0, strEq, hB1.cell, hB2.cell, hB3.cell, hS.b1.cell, hS.b3.cell, hB4.cell, hg7_7, GR]; rfl) ?_
      refine WL.cq (gd_at (t := 34) rfl (by simp only [EN, Nat.reduceEqDiff, reduceIte, strEq, hB1.cell, hB2.cell, hB3.cell, hS.b1.cell, hS.b3.cell, hB4.cell] <;> rfl)) (fun hg7_8 => by simp only [EN, Nat.reduceEqDiff, reduceIte, qv_binOp, binv_eql, eq9, Option.map_some, strEq, hB1.cell, hB2.cell, hB3.cell, hS.b1.cell, hS.b3.cell, hB4.cell, hg7_8, GR]; rfl) ?_
      refine WL.qq (by simp only [EN, Nat.reduceEqDiff, reduceIte, qv_pick, pk_and, pk_or, GR, strEq, hB1.cell, hB2.cell, hB3.cell, hS.b1.cell, hS.b3.cell, hB4.cell]; rfl) ?_
      refine WL.nil ?_
      refine th_norm ?_
      refine hx_cond (by simp only [EN, Nat.reduceEqDiff, reduceIte, strEq, hB1.cell, hB2.cell, hB3.cell, hS.b1.cell, hS.b3.cell, hB4.cell]; rfl) (fun hct39 => ?_) (fun hct39 => ?_)
      ·
        try simp only [BD] at hct39
        refine hx_exit ?_
        refine th_exit ?_
        refine bl_hit ?_
        refine th_norm ?_
        refine hx_region ?_
        refine WL.qq (by simp only [EN, Nat.reduceEqDiff, reduceIte, qv_move, i11_0, strEq, hB1.cell, hB2.cell, hB3.cell, hS.b1.cell, hS.b3.cell, hB4.cell]; rfl) ?_
        refine WL.qq (by simp only [EN, Nat.reduceEqDiff, reduceIte, qv_binOp, binv_add, strEq, hB1.cell, hB2.cell, hB3.cell, hS.b1.cell, hS.b3.cell, hB4.cell]; (try simp (disch := omega) only [w64, w8, wu64]); rfl) ?_
        refine WL.qq (by simp only [EN, Nat.reduceEqDiff, reduceIte, qv_assign, strEq, hB1.cell, hB2.cell, hB3.cell, hS.b1.cell, hS.b3.cell, hB4.cell]; rfl) ?_
        refine WL.nil ?_
        refine th_norm ?_
        refine ⟨rfl, ?_, _, ?_, i + 1, d, out, v, rfl, ?_, ?_, ?_, ?_, ?_⟩  -- again 0 of loop 0
        · (repeat (first | exact Fr.refl _ _ | refine Fr.set rfl ?_ | refine Fr.put rfl ?_ | with_reducible refine Fr.put0 ?_))
        · omega
        · omega
        · exact hS
        · rw [hdr, if_pos (pk_eq.2 (by simpa using hct39))] at hr; exact hr
        · simp only [EN, Nat.reduceEqDiff, reduceIte, k1_0, k2_0, k3_0, k4_0, k8_0, k9_0, i11_0, i10_0, strEq, hB1.cell, hB2.cell, hB3.cell, hS.b1.cell, hS.b3.cell, hB4.cell] <;> first | rfl | (congr 1; omega)
        · simp only [EN, Nat.reduceEqDiff, reduceIte, k1_0, k2_0, k3_0, k4_0, k8_0, k9_0, i11_0, i10_0, strEq, hB1.cell, hB2.cell, hB3.cell, hS.b1.cell, hS.b3.cell, hB4.cell] <;> first | rfl | (congr 1; omega)
      ·
        try simp only [BD] at hct39
        have hxq : ¬ x.1 = q := fun hh => (by rw [hh] at hct39; simp at hct39)
        rw [hdr, if_neg hxq] at hr
        refine hx_skip ?_
        refine th_norm ?_
        refine hx_cutG [10, 40, 41, 42, 43, 44, 45, 46, 47, 48, 49, 50, 51, 52, 53, 54, 55, 56, 57, 58, 59, 60, 61, 62, 63, 64, 65, 66, 67, 68] (fun e hC8 => ∃ (v2 : Value) (out2 : List L2) (d2 : Bool), (ST h B1 B2 B3 (some ⟨b, off, none⟩) Ls.length cl af m cf v2 out2 hC8) ∧ (Has hC8 B4 (.cells #[.string x.1.f, .string x.1.t, iV x.2] 57)) ∧ (v2.ownBlock ≠ some B4) ∧ (out2 ++ x :: insR q a d2 (Ls.drop (i + 1)) = insR q a (decide (a < 0)) Ls) ∧ e 10 = .bool d2) ?_ ?_
        ·
          refine hx_seq ?_
          refine hx_region ?_
          refine WL.qq (by simp only [EN, Nat.reduceEqDiff, reduceIte, qv_move, i10_0, strEq, hB1.cell, hB2.cell, hB3.cell, hS.b1.cell, hS.b3.cell, hB4.cell]; rfl) ?_
          refine WL.qq (by simp only [EN, Nat.reduceEqDiff, reduceIte, qv_unOp, unv_not, strEq, hB1.cell, hB2.cell, hB3.cell, hS.b1.cell, hS.b3.cell, hB4.cell]; rfl) ?_
          refine WL.qq (by simp only [EN, Nat.reduceEqDiff, reduceIte, qv_move, strEq, hB1.cell, hB2.cell, hB3.cell, hS.b1.cell, hS.b3.cell, hB4.cell]; rfl) ?_
          refine WL.cq (gd_at (t := 42) rfl (by simp only [EN, Nat.reduceEqDiff, reduceIte, strEq, hB1.cell, hB2.cell, hB3.cell, hS.b1.cell, hS.b3.cell, hB4.cell] <;> rfl)) (fun hg8_3 => by simp only [EN, Nat.reduceEqDiff, reduceIte, qv_fieldAddr, fa57_0, Nat.zero_add, Nat.reduceAdd, strEq, hB1.cell, hB2.cell, hB3.cell, hS.b1.cell, hS.b3.cell, hB4.cell, hg8_3, GR]; rfl) ?_
          refine WL.cq (gd_at (t := 42) rfl (by simp only [EN, Nat.reduceEqDiff, reduceIte, strEq, hB1.cell, hB2.cell, hB3.cell, hS.b1.cell, hS.b3.cell, hB4.cell] <;> rfl)) (fun hg8_4 => by simp only [EN, Nat.reduceEqDiff, reduceIte, qv_load, ld9, readN, AR, Nat.zero_add, Nat.reduceAdd, strEq, hB1.cell, hB2.cell, hB3.cell, hS.b1.cell, hS.b3.cell, hB4.cell, hg8_4, GR]; rfl) ?_
          refine WL.cq (gd_at (t := 42) rfl (by simp only [EN, Nat.reduceEqDiff, reduceIte, k1_0, strEq, hB1.cell, hB2.cell, hB3.cell, hS.b1.cell, hS.b3.cell, hB4.cell] <;> rfl)) (fun hg8_5 => by simp only [EN, Nat.reduceEqDiff, reduceIte, qv_move, k1_0, strEq, hB1.cell, hB2.cell, hB3.cell, hS.b1.cell, hS.b3.cell, hB4.cell, hg8_5, GR]; rfl) ?_
          refine WL.cq (gd_at (t := 42) rfl (by simp only [EN, Nat.reduceEqDiff, reduceIte, strEq, hB1.cell, hB2.cell, hB3.cell, hS.b1.cell, hS.b3.cell, hB4.cell] <;> rfl)) (fun hg8_6 => by simp only [EN, Nat.reduceEqDiff, reduceIte, k1_0, k2_0, k3_0, k4_0, k8_0, k9_0, i11_0, i10_0, strEq, hB1.cell, hB2.cell, hB3.cell, hS.b1.cell, hS.b3.cell, hB4.cell, GR, hg8_6, qv_binOp, binv_gtrS]; rfl) ?_
          refine WL.cq (gd_at (t := 42) rfl (by simp only [EN, Nat.reduceEqDiff, reduceIte, strEq, hB1.cell, hB2.cell, hB3.cell, hS.b1.cell, hS.b3.cell, hB4.cell] <;> rfl)) (fun hg8_7 => by simp only [EN, Nat.reduceEqDiff, reduceIte, qv_move, strEq, hB1.cell, hB2.cell, hB3.cell, hS.b1.cell, hS.b3.cell, hB4.cell, hg8_7, GR]; rfl) ?_
          refine WL.cq2 (t := 47) rfl (by simp only [EN, Nat.reduceEqDiff, reduceIte, strEq, hB1.cell, hB2.cell, hB3.cell, hS.b1.cell, hS.b3.cell, hB4.cell]; rfl) (fun hC8_8 hg8_8 => by simp only [EN, Nat.reduceEqDiff, reduceIte, qv_fieldAddr, fa57_0, Nat.zero_add, Nat.reduceAdd, strEq, hB1.cell, hB2.cell, hB3.cell, hS.b1.cell, hS.b3.cell, hB4.cell, hC8_8, hg8_8, GR]; rfl) ?_
          refine WL.cq2 (t := 47) rfl (by simp only [EN, Nat.reduceEqDiff, reduceIte, strEq, hB1.cell, hB2.cell, hB3.cell, hS.b1.cell, hS.b3.cell, hB4.cell]; rfl) (fun hC8_9 hg8_9 => by simp only [EN, Nat.reduceEqDiff, reduceIte, qv_load, ld9, readN, AR, Nat.zero_add, Nat.reduceAdd, strEq, hB1.cell, hB2.cell, hB3.cell, hS.b1.cell, hS.b3.cell, hB4.cell, hC8_9, hg8_9, GR]; rfl) ?_
          refine WL.cq2 (t := 47) rfl (by simp only [EN, Nat.reduceEqDiff, reduceIte, k1_0, strEq, hB1.cell, hB2.cell, hB3.cell, hS.b1.cell, hS.b3.cell, hB4.cell]; rfl) (fun hC8_10 hg8_10 => by simp only [EN, Nat.reduceEqDiff, reduceIte, qv_move, k1_0, strEq, hB1.cell, hB2.cell, hB3.cell, hS.b1.cell, hS.b3.cell, hB4.cell, hC8_10, hg8_10, GR]; rfl) ?_
          refine WL.cq2 (t := 47) rfl (by simp only [EN, Nat.reduceEqDiff, reduceIte, strEq, hB1.cell, hB2.cell, hB3.cell, hS.b1.cell, hS.b3.cell, hB4.cell]; rfl) (fun hC8_11 hg8_11 => by have hC8_11o := hC8_11; (try simp only [hg8_11] at hC8_11); simp only [EN, Nat.reduceEqDiff, reduceIte, qv_binOp, binv_eql, eq9, Option.map_some, strEq, hB1.cell, hB2.cell, hB3.cell, hS.b1.cell, hS.b3.cell, hB4.cell, hC8_11o, hC8_11, hg8_11, GR]; rfl) ?_
          refine WL.cq2 (t := 47) rfl (by simp only [EN, Nat.reduceEqDiff, reduceIte, strEq, hB1.cell, hB2.cell, hB3.cell, hS.b1.cell, hS.b3.cell, hB4.cell]; rfl) (fun hC8_12 hg8_12 => by simp only [EN, Nat.reduceEqDiff, reduceIte, qv_move, strEq, hB1.cell, hB2.cell, hB3.cell, hS.b1.cell, hS.b3.cell, hB4.cell, hC8_12, hg8_12, GR]; rfl) ?_
          refine WL.cq2 (t := 52) rfl (by simp only [EN, Nat.reduceEqDiff, reduceIte, strEq, hB1.cell, hB2.cell, hB3.cell, hS.b1.cell, hS.b3.cell, hB4.cell]; rfl) (fun hC8_13 hg8_13 => by simp only [EN, Nat.reduceEqDiff, reduceIte, qv_fieldAddr, fa57_1, Nat.zero_add, Nat.reduceAdd, strEq, hB1.cell, hB2.cell, hB3.cell, hS.b1.cell, hS.b3.cell, hB4.cell, hC8_13, hg8_13, GR]; rfl) ?_
          refine WL.cq2 (t := 52) rfl (by simp only [EN, Nat.reduceEqDiff, reduceIte, strEq, hB1.cell, hB2.cell, hB3.cell, hS.b1.cell, hS.b3.cell, hB4.cell]; rfl) (fun hC8_14 hg8_14 => by simp only [EN, Nat.reduceEqDiff, reduceIte, qv_load, ld9, readN, AR, Nat.zero_add, Nat.reduceAdd, strEq, hB1.cell, hB2.cell, hB3.cell, hS.b1.cell, hS.b3.cell, hB4.cell, hC8_14, hg8_14, GR]; rfl) ?_
          refine WL.cq2 (t := 52) rfl (by simp only [EN, Nat.reduceEqDiff, reduceIte, k2_0, strEq, hB1.cell, hB2.cell, hB3.cell, hS.b1.cell, hS.b3.cell, hB4.cell]; rfl) (fun hC8_15 hg8_15 => by simp only [EN, Nat.reduceEqDiff, reduceIte, qv_move, k2_0, strEq, hB1.cell, hB2.cell, hB3.cell, hS.b1.cell, hS.b3.cell, hB4.cell, hC8_15, hg8_15, GR]; rfl) ?_
          refine WL.cq2 (t := 52) rfl (by simp only [EN, Nat.reduceEqDiff, reduceIte, strEq, hB1.cell, hB2.cell, hB3.cell, hS.b1.cell, hS.b3.cell, hB4.cell]; rfl) (fun hC8_16 hg8_16 => by simp only [EN, Nat.reduceEqDiff, reduceIte, k1_0, k2_0, k3_0, k4_0, k8_0, k9_0, i11_0, i10_0, strEq, hB1.cell, hB2.cell, hB3.cell, hS.b1.cell, hS.b3.cell, hB4.cell, hC8_16, GR, hg8_16, qv_binOp, binv_gtrS]; rfl) ?_
          refine WL.cq2 (t := 47) rfl (by simp only [EN, Nat.reduceEqDiff, reduceIte, strEq, hB1.cell, hB2.cell, hB3.cell, hS.b1.cell, hS.b3.cell, hB4.cell]; rfl) (fun hC8_17 hg8_17 => by have hC8_17o := hC8_17; (try simp only [hg8_17] at hC8_17); simp only [EN, Nat.reduceEqDiff, reduceIte, qv_pick, pk_and, pk_or, GR, strEq, hB1.cell, hB2.cell, hB3.cell, hS.b1.cell, hS.b3.cell, hB4.cell, hC8_17o, hC8_17, hg8_17, GR]; rfl) ?_
          refine WL.cq (gd_at (t := 42) rfl (by simp only [EN, Nat.reduceEqDiff, reduceIte, strEq, hB1.cell, hB2.cell, hB3.cell, hS.b1.cell, hS.b3.cell, hB4.cell] <;> rfl)) (fun hg8_18 => by simp only [EN, Nat.reduceEqDiff, reduceIte, qv_pick, pk_and, pk_or, GR, strEq, hB1.cell, hB2.cell, hB3.cell, hS.b1.cell, hS.b3.cell, hB4.cell, hg8_18, GR]; rfl) ?_
          refine WL.qq (by simp only [EN, Nat.reduceEqDiff, reduceIte, qv_pick, pk_and, pk_or, GR, strEq, hB1.cell, hB2.cell, hB3.cell, hS.b1.cell, hS.b3.cell, hB4.cell]; rfl) ?_
          refine WL.nil ?_
          refine th_norm ?_
          refine hx_cond (by simp only [EN, Nat.reduceEqDiff, reduceIte, strEq, hB1.cell, hB2.cell, hB3.cell, hS.b1.cell, hS.b3.cell, hB4.cell]; rfl) (fun hct59 => ?_) (fun hct59 => ?_)
          ·
            try simp only [BD] at hct59
            have hdk : d = false ∧ kLt q x.1 := (by cases d <;> simp at hct59; refine ⟨rfl, ?_⟩; rcases hct59 with h9 | ⟨h9, h8⟩; (exact .inl h9); (exact .inr ⟨h9.symm, h8⟩))
            rw [if_pos hdk] at hr
            refine hx_seq ?_
            refine hx_region ?_
            refine WL.qq (by simp only [EN, Nat.reduceEqDiff, reduceIte, qv_fieldAddr, fa41_0, Nat.zero_add, Nat.reduceAdd, k9_0, strEq, hB1.cell, hB2.cell, hB3.cell, hS.b1.cell, hS.b3.cell, hB4.cell]; rfl) ?_
            refine WL.qq (by simp only [EN, Nat.reduceEqDiff, reduceIte, qv_load, ld38, readN, AR, Nat.zero_add, Nat.reduceAdd, strEq, hB1.cell, hB2.cell, hB3.cell, hS.b1.cell, hS.b3.cell, hB4.cell]; rfl) ?_
            refine WL.qq (by simp only [EN, Nat.reduceEqDiff, reduceIte, qv_move, k1_0, strEq, hB1.cell, hB2.cell, hB3.cell, hS.b1.cell, hS.b3.cell, hB4.cell]; rfl) ?_
            refine WL.qq (by simp only [EN, Nat.reduceEqDiff, reduceIte, qv_move, k2_0, strEq, hB1.cell, hB2.cell, hB3.cell, hS.b1.cell, hS.b3.cell, hB4.cell]; rfl) ?_
            refine WL.qq (by simp only [EN, Nat.reduceEqDiff, reduceIte, qv_move, k3_0, strEq, hB1.cell, hB2.cell, hB3.cell, hS.b1.cell, hS.b3.cell, hB4.cell]; rfl) ?_
            refine WL.qq (by refine qv_bld (by simp only [EN, Nat.reduceEqDiff, reduceIte, AR, strEq, hB1.cell, hB2.cell, hB3.cell, hS.b1.cell, hS.b3.cell, hB4.cell] <;> rfl) (by rw [bl57]; simp [Instr.fill, Value.cells]; rfl)) ?_
            refine WL.push (bytes := 40) Try.underlying38 (inf_of Try.type57) rfl rfl rfl rfl (by decide) (by decide) sz57 zr57 (fun u => by simp only [EN, Nat.reduceEqDiff, reduceIte, k1_0, k2_0, k3_0, k4_0, k8_0, k9_0, i11_0, i10_0, strEq, hB1.cell, hB2.cell, hB3.cell, hS.b1.cell, hS.b3.cell, hB4.cell]) hS.ow (by simp only [EN, Nat.reduceEqDiff, reduceIte, k1_0, k2_0, k3_0, k4_0, k8_0, k9_0, i11_0, i10_0, strEq, hB1.cell, hB2.cell, hB3.cell, hS.b1.cell, hS.b3.cell, hB4.cell, Value.cells]; rfl) rfl (by simp [Value.oneCell']) (by simp only [maxLen]; omega) (by omega) hS.E.size ?_
            intro h40 v40 B40 ho40 hg40 hp40 hn40
            obtain ⟨hE40, hb40⟩ := hS.mid hg40
            skip
            refine WL.qq (by simp only [EN, Nat.reduceEqDiff, reduceIte, qv_fieldAddr, fa41_0, Nat.zero_add, Nat.reduceAdd, k9_0, strEq, hB1.cell, hB2.cell, hB3.cell, hS.b1.cell, hS.b3.cell, hB4.cell]; rfl) ?_
            refine WL.store (by simp only [EN, Nat.reduceEqDiff, reduceIte, k1_0, k2_0, k3_0, k4_0, k8_0, k9_0, i11_0, i10_0, strEq, hB1.cell, hB2.cell, hB3.cell, hS.b1.cell, hS.b3.cell, hB4.cell] <;> rfl) sz38 (by simp only [EN, Nat.reduceEqDiff, reduceIte, k1_0, k2_0, k3_0, k4_0, k8_0, k9_0, i11_0, i10_0, strEq, hB1.cell, hB2.cell, hB3.cell, hS.b1.cell, hS.b3.cell, hB4.cell]; exact ho40.cells) rfl hb40 (by simp) (by simp [ho40.one]) ?_
            intro h41 hw41
            have hz4 := (Array.getElem?_eq_some_iff.1 hB4).1
            have hn41 : v40.ownBlock ≠ some B4 := (by rcases hp40 with h9 | h9; (rw [h9]; exact hn4); (rw [h9]; intro hh; cases hh; omega))
            replace hB4 := (hB4.gr hg40 hn4).wr hw41 hn34
            replace hS := hS.put (x := (q, a)) hg40 ho40 hw41 hn1 hn2 hn3
            refine WL.nil ?_
            refine th_norm ?_
            refine hx_region ?_
            refine WL.qq (by simp only [EN, Nat.reduceEqDiff, reduceIte, qv_assign, strEq, hB1.cell, hB2.cell, hB3.cell, hS.b1.cell, hS.b3.cell, hB4.cell]; rfl) ?_
            refine WL.nil ?_
            refine th_norm ?_
            refine ⟨rfl, ?_, v40, out ++ [(q, a)], true, ?_, ?_, ?_, ?_, ?_⟩  -- meet 0 of cut 8
            · (repeat (first | exact Fr.refl _ _ | refine Fr.set rfl ?_ | refine Fr.put rfl ?_ | with_reducible refine Fr.put0 ?_))
            · exact hS
            · exact hB4
            · exact hn41
            · rw [← hr]; simp
            · simp only [EN, Nat.reduceEqDiff, reduceIte, k1_0, k2_0, k3_0, k4_0, k8_0, k9_0, i11_0, i10_0, strEq, hB1.cell, hB2.cell, hB3.cell, hS.b1.cell, hS.b3.cell, hB4.cell] <;> first | rfl | (congr 1; omega)
          ·
            try simp only [BD] at hct59
            refine hx_skip ?_
            refine th_norm ?_
            refine ⟨rfl, ?_, v, out, d, ?_, ?_, ?_, ?_, ?_⟩  -- meet 1 of cut 8
            · (repeat (first | exact Fr.refl _ _ | refine Fr.set rfl ?_ | refine Fr.put rfl ?_ | with_reducible refine Fr.put0 ?_))
            · exact hS
            · exact hB4
            · exact hn4
            · have hdk : ¬ (d = false ∧ kLt q x.1) := (by rintro ⟨h9, h8⟩; subst h9; rcases hct59 with h5 | ⟨h5, h4⟩; (cases h5); (rcases h8 with h7 | ⟨h7, h6⟩; (rw [h7] at h5; cases h5); (rcases h4 with h4 | h4; (exact h4 h7.symm); (rw [h6] at h4; cases h4)))); rw [if_neg hdk] at hr; exact hr
            · simp only [EN, Nat.reduceEqDiff, reduceIte, k1_0, k2_0, k3_0, k4_0, k8_0, k9_0, i11_0, i10_0, strEq, hB1.cell, hB2.cell, hB3.cell, hS.b1.cell, hS.b3.cell, hB4.cell] <;> first | rfl | (congr 1; omega)
        ·
          rintro ec8 hC8 hfc8 ⟨v2, out2, d2, hS, hB4, hn4, hr, i10_c8⟩
          have k1_c8 := hfc8 1 rfl; try simp only [EN, Nat.reduceEqDiff, reduceIte, k1_0, strEq, hB1.cell, hB2.cell, hB3.cell, hS.b1.cell, hS.b3.cell, hB4.cell] at k1_c8
          have k2_c8 := hfc8 2 rfl; try simp only [EN, Nat.reduceEqDiff, reduceIte, k2_0, strEq, hB1.cell, hB2.cell, hB3.cell, hS.b1.cell, hS.b3.cell, hB4.cell] at k2_c8
          have k3_c8 := hfc8 3 rfl; try simp only [EN, Nat.reduceEqDiff, reduceIte, k3_0, strEq, hB1.cell, hB2.cell, hB3.cell, hS.b1.cell, hS.b3.cell, hB4.cell] at k3_c8
          have k4_c8 := hfc8 4 rfl; try simp only [EN, Nat.reduceEqDiff, reduceIte, k4_0, strEq, hB1.cell, hB2.cell, hB3.cell, hS.b1.cell, hS.b3.cell, hB4.cell] at k4_c8
          have k8_c8 := hfc8 8 rfl; try simp only [EN, Nat.reduceEqDiff, reduceIte, k8_0, strEq, hB1.cell, hB2.cell, hB3.cell, hS.b1.cell, hS.b3.cell, hB4.cell] at k8_c8
          have k9_c8 := hfc8 9 rfl; try simp only [EN, Nat.reduceEqDiff, reduceIte, k9_0, strEq, hB1.cell, hB2.cell, hB3.cell, hS.b1.cell, hS.b3.cell, hB4.cell] at k9_c8
          have k11_c8 := hfc8 11 rfl; try simp only [EN, Nat.reduceEqDiff, reduceIte, i11_0, strEq, hB1.cell, hB2.cell, hB3.cell, hS.b1.cell, hS.b3.cell, hB4.cell] at k11_c8
          have k12_c8 := hfc8 12 rfl; try simp only [EN, Nat.reduceEqDiff, reduceIte, strEq, hB1.cell, hB2.cell, hB3.cell, hS.b1.cell, hS.b3.cell, hB4.cell] at k12_c8
          have hln2 := congrArg List.length hr; have hln3 := insR_len q a Ls (decide (a < 0)); rw [List.length_append, List.length_cons] at hln2
          refine hx_region ?_
          refine WL.qq (by simp only [EN, Nat.reduceEqDiff, reduceIte, qv_fieldAddr, fa41_0, Nat.zero_add, Nat.reduceAdd, k9_c8, strEq, hB1.cell, hB2.cell, hB3.cell, hS.b1.cell, hS.b3.cell, hB4.cell, hS.b3.cell, hB4.cell]; rfl) ?_
          refine WL.qq (by simp only [EN, Nat.reduceEqDiff, reduceIte, qv_load, ld38, readN, AR, Nat.zero_add, Nat.reduceAdd, strEq, hB1.cell, hB2.cell, hB3.cell, hS.b1.cell, hS.b3.cell, hB4.cell, hS.b3.cell, hB4.cell]; rfl) ?_
          refine WL.qq (by simp only [EN, Nat.reduceEqDiff, reduceIte, k1_c8, k2_c8, k3_c8, k4_c8, k8_c8, k9_c8, k11_c8, k12_c8, i10_c8, strEq, hB1.cell, hB2.cell, hB3.cell, hS.b1.cell, hS.b3.cell, hB4.cell, hS.b3.cell, hB4.cell, qv_load, ld57, readN, hB4.cell, AR, Nat.zero_add, Nat.reduceAdd]; rfl) ?_
          refine WL.push (bytes := 40) Try.underlying38 (inf_of Try.type57) rfl rfl rfl rfl (by decide) (by decide) sz57 zr57 (fun u => by simp only [EN, Nat.reduceEqDiff, reduceIte, k1_c8, k2_c8, k3_c8, k4_c8, k8_c8, k9_c8, k11_c8, k12_c8, i10_c8, strEq, hB1.cell, hB2.cell, hB3.cell, hS.b1.cell, hS.b3.cell, hB4.cell, hS.b3.cell, hB4.cell]) hS.ow (by simp only [EN, Nat.reduceEqDiff, reduceIte, k1_c8, k2_c8, k3_c8, k4_c8, k8_c8, k9_c8, k11_c8, k12_c8, i10_c8, strEq, hB1.cell, hB2.cell, hB3.cell, hS.b1.cell, hS.b3.cell, hB4.cell, hS.b3.cell, hB4.cell, Value.cells]; rfl) rfl (by simp [Value.oneCell']) (by simp only [maxLen]; omega) (by omega) hS.E.size ?_
          intro h50 v50 B50 ho50 hg50 hp50 hn50
          obtain ⟨hE50, hb50⟩ := hS.mid hg50
          skip
          refine WL.qq (by simp only [EN, Nat.reduceEqDiff, reduceIte, qv_fieldAddr, fa41_0, Nat.zero_add, Nat.reduceAdd, k9_c8, strEq, hB1.cell, hB2.cell, hB3.cell, hS.b1.cell, hS.b3.cell, hB4.cell, hS.b3.cell, hB4.cell]; rfl) ?_
          refine WL.store (by simp only [EN, Nat.reduceEqDiff, reduceIte, k1_c8, k2_c8, k3_c8, k4_c8, k8_c8, k9_c8, k11_c8, k12_c8, i10_c8, strEq, hB1.cell, hB2.cell, hB3.cell, hS.b1.cell, hS.b3.cell, hB4.cell, hS.b3.cell, hB4.cell] <;> rfl) sz38 (by simp only [EN, Nat.reduceEqDiff, reduceIte, k1_c8, k2_c8, k3_c8, k4_c8, k8_c8, k9_c8, k11_c8, k12_c8, i10_c8, strEq, hB1.cell, hB2.cell, hB3.cell, hS.b1.cell, hS.b3.cell, hB4.cell, hS.b3.cell, hB4.cell]; exact ho50.cells) rfl hb50 (by simp) (by simp [ho50.one]) ?_
          intro h51 hw51
          replace hS := hS.put (x := x) hg50 ho50 hw51 hn1 hn2 hn3
          refine WL.nil ?_
          refine bl_norm ?_
          refine th_norm ?_
          refine hx_region ?_
          refine WL.qq (by simp only [EN, Nat.reduceEqDiff, reduceIte, qv_move, k11_c8, strEq, hB1.cell, hB2.cell, hB3.cell, hS.b1.cell, hS.b3.cell, hB4.cell, hS.b3.cell, hB4.cell]; rfl) ?_
          refine WL.qq (by simp only [EN, Nat.reduceEqDiff, reduceIte, qv_binOp, binv_add, strEq, hB1.cell, hB2.cell, hB3.cell, hS.b1.cell, hS.b3.cell, hB4.cell, hS.b3.cell, hB4.cell]; (try simp (disch := omega) only [w64, w8, wu64]); rfl) ?_
          refine WL.qq (by simp only [EN, Nat.reduceEqDiff, reduceIte, qv_assign, strEq, hB1.cell, hB2.cell, hB3.cell, hS.b1.cell, hS.b3.cell, hB4.cell, hS.b3.cell, hB4.cell]; rfl) ?_
          refine WL.nil ?_
          refine th_norm ?_
          refine ⟨rfl, ?_, _, ?_, i + 1, d2, out2 ++ [x], v50, rfl, ?_, ?_, ?_, ?_, ?_⟩  -- again 1 of loop 0
          · (repeat (first | exact Fr.refl _ _ | refine Fr.set rfl ?_ | refine Fr.put rfl ?_ | with_reducible refine Fr.put0 ?_ | refine Fr.trans ?_ (Fr.of hfc8 rfl)))
          · omega
          · omega
          · exact hS
          · rw [← hr]; simp
          · simp only [EN, Nat.reduceEqDiff, reduceIte, k1_c8, k2_c8, k3_c8, k4_c8, k8_c8, k9_c8, k11_c8, k12_c8, i10_c8, strEq, hB1.cell, hB2.cell, hB3.cell, hS.b1.cell, hS.b3.cell, hB4.cell, hS.b3.cell, hB4.cell] <;> first | rfl | (congr 1; omega)
          · simp only [EN, Nat.reduceEqDiff, reduceIte, k1_c8, k2_c8, k3_c8, k4_c8, k8_c8, k9_c8, k11_c8, k12_c8, i10_c8, strEq, hB1.cell, hB2.cell, hB3.cell, hS.b1.cell, hS.b3.cell, hB4.cell, hS.b3.cell, hB4.cell] <;> first | rfl | (congr 1; omega)
    ·
      try simp only [BD] at hct22
      have hil : Ls.length ≤ i := (by omega); rw [List.drop_of_length_le hil] at hr
      refine hx_exit ?_
      refine th_exit ?_
      refine th_exit ?_
      refine bl_hit ?_
      refine th_norm ?_
      refine hx_cutG [75, 76, 77, 78, 79, 80, 81, 82, 83, 84, 85] (fun e hC12 => ∃ (v3 : Value) (out3 : List L2), (ST h B1 B2 B3 al Ls.length cl af m cf v3 out3 hC12) ∧ (out3 = insR q a (decide (a < 0)) Ls)) ?_ ?_
      ·
        refine hx_seq ?_
        refine hx_region ?_
        refine WL.qq (by simp only [EN, Nat.reduceEqDiff, reduceIte, qv_move, i10_0, strEq, hB1.cell, hB2.cell, hB3.cell, hS.b1.cell, hS.b3.cell]; rfl) ?_
        refine WL.qq (by simp only [EN, Nat.reduceEqDiff, reduceIte, qv_unOp, unv_not, strEq, hB1.cell, hB2.cell, hB3.cell, hS.b1.cell, hS.b3.cell]; rfl) ?_
        refine WL.nil ?_
        refine th_norm ?_
        refine hx_cond (by simp only [EN, Nat.reduceEqDiff, reduceIte, strEq, hB1.cell, hB2.cell, hB3.cell, hS.b1.cell, hS.b3.cell]; rfl) (fun hct76 => ?_) (fun hct76 => ?_)
        ·
          try simp only [BD] at hct76
          refine hx_region ?_
          refine WL.qq (by simp only [EN, Nat.reduceEqDiff, reduceIte, qv_fieldAddr, fa41_0, Nat.zero_add, Nat.reduceAdd, k9_0, strEq, hB1.cell, hB2.cell, hB3.cell, hS.b1.cell, hS.b3.cell]; rfl) ?_
          refine WL.qq (by simp only [EN, Nat.reduceEqDiff, reduceIte, qv_load, ld38, readN, AR, Nat.zero_add, Nat.reduceAdd, strEq, hB1.cell, hB2.cell, hB3.cell, hS.b1.cell, hS.b3.cell]; rfl) ?_
          refine WL.qq (by simp only [EN, Nat.reduceEqDiff, reduceIte, qv_move, k1_0, strEq, hB1.cell, hB2.cell, hB3.cell, hS.b1.cell, hS.b3.cell]; rfl) ?_
          refine WL.qq (by simp only [EN, Nat.reduceEqDiff, reduceIte, qv_move, k2_0, strEq, hB1.cell, hB2.cell, hB3.cell, hS.b1.cell, hS.b3.cell]; rfl) ?_
          refine WL.qq (by simp only [EN, Nat.reduceEqDiff, reduceIte, qv_move, k3_0, strEq, hB1.cell, hB2.cell, hB3.cell, hS.b1.cell, hS.b3.cell]; rfl) ?_
          refine WL.qq (by refine qv_bld (by simp only [EN, Nat.reduceEqDiff, reduceIte, AR, strEq, hB1.cell, hB2.cell, hB3.cell, hS.b1.cell, hS.b3.cell] <;> rfl) (by rw [bl57]; simp [Instr.fill, Value.cells]; rfl)) ?_
          refine WL.push (bytes := 40) Try.underlying38 (inf_of Try.type57) rfl rfl rfl rfl (by decide) (by decide) sz57 zr57 (fun u => by simp only [EN, Nat.reduceEqDiff, reduceIte, k1_0, k2_0, k3_0, k4_0, k8_0, k9_0, i11_0, i10_0, strEq, hB1.cell, hB2.cell, hB3.cell, hS.b1.cell, hS.b3.cell]) hS.ow (by simp only [EN, Nat.reduceEqDiff, reduceIte, k1_0, k2_0, k3_0, k4_0, k8_0, k9_0, i11_0, i10_0, strEq, hB1.cell, hB2.cell, hB3.cell, hS.b1.cell, hS.b3.cell, Value.cells]; rfl) rfl (by simp [Value.oneCell']) (by simp only [maxLen]; omega) (by omega) hS.E.size ?_
          intro h60 v60 B60 ho60 hg60 hp60 hn60
          obtain ⟨hE60, hb60⟩ := hS.mid hg60
          skip
          refine WL.qq (by simp only [EN, Nat.reduceEqDiff, reduceIte, qv_fieldAddr, fa41_0, Nat.zero_add, Nat.reduceAdd, k9_0, strEq, hB1.cell, hB2.cell, hB3.cell, hS.b1.cell, hS.b3.cell]; rfl) ?_
          refine WL.store (by simp only [EN, Nat.reduceEqDiff, reduceIte, k1_0, k2_0, k3_0, k4_0, k8_0, k9_0, i11_0, i10_0, strEq, hB1.cell, hB2.cell, hB3.cell, hS.b1.cell, hS.b3.cell] <;> rfl) sz38 (by simp only [EN, Nat.reduceEqDiff, reduceIte, k1_0, k2_0, k3_0, k4_0, k8_0, k9_0, i11_0, i10_0, strEq, hB1.cell, hB2.cell, hB3.cell, hS.b1.cell, hS.b3.cell]; exact ho60.cells) rfl hb60 (by simp) (by simp [ho60.one]) ?_
          intro h61 hw61
          replace hS := hS.put (x := (q, a)) hg60 ho60 hw61 hn1 hn2 hn3
          refine WL.nil ?_
          refine th_norm ?_
          refine ⟨rfl, ?_, v60, out ++ [(q, a)], ?_, ?_⟩  -- meet 0 of cut 12
          · (repeat (first | exact Fr.refl _ _ | refine Fr.set rfl ?_ | refine Fr.put rfl ?_ | with_reducible refine Fr.put0 ?_))
          · exact hS
          · rw [← hr]; simp [hct76, insR]
        ·
          try simp only [BD] at hct76
          refine hx_skip ?_
          refine th_norm ?_
          refine ⟨rfl, ?_, v, out, ?_, ?_⟩  -- meet 1 of cut 12
          · (repeat (first | exact Fr.refl _ _ | refine Fr.set rfl ?_ | refine Fr.put rfl ?_ | with_reducible refine Fr.put0 ?_))
          · exact hS
          · rw [← hr]; simp [hct76, insR]
      ·
        rintro ec12 hC12 hfc12 ⟨v3, out3, hS, hr3⟩
        have k8_c12 := hfc12 8 rfl; try simp only [EN, Nat.reduceEqDiff, reduceIte, k8_0, strEq, hB1.cell, hB2.cell, hB3.cell, hS.b1.cell, hS.b3.cell] at k8_c12
        have k9_c12 := hfc12 9 rfl; try simp only [EN, Nat.reduceEqDiff, reduceIte, k9_0, strEq, hB1.cell, hB2.cell, hB3.cell, hS.b1.cell, hS.b3.cell] at k9_c12
        refine hx_seq ?_
        refine hx_region ?_
        refine WL.qq (by simp only [EN, Nat.reduceEqDiff, reduceIte, k8_c12, k9_c12, strEq, hB1.cell, hB2.cell, hB3.cell, hS.b1.cell, hS.b3.cell, hS.b3.cell, qv_load, ld41, readN, hS.b3.cell, AR, Nat.zero_add, Nat.reduceAdd]; rfl) ?_
        refine WL.store (by simp only [EN, Nat.reduceEqDiff, reduceIte, k8_c12, k9_c12, strEq, hB1.cell, hB2.cell, hB3.cell, hS.b1.cell, hS.b3.cell, hS.b3.cell] <;> rfl) sz41 (by simp only [EN, Nat.reduceEqDiff, reduceIte, k8_c12, k9_c12, strEq, hB1.cell, hB2.cell, hB3.cell, hS.b1.cell, hS.b3.cell, hS.b3.cell, Value.cells]; rfl) rfl hS.b2 (by simp) (by have h9 := hS.ow.one; intro u hu; simp at hu; rcases hu with rfl | rfl <;> first | exact h9 | rfl) ?_
        intro h70 hw70
        have hE70 := hw70.ext hS.E hn2h
        have ho70 := hS.ow.keep (h' := h70) (fun c hc => hw70.same c fun hh => by subst hh; exact hS.ow.ncell hS.b2 (by decide) hc)
        replace hS : R2 h70 B2 _ := ⟨hw70.at_, hw70.at_⟩
        refine WL.nil ?_
        refine th_norm ?_
        refine hx_ret ?_
        refine fin_ret [.cell 8 41] rfl rfl (by simp only [EN, Nat.reduceEqDiff, reduceIte, resv, ld41, readN, AR, Nat.zero_add, Nat.reduceAdd, k8_c12, k9_c12, strEq, hB1.cell, hB2.cell, hB3.cell, hS.b1.cell, hS.b3.cell, hS.b3.cell]; rfl) ?_  -- ret 0 r14
        subst hr3; exact ⟨hE70, _, rfl, ho70⟩
end GL


/- The law SessionPending returns true: the pending messages of a sender are consecutive, end before its next number, and Resend gives them. No condition beyond the row's own. -/
import Derived.Test.YtmlhncifcaicpaaRows
import Derived.Test.YtmlhncifcaicpaaSesP
import Derived.Test.YtmlhncifcaicpaaSesV
set_option linter.unusedSimpArgs false
set_option linter.unusedVariables false
set_option linter.unnecessarySimpa false
namespace GL
open Go Go.Proofs
set_option maxRecDepth 8000
theorem l_pendN (w : Int) (hw : ¬ (1 ≤ w ∧ w ≤ 256)) (al : Option Addr) (l : List SOp) (cl : Nat) {h : Heap} (hl : SlG 4 opL h al l) (ll : l.length ≤ 9223372036854775807) :
    HCalls Try.prog 8 #[iV w, .slice al l.length cl] h (Grow (.bool true) h) := by
  refine hcalls2 Try.func8 rfl (by decide +kernel) (by simp only [Try.ntmps8]; exact of_decide_eq_true rfl) ?_
  intro e hin
  have e0 := hin 0 _ rfl
  have e1 := hin 1 _ rfl
  refine hx_seq ?_
  refine hx_region ?_
  refine WL.qq (by simp only [EN, Nat.reduceEqDiff, reduceIte, qv_assign]; rfl) ?_
  refine WL.nil ?_
  refine th_norm ?_
  refine hx_seq ?_
  refine hx_region ?_
  refine WL.qq (by simp only [EN, Nat.reduceEqDiff, reduceIte, qv_move, e0]; rfl) ?_
  refine WL.ck Try.call20 (by simp only [EN, Nat.reduceEqDiff, reduceIte, AR]; exact n_newS w hw _) ?_
  refine WL.qq (by simp only [EN, Nat.reduceEqDiff, reduceIte, qv_move]; rfl) ?_
  refine WL.qq (by simp only [EN, Nat.reduceEqDiff, reduceIte, qv_extract, AR]; rfl) ?_
  refine WL.qq (by simp only [EN, Nat.reduceEqDiff, reduceIte, qv_extract, AR]; rfl) ?_
  refine WL.qq (by simp only [EN, Nat.reduceEqDiff, reduceIte, qv_assign]; rfl) ?_
  refine WL.qq (by simp only [EN, Nat.reduceEqDiff, reduceIte, qv_assign]; rfl) ?_
  refine WL.nil ?_
  refine th_norm ?_
  refine hx_seq ?_
  refine hx_seq ?_
  refine hx_region ?_
  refine WL.qq (by simp only [EN, Nat.reduceEqDiff, reduceIte, qv_move]; rfl) ?_
  refine WL.qq (by simp only [EN, Nat.reduceEqDiff, reduceIte, qv_binOp, binv_neq, eq37, Option.map_some]; rfl) ?_
  refine WL.qq (by simp only [EN, Nat.reduceEqDiff, reduceIte, qv_move]; rfl) ?_
  refine WL.cq (gd_at (t := 20) rfl (by simp only [EN, Nat.reduceEqDiff, reduceIte, e1] <;> rfl)) (fun hg2_3 => by simp only [EN, Nat.reduceEqDiff, reduceIte, qv_move, e1, hg2_3, GR]; rfl) ?_
  refine WL.cq (gd_at (t := 20) rfl (by simp only [EN, Nat.reduceEqDiff, reduceIte] <;> rfl)) (fun hg2_4 => by simp only [EN, Nat.reduceEqDiff, reduceIte, qv_len, ln57, AR, hg2_4, GR]; rfl) ?_
  refine WL.cq (gd_at (t := 20) rfl (by simp only [EN, Nat.reduceEqDiff, reduceIte] <;> rfl)) (fun hg2_5 => by simp only [EN, Nat.reduceEqDiff, reduceIte, qv_binOp, binv_gtr, hg2_5, GR]; rfl) ?_
  refine WL.qq (by simp only [EN, Nat.reduceEqDiff, reduceIte, qv_pick, pk_and, pk_or, GR]; rfl) ?_
  refine WL.nil ?_
  refine th_norm ?_
  refine hx_cond (by simp only [EN, Nat.reduceEqDiff, reduceIte]; rfl) (fun hct24 => ?_) (fun hct24 => ?_)
  ·
    try simp only [BD] at hct24
    refine hx_seq ?_
    refine hx_region ?_
    refine WL.cg Try.call12 (by simp only [EN, Nat.reduceEqDiff, reduceIte, AR]; exact c_known49 _) ?_
    intro h1 hx1
    refine WL.qq (by simp only [EN, Nat.reduceEqDiff, reduceIte, qv_assign]; rfl) ?_
    refine WL.nil ?_
    refine th_norm ?_
    refine hx_ret ?_
    refine th_ret ?_
    refine fin_ret [.tmp 4] rfl rfl (by simp only [EN, Nat.reduceEqDiff, reduceIte, resv, e0, e1]; rfl) ?_  -- ret 0 r3
    exact ⟨rfl, (hx1)⟩
  ·
    simp at hct24
set_option maxHeartbeats 2000000 in
theorem l_pend (w : Int) (hw : 1 ≤ w ∧ w ≤ 256) (al : Option Addr) (l : List SOp) (cl : Nat) {h : Heap} (hl : SlG 4 opL h al l) (ll : l.length ≤ 9223372036854775807) (hop : ∀ o ∈ l, SOk o) :
    HCalls Try.prog 8 #[iV w, .slice al l.length cl] h (Grow (.bool true) h) := by
  refine hcalls2 Try.func8 rfl (by decide +kernel) (by simp only [Try.ntmps8]; exact of_decide_eq_true rfl) ?_
  intro e hin
  have e0 := hin 0 _ rfl
  have e1 := hin 1 _ rfl
  refine hx_seq ?_
  refine hx_region ?_
  refine WL.qq (by simp only [EN, Nat.reduceEqDiff, reduceIte, qv_assign]; rfl) ?_
  refine WL.nil ?_
  refine th_norm ?_
  refine hx_seq ?_
  refine hx_region ?_
  refine WL.qq (by simp only [EN, Nat.reduceEqDiff, reduceIte, qv_move, e0]; rfl) ?_
  refine WL.ce Try.call20 (by simp only [EN, Nat.reduceEqDiff, reduceIte, AR]; exact ps_new w hw h) ?_
  rintro _ h1 ⟨hx1, p, rfl, hP⟩
  simp only [put_some]
  refine WL.qq (by simp only [EN, Nat.reduceEqDiff, reduceIte, qv_move]; rfl) ?_
  refine WL.qq (by simp only [EN, Nat.reduceEqDiff, reduceIte, qv_extract, AR]; rfl) ?_
  refine WL.qq (by simp only [EN, Nat.reduceEqDiff, reduceIte, qv_extract, AR]; rfl) ?_
  refine WL.qq (by simp only [EN, Nat.reduceEqDiff, reduceIte, qv_assign]; rfl) ?_
  refine WL.qq (by simp only [EN, Nat.reduceEqDiff, reduceIte, qv_assign]; rfl) ?_
  refine WL.nil ?_
  refine th_norm ?_
  refine hx_seq ?_
  refine hx_seq ?_
  refine hx_region ?_
  refine WL.qq (by simp only [EN, Nat.reduceEqDiff, reduceIte, qv_move]; rfl) ?_
  refine WL.qq (by simp only [EN, Nat.reduceEqDiff, reduceIte, qv_binOp, binv_neq, eq37, Option.map_some]; rfl) ?_
  refine WL.qq (by simp only [EN, Nat.reduceEqDiff, reduceIte, qv_move]; rfl) ?_
  refine WL.cq (gd_at (t := 20) rfl (by simp only [EN, Nat.reduceEqDiff, reduceIte, e1] <;> rfl)) (fun hg2_3 => by simp only [EN, Nat.reduceEqDiff, reduceIte, qv_move, e1, hg2_3, GR]; rfl) ?_
  refine WL.cq (gd_at (t := 20) rfl (by simp only [EN, Nat.reduceEqDiff, reduceIte] <;> rfl)) (fun hg2_4 => by simp only [EN, Nat.reduceEqDiff, reduceIte, qv_len, ln57, AR, hg2_4, GR]; rfl) ?_
  refine WL.cq (gd_at (t := 20) rfl (by simp only [EN, Nat.reduceEqDiff, reduceIte] <;> rfl)) (fun hg2_5 => by simp only [EN, Nat.reduceEqDiff, reduceIte, qv_binOp, binv_gtr, hg2_5, GR]; rfl) ?_
  refine WL.qq (by simp only [EN, Nat.reduceEqDiff, reduceIte, qv_pick, pk_and, pk_or, GR]; rfl) ?_
  refine WL.nil ?_
  refine th_norm ?_
  refine hx_cond (by simp only [EN, Nat.reduceEqDiff, reduceIte]; rfl) (fun hct24 => ?_) (fun hct24 => ?_)
  ·
    try simp only [BD] at hct24
    refine hx_seq ?_
    refine hx_region ?_
    refine WL.cg Try.call12 (by simp only [EN, Nat.reduceEqDiff, reduceIte, AR]; exact c_known49 _) ?_
    intro h2 hx2
    refine WL.qq (by simp only [EN, Nat.reduceEqDiff, reduceIte, qv_assign]; rfl) ?_
    refine WL.nil ?_
    refine th_norm ?_
    refine hx_ret ?_
    refine th_ret ?_
    refine fin_ret [.tmp 4] rfl rfl (by simp only [EN, Nat.reduceEqDiff, reduceIte, resv, e0, e1]; rfl) ?_  -- ret 0 r3
    exact ⟨rfl, ((hx1).trans (hx2))⟩
  ·
    try simp only [BD] at hct24
    have hl60 : l.length ≤ 60 := (by omega)
    refine hx_skip ?_
    refine th_norm ?_
    refine hx_seq ?_
    refine hx_seq ?_
    refine hx_region ?_
    refine WL.qq (by simp only [EN, Nat.reduceEqDiff, reduceIte, qv_assign]; rfl) ?_
    refine WL.nil ?_
    refine th_norm ?_
    refine hx_block ?_
    refine hx_loopG [4, 7, 8, 9, 10, 11, 12, 26, 27, 28, 29, 30, 31, 32, 33, 34, 35, 36, 37, 38, 39, 40, 41, 42, 43, 44, 45, 46, 47, 48, 49, 50, 51, 52, 53, 54, 55, 56, 57, 58, 59, 60, 61, 62, 63, 64, 65, 66, 67, 68, 69, 70, 71, 72, 73, 74, 75, 76, 77, 78, 79, 80, 81, 82, 83, 84, 85, 86, 87, 88, 89, 90, 91, 92, 93, 94, 95, 96, 97, 98, 99, 100, 101, 102, 103, 104, 105, 106, 107, 108, 109, 110, 111, 112, 113, 114, 115, 116, 117, 118, 119, 120, 121, 122, 123, 124, 125, 126, 127, 128, 129, 130, 131, 132] (fun k e hL0 => ∃ (i : Nat), l.length - i = k ∧ (i ≤ l.length) ∧ (PS h hL0 p w) ∧ e 7 = .int .i64 i) _ ⟨0, rfl, ?_, ?_, ?_⟩ ?_
    · omega
    · exact hP
    · simp only [EN, Nat.reduceEqDiff, reduceIte, e0, e1] <;> rfl
    ·
      rintro k e0L hL0 hfr0 ⟨i, rfl, hi, hP, i7_0⟩
      have k0_0 := hfr0 0 rfl; try simp only [EN, Nat.reduceEqDiff, reduceIte, e0] at k0_0
      have k1_0 := hfr0 1 rfl; try simp only [EN, Nat.reduceEqDiff, reduceIte, e1] at k1_0
      have k5_0 := hfr0 5 rfl; try simp only [EN, Nat.reduceEqDiff, reduceIte] at k5_0
      refine hx_seq ?_
      refine hx_seq ?_
      refine hx_region ?_
      refine WL.qq (by simp only [EN, Nat.reduceEqDiff, reduceIte, qv_move, i7_0]; rfl) ?_
      refine WL.qq (by simp only [EN, Nat.reduceEqDiff, reduceIte, qv_move, k1_0]; rfl) ?_
      refine WL.qq (by simp only [EN, Nat.reduceEqDiff, reduceIte, qv_len, ln57, AR]; rfl) ?_
      refine WL.qq (by simp only [EN, Nat.reduceEqDiff, reduceIte, qv_binOp, binv_lss]; rfl) ?_
      refine WL.nil ?_
      refine th_norm ?_
      refine hx_cond (by simp only [EN, Nat.reduceEqDiff, reduceIte]; rfl) (fun hct29 => ?_) (fun hct29 => ?_)
      ·
        try simp only [BD] at hct29
        obtain ⟨o, ho⟩ := atG (l := l) (i := i) (by omega)
        have hok := hop o (List.mem_of_getElem? ho)
        obtain ⟨b, off, rfl, hr⟩ := (hl.ext hP.E) i o ho
        have hk0 := readN_cell hr 0 _ rfl; have hk1 := readN_cell hr 1 _ rfl; have hk2 := readN_cell hr 2 _ rfl
        rw [Nat.add_zero] at hk0
        have hkk := hok.k
        refine hx_skip ?_
        refine th_norm ?_
        refine hx_seq ?_
        refine hx_block ?_
        refine hx_cutG [32, 33, 34, 35, 36, 37, 38, 39, 40, 41, 42, 43, 44, 45, 46, 47, 48, 49, 50, 51, 52, 53, 54, 55, 56, 57, 58, 59, 60, 61, 62, 63] (fun e hC7 => (PS h hC7 p w)) ?_ ?_
        ·
          refine hx_seq ?_
          refine hx_region ?_
          refine WL.qq (by simp only [EN, Nat.reduceEqDiff, reduceIte, qv_move, k1_0]; rfl) ?_
          refine WL.qq (by simp only [EN, Nat.reduceEqDiff, reduceIte, qv_move, i7_0]; rfl) ?_
          refine WL.qq (by simp only [EN, Nat.reduceEqDiff, reduceIte, qv_indexAddr]; (try simp (disch := omega) only [ix57, Int.toNat_natCast]); rfl) ?_
          refine WL.qq (by simp only [EN, Nat.reduceEqDiff, reduceIte, qv_fieldAddr, fa62_0, Nat.zero_add, Nat.reduceAdd]; rfl) ?_
          refine WL.qq (by simp only [EN, Nat.reduceEqDiff, reduceIte, k0_0, k1_0, k5_0, i7_0, qv_load, ld5, Int.toNat_natCast, hk0]; rfl) ?_
          refine WL.qq (by simp only [EN, Nat.reduceEqDiff, reduceIte, qv_binOp]; (try simp (disch := omega) only [binv_rem, w64, w8, wu64]); rfl) ?_
          refine WL.nil ?_
          refine th_norm ?_
          refine hx_block ?_
          refine hx_seq ?_
          refine hx_region ?_
          refine WL.qq (by simp only [EN, Nat.reduceEqDiff, reduceIte, qv_binOp, binv_eql, eq5, Option.map_some]; rfl) ?_
          refine WL.qq (by simp only [EN, Nat.reduceEqDiff, reduceIte, qv_assign]; rfl) ?_
          refine WL.nil ?_
          refine th_norm ?_
          refine hx_cond (by simp only [EN, Nat.reduceEqDiff, reduceIte]; rfl) (fun hct38 => ?_) (fun hct38 => ?_)
          ·
            try simp only [BD] at hct38
            apply hx_draw2 Rel.same [14] [] [] rfl (by decide +kernel) rfl
            refine LD.qq rfl rfl (by simp only [EN, Nat.reduceEqDiff, reduceIte, qv_move, k5_0]; rfl) ?_
            refine LD.qq rfl rfl (by simp only [EN, Nat.reduceEqDiff, reduceIte, qv_move, k1_0]; rfl) ?_
            refine LD.qq rfl rfl (by simp only [EN, Nat.reduceEqDiff, reduceIte, qv_move, i7_0]; rfl) ?_
            refine LD.qq rfl rfl (by simp only [EN, Nat.reduceEqDiff, reduceIte, qv_indexAddr]; (try simp (disch := omega) only [ix57, Int.toNat_natCast]); rfl) ?_
            refine LD.qq rfl rfl (by simp only [EN, Nat.reduceEqDiff, reduceIte, qv_fieldAddr, fa62_1, Nat.zero_add, Nat.reduceAdd]; rfl) ?_
            refine LD.qq rfl rfl (by simp only [EN, Nat.reduceEqDiff, reduceIte, k0_0, k1_0, k5_0, i7_0, qv_load, ld9, Int.toNat_natCast, hk1]; rfl) ?_
            refine LD.qq rfl rfl (by simp only [EN, Nat.reduceEqDiff, reduceIte, qv_move, k1_0]; rfl) ?_
            refine LD.qq rfl rfl (by simp only [EN, Nat.reduceEqDiff, reduceIte, qv_move, i7_0]; rfl) ?_
            refine LD.qq rfl rfl (by simp only [EN, Nat.reduceEqDiff, reduceIte, qv_indexAddr]; (try simp (disch := omega) only [ix57, Int.toNat_natCast]); rfl) ?_
            refine LD.qq rfl rfl (by simp only [EN, Nat.reduceEqDiff, reduceIte, qv_fieldAddr, fa62_1, Nat.zero_add, Nat.reduceAdd]; rfl) ?_
            refine LD.qq rfl rfl (by simp only [EN, Nat.reduceEqDiff, reduceIte, k0_0, k1_0, k5_0, i7_0, qv_load, ld9, Int.toNat_natCast, hk1]; rfl) ?_
            refine LD.qq rfl rfl (by simp only [EN, Nat.reduceEqDiff, reduceIte, qv_len, ln9, AR]; rfl) ?_
            refine LD.qq rfl rfl (by refine qv_min2 (by simp only [EN, Nat.reduceEqDiff, reduceIte] <;> rfl) (by simp only [EN, Nat.reduceEqDiff, reduceIte] <;> rfl)) ?_
            refine LD.qq rfl rfl (by simp only [EN, Nat.reduceEqDiff, reduceIte, k0_0, k1_0, k5_0, i7_0, qv_slice, Option.map_some, Option.map_none]; rw [slicev_s Try.underlying9 o.s .i64 _ (by split <;> omega) (by split <;> omega)]) ?_
            refine LD.skip rfl ?_
            refine LD.nil ?_
            rintro hL0 rfl -
            refine WL.ce Try.call22 (by simp only [EN, Nat.reduceEqDiff, reduceIte, AR]; exact ps_Send _ hP) ?_
            rintro _ h30 ⟨⟨m30, e30, rfl⟩, hP30⟩
            (try simp only [put_some])
            replace hP := hP30
            refine WL.nil ?_
            refine bl_norm ?_
            refine th_norm ?_
            refine ⟨rfl, ?_, ?_⟩  -- meet 0 of cut 7
            · (repeat (first | exact Fr.refl _ _ | refine Fr.set rfl ?_ | refine Fr.put rfl ?_ | with_reducible refine Fr.put0 ?_))
            · exact hP
          ·
            try simp only [BD] at hct38
            refine hx_seq ?_
            refine hx_region ?_
            refine WL.qq (by simp only [EN, Nat.reduceEqDiff, reduceIte, qv_binOp, binv_eql, eq5, Option.map_some]; rfl) ?_
            refine WL.qq (by simp only [EN, Nat.reduceEqDiff, reduceIte, qv_assign]; rfl) ?_
            refine WL.nil ?_
            refine th_norm ?_
            refine hx_cond (by simp only [EN, Nat.reduceEqDiff, reduceIte]; rfl) (fun hct55 => ?_) (fun hct55 => ?_)
            ·
              try simp only [BD] at hct55
              refine hx_region ?_
              refine WL.qq (by simp only [EN, Nat.reduceEqDiff, reduceIte, qv_move, k5_0]; rfl) ?_
              refine WL.qq (by simp only [EN, Nat.reduceEqDiff, reduceIte, qv_move, k1_0]; rfl) ?_
              refine WL.qq (by simp only [EN, Nat.reduceEqDiff, reduceIte, qv_move, i7_0]; rfl) ?_
              refine WL.qq (by simp only [EN, Nat.reduceEqDiff, reduceIte, qv_indexAddr]; (try simp (disch := omega) only [ix57, Int.toNat_natCast]); rfl) ?_
              refine WL.qq (by simp only [EN, Nat.reduceEqDiff, reduceIte, qv_fieldAddr, fa62_2, Nat.zero_add, Nat.reduceAdd]; rfl) ?_
              refine WL.qq (by simp only [EN, Nat.reduceEqDiff, reduceIte, k0_0, k1_0, k5_0, i7_0, qv_load, ld3, Int.toNat_natCast, hk2]; rfl) ?_
              refine WL.ce Try.call23 (by simp only [EN, Nat.reduceEqDiff, reduceIte, AR]; exact ps_Ack o.a hP) ?_
              rintro _ h31 ⟨⟨e31, rfl⟩, hP31⟩
              simp only [put_some]
              replace hP := hP31
              refine WL.nil ?_
              refine bl_norm ?_
              refine th_norm ?_
              refine ⟨rfl, ?_, ?_⟩  -- meet 1 of cut 7
              · (repeat (first | exact Fr.refl _ _ | refine Fr.set rfl ?_ | refine Fr.put rfl ?_ | with_reducible refine Fr.put0 ?_))
              · exact hP
            ·
              try simp only [BD] at hct55
              refine hx_skip ?_
              refine bl_norm ?_
              refine th_norm ?_
              refine ⟨rfl, ?_, ?_⟩  -- meet 2 of cut 7
              · (repeat (first | exact Fr.refl _ _ | refine Fr.set rfl ?_ | refine Fr.put rfl ?_ | with_reducible refine Fr.put0 ?_))
              · exact hP
        ·
          rintro ec7 hC7 hfc7 hP
          have k0_c7 := hfc7 0 rfl; try simp only [EN, Nat.reduceEqDiff, reduceIte, k0_0] at k0_c7
          have k1_c7 := hfc7 1 rfl; try simp only [EN, Nat.reduceEqDiff, reduceIte, k1_0] at k1_c7
          have k5_c7 := hfc7 5 rfl; try simp only [EN, Nat.reduceEqDiff, reduceIte, k5_0] at k5_c7
          have k7_c7 := hfc7 7 rfl; try simp only [EN, Nat.reduceEqDiff, reduceIte, i7_0] at k7_c7
          obtain ⟨n, a, ak, cap, K, hS, hT⟩ := hP.ex
          have hkw := hS.kw; have hn2 := hS.n2; have han := hS.an; have ha1 := hS.a1; have hw2 := hS.w2
          refine hx_seq ?_
          refine hx_region ?_
          refine WL.qq (by simp only [EN, Nat.reduceEqDiff, reduceIte, qv_move, k5_c7]; rfl) ?_
          refine WL.ce Try.call21 (by simp only [EN, Nat.reduceEqDiff, reduceIte, AR]; exact c_Pending hS hT) ?_
          rintro _ h3 ⟨hx3, ho⟩
          replace hP := hP.ext hx3
          replace hT := hT.ext hx3
          simp only [put_some]
          obtain ⟨a5, c5, rfl, hk5, _⟩ := KO.of ho
          refine WL.qq (by simp only [EN, Nat.reduceEqDiff, reduceIte, qv_assign]; rfl) ?_
          refine WL.nil ?_
          refine th_norm ?_
          refine hx_seq ?_
          refine hx_seq ?_
          refine hx_region ?_
          refine WL.qq (by simp only [EN, Nat.reduceEqDiff, reduceIte, qv_move]; rfl) ?_
          refine WL.qq (by simp only [EN, Nat.reduceEqDiff, reduceIte, qv_len, ln34, AR]; rfl) ?_
          refine WL.qq (by simp only [EN, Nat.reduceEqDiff, reduceIte, qv_move, k0_c7]; rfl) ?_
          refine WL.qq (by simp only [EN, Nat.reduceEqDiff, reduceIte, qv_binOp, binv_gtr]; rfl) ?_
          refine WL.nil ?_
          refine th_norm ?_
          refine hx_cond (by simp only [EN, Nat.reduceEqDiff, reduceIte]; rfl) (fun hct69 => ?_) (fun hct69 => ?_)
          ·
            simp at hct69; omega
          ·
            try simp only [BD] at hct69
            refine hx_skip ?_
            refine th_norm ?_
            refine hx_seq ?_
            refine hx_seq ?_
            refine hx_region ?_
            refine WL.qq (by simp only [EN, Nat.reduceEqDiff, reduceIte, qv_assign]; rfl) ?_
            refine WL.nil ?_
            refine th_norm ?_
            refine hx_block ?_
            refine hx_loopS [4, 9, 70, 71, 72, 73, 74, 75, 76, 77, 78, 79, 80, 81, 82, 83, 84, 85, 86, 87, 88] (fun k e => ∃ (j : Nat), K.length - j = k ∧ (j ≤ K.length) ∧ e 9 = .int .i64 j) _ ⟨0, rfl, ?_, ?_⟩ ?_
            · omega
            · simp only [EN, Nat.reduceEqDiff, reduceIte, k0_c7, k1_c7, k5_c7, k7_c7] <;> rfl
            ·
              rintro k e1L hfr1 ⟨j, rfl, hj, i9_1⟩
              have k0_1 := hfr1 0 rfl; try simp only [EN, Nat.reduceEqDiff, reduceIte, k0_c7] at k0_1
              have k1_1 := hfr1 1 rfl; try simp only [EN, Nat.reduceEqDiff, reduceIte, k1_c7] at k1_1
              have k5_1 := hfr1 5 rfl; try simp only [EN, Nat.reduceEqDiff, reduceIte, k5_c7] at k5_1
              have k7_1 := hfr1 7 rfl; try simp only [EN, Nat.reduceEqDiff, reduceIte, k7_c7] at k7_1
              have k8_1 := hfr1 8 rfl; try simp only [EN, Nat.reduceEqDiff, reduceIte] at k8_1
              refine hx_seq ?_
              refine hx_seq ?_
              refine hx_region ?_
              refine WL.qq (by simp only [EN, Nat.reduceEqDiff, reduceIte, qv_move, i9_1]; rfl) ?_
              refine WL.qq (by simp only [EN, Nat.reduceEqDiff, reduceIte, qv_move, k8_1]; rfl) ?_
              refine WL.qq (by simp only [EN, Nat.reduceEqDiff, reduceIte, qv_len, ln34, AR]; rfl) ?_
              refine WL.qq (by simp only [EN, Nat.reduceEqDiff, reduceIte, qv_binOp, binv_lss]; rfl) ?_
              refine WL.nil ?_
              refine th_norm ?_
              refine hx_cond (by simp only [EN, Nat.reduceEqDiff, reduceIte]; rfl) (fun hct73 => ?_) (fun hct73 => ?_)
              ·
                try simp only [BD] at hct73
                obtain ⟨x, hx⟩ := atG (l := K) (i := j) (by omega)
                have hxs := hS.sq j x hx
                obtain ⟨b7, o7, rfl, hr7, hc7, _⟩ := msg_rd hk5.rd.rd hx
                refine hx_skip ?_
                refine th_norm ?_
                refine hx_seq ?_
                refine hx_block ?_
                refine hx_seq ?_
                apply hx_draw2 Rel.same [] [6] [(6, Spec.is _)] rfl (by decide +kernel) rfl
                refine LD.qq rfl rfl (by simp only [EN, Nat.reduceEqDiff, reduceIte, qv_move, k8_1]; rfl) ?_
                refine LD.qq rfl rfl (by simp only [EN, Nat.reduceEqDiff, reduceIte, qv_move, i9_1]; rfl) ?_
                refine LD.qq rfl rfl (by simp only [EN, Nat.reduceEqDiff, reduceIte, qv_indexAddr]; (try simp (disch := omega) only [ix34, Int.toNat_natCast]); rfl) ?_
                refine LD.qq rfl rfl (by simp only [EN, Nat.reduceEqDiff, reduceIte, qv_fieldAddr, fa43_0, Nat.zero_add, Nat.reduceAdd]; rfl) ?_
                refine LD.qq rfl rfl (by simp only [EN, Nat.reduceEqDiff, reduceIte, k0_1, k1_1, k5_1, k7_1, k8_1, i9_1, qv_load, ld3, Int.toNat_natCast, hc7]; rfl) ?_
                refine LD.qq rfl rfl (by simp only [EN, Nat.reduceEqDiff, reduceIte, qv_move, k5_1]; rfl) ?_
                refine LD.ck rfl rfl Try.call26 (by intro hD hr; obtain rfl : hD = _ := hr; simp only [EN, Nat.reduceEqDiff, reduceIte, AR]; exact c_NextS hT) ?_
                refine LD.qq rfl rfl (by simp only [EN, Nat.reduceEqDiff, reduceIte, qv_move, k8_1]; rfl) ?_
                refine LD.qq rfl rfl (by simp only [EN, Nat.reduceEqDiff, reduceIte, qv_len, ln34, AR]; rfl) ?_
                refine LD.qq rfl rfl (by simp only [EN, Nat.reduceEqDiff, reduceIte, qv_binOp, binv_sub]; (try simp (disch := omega) only [w64, w8, wu64]); rfl) ?_
                refine LD.qq rfl rfl (by simp only [EN, Nat.reduceEqDiff, reduceIte, qv_move, i9_1]; rfl) ?_
                refine LD.qq rfl rfl (by simp only [EN, Nat.reduceEqDiff, reduceIte, qv_binOp, binv_add]; (try simp (disch := omega) only [w64, w8, wu64]); rfl) ?_
                refine LD.qq rfl rfl (by simp only [EN, Nat.reduceEqDiff, reduceIte, qv_binOp, binv_neq, eq3, Option.map_some]; rfl) ?_
                refine LD.nil ?_
                rintro h3 rfl -
                refine WL.nil ?_
                refine th_norm ?_
                refine hx_cond (by simp only [EN, Nat.reduceEqDiff, reduceIte]; rfl) (fun hct88 => ?_) (fun hct88 => ?_)
                ·
                  simp at hct88; omega
                ·
                  try simp only [BD] at hct88
                  refine hx_skip ?_
                  refine bl_norm ?_
                  refine th_norm ?_
                  refine hx_region ?_
                  refine WL.qq (by simp only [EN, Nat.reduceEqDiff, reduceIte, qv_move, i9_1]; rfl) ?_
                  refine WL.qq (by simp only [EN, Nat.reduceEqDiff, reduceIte, qv_binOp, binv_add]; (try simp (disch := omega) only [w64, w8, wu64]); rfl) ?_
                  refine WL.qq (by simp only [EN, Nat.reduceEqDiff, reduceIte, qv_assign]; rfl) ?_
                  refine WL.nil ?_
                  refine th_norm ?_
                  refine ⟨rfl, rfl, ?_, _, ?_, j + 1, rfl, ?_, ?_⟩  -- again 0 of loop 1
                  · (repeat (first | exact Fr.refl _ _ | refine Fr.set rfl ?_ | refine Fr.put rfl ?_ | with_reducible refine Fr.put0 ?_))
                  · omega
                  · omega
                  · simp only [EN, Nat.reduceEqDiff, reduceIte, k0_1, k1_1, k5_1, k7_1, k8_1, i9_1] <;> first | rfl | (congr 1; omega)
              ·
                try simp only [BD] at hct73
                refine hx_exit ?_
                refine th_exit ?_
                refine th_exit ?_
                refine bl_hit ?_
                refine th_norm ?_
                refine hx_seq ?_
                refine hx_seq ?_
                refine hx_region ?_
                refine WL.qq (by simp only [EN, Nat.reduceEqDiff, reduceIte, qv_move, k8_1]; rfl) ?_
                refine WL.qq (by simp only [EN, Nat.reduceEqDiff, reduceIte, qv_len, ln34, AR]; rfl) ?_
                refine WL.qq (by simp only [EN, Nat.reduceEqDiff, reduceIte, qv_binOp, binv_eql, eq3, Option.map_some]; rfl) ?_
                refine WL.nil ?_
                refine th_norm ?_
                refine hx_cond (by simp only [EN, Nat.reduceEqDiff, reduceIte]; rfl) (fun hct91 => ?_) (fun hct91 => ?_)
                ·
                  try simp only [BD] at hct91
                  refine hx_exit ?_
                  refine th_exit ?_
                  refine bl_hit ?_
                  refine th_norm ?_
                  refine hx_region ?_
                  refine WL.qq (by simp only [EN, Nat.reduceEqDiff, reduceIte, qv_move, k7_1]; rfl) ?_
                  refine WL.qq (by simp only [EN, Nat.reduceEqDiff, reduceIte, qv_binOp, binv_add]; (try simp (disch := omega) only [w64, w8, wu64]); rfl) ?_
                  refine WL.qq (by simp only [EN, Nat.reduceEqDiff, reduceIte, qv_assign]; rfl) ?_
                  refine WL.nil ?_
                  refine th_norm ?_
                  refine ⟨rfl, ?_, _, ?_, i + 1, rfl, ?_, ?_, ?_⟩  -- again 0 of loop 0
                  · (repeat (first | exact Fr.refl _ _ | refine Fr.set rfl ?_ | refine Fr.put rfl ?_ | with_reducible refine Fr.put0 ?_ | refine Fr.trans ?_ (Fr.of hfr1 rfl) | refine Fr.trans ?_ (Fr.of hfc7 rfl)))
                  · omega
                  · omega
                  · exact ⟨n, a, ak, cap, K, hS, hT⟩
                  · simp only [EN, Nat.reduceEqDiff, reduceIte, k0_1, k1_1, k5_1, k7_1, k8_1, i9_1] <;> first | rfl | (congr 1; omega)
                ·
                  try simp only [BD] at hct91
                  have hK0 : 0 < K.length := (by omega)
                  obtain ⟨x0, hx0⟩ := atG (l := K) (i := 0) hK0
                  obtain ⟨x1, hx1e⟩ := atG (l := K) (i := K.length - 1) (by omega)
                  have hs0 := hS.sq 0 x0 hx0
                  have hs1 := hS.sq (K.length - 1) x1 hx1e
                  obtain ⟨b8, o8, rfl, hr8, hc8, _⟩ := msg_rd hk5.rd.rd hx0
                  obtain ⟨b9, o9, hae9, hr9, hc9, _⟩ := msg_rd hk5.rd.rd hx1e
                  cases hae9
                  have hc8b : GL.cell h3 b8 o8 = some (.int .i64 x0.1) := (by simpa using hc8)
                  have htn : ((K.length : Int) - 1).toNat = K.length - 1 := (by omega)
                  have hrz : resE n a x0.1 x1.1 = 0 := (by unfold resE; rw [if_neg (by omega), if_neg (by omega)])
                  have hrl : resL n a x0.1 x1.1 K = K := (by unfold resL; rw [if_pos hrz, show x0.1 - a = 0 by omega]; show List.take _ (K.drop 0) = K; rw [List.drop_zero]; exact List.take_of_length_le (by omega))
                  refine hx_skip ?_
                  refine th_norm ?_
                  refine hx_seq ?_
                  apply hx_draw2 Rel.grows [17, 18] [13] [(13, Spec.res K 0)] rfl (by decide +kernel) rfl
                  refine LD.qq rfl rfl (by simp only [EN, Nat.reduceEqDiff, reduceIte, qv_move, k5_1]; rfl) ?_
                  refine LD.qq rfl rfl (by simp only [EN, Nat.reduceEqDiff, reduceIte, qv_move, k8_1]; rfl) ?_
                  refine LD.qq rfl rfl (by simp only [EN, Nat.reduceEqDiff, reduceIte, qv_indexAddr]; (try simp (disch := omega) only [ix34, Int.toNat_natCast]); rfl) ?_
                  refine LD.qq rfl rfl (by simp only [EN, Nat.reduceEqDiff, reduceIte, qv_fieldAddr, fa43_0, Nat.zero_add, Nat.reduceAdd]; rfl) ?_
                  refine LD.qq rfl rfl (by simp only [EN, Nat.reduceEqDiff, reduceIte, k0_1, k1_1, k5_1, k7_1, k8_1, i9_1, qv_load, ld3, Int.toNat_zero, Nat.zero_mul, Nat.add_zero, hc8b]; rfl) ?_
                  refine LD.qq rfl rfl (by simp only [EN, Nat.reduceEqDiff, reduceIte, qv_move, k8_1]; rfl) ?_
                  refine LD.qq rfl rfl (by simp only [EN, Nat.reduceEqDiff, reduceIte, qv_move, k8_1]; rfl) ?_
                  refine LD.qq rfl rfl (by simp only [EN, Nat.reduceEqDiff, reduceIte, qv_len, ln34, AR]; rfl) ?_
                  refine LD.qq rfl rfl (by simp only [EN, Nat.reduceEqDiff, reduceIte, qv_binOp, binv_sub]; (try simp (disch := omega) only [w64, w8, wu64]); rfl) ?_
                  refine LD.qq rfl rfl (by simp only [EN, Nat.reduceEqDiff, reduceIte, qv_indexAddr]; (try simp (disch := omega) only [ix34, Int.toNat_natCast]); rfl) ?_
                  refine LD.qq rfl rfl (by simp only [EN, Nat.reduceEqDiff, reduceIte, qv_fieldAddr, fa43_0, Nat.zero_add, Nat.reduceAdd]; rfl) ?_
                  refine LD.qq rfl rfl (by simp only [EN, Nat.reduceEqDiff, reduceIte, k0_1, k1_1, k5_1, k7_1, k8_1, i9_1, qv_load, ld3, htn, hc9]; rfl) ?_
                  refine LD.qq rfl rfl (by refine qv_bld (by simp only [EN, Nat.reduceEqDiff, reduceIte, AR] <;> rfl) (by rw [bl70]; simp [Instr.fill, Value.cells]; rfl)) ?_
                  refine LD.es rfl rfl (by intro hD hr hf; have hx : Ext _ _ := hr; have hP := hP.ext hx; have hT := hT.ext hx; have hk5 := hk5.ext hx; exact EOp.mono (e_call Try.call28 (by simp only [EN, Nat.reduceEqDiff, reduceIte, k0_1, k1_1, k5_1, k7_1, k8_1, i9_1, List.map_toArray, List.map_cons, List.map_nil]; have hc9 := c_Resend x0.1 x1.1 hS hT; rw [hrl, hrz] at hc9; exact hc9)) (fun v h' hh => res_of hh)) ?_
                  intro u21_13 w21_13
                  obtain ⟨b10, c10, rfl⟩ := w21_13
                  refine LD.qq rfl rfl (by simp only [EN, Nat.reduceEqDiff, reduceIte, qv_move]; rfl) ?_
                  refine LD.qq rfl rfl (by simp only [EN, Nat.reduceEqDiff, reduceIte, qv_extract, AR]; rfl) ?_
                  refine LD.qq rfl rfl (by simp only [EN, Nat.reduceEqDiff, reduceIte, qv_extract, AR]; rfl) ?_
                  refine LD.skip rfl ?_
                  refine LD.skip rfl ?_
                  refine LD.nil ?_
                  rintro h4 hx4 hF21
                  replace hx4 : Ext _ _ := hx4
                  replace hP := hP.ext hx4
                  replace hT := hT.ext hx4
                  replace hk5 := hk5.ext hx4
                  have hs10 : SlR 43 2 msgL h4 b10 K := hF21 (13, .tuple #[.slice b10 K.length c10, iV 0]) (by simp) _ rfl b10 _ c10 _ rfl
                  refine WL.qq (by simp only [EN, Nat.reduceEqDiff, reduceIte, qv_assign]; rfl) ?_
                  refine WL.qq (by simp only [EN, Nat.reduceEqDiff, reduceIte, qv_assign]; rfl) ?_
                  refine WL.nil ?_
                  refine th_norm ?_
                  refine hx_seq ?_
                  refine hx_seq ?_
                  refine hx_region ?_
                  refine WL.qq (by simp only [EN, Nat.reduceEqDiff, reduceIte, qv_move]; rfl) ?_
                  refine WL.qq (by simp only [EN, Nat.reduceEqDiff, reduceIte, qv_binOp, binv_neq, eq37, Option.map_some]; rfl) ?_
                  refine WL.qq (by simp only [EN, Nat.reduceEqDiff, reduceIte, qv_move]; rfl) ?_
                  refine WL.cq (gd_at (t := 111) rfl (by simp only [EN, Nat.reduceEqDiff, reduceIte] <;> rfl)) (fun hg22_3 => by simp only [EN, Nat.reduceEqDiff, reduceIte, qv_move, hg22_3, GR]; rfl) ?_
                  refine WL.cq (gd_at (t := 111) rfl (by simp only [EN, Nat.reduceEqDiff, reduceIte] <;> rfl)) (fun hg22_4 => by simp only [EN, Nat.reduceEqDiff, reduceIte, qv_len, ln34, AR, hg22_4, GR]; rfl) ?_
                  refine WL.cq (gd_at (t := 111) rfl (by simp only [EN, Nat.reduceEqDiff, reduceIte, k8_1] <;> rfl)) (fun hg22_5 => by simp only [EN, Nat.reduceEqDiff, reduceIte, qv_move, k8_1, hg22_5, GR]; rfl) ?_
                  refine WL.cq (gd_at (t := 111) rfl (by simp only [EN, Nat.reduceEqDiff, reduceIte] <;> rfl)) (fun hg22_6 => by simp only [EN, Nat.reduceEqDiff, reduceIte, qv_len, ln34, AR, hg22_6, GR]; rfl) ?_
                  refine WL.cq (gd_at (t := 111) rfl (by simp only [EN, Nat.reduceEqDiff, reduceIte] <;> rfl)) (fun hg22_7 => by simp only [EN, Nat.reduceEqDiff, reduceIte, qv_binOp, binv_neq, eq3, Option.map_some, hg22_7, GR]; rfl) ?_
                  refine WL.qq (by simp only [EN, Nat.reduceEqDiff, reduceIte, qv_pick, pk_and, pk_or, GR]; rfl) ?_
                  refine WL.nil ?_
                  refine th_norm ?_
                  refine hx_cond (by simp only [EN, Nat.reduceEqDiff, reduceIte]; rfl) (fun hct117 => ?_) (fun hct117 => ?_)
                  ·
                    simp at hct117
                  ·
                    try simp only [BD] at hct117
                    refine hx_skip ?_
                    refine th_norm ?_
                    refine hx_seq ?_
                    refine hx_region ?_
                    refine WL.qq (by simp only [EN, Nat.reduceEqDiff, reduceIte, qv_assign]; rfl) ?_
                    refine WL.nil ?_
                    refine th_norm ?_
                    refine hx_block ?_
                    refine hx_loopS [4, 12, 118, 119, 120, 121, 122, 123, 124, 125, 126, 127, 128, 129, 130, 131, 132] (fun k e => ∃ (j : Nat), K.length - j = k ∧ (j ≤ K.length) ∧ e 12 = .int .i64 j) _ ⟨0, rfl, ?_, ?_⟩ ?_
                    · omega
                    · simp only [EN, Nat.reduceEqDiff, reduceIte, k0_1, k1_1, k5_1, k7_1, k8_1, i9_1] <;> rfl
                    ·
                      rintro k e2L hfr2 ⟨j, rfl, hj, i12_2⟩
                      have k0_2 := hfr2 0 rfl; try simp only [EN, Nat.reduceEqDiff, reduceIte, k0_1] at k0_2
                      have k1_2 := hfr2 1 rfl; try simp only [EN, Nat.reduceEqDiff, reduceIte, k1_1] at k1_2
                      have k5_2 := hfr2 5 rfl; try simp only [EN, Nat.reduceEqDiff, reduceIte, k5_1] at k5_2
                      have k7_2 := hfr2 7 rfl; try simp only [EN, Nat.reduceEqDiff, reduceIte, k7_1] at k7_2
                      have k8_2 := hfr2 8 rfl; try simp only [EN, Nat.reduceEqDiff, reduceIte, k8_1] at k8_2
                      have k10_2 := hfr2 10 rfl; try simp only [EN, Nat.reduceEqDiff, reduceIte] at k10_2
                      refine hx_seq ?_
                      refine hx_seq ?_
                      refine hx_region ?_
                      refine WL.qq (by simp only [EN, Nat.reduceEqDiff, reduceIte, qv_move, i12_2]; rfl) ?_
                      refine WL.qq (by simp only [EN, Nat.reduceEqDiff, reduceIte, qv_move, k8_2]; rfl) ?_
                      refine WL.qq (by simp only [EN, Nat.reduceEqDiff, reduceIte, qv_len, ln34, AR]; rfl) ?_
                      refine WL.qq (by simp only [EN, Nat.reduceEqDiff, reduceIte, qv_binOp, binv_lss]; rfl) ?_
                      refine WL.nil ?_
                      refine th_norm ?_
                      refine hx_cond (by simp only [EN, Nat.reduceEqDiff, reduceIte]; rfl) (fun hct121 => ?_) (fun hct121 => ?_)
                      ·
                        try simp only [BD] at hct121
                        obtain ⟨x, hx⟩ := atG (l := K) (i := j) (by omega)
                        obtain ⟨b11, o11, rfl, hr11, _, _⟩ := msg_rd hs10.rd hx
                        obtain ⟨b12, o12, hae12, hr12, _, _⟩ := msg_rd hk5.rd.rd hx
                        cases hae12
                        refine hx_skip ?_
                        refine th_norm ?_
                        refine hx_seq ?_
                        refine hx_block ?_
                        refine hx_seq ?_
                        apply hx_draw2 Rel.same [] [] [] rfl (by decide +kernel) rfl
                        refine LD.qq rfl rfl (by simp only [EN, Nat.reduceEqDiff, reduceIte, qv_move, k10_2]; rfl) ?_
                        refine LD.qq rfl rfl (by simp only [EN, Nat.reduceEqDiff, reduceIte, qv_move, i12_2]; rfl) ?_
                        refine LD.qq rfl rfl (by simp only [EN, Nat.reduceEqDiff, reduceIte, qv_indexAddr]; (try simp (disch := omega) only [ix34, Int.toNat_natCast]); rfl) ?_
                        refine LD.qq rfl rfl (by simp only [EN, Nat.reduceEqDiff, reduceIte, k0_2, k1_2, k5_2, k7_2, k8_2, k10_2, i12_2, qv_load, ld43, Int.toNat_natCast, hr11]; rfl) ?_
                        refine LD.qq rfl rfl (by simp only [EN, Nat.reduceEqDiff, reduceIte, qv_move, k8_2]; rfl) ?_
                        refine LD.qq rfl rfl (by simp only [EN, Nat.reduceEqDiff, reduceIte, qv_move, i12_2]; rfl) ?_
                        refine LD.qq rfl rfl (by simp only [EN, Nat.reduceEqDiff, reduceIte, qv_indexAddr]; (try simp (disch := omega) only [ix34, Int.toNat_natCast]); rfl) ?_
                        refine LD.qq rfl rfl (by simp only [EN, Nat.reduceEqDiff, reduceIte, k0_2, k1_2, k5_2, k7_2, k8_2, k10_2, i12_2, qv_load, ld43, Int.toNat_natCast, hr12]; rfl) ?_
                        refine LD.qq rfl rfl (by simp only [EN, Nat.reduceEqDiff, reduceIte, qv_binOp, binv_neq, eqs43, Option.map_some]; rfl) ?_
                        refine LD.nil ?_
                        rintro h4 rfl -
                        refine WL.nil ?_
                        refine th_norm ?_
                        refine hx_cond (by simp only [EN, Nat.reduceEqDiff, reduceIte]; rfl) (fun hct132 => ?_) (fun hct132 => ?_)
                        ·
                          simp at hct132
                        ·
                          try simp only [BD] at hct132
                          refine hx_skip ?_
                          refine bl_norm ?_
                          refine th_norm ?_
                          refine hx_region ?_
                          refine WL.qq (by simp only [EN, Nat.reduceEqDiff, reduceIte, qv_move, i12_2]; rfl) ?_
                          refine WL.qq (by simp only [EN, Nat.reduceEqDiff, reduceIte, qv_binOp, binv_add]; (try simp (disch := omega) only [w64, w8, wu64]); rfl) ?_
                          refine WL.qq (by simp only [EN, Nat.reduceEqDiff, reduceIte, qv_assign]; rfl) ?_
                          refine WL.nil ?_
                          refine th_norm ?_
                          refine ⟨rfl, rfl, ?_, _, ?_, j + 1, rfl, ?_, ?_⟩  -- again 0 of loop 2
                          · (repeat (first | exact Fr.refl _ _ | refine Fr.set rfl ?_ | refine Fr.put rfl ?_ | with_reducible refine Fr.put0 ?_))
                          · omega
                          · omega
                          · simp only [EN, Nat.reduceEqDiff, reduceIte, k0_2, k1_2, k5_2, k7_2, k8_2, k10_2, i12_2] <;> first | rfl | (congr 1; omega)
                      ·
                        try simp only [BD] at hct121
                        refine hx_exit ?_
                        refine th_exit ?_
                        refine th_exit ?_
                        refine bl_hit ?_
                        refine bl_norm ?_
                        refine th_norm ?_
                        refine hx_region ?_
                        refine WL.qq (by simp only [EN, Nat.reduceEqDiff, reduceIte, qv_move, k7_2]; rfl) ?_
                        refine WL.qq (by simp only [EN, Nat.reduceEqDiff, reduceIte, qv_binOp, binv_add]; (try simp (disch := omega) only [w64, w8, wu64]); rfl) ?_
                        refine WL.qq (by simp only [EN, Nat.reduceEqDiff, reduceIte, qv_assign]; rfl) ?_
                        refine WL.nil ?_
                        refine th_norm ?_
                        refine ⟨rfl, ?_, _, ?_, i + 1, rfl, ?_, ?_, ?_⟩  -- again 1 of loop 0
                        · (repeat (first | exact Fr.refl _ _ | refine Fr.set rfl ?_ | refine Fr.put rfl ?_ | with_reducible refine Fr.put0 ?_ | refine Fr.trans ?_ (Fr.of hfr2 rfl) | refine Fr.trans ?_ (Fr.of hfr1 rfl) | refine Fr.trans ?_ (Fr.of hfc7 rfl)))
                        · omega
                        · omega
                        · exact ⟨n, a, ak, cap, K, hS, hT⟩
                        · simp only [EN, Nat.reduceEqDiff, reduceIte, k0_2, k1_2, k5_2, k7_2, k8_2, k10_2, i12_2] <;> first | rfl | (congr 1; omega)
      ·
        try simp only [BD] at hct29
        refine hx_exit ?_
        refine th_exit ?_
        refine th_exit ?_
        refine bl_hit ?_
        refine th_norm ?_
        refine hx_seq ?_
        refine hx_region ?_
        refine WL.cg Try.call12 (by simp only [EN, Nat.reduceEqDiff, reduceIte, AR]; exact c_known49 _) ?_
        intro h5 hx5
        replace hP := hP.ext hx5
        refine WL.qq (by simp only [EN, Nat.reduceEqDiff, reduceIte, qv_assign]; rfl) ?_
        refine WL.nil ?_
        refine th_norm ?_
        refine hx_ret ?_
        refine fin_ret [.tmp 4] rfl rfl (by simp only [EN, Nat.reduceEqDiff, reduceIte, resv, k0_0, k1_0, k5_0, i7_0]; rfl) ?_  -- ret 1 r29
        exact ⟨rfl, hP.E⟩
end GL
namespace Go.Proofs.Ytmlhncifcaicpaa.sessionPending
open Go.ChangeShapes Go.WideShapes Go.ChangeAt Go.RowKit
theorem own : ownKnob Try.prog.godebug = none := by kernel_rfl
theorem laid : laidOutB Try.prog = true := by kernel_rfl
set_option maxRecDepth 100000 in
theorem lifted (os : Os) (started : os.Started) (H : Type) (enc : TypeId × Value → H) :
    ReturnsInHanded {} Try.checked os 8 .any (Rows.sessionPendingSpec.pre6 enc Try.prog Try.f8 Rows.sessionPendingRow.domain false) (Rows.sessionPendingSpec.post enc Try.prog Try.f8 false true false false) := by
  refine returnsInHanded_of_change (C := Try.checked) own started (by kernel_rfl) Try.func8
    (ChangeSpec.witness6 (enc := enc) (C := Try.checked) false ⟨#[], #[(.int .i64 0), (.slice none 0 0)], []⟩ 8 (by kernel_rfl) (by kernel_rfl) (by kernel_rfl) (by kernel_rfl)) ?_
  intro W base args ds gs before hval0 hW hcnd _
  have hval : ∀ (j : Nat) t v, Try.f8.params[j]? = some t → args[j]? = some v → Value.okWide Try.prog W .any base t v := hval0
  have hW' := hW
  obtain ⟨p, q, hA0, hV, rfl, hfz, hnd⟩ := hW
  have hA : DataW.TrodAll enc Try.prog W 0 (fun _ => true) true Try.f8.params.toList args.toList ds p := hA0
  rw [Try.params8] at hA hval
  obtain ⟨v0, vs0, d0, ds0, p0, q0, hargs, rfl, rfl, h0, r0⟩ := trodAll_cons hA
  obtain ⟨v1, vs1, d1, ds1, p1, q1, rfl, rfl, rfl, h1, r1⟩ := trodAll_cons r0
  obtain ⟨rfl, rfl, rfl⟩ := trodAll_nil r1
  obtain rfl : args = #[v0, v1] := by cases args; simp_all
  obtain ⟨rfl, rfl⟩ := trodVars_none hV
  obtain ⟨w, rfl, _⟩ := GL.view_i (hval 0 3 v0 rfl rfl) h0
  obtain ⟨al, l, cl, rfl, hl, hlc, hcl, _, hop⟩ := GL.view_ops (hval 1 57 v1 rfl rfl) h1
  exact GL.law_done (tb := 4) laid (by kernel_rfl) rfl (by kernel_rfl) Try.underlying4 hW' rfl ((if hw : 1 ≤ w ∧ w ≤ 256 then GL.l_pend w hw al l cl hl (Nat.le_trans hlc hcl) hop else GL.l_pendN w hw al l cl hl (Nat.le_trans hlc hcl)))
theorem over : Rows.sessionPendingRow.holds Try.pinned (OpenSpec.ofChange Rows.sessionPendingSpec) :=
  OpenClaim.holds_of_wide 8 Try.f8 rfl rfl rfl rfl rfl rfl rfl ⟨rfl, rfl, rfl, rfl, rfl⟩ rfl rfl rfl rfl rfl (by kernel_rfl) Try.func8 (by kernel_rfl)
    (of_decide_eq_true (by kernel_rfl)) (by unfold Func.isWrapper; first | (rw [if_pos (by decide +kernel)]; kernel_rfl) | (rw [if_neg (by decide +kernel)]; exact ⟨rfl, rfl⟩))
    (fun os started H enc _ => lifted os started H enc)
theorem proved : Rows.SessionPendingSaid := over
end Go.Proofs.Ytmlhncifcaicpaa.sessionPending


/- The law SessionOrder returns true: whatever the order in which messages arrive, they are delivered in the order in which they were sent. No condition beyond the row's own. -/
import Derived.Test.YtmlhncifcaicpaaRows
import Derived.Test.YtmlhncifcaicpaaSesS
import Derived.Test.YtmlhncifcaicpaaSesV
set_option linter.unusedSimpArgs false
set_option linter.unusedVariables false
set_option linter.unnecessarySimpa false
namespace GL
open Go Go.Proofs
set_option maxRecDepth 8000
set_option maxHeartbeats 2000000 in
theorem l_order (ax : Option Addr) (ps : List ByteArray) (cx : Nat) (u : Nat) (hu8 : u ≤ 255) (al : Option Addr) (l : List Nat) (cl : Nat) {h : Heap} (hps : SlG 1 strL h ax ps) (lps : ps.length ≤ 9223372036854775807) (hl : SlG 1 u8L h al l) (ll : l.length ≤ 9223372036854775807) (hop : ∀ x ∈ l, x ≤ 255) :
    HCalls Try.prog 4 #[.slice ax ps.length cx, .int .u8 u, .slice al l.length cl] h (Grow (.bool true) h) := by
  obtain ⟨z2, hz2, hz2a, hz2b⟩ : ∃ z : Int, (u : Int).tmod 60 = z ∧ 0 ≤ z ∧ z ≤ 59 := ⟨_, rfl, by rw [Int.tmod_eq_emod_of_nonneg (by omega)]; omega, by rw [Int.tmod_eq_emod_of_nonneg (by omega)]; omega⟩
  refine hcalls2 Try.func4 rfl (by decide +kernel) (by simp only [Try.ntmps4]; exact of_decide_eq_true rfl) ?_
  intro e hin
  have e0 := hin 0 _ rfl
  have e1 := hin 1 _ rfl
  have e2 := hin 2 _ rfl
  refine hx_seq ?_
  refine hx_region ?_
  refine WL.qq (by simp only [EN, Nat.reduceEqDiff, reduceIte, qv_assign]; rfl) ?_
  refine WL.nil ?_
  refine th_norm ?_
  refine hx_seq ?_
  refine hx_region ?_
  refine WL.qq (by simp only [EN, Nat.reduceEqDiff, reduceIte, qv_move, e0]; rfl) ?_
  refine WL.ce Try.call14 (by simp only [EN, Nat.reduceEqDiff, reduceIte, AR]; exact (c_sent ax ps cx hps lps).mono (fun v h' hh => by obtain ⟨p, ak, cap, b, c, K, e1, e2⟩ := hh; exact (⟨e2.T.E, p, b, c, K, e1, e2.l, e2.len, e2.sz, e2.S.sq⟩ : Ext _ h' ∧ ∃ p b c K, v = .tuple #[.pointer (some ⟨p, 0, none⟩), .slice b K.length c, .bool true] ∧ SlR 43 2 msgL h' b K ∧ K.length ≤ 60 ∧ (∀ x ∈ K, x.2.size ≤ 4096) ∧ ∀ (i : Nat) (x : M2), K[i]? = some x → x.1 = 1 + (i : Int)))) ?_
  rintro _ h1 ⟨hx1, p, b, c, K, rfl, hL, hK60, hKs, hKq⟩
  simp only [put_some]
  have kE := hx1
  refine WL.qq (by simp only [EN, Nat.reduceEqDiff, reduceIte, qv_move]; rfl) ?_
  refine WL.qq (by simp only [EN, Nat.reduceEqDiff, reduceIte, qv_extract, AR]; rfl) ?_
  refine WL.qq (by simp only [EN, Nat.reduceEqDiff, reduceIte, qv_extract, AR]; rfl) ?_
  refine WL.qq (by simp only [EN, Nat.reduceEqDiff, reduceIte, qv_extract, AR]; rfl) ?_
  refine WL.qq (by simp only [EN, Nat.reduceEqDiff, reduceIte, qv_assign]; rfl) ?_
  refine WL.qq (by simp only [EN, Nat.reduceEqDiff, reduceIte, qv_assign]; rfl) ?_
  refine WL.qq (by simp only [EN, Nat.reduceEqDiff, reduceIte, qv_assign]; rfl) ?_
  refine WL.nil ?_
  refine th_norm ?_
  refine hx_seq ?_
  refine hx_region ?_
  refine WL.qq (by simp only [EN, Nat.reduceEqDiff, reduceIte, qv_move, e1]; rfl) ?_
  refine WL.qq (by simp only [EN, Nat.reduceEqDiff, reduceIte, qv_convert, convv, Try.underlying5, Try.underlying3]; (try simp (disch := omega) only [w64, w8, wu64]); rfl) ?_
  refine WL.qq (by simp only [EN, Nat.reduceEqDiff, reduceIte, qv_binOp]; (try simp (disch := omega) only [binv_rem, w64, w8, wu64]); rfl) ?_
  refine WL.qq (by simp only [EN, Nat.reduceEqDiff, reduceIte, qv_binOp, binv_add, hz2]; (try simp (disch := omega) only [w64, w8, wu64]); rfl) ?_
  refine WL.ce Try.call15 (by simp only [EN, Nat.reduceEqDiff, reduceIte, AR]; exact tr_new (1 + z2) (by omega) _) ?_
  rintro _ h2 ⟨hx2, q, rfl, hR⟩
  replace hL := hL.ext hx2
  simp only [put_some]
  replace hR := hR.base kE
  refine WL.qq (by simp only [EN, Nat.reduceEqDiff, reduceIte, qv_move]; rfl) ?_
  refine WL.qq (by simp only [EN, Nat.reduceEqDiff, reduceIte, qv_extract, AR]; rfl) ?_
  refine WL.qq (by simp only [EN, Nat.reduceEqDiff, reduceIte, qv_extract, AR]; rfl) ?_
  refine WL.qq (by simp only [EN, Nat.reduceEqDiff, reduceIte, qv_assign]; rfl) ?_
  refine WL.qq (by simp only [EN, Nat.reduceEqDiff, reduceIte, qv_assign]; rfl) ?_
  refine WL.nil ?_
  refine th_norm ?_
  refine hx_seq ?_
  refine hx_seq ?_
  refine hx_region ?_
  refine WL.qq (by simp only [EN, Nat.reduceEqDiff, reduceIte, qv_move]; rfl) ?_
  refine WL.qq (by simp only [EN, Nat.reduceEqDiff, reduceIte, qv_unOp, unv_not]; rfl) ?_
  refine WL.qq (by simp only [EN, Nat.reduceEqDiff, reduceIte, qv_move]; rfl) ?_
  refine WL.cq (gd_at (t := 33) rfl (by simp only [EN, Nat.reduceEqDiff, reduceIte] <;> rfl)) (fun hg3_3 => by simp only [EN, Nat.reduceEqDiff, reduceIte, qv_move, hg3_3, GR]; rfl) ?_
  refine WL.cq (gd_at (t := 33) rfl (by simp only [EN, Nat.reduceEqDiff, reduceIte] <;> rfl)) (fun hg3_4 => by simp only [EN, Nat.reduceEqDiff, reduceIte, qv_binOp, binv_eql, eqz25, eqn25, eqm25, Option.map_some, hg3_4, GR]; rfl) ?_
  refine WL.qq (by simp only [EN, Nat.reduceEqDiff, reduceIte, qv_pick, pk_and, pk_or, GR]; rfl) ?_
  refine WL.qq (by simp only [EN, Nat.reduceEqDiff, reduceIte, qv_move]; rfl) ?_
  refine WL.cq (gd_at (t := 37) rfl (by simp only [EN, Nat.reduceEqDiff, reduceIte] <;> rfl)) (fun hg3_7 => by simp only [EN, Nat.reduceEqDiff, reduceIte, qv_move, hg3_7, GR]; rfl) ?_
  refine WL.cq (gd_at (t := 37) rfl (by simp only [EN, Nat.reduceEqDiff, reduceIte] <;> rfl)) (fun hg3_8 => by simp only [EN, Nat.reduceEqDiff, reduceIte, qv_binOp, binv_neq, eq37, Option.map_some, hg3_8, GR]; rfl) ?_
  refine WL.qq (by simp only [EN, Nat.reduceEqDiff, reduceIte, qv_pick, pk_and, pk_or, GR]; rfl) ?_
  refine WL.qq (by simp only [EN, Nat.reduceEqDiff, reduceIte, qv_move]; rfl) ?_
  refine WL.cq (gd_at (t := 41) rfl (by simp only [EN, Nat.reduceEqDiff, reduceIte, e2] <;> rfl)) (fun hg3_11 => by simp only [EN, Nat.reduceEqDiff, reduceIte, qv_move, e2, hg3_11, GR]; rfl) ?_
  refine WL.cq (gd_at (t := 41) rfl (by simp only [EN, Nat.reduceEqDiff, reduceIte] <;> rfl)) (fun hg3_12 => by simp only [EN, Nat.reduceEqDiff, reduceIte, qv_len, ln32, AR, hg3_12, GR]; rfl) ?_
  refine WL.cq (gd_at (t := 41) rfl (by simp only [EN, Nat.reduceEqDiff, reduceIte] <;> rfl)) (fun hg3_13 => by simp only [EN, Nat.reduceEqDiff, reduceIte, qv_binOp, binv_gtr, hg3_13, GR]; rfl) ?_
  refine WL.qq (by simp only [EN, Nat.reduceEqDiff, reduceIte, qv_pick, pk_and, pk_or, GR]; rfl) ?_
  refine WL.nil ?_
  refine th_norm ?_
  refine hx_cond (by simp only [EN, Nat.reduceEqDiff, reduceIte]; rfl) (fun hct45 => ?_) (fun hct45 => ?_)
  ·
    try simp only [BD] at hct45
    refine hx_seq ?_
    refine hx_region ?_
    refine WL.qq (by simp only [EN, Nat.reduceEqDiff, reduceIte, qv_move]; rfl) ?_
    refine WL.qq (by simp only [EN, Nat.reduceEqDiff, reduceIte, qv_move]; rfl) ?_
    refine WL.cq (gd_at (t := 47) rfl (by simp only [EN, Nat.reduceEqDiff, reduceIte] <;> rfl)) (fun hg4_2 => by simp only [EN, Nat.reduceEqDiff, reduceIte, qv_move, hg4_2, GR]; rfl) ?_
    refine WL.cq (gd_at (t := 47) rfl (by simp only [EN, Nat.reduceEqDiff, reduceIte] <;> rfl)) (fun hg4_3 => by simp only [EN, Nat.reduceEqDiff, reduceIte, qv_binOp, binv_neq, eqz25, eqn25, eqm25, Option.map_some, hg4_3, GR]; rfl) ?_
    refine WL.qq (by simp only [EN, Nat.reduceEqDiff, reduceIte, qv_pick, pk_and, pk_or, GR]; rfl) ?_
    refine WL.qq (by simp only [EN, Nat.reduceEqDiff, reduceIte, qv_move]; rfl) ?_
    refine WL.ccg (gd_at (t := 51) rfl (by simp only [EN, Nat.reduceEqDiff, reduceIte] <;> rfl)) Try.call12 (fun hg4_6 => by simp only [EN, Nat.reduceEqDiff, reduceIte, AR, hg4_6, GR]; exact c_known49 _) ?_
    intro h3 hx3
    replace hL := hL.ext hx3
    replace hR := hR.ext hx3
    refine WL.qq (by simp only [EN, Nat.reduceEqDiff, reduceIte, qv_pick, pk_and, pk_or, GR]; rfl) ?_
    refine WL.qq (by simp only [EN, Nat.reduceEqDiff, reduceIte, qv_assign]; rfl) ?_
    refine WL.nil ?_
    refine th_norm ?_
    refine hx_ret ?_
    refine th_ret ?_
    refine fin_ret [.tmp 6] rfl rfl (by simp only [EN, Nat.reduceEqDiff, reduceIte, resv, e0, e1, e2]; rfl) ?_  -- ret 0 r4
    exact ⟨by simp [retOf], ((hx1).trans ((hx2).trans (hx3)))⟩
  ·
    try simp only [BD] at hct45
    have hl2 : l.length ≤ 200 := (by omega)
    refine hx_skip ?_
    refine th_norm ?_
    refine hx_seq ?_
    refine hx_region ?_
    refine WL.qq (by simp only [EN, Nat.reduceEqDiff, reduceIte, qv_assign]; rfl) ?_
    refine WL.nil ?_
    refine th_norm ?_
    refine hx_seq ?_
    refine hx_seq ?_
    refine hx_region ?_
    refine WL.qq (by simp only [EN, Nat.reduceEqDiff, reduceIte, qv_assign]; rfl) ?_
    refine WL.nil ?_
    refine th_norm ?_
    refine hx_block ?_
    refine hx_loopG [6, 12, 13, 14, 15, 16, 54, 55, 56, 57, 58, 59, 60, 61, 62, 63, 64, 65, 66, 67, 68, 69, 70, 71, 72, 73, 74, 75, 76, 77, 78, 79, 80, 81, 82, 83, 84, 85, 86, 87, 88, 89, 90, 91, 92, 93, 94, 95, 96, 97, 98, 99, 100, 101, 102, 103, 104, 105, 106, 107, 108, 109] (fun k e hL0 => ∃ (i : Nat) (d : Nat) (bf : List M2), l.length - i = k ∧ (i ≤ l.length) ∧ (TR h hL0 q (1 + z2) ((d : Int) + 1) bf) ∧ (RG (1 + z2) ((d : Int) + 1) bf) ∧ (bf.lookup ((d : Int) + 1) = none) ∧ ((∀ x ∈ bf, x ∈ K)) ∧ (SlR 43 2 msgL hL0 b K) ∧ e 12 = .int .i64 d ∧ e 13 = .int .i64 i) _ ⟨0, 0, [], rfl, ?_, ?_, ?_, ?_, ?_, ?_, ?_, ?_⟩ ?_
    · omega
    · exact hR
    · exact rg_new _ (by omega)
    · rfl
    · intro x hx; cases hx
    · exact hL
    · simp only [EN, Nat.reduceEqDiff, reduceIte, e0, e1, e2] <;> rfl
    · simp only [EN, Nat.reduceEqDiff, reduceIte, e0, e1, e2] <;> rfl
    ·
      rintro k e0L hL0 hfr0 ⟨i, d, bf, rfl, hi, hR, hG, hlk, hbK, hL, i12_0, i13_0⟩
      have k2_0 := hfr0 2 rfl; try simp only [EN, Nat.reduceEqDiff, reduceIte, e2] at k2_0
      have k8_0 := hfr0 8 rfl; try simp only [EN, Nat.reduceEqDiff, reduceIte] at k8_0
      have k10_0 := hfr0 10 rfl; try simp only [EN, Nat.reduceEqDiff, reduceIte] at k10_0
      refine hx_seq ?_
      refine hx_seq ?_
      refine hx_region ?_
      refine WL.qq (by simp only [EN, Nat.reduceEqDiff, reduceIte, qv_move, i13_0]; rfl) ?_
      refine WL.qq (by simp only [EN, Nat.reduceEqDiff, reduceIte, qv_move, k2_0]; rfl) ?_
      refine WL.qq (by simp only [EN, Nat.reduceEqDiff, reduceIte, qv_len, ln32, AR]; rfl) ?_
      refine WL.qq (by simp only [EN, Nat.reduceEqDiff, reduceIte, qv_binOp, binv_lss]; rfl) ?_
      refine WL.qq (by simp only [EN, Nat.reduceEqDiff, reduceIte, qv_move]; rfl) ?_
      refine WL.cq (gd_at (t := 58) rfl (by simp only [EN, Nat.reduceEqDiff, reduceIte, k8_0] <;> rfl)) (fun hg7_5 => by simp only [EN, Nat.reduceEqDiff, reduceIte, qv_move, k8_0, hg7_5, GR]; rfl) ?_
      refine WL.cq (gd_at (t := 58) rfl (by simp only [EN, Nat.reduceEqDiff, reduceIte] <;> rfl)) (fun hg7_6 => by simp only [EN, Nat.reduceEqDiff, reduceIte, qv_len, ln34, AR, hg7_6, GR]; rfl) ?_
      refine WL.cq (gd_at (t := 58) rfl (by simp only [EN, Nat.reduceEqDiff, reduceIte] <;> rfl)) (fun hg7_7 => by simp only [EN, Nat.reduceEqDiff, reduceIte, qv_binOp, binv_gtr, hg7_7, GR]; rfl) ?_
      refine WL.qq (by simp only [EN, Nat.reduceEqDiff, reduceIte, qv_pick, pk_and, pk_or, GR]; rfl) ?_
      refine WL.nil ?_
      refine th_norm ?_
      refine hx_cond (by simp only [EN, Nat.reduceEqDiff, reduceIte]; rfl) (fun hct62 => ?_) (fun hct62 => ?_)
      ·
        try simp only [BD] at hct62
        obtain ⟨y, hy⟩ := atG (l := l) (i := i) (by omega)
        have hy8 := hop y (List.mem_of_getElem? hy)
        obtain ⟨b0, o0, rfl, hr0⟩ := (hl.ext hR.E) i y hy
        have hy0 := readN_cell hr0 0 _ rfl; rw [Nat.add_zero, Nat.mul_one] at hy0
        have hK0 : 0 < K.length := (by omega)
        obtain ⟨r, hrr, hrl⟩ : ∃ r : Nat, (y : Int).tmod (K.length : Int) = (r : Int) ∧ r < K.length := ⟨y % K.length, by rw [Int.tmod_eq_emod_of_nonneg (by omega)]; exact (Int.natCast_emod _ _).symm, Nat.mod_lt _ hK0⟩
        obtain ⟨x, hx⟩ := atG (l := K) (i := r) hrl
        obtain ⟨b7, o7, rfl, hr7, _, _⟩ := msg_rd hL.rd hx
        refine hx_skip ?_
        refine th_norm ?_
        refine hx_seq ?_
        refine hx_block ?_
        refine hx_seq ?_
        refine hx_region ?_
        refine WL.qq (by simp only [EN, Nat.reduceEqDiff, reduceIte, qv_move, k10_0]; rfl) ?_
        refine WL.qq (by simp only [EN, Nat.reduceEqDiff, reduceIte, qv_move, k8_0]; rfl) ?_
        refine WL.qq (by simp only [EN, Nat.reduceEqDiff, reduceIte, qv_move, k2_0]; rfl) ?_
        refine WL.qq (by simp only [EN, Nat.reduceEqDiff, reduceIte, qv_move, i13_0]; rfl) ?_
        refine WL.qq (by simp only [EN, Nat.reduceEqDiff, reduceIte, qv_indexAddr]; (try simp (disch := omega) only [ix32, Int.toNat_natCast]); rfl) ?_
        refine WL.qq (by simp only [EN, Nat.reduceEqDiff, reduceIte, k2_0, k8_0, k10_0, i12_0, i13_0, qv_load, ld5, Int.toNat_natCast, hy0]; rfl) ?_
        refine WL.qq (by simp only [EN, Nat.reduceEqDiff, reduceIte, qv_convert, convv, Try.underlying5, Try.underlying3]; (try simp (disch := omega) only [w64, w8, wu64]); rfl) ?_
        refine WL.qq (by simp only [EN, Nat.reduceEqDiff, reduceIte, qv_move, k8_0]; rfl) ?_
        refine WL.qq (by simp only [EN, Nat.reduceEqDiff, reduceIte, qv_len, ln34, AR]; rfl) ?_
        refine WL.qq (by simp only [EN, Nat.reduceEqDiff, reduceIte, qv_binOp]; (try simp (disch := omega) only [binv_rem, w64, w8, wu64]); rfl) ?_
        refine WL.qq (by simp only [EN, Nat.reduceEqDiff, reduceIte, qv_indexAddr, hrr]; (try simp (disch := omega) only [ix34, Int.toNat_natCast]); rfl) ?_
        refine WL.qq (by simp only [EN, Nat.reduceEqDiff, reduceIte, k2_0, k8_0, k10_0, i12_0, i13_0, qv_load, ld43, Int.toNat_natCast, hr7]; rfl) ?_
        obtain ⟨hN, hB, hO⟩ := acc_pre hKq hG hbK (List.mem_of_getElem? hx)
        have hac := hG.acc x hlk
        obtain ⟨out, hout⟩ : ∃ out, accO (1 + z2) ((d : Int) + 1) bf x = out := ⟨_, rfl⟩
        rw [hout] at hN hO
        have hn9 := hac.1.n2
        refine WL.ce Try.call16 (by simp only [EN, Nat.reduceEqDiff, reduceIte, k2_0, k8_0, k10_0, i12_0, i13_0, AR]; exact tr_Accept x hG hR) ?_
        rintro v31 h31 ⟨b6, c6, hv31, hs6, hR4, hu4⟩
        rw [hout] at hv31 hs6
        subst hv31
        simp only [put_some]
        rw [hN] at hR4 hac hn9
        replace hL := hR.slR hL (fun _ => by simp) (by decide) hu4
        replace hR := hR4
        refine WL.qq (by simp only [EN, Nat.reduceEqDiff, reduceIte, qv_move]; rfl) ?_
        refine WL.qq (by simp only [EN, Nat.reduceEqDiff, reduceIte, qv_extract, AR]; rfl) ?_
        refine WL.qq (by simp only [EN, Nat.reduceEqDiff, reduceIte, qv_extract, AR]; rfl) ?_
        refine WL.qq (by simp only [EN, Nat.reduceEqDiff, reduceIte, qv_assign]; rfl) ?_
        refine WL.qq (by simp only [EN, Nat.reduceEqDiff, reduceIte, qv_assign]; rfl) ?_
        refine WL.nil ?_
        refine th_norm ?_
        refine hx_seq ?_
        refine hx_seq ?_
        refine hx_region ?_
        refine WL.qq (by simp only [EN, Nat.reduceEqDiff, reduceIte, qv_assign]; rfl) ?_
        refine WL.nil ?_
        refine th_norm ?_
        refine hx_block ?_
        refine hx_loopS [6, 12, 16, 81, 82, 83, 84, 85, 86, 87, 88, 89, 90, 91, 92, 93, 94, 95, 96, 97, 98, 99, 100, 101, 102, 103, 104] (fun k e => ∃ (j : Nat), out.length - j = k ∧ (j ≤ out.length) ∧ e 12 = .int .i64 ((d + j : Nat) : Int) ∧ e 16 = .int .i64 j) _ ⟨0, rfl, ?_, ?_, ?_⟩ ?_
        · omega
        · simp only [EN, Nat.reduceEqDiff, reduceIte, k2_0, k8_0, k10_0, i12_0, i13_0] <;> rfl
        · simp only [EN, Nat.reduceEqDiff, reduceIte, k2_0, k8_0, k10_0, i12_0, i13_0] <;> rfl
        ·
          rintro k e1L hfr1 ⟨j, rfl, hj, i12_1, i16_1⟩
          have k2_1 := hfr1 2 rfl; try simp only [EN, Nat.reduceEqDiff, reduceIte, k2_0] at k2_1
          have k8_1 := hfr1 8 rfl; try simp only [EN, Nat.reduceEqDiff, reduceIte, k8_0] at k8_1
          have k10_1 := hfr1 10 rfl; try simp only [EN, Nat.reduceEqDiff, reduceIte, k10_0] at k10_1
          have k13_1 := hfr1 13 rfl; try simp only [EN, Nat.reduceEqDiff, reduceIte, i13_0] at k13_1
          have k14_1 := hfr1 14 rfl; try simp only [EN, Nat.reduceEqDiff, reduceIte] at k14_1
          refine hx_seq ?_
          refine hx_seq ?_
          refine hx_region ?_
          refine WL.qq (by simp only [EN, Nat.reduceEqDiff, reduceIte, qv_move, i16_1]; rfl) ?_
          refine WL.qq (by simp only [EN, Nat.reduceEqDiff, reduceIte, qv_move, k14_1]; rfl) ?_
          refine WL.qq (by simp only [EN, Nat.reduceEqDiff, reduceIte, qv_len, ln31, AR]; rfl) ?_
          refine WL.qq (by simp only [EN, Nat.reduceEqDiff, reduceIte, qv_binOp, binv_lss]; rfl) ?_
          refine WL.nil ?_
          refine th_norm ?_
          refine hx_cond (by simp only [EN, Nat.reduceEqDiff, reduceIte]; rfl) (fun hct84 => ?_) (fun hct84 => ?_)
          ·
            try simp only [BD] at hct84
            obtain ⟨s, hs⟩ := atG (l := out) (i := j) (by omega)
            obtain ⟨xk, hxk, hxs⟩ := hO j s hs
            have hdk := (List.getElem?_eq_some_iff.1 hxk).1
            obtain ⟨b8, o8, rfl, hr8⟩ := hs6.rd j s hs
            have hc8 := readN_cell hr8 0 _ rfl; rw [Nat.add_zero, Nat.mul_one] at hc8
            obtain ⟨b9, o9, hae9, _, _, hc9⟩ := msg_rd hL.rd hxk
            cases hae9
            rw [hxs] at hc9
            refine hx_skip ?_
            refine th_norm ?_
            refine hx_seq ?_
            refine hx_block ?_
            refine hx_seq ?_
            refine hx_seq ?_
            apply hx_draw2 Rel.same [] [] [] rfl (by decide +kernel) rfl
            refine LD.qq rfl rfl (by simp only [EN, Nat.reduceEqDiff, reduceIte, qv_move, i12_1]; rfl) ?_
            refine LD.qq rfl rfl (by simp only [EN, Nat.reduceEqDiff, reduceIte, qv_move, k8_1]; rfl) ?_
            refine LD.qq rfl rfl (by simp only [EN, Nat.reduceEqDiff, reduceIte, qv_len, ln34, AR]; rfl) ?_
            refine LD.qq rfl rfl (by simp only [EN, Nat.reduceEqDiff, reduceIte, qv_binOp, binv_geq]; rfl) ?_
            refine LD.qq rfl rfl (by simp only [EN, Nat.reduceEqDiff, reduceIte, qv_move]; rfl) ?_
            refine LD.cq rfl rfl (gd_at (t := 91) rfl (by simp only [EN, Nat.reduceEqDiff, reduceIte, k14_1] <;> rfl)) (fun hg13_5 => by simp only [EN, Nat.reduceEqDiff, reduceIte, qv_move, k14_1, hg13_5, GR]; rfl) ?_
            refine LD.cq rfl rfl (gd_at (t := 91) rfl (by simp only [EN, Nat.reduceEqDiff, reduceIte, i16_1] <;> rfl)) (fun hg13_6 => by simp only [EN, Nat.reduceEqDiff, reduceIte, qv_move, i16_1, hg13_6, GR]; rfl) ?_
            refine LD.cq rfl rfl (gd_at (t := 91) rfl (by simp only [EN, Nat.reduceEqDiff, reduceIte] <;> rfl)) (fun hg13_7 => by have hq0 := hg13_7; (try simp only [BD] at hq0); simp only [EN, Nat.reduceEqDiff, reduceIte, qv_indexAddr, hg13_7, GR]; (try simp (disch := omega) only [ix31, Int.toNat_natCast]); rfl) ?_
            refine LD.cq rfl rfl (gd_at (t := 91) rfl (by simp only [EN, Nat.reduceEqDiff, reduceIte] <;> rfl)) (fun hg13_8 => by have hg9 : ¬ ((K.length : Int) ≤ ((d + j : Nat) : Int)) := (by omega); simp only [EN, Nat.reduceEqDiff, reduceIte, k2_1, k8_1, k10_1, k13_1, k14_1, i12_1, i16_1, GR, hg13_8, qv_load, ld9, Int.toNat_natCast, hc8]; rfl) ?_
            refine LD.cq rfl rfl (gd_at (t := 91) rfl (by simp only [EN, Nat.reduceEqDiff, reduceIte, k8_1] <;> rfl)) (fun hg13_9 => by simp only [EN, Nat.reduceEqDiff, reduceIte, qv_move, k8_1, hg13_9, GR]; rfl) ?_
            refine LD.cq rfl rfl (gd_at (t := 91) rfl (by simp only [EN, Nat.reduceEqDiff, reduceIte, i12_1] <;> rfl)) (fun hg13_10 => by simp only [EN, Nat.reduceEqDiff, reduceIte, qv_move, i12_1, hg13_10, GR]; rfl) ?_
            refine LD.cq rfl rfl (gd_at (t := 91) rfl (by simp only [EN, Nat.reduceEqDiff, reduceIte] <;> rfl)) (fun hg13_11 => by have hq0 := hg13_11; (try simp only [BD] at hq0); simp only [EN, Nat.reduceEqDiff, reduceIte, qv_indexAddr, hg13_11, GR]; (try simp (disch := omega) only [ix34, Int.toNat_natCast]); rfl) ?_
            refine LD.cq rfl rfl (gd_at (t := 91) rfl (by simp only [EN, Nat.reduceEqDiff, reduceIte] <;> rfl)) (fun hg13_12 => by simp only [EN, Nat.reduceEqDiff, reduceIte, qv_fieldAddr, fa43_1, Nat.zero_add, Nat.reduceAdd, hg13_12, GR]; rfl) ?_
            refine LD.cq rfl rfl (gd_at (t := 91) rfl (by simp only [EN, Nat.reduceEqDiff, reduceIte] <;> rfl)) (fun hg13_13 => by simp only [EN, Nat.reduceEqDiff, reduceIte, k2_1, k8_1, k10_1, k13_1, k14_1, i12_1, i16_1, GR, hg13_13, qv_load, ld9, Int.toNat_natCast, hc9]; rfl) ?_
            refine LD.cq rfl rfl (gd_at (t := 91) rfl (by simp only [EN, Nat.reduceEqDiff, reduceIte] <;> rfl)) (fun hg13_14 => by simp only [EN, Nat.reduceEqDiff, reduceIte, qv_binOp, binv_neq, eq9, Option.map_some, hg13_14, GR]; rfl) ?_
            refine LD.qq rfl rfl (by simp only [EN, Nat.reduceEqDiff, reduceIte, qv_pick, pk_and, pk_or, GR]; rfl) ?_
            refine LD.nil ?_
            rintro hL0 rfl -
            refine WL.nil ?_
            refine th_norm ?_
            refine hx_cond (by simp only [EN, Nat.reduceEqDiff, reduceIte]; rfl) (fun hct102 => ?_) (fun hct102 => ?_)
            ·
              simp at hct102; omega
            ·
              try simp only [BD] at hct102
              refine hx_skip ?_
              refine th_norm ?_
              refine hx_region ?_
              refine WL.qq (by simp only [EN, Nat.reduceEqDiff, reduceIte, qv_move, i12_1]; rfl) ?_
              refine WL.qq (by simp only [EN, Nat.reduceEqDiff, reduceIte, qv_binOp, binv_add]; (try simp (disch := omega) only [w64, w8, wu64]); rfl) ?_
              refine WL.qq (by simp only [EN, Nat.reduceEqDiff, reduceIte, qv_assign]; rfl) ?_
              refine WL.nil ?_
              refine bl_norm ?_
              refine th_norm ?_
              refine hx_region ?_
              refine WL.qq (by simp only [EN, Nat.reduceEqDiff, reduceIte, qv_move, i16_1]; rfl) ?_
              refine WL.qq (by simp only [EN, Nat.reduceEqDiff, reduceIte, qv_binOp, binv_add]; (try simp (disch := omega) only [w64, w8, wu64]); rfl) ?_
              refine WL.qq (by simp only [EN, Nat.reduceEqDiff, reduceIte, qv_assign]; rfl) ?_
              refine WL.nil ?_
              refine th_norm ?_
              refine ⟨rfl, rfl, ?_, _, ?_, j + 1, rfl, ?_, ?_, ?_⟩  -- again 0 of loop 1
              · (repeat (first | exact Fr.refl _ _ | refine Fr.set rfl ?_ | refine Fr.put rfl ?_ | with_reducible refine Fr.put0 ?_))
              · omega
              · omega
              · simp only [EN, Nat.reduceEqDiff, reduceIte, k2_1, k8_1, k10_1, k13_1, k14_1, i12_1, i16_1] <;> first | rfl | (congr 1; omega)
              · simp only [EN, Nat.reduceEqDiff, reduceIte, k2_1, k8_1, k10_1, k13_1, k14_1, i12_1, i16_1] <;> first | rfl | (congr 1; omega)
          ·
            try simp only [BD] at hct84
            obtain rfl : j = out.length := (by omega)
            refine hx_exit ?_
            refine th_exit ?_
            refine th_exit ?_
            refine bl_hit ?_
            refine th_norm ?_
            refine hx_seq ?_
            refine hx_region ?_
            refine WL.qq (by simp only [EN, Nat.reduceEqDiff, reduceIte, qv_move, k10_1]; rfl) ?_
            refine WL.ck Try.call17 (by simp only [EN, Nat.reduceEqDiff, reduceIte, AR]; exact tr_Next hR) ?_
            refine WL.qq (by simp only [EN, Nat.reduceEqDiff, reduceIte, qv_move, i12_1]; rfl) ?_
            refine WL.qq (by simp only [EN, Nat.reduceEqDiff, reduceIte, qv_binOp, binv_add]; (try simp (disch := omega) only [w64, w8, wu64]); rfl) ?_
            refine WL.qq (by simp only [EN, Nat.reduceEqDiff, reduceIte, qv_binOp, binv_neq, eq3, Option.map_some]; rfl) ?_
            refine WL.nil ?_
            refine th_norm ?_
            refine hx_cond (by simp only [EN, Nat.reduceEqDiff, reduceIte]; rfl) (fun hct109 => ?_) (fun hct109 => ?_)
            ·
              simp at hct109
            ·
              try simp only [BD] at hct109
              refine hx_skip ?_
              refine bl_norm ?_
              refine th_norm ?_
              refine hx_region ?_
              refine WL.qq (by simp only [EN, Nat.reduceEqDiff, reduceIte, qv_move, k13_1]; rfl) ?_
              refine WL.qq (by simp only [EN, Nat.reduceEqDiff, reduceIte, qv_binOp, binv_add]; (try simp (disch := omega) only [w64, w8, wu64]); rfl) ?_
              refine WL.qq (by simp only [EN, Nat.reduceEqDiff, reduceIte, qv_assign]; rfl) ?_
              refine WL.nil ?_
              refine th_norm ?_
              refine ⟨rfl, ?_, _, ?_, i + 1, d + out.length, accB (1 + z2) ((d : Int) + 1) bf x, rfl, ?_, ?_, ?_, ?_, ?_, ?_, ?_, ?_⟩  -- again 0 of loop 0
              · (repeat (first | exact Fr.refl _ _ | refine Fr.set rfl ?_ | refine Fr.put rfl ?_ | with_reducible refine Fr.put0 ?_ | refine Fr.trans ?_ (Fr.of hfr1 rfl)))
              · omega
              · omega
              · exact hR
              · exact hac.1
              · exact hac.2
              · exact hB
              · exact hL
              · simp only [EN, Nat.reduceEqDiff, reduceIte, k2_1, k8_1, k10_1, k13_1, k14_1, i12_1, i16_1] <;> first | rfl | (congr 1; omega)
              · simp only [EN, Nat.reduceEqDiff, reduceIte, k2_1, k8_1, k10_1, k13_1, k14_1, i12_1, i16_1] <;> first | rfl | (congr 1; omega)
      ·
        try simp only [BD] at hct62
        refine hx_exit ?_
        refine th_exit ?_
        refine th_exit ?_
        refine bl_hit ?_
        refine th_norm ?_
        refine hx_seq ?_
        refine hx_region ?_
        refine WL.cg Try.call12 (by simp only [EN, Nat.reduceEqDiff, reduceIte, AR]; exact c_known49 _) ?_
        intro h4 hx4
        replace hR := hR.ext hx4
        replace hL := hL.ext hx4
        refine WL.qq (by simp only [EN, Nat.reduceEqDiff, reduceIte, qv_assign]; rfl) ?_
        refine WL.nil ?_
        refine th_norm ?_
        refine hx_ret ?_
        refine fin_ret [.tmp 6] rfl rfl (by simp only [EN, Nat.reduceEqDiff, reduceIte, resv, k2_0, k8_0, k10_0, i12_0, i13_0]; rfl) ?_  -- ret 1 r18
        exact ⟨rfl, hR.E⟩
end GL
namespace Go.Proofs.Ytmlhncifcaicpaa.sessionOrder
open Go.ChangeShapes Go.WideShapes Go.ChangeAt Go.RowKit
theorem own : ownKnob Try.prog.godebug = none := by kernel_rfl
theorem laid : laidOutB Try.prog = true := by kernel_rfl
set_option maxRecDepth 100000 in
theorem lifted (os : Os) (started : os.Started) (H : Type) (enc : TypeId × Value → H) :
    ReturnsInHanded {} Try.checked os 4 .any (Rows.sessionOrderSpec.pre6 enc Try.prog Try.f4 Rows.sessionOrderRow.domain false) (Rows.sessionOrderSpec.post enc Try.prog Try.f4 false true false false) := by
  refine returnsInHanded_of_change (C := Try.checked) own started (by kernel_rfl) Try.func4
    (ChangeSpec.witness6 (enc := enc) (C := Try.checked) false ⟨#[], #[(.slice none 0 0), (.int .u8 0), (.slice none 0 0)], []⟩ 8 (by kernel_rfl) (by kernel_rfl) (by kernel_rfl) (by kernel_rfl)) ?_
  intro W base args ds gs before hval0 hW hcnd _
  have hval : ∀ (j : Nat) t v, Try.f4.params[j]? = some t → args[j]? = some v → Value.okWide Try.prog W .any base t v := hval0
  have hW' := hW
  obtain ⟨p, q, hA0, hV, rfl, hfz, hnd⟩ := hW
  have hA : DataW.TrodAll enc Try.prog W 0 (fun _ => true) true Try.f4.params.toList args.toList ds p := hA0
  rw [Try.params4] at hA hval
  obtain ⟨v0, vs0, d0, ds0, p0, q0, hargs, rfl, rfl, h0, r0⟩ := trodAll_cons hA
  obtain ⟨v1, vs1, d1, ds1, p1, q1, rfl, rfl, rfl, h1, r1⟩ := trodAll_cons r0
  obtain ⟨v2, vs2, d2, ds2, p2, q2, rfl, rfl, rfl, h2, r2⟩ := trodAll_cons r1
  obtain ⟨rfl, rfl, rfl⟩ := trodAll_nil r2
  obtain rfl : args = #[v0, v1, v2] := by cases args; simp_all
  obtain ⟨rfl, rfl⟩ := trodVars_none hV
  obtain ⟨ax, ps, cx, rfl, hps, hpc, hcx, _⟩ := GL.view_strs (hval 0 31 v0 rfl rfl) h0
  obtain ⟨u, rfl, hu⟩ := GL.view_u (hval 1 5 v1 rfl rfl) h1
  obtain ⟨al, l, cl, rfl, hl, hlc, hcl, _, hop⟩ := GL.view_u8s (hval 2 32 v2 rfl rfl) h2
  exact GL.law_done (tb := 4) laid (by kernel_rfl) rfl (by kernel_rfl) Try.underlying4 hW' rfl (GL.l_order ax ps cx u hu al l cl hps (Nat.le_trans hpc hcx) hl (Nat.le_trans hlc hcl) hop)
theorem over : Rows.sessionOrderRow.holds Try.pinned (OpenSpec.ofChange Rows.sessionOrderSpec) :=
  OpenClaim.holds_of_wide 4 Try.f4 rfl rfl rfl rfl rfl rfl rfl ⟨rfl, rfl, rfl, rfl, rfl⟩ rfl rfl rfl rfl rfl (by kernel_rfl) Try.func4 (by kernel_rfl)
    (of_decide_eq_true (by kernel_rfl)) (by unfold Func.isWrapper; first | (rw [if_pos (by decide +kernel)]; kernel_rfl) | (rw [if_neg (by decide +kernel)]; exact ⟨rfl, rfl⟩))
    (fun os started H enc _ => lifted os started H enc)
theorem proved : Rows.SessionOrderSaid := over
end Go.Proofs.Ytmlhncifcaicpaa.sessionOrder


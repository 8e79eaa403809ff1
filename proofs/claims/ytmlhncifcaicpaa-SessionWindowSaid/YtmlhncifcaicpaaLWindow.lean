/- The law SessionWindow returns true: a sender's window keeps what it sends inside a receiver's window that is no smaller. No condition beyond the row's own. -/
import Derived.Test.YtmlhncifcaicpaaRows
import Derived.Test.YtmlhncifcaicpaaSesQ
import Derived.Test.YtmlhncifcaicpaaSesV
set_option linter.unusedSimpArgs false
set_option linter.unusedVariables false
set_option linter.unnecessarySimpa false
namespace GL
open Go Go.Proofs
set_option maxRecDepth 8000
/-- A sender and a receiver that the law has led. -/
structure WS (h0 h : Heap) (p q : Nat) (ws wr i : Int) : Prop where
  ex : ∃ n a al cap K rn bf, SG ws n a K ∧ RG wr rn bf ∧ bf.lookup rn = none ∧ TS h0 h p ws n a al cap K ∧ TR h0 h q wr rn bf ∧ n ≤ 1 + i ∧ (∀ x ∈ K, x.2.size ≤ 4096) ∧ a ≤ rn ∧ rn ≤ n ∧ (∀ x ∈ bf, x.1 < n)
theorem sndE_win {w n : Int} {K : List M2} {pl : ByteArray} (h1 : pl.size ≤ 4096) (h2 : n ≤ 1000000000) : sndE w n K pl = 0 ∨ (sndE w n K pl = 8 ∧ (K.length : Int) = w) := by
  unfold sndE
  rw [if_neg (by omega)]
  by_cases h : (K.length : Int) = w
  · rw [if_pos (.inl h)]; exact .inr ⟨rfl, h⟩
  · rw [if_neg (by omega)]; exact .inl rfl
theorem sndN_le {w n : Int} {K : List M2} {pl : ByteArray} : n ≤ sndN w n K pl ∧ sndN w n K pl ≤ n + 1 := by
  unfold sndN
  split <;> omega
theorem sndK_sz {w n : Int} {K : List M2} {pl : ByteArray} (h1 : pl.size ≤ 4096) (h : ∀ x ∈ K, x.2.size ≤ 4096) : ∀ x ∈ sndK w n K pl, x.2.size ≤ 4096 := by
  unfold sndK
  split
  · intro x hx
    rcases List.mem_append.1 hx with hx | hx
    · exact h x hx
    · simp at hx; subst hx; exact h1
  · exact h
theorem ackK_sz {n a x : Int} {K : List M2} (h : ∀ x ∈ K, x.2.size ≤ 4096) : ∀ y ∈ ackK n a x K, y.2.size ≤ 4096 := by
  unfold ackK
  split
  · exact fun y hy => h y (List.mem_of_mem_drop hy)
  · exact h
set_option maxHeartbeats 2000000 in
theorem l_win (t u : Nat) (ht8 : t ≤ 255) (hu8 : u ≤ 255) (al : Option Addr) (l : List Nat) (cl : Nat) {h : Heap} (hl : SlG 1 u8L h al l) (ll : l.length ≤ 9223372036854775807) (hop : ∀ x ∈ l, x ≤ 255) :
    HCalls Try.prog 6 #[.int .u8 t, .int .u8 u, .slice al l.length cl] h (Grow (.bool true) h) := by
  obtain ⟨z1, hz1, hz1a, hz1b⟩ : ∃ z : Int, (t : Int).tmod 40 = z ∧ 0 ≤ z ∧ z ≤ 39 := ⟨_, rfl, by rw [Int.tmod_eq_emod_of_nonneg (by omega)]; omega, by rw [Int.tmod_eq_emod_of_nonneg (by omega)]; omega⟩
  obtain ⟨z2, hz2, hz2a, hz2b⟩ : ∃ z : Int, (u : Int).tmod 40 = z ∧ 0 ≤ z ∧ z ≤ 39 := ⟨_, rfl, by rw [Int.tmod_eq_emod_of_nonneg (by omega)]; omega, by rw [Int.tmod_eq_emod_of_nonneg (by omega)]; omega⟩
  refine hcalls2 Try.func6 rfl (by decide +kernel) (by simp only [Try.ntmps6]; exact of_decide_eq_true rfl) ?_
  intro e hin
  have e0 := hin 0 _ rfl
  have e1 := hin 1 _ rfl
  have e2 := hin 2 _ rfl
  refine hx_seq ?_
  refine hx_region ?_
  refine WL.qq (by simp only [EN, Nat.reduceEqDiff, reduceIte, qv_assign]; rfl) ?_
  refine WL.nil ?_
  refine th_norm ?_
  refine hx_seq ?_
  refine hx_region ?_
  refine WL.qq (by simp only [EN, Nat.reduceEqDiff, reduceIte, qv_move, e0]; rfl) ?_
  refine WL.qq (by simp only [EN, Nat.reduceEqDiff, reduceIte, qv_convert, convv, Try.underlying5, Try.underlying3]; (try simp (disch := omega) only [w64, w8, wu64]); rfl) ?_
  refine WL.qq (by simp only [EN, Nat.reduceEqDiff, reduceIte, qv_binOp]; (try simp (disch := omega) only [binv_rem, w64, w8, wu64]); rfl) ?_
  refine WL.qq (by simp only [EN, Nat.reduceEqDiff, reduceIte, qv_binOp, binv_add, hz1]; (try simp (disch := omega) only [w64, w8, wu64]); rfl) ?_
  refine WL.qq (by simp only [EN, Nat.reduceEqDiff, reduceIte, qv_assign]; rfl) ?_
  refine WL.nil ?_
  refine th_norm ?_
  refine hx_seq ?_
  refine hx_region ?_
  refine WL.qq (by simp only [EN, Nat.reduceEqDiff, reduceIte, qv_move]; rfl) ?_
  refine WL.ce Try.call20 (by simp only [EN, Nat.reduceEqDiff, reduceIte, AR]; exact ts_new (1 + z1) (by omega) h) ?_
  rintro _ h1 ⟨hx1, p, rfl, hT⟩
  simp only [put_some]
  refine WL.qq (by simp only [EN, Nat.reduceEqDiff, reduceIte, qv_move]; rfl) ?_
  refine WL.qq (by simp only [EN, Nat.reduceEqDiff, reduceIte, qv_extract, AR]; rfl) ?_
  refine WL.qq (by simp only [EN, Nat.reduceEqDiff, reduceIte, qv_extract, AR]; rfl) ?_
  refine WL.qq (by simp only [EN, Nat.reduceEqDiff, reduceIte, qv_assign]; rfl) ?_
  refine WL.qq (by simp only [EN, Nat.reduceEqDiff, reduceIte, qv_assign]; rfl) ?_
  refine WL.nil ?_
  refine th_norm ?_
  refine hx_seq ?_
  refine hx_region ?_
  have kT := hT
  refine WL.qq (by simp only [EN, Nat.reduceEqDiff, reduceIte, qv_move]; rfl) ?_
  refine WL.qq (by simp only [EN, Nat.reduceEqDiff, reduceIte, qv_move, e1]; rfl) ?_
  refine WL.qq (by simp only [EN, Nat.reduceEqDiff, reduceIte, qv_convert, convv, Try.underlying5, Try.underlying3]; (try simp (disch := omega) only [w64, w8, wu64]); rfl) ?_
  refine WL.qq (by simp only [EN, Nat.reduceEqDiff, reduceIte, qv_binOp]; (try simp (disch := omega) only [binv_rem, w64, w8, wu64]); rfl) ?_
  refine WL.qq (by simp only [EN, Nat.reduceEqDiff, reduceIte, qv_binOp, binv_add, hz2]; (try simp (disch := omega) only [w64, w8, wu64]); rfl) ?_
  refine WL.ce Try.call15 (by simp only [EN, Nat.reduceEqDiff, reduceIte, AR]; exact tr_new (1 + z1 + z2) (by omega) _) ?_
  rintro _ h2 ⟨hx2, q, rfl, hR⟩
  replace hT := hT.ext hx2
  simp only [put_some]
  replace hR := hR.base kT.E
  refine WL.qq (by simp only [EN, Nat.reduceEqDiff, reduceIte, qv_move]; rfl) ?_
  refine WL.qq (by simp only [EN, Nat.reduceEqDiff, reduceIte, qv_extract, AR]; rfl) ?_
  refine WL.qq (by simp only [EN, Nat.reduceEqDiff, reduceIte, qv_extract, AR]; rfl) ?_
  refine WL.qq (by simp only [EN, Nat.reduceEqDiff, reduceIte, qv_assign]; rfl) ?_
  refine WL.qq (by simp only [EN, Nat.reduceEqDiff, reduceIte, qv_assign]; rfl) ?_
  refine WL.nil ?_
  refine th_norm ?_
  refine hx_seq ?_
  refine hx_seq ?_
  refine hx_region ?_
  refine WL.qq (by simp only [EN, Nat.reduceEqDiff, reduceIte, qv_move]; rfl) ?_
  refine WL.qq (by simp only [EN, Nat.reduceEqDiff, reduceIte, qv_binOp, binv_eql, eqz33, eqn33, eqm33, Option.map_some]; rfl) ?_
  refine WL.qq (by simp only [EN, Nat.reduceEqDiff, reduceIte, qv_move]; rfl) ?_
  refine WL.cq (gd_at (t := 38) rfl (by simp only [EN, Nat.reduceEqDiff, reduceIte] <;> rfl)) (fun hg4_3 => by simp only [EN, Nat.reduceEqDiff, reduceIte, qv_move, hg4_3, GR]; rfl) ?_
  refine WL.cq (gd_at (t := 38) rfl (by simp only [EN, Nat.reduceEqDiff, reduceIte] <;> rfl)) (fun hg4_4 => by simp only [EN, Nat.reduceEqDiff, reduceIte, qv_binOp, binv_eql, eqz25, eqn25, eqm25, Option.map_some, hg4_4, GR]; rfl) ?_
  refine WL.qq (by simp only [EN, Nat.reduceEqDiff, reduceIte, qv_pick, pk_and, pk_or, GR]; rfl) ?_
  refine WL.qq (by simp only [EN, Nat.reduceEqDiff, reduceIte, qv_move]; rfl) ?_
  refine WL.cq (gd_at (t := 42) rfl (by simp only [EN, Nat.reduceEqDiff, reduceIte] <;> rfl)) (fun hg4_7 => by simp only [EN, Nat.reduceEqDiff, reduceIte, qv_move, hg4_7, GR]; rfl) ?_
  refine WL.cq (gd_at (t := 42) rfl (by simp only [EN, Nat.reduceEqDiff, reduceIte] <;> rfl)) (fun hg4_8 => by simp only [EN, Nat.reduceEqDiff, reduceIte, qv_binOp, binv_neq, eq37, Option.map_some, hg4_8, GR]; rfl) ?_
  refine WL.qq (by simp only [EN, Nat.reduceEqDiff, reduceIte, qv_pick, pk_and, pk_or, GR]; rfl) ?_
  refine WL.qq (by simp only [EN, Nat.reduceEqDiff, reduceIte, qv_move]; rfl) ?_
  refine WL.cq (gd_at (t := 46) rfl (by simp only [EN, Nat.reduceEqDiff, reduceIte] <;> rfl)) (fun hg4_11 => by simp only [EN, Nat.reduceEqDiff, reduceIte, qv_move, hg4_11, GR]; rfl) ?_
  refine WL.cq (gd_at (t := 46) rfl (by simp only [EN, Nat.reduceEqDiff, reduceIte] <;> rfl)) (fun hg4_12 => by simp only [EN, Nat.reduceEqDiff, reduceIte, qv_binOp, binv_neq, eq37, Option.map_some, hg4_12, GR]; rfl) ?_
  refine WL.qq (by simp only [EN, Nat.reduceEqDiff, reduceIte, qv_pick, pk_and, pk_or, GR]; rfl) ?_
  refine WL.qq (by simp only [EN, Nat.reduceEqDiff, reduceIte, qv_move]; rfl) ?_
  refine WL.cq (gd_at (t := 50) rfl (by simp only [EN, Nat.reduceEqDiff, reduceIte, e2] <;> rfl)) (fun hg4_15 => by simp only [EN, Nat.reduceEqDiff, reduceIte, qv_move, e2, hg4_15, GR]; rfl) ?_
  refine WL.cq (gd_at (t := 50) rfl (by simp only [EN, Nat.reduceEqDiff, reduceIte] <;> rfl)) (fun hg4_16 => by simp only [EN, Nat.reduceEqDiff, reduceIte, qv_len, ln32, AR, hg4_16, GR]; rfl) ?_
  refine WL.cq (gd_at (t := 50) rfl (by simp only [EN, Nat.reduceEqDiff, reduceIte] <;> rfl)) (fun hg4_17 => by simp only [EN, Nat.reduceEqDiff, reduceIte, qv_binOp, binv_gtr, hg4_17, GR]; rfl) ?_
  refine WL.qq (by simp only [EN, Nat.reduceEqDiff, reduceIte, qv_pick, pk_and, pk_or, GR]; rfl) ?_
  refine WL.nil ?_
  refine th_norm ?_
  refine hx_cond (by simp only [EN, Nat.reduceEqDiff, reduceIte]; rfl) (fun hct54 => ?_) (fun hct54 => ?_)
  ·
    try simp only [BD] at hct54
    refine hx_seq ?_
    refine hx_region ?_
    refine WL.qq (by simp only [EN, Nat.reduceEqDiff, reduceIte, qv_move]; rfl) ?_
    refine WL.qq (by simp only [EN, Nat.reduceEqDiff, reduceIte, qv_binOp, binv_neq, eqz33, eqn33, eqm33, Option.map_some]; rfl) ?_
    refine WL.qq (by simp only [EN, Nat.reduceEqDiff, reduceIte, qv_move]; rfl) ?_
    refine WL.cq (gd_at (t := 57) rfl (by simp only [EN, Nat.reduceEqDiff, reduceIte] <;> rfl)) (fun hg5_3 => by simp only [EN, Nat.reduceEqDiff, reduceIte, qv_move, hg5_3, GR]; rfl) ?_
    refine WL.cq (gd_at (t := 57) rfl (by simp only [EN, Nat.reduceEqDiff, reduceIte] <;> rfl)) (fun hg5_4 => by simp only [EN, Nat.reduceEqDiff, reduceIte, qv_binOp, binv_neq, eqz25, eqn25, eqm25, Option.map_some, hg5_4, GR]; rfl) ?_
    refine WL.qq (by simp only [EN, Nat.reduceEqDiff, reduceIte, qv_pick, pk_and, pk_or, GR]; rfl) ?_
    refine WL.qq (by simp only [EN, Nat.reduceEqDiff, reduceIte, qv_move]; rfl) ?_
    refine WL.ccg (gd_at (t := 61) rfl (by simp only [EN, Nat.reduceEqDiff, reduceIte] <;> rfl)) Try.call12 (fun hg5_7 => by simp only [EN, Nat.reduceEqDiff, reduceIte, AR, hg5_7, GR]; exact c_known49 _) ?_
    intro h3 hx3
    replace hT := hT.ext hx3
    refine WL.qq (by simp only [EN, Nat.reduceEqDiff, reduceIte, qv_pick, pk_and, pk_or, GR]; rfl) ?_
    refine WL.qq (by simp only [EN, Nat.reduceEqDiff, reduceIte, qv_assign]; rfl) ?_
    refine WL.nil ?_
    refine th_norm ?_
    refine hx_ret ?_
    refine th_ret ?_
    refine fin_ret [.tmp 6] rfl rfl (by simp only [EN, Nat.reduceEqDiff, reduceIte, resv, e0, e1, e2]; rfl) ?_  -- ret 0 r5
    exact ⟨by simp [retOf], ((hx1).trans ((hx2).trans (hx3)))⟩
  ·
    try simp only [BD] at hct54
    have hl2 : l.length ≤ 200 := (by omega)
    have hW : WS h h2 p q (1 + z1) (1 + z1 + z2) (0 : Nat) := ⟨1, 1, none, 0, [], 1, [], sg_new _ (by omega), rg_new _ (by omega), rfl, hT, hR, by omega, (fun x hx => by cases hx), by omega, by omega, (fun x hx => by cases hx)⟩
    refine hx_skip ?_
    refine th_norm ?_
    refine hx_seq ?_
    refine hx_seq ?_
    refine hx_region ?_
    refine WL.qq (by simp only [EN, Nat.reduceEqDiff, reduceIte, qv_assign]; rfl) ?_
    refine WL.nil ?_
    refine th_norm ?_
    refine hx_block ?_
    refine hx_loopG [6, 12, 13, 14, 15, 16, 17, 64, 65, 66, 67, 68, 69, 70, 71, 72, 73, 74, 75, 76, 77, 78, 79, 80, 81, 82, 83, 84, 85, 86, 87, 88, 89, 90, 91, 92, 93, 94, 95, 96, 97, 98, 99, 100, 101, 102, 103, 104, 105, 106, 107, 108, 109, 110, 111, 112, 113, 114, 115, 116, 117, 118, 119, 120, 121, 122, 123, 124, 125, 126, 127, 128, 129, 130, 131, 132, 133, 134, 135] (fun k e hL0 => ∃ (i : Nat), l.length - i = k ∧ (i ≤ l.length) ∧ (WS h hL0 p q (1 + z1) (1 + z1 + z2) i) ∧ e 12 = .int .i64 i) _ ⟨0, rfl, ?_, ?_, ?_⟩ ?_
    · omega
    · exact hW
    · simp only [EN, Nat.reduceEqDiff, reduceIte, e0, e1, e2] <;> rfl
    ·
      rintro k e0L hL0 hfr0 ⟨i, rfl, hi, hW, i12_0⟩
      have k2_0 := hfr0 2 rfl; try simp only [EN, Nat.reduceEqDiff, reduceIte, e2] at k2_0
      have k7_0 := hfr0 7 rfl; try simp only [EN, Nat.reduceEqDiff, reduceIte] at k7_0
      have k8_0 := hfr0 8 rfl; try simp only [EN, Nat.reduceEqDiff, reduceIte] at k8_0
      have k10_0 := hfr0 10 rfl; try simp only [EN, Nat.reduceEqDiff, reduceIte] at k10_0
      obtain ⟨n, a, ak, cap, K, rn, bf, hS, hG, hlk, hT, hR, hni, hKs, har, hrn, hbn⟩ := hW.ex
      have hkw := hS.kw; have hn2 := hS.n2; have han := hS.an; have ha1 := hS.a1; have hw2 := hS.w2
      refine hx_seq ?_
      refine hx_seq ?_
      refine hx_region ?_
      refine WL.qq (by simp only [EN, Nat.reduceEqDiff, reduceIte, qv_move, i12_0]; rfl) ?_
      refine WL.qq (by simp only [EN, Nat.reduceEqDiff, reduceIte, qv_move, k2_0]; rfl) ?_
      refine WL.qq (by simp only [EN, Nat.reduceEqDiff, reduceIte, qv_len, ln32, AR]; rfl) ?_
      refine WL.qq (by simp only [EN, Nat.reduceEqDiff, reduceIte, qv_binOp, binv_lss]; rfl) ?_
      refine WL.nil ?_
      refine th_norm ?_
      refine hx_cond (by simp only [EN, Nat.reduceEqDiff, reduceIte]; rfl) (fun hct67 => ?_) (fun hct67 => ?_)
      ·
        try simp only [BD] at hct67
        obtain ⟨y, hy⟩ := atG (l := l) (i := i) (by omega)
        have hy8 := hop y (List.mem_of_getElem? hy)
        refine hx_skip ?_
        refine th_norm ?_
        refine hx_seq ?_
        refine hx_block ?_
        refine hx_seq ?_
        refine hx_region ?_
        refine WL.qq (by simp only [EN, Nat.reduceEqDiff, reduceIte, qv_move, k8_0]; rfl) ?_
        refine WL.ce Try.call21 (by simp only [EN, Nat.reduceEqDiff, reduceIte, AR]; exact c_Pending hS hT) ?_
        rintro _ h4 ⟨hx4, ho⟩
        replace hT := hT.ext hx4
        replace hR := hR.ext hx4
        simp only [put_some]
        obtain ⟨a5, c5, rfl, hk5, _⟩ := KO.of ho
        obtain ⟨b0, o0, rfl, hr0⟩ := (hl.ext hT.E) i y hy
        have hy0 := readN_cell hr0 0 _ rfl
        rw [Nat.add_zero, Nat.mul_one] at hy0
        refine WL.qq (by simp only [EN, Nat.reduceEqDiff, reduceIte, qv_assign]; rfl) ?_
        refine WL.nil ?_
        refine th_norm ?_
        refine hx_block ?_
        refine hx_seq ?_
        refine hx_region ?_
        refine WL.qq (by simp only [EN, Nat.reduceEqDiff, reduceIte, qv_move, k2_0]; rfl) ?_
        refine WL.qq (by simp only [EN, Nat.reduceEqDiff, reduceIte, qv_move, i12_0]; rfl) ?_
        refine WL.qq (by simp only [EN, Nat.reduceEqDiff, reduceIte, qv_indexAddr]; (try simp (disch := omega) only [ix32, Int.toNat_natCast]); rfl) ?_
        refine WL.qq (by simp only [EN, Nat.reduceEqDiff, reduceIte, k2_0, k7_0, k8_0, k10_0, i12_0, qv_load, ld5, Int.toNat_natCast, hy0]; rfl) ?_
        refine WL.qq (by simp only [EN, Nat.reduceEqDiff, reduceIte, qv_binOp]; (try simp (disch := omega) only [binv_rem, w64, w8, wu64]); rfl) ?_
        refine WL.qq (by simp only [EN, Nat.reduceEqDiff, reduceIte, qv_binOp, binv_eql, eq5, Option.map_some]; rfl) ?_
        refine WL.qq (by simp only [EN, Nat.reduceEqDiff, reduceIte, qv_move]; rfl) ?_
        refine WL.cq (gd_at (t := 84) rfl (by simp only [EN, Nat.reduceEqDiff, reduceIte] <;> rfl)) (fun hg12_7 => by simp only [EN, Nat.reduceEqDiff, reduceIte, qv_move, hg12_7, GR]; rfl) ?_
        refine WL.cq (gd_at (t := 84) rfl (by simp only [EN, Nat.reduceEqDiff, reduceIte] <;> rfl)) (fun hg12_8 => by simp only [EN, Nat.reduceEqDiff, reduceIte, qv_len, ln34, AR, hg12_8, GR]; rfl) ?_
        refine WL.cq (gd_at (t := 84) rfl (by simp only [EN, Nat.reduceEqDiff, reduceIte] <;> rfl)) (fun hg12_9 => by simp only [EN, Nat.reduceEqDiff, reduceIte, qv_binOp, binv_eql, eq3, Option.map_some, hg12_9, GR]; rfl) ?_
        refine WL.qq (by simp only [EN, Nat.reduceEqDiff, reduceIte, qv_pick, pk_and, pk_or, GR]; rfl) ?_
        refine WL.qq (by simp only [EN, Nat.reduceEqDiff, reduceIte, qv_assign]; rfl) ?_
        refine WL.nil ?_
        refine th_norm ?_
        refine hx_cond (by simp only [EN, Nat.reduceEqDiff, reduceIte]; rfl) (fun hct77 => ?_) (fun hct77 => ?_)
        ·
          try simp only [BD] at hct77
          refine hx_seq ?_
          refine hx_region ?_
          refine WL.qq (by simp only [EN, Nat.reduceEqDiff, reduceIte, qv_move, k8_0]; rfl) ?_
          obtain ⟨e, he0⟩ : ∃ e, sndE (1 + z1) n K ⟨#[120]⟩ = e := ⟨_, rfl⟩
          obtain ⟨m, hm0⟩ : ∃ m, sndM (1 + z1) n K ⟨#[120]⟩ = m := ⟨_, rfl⟩
          have he := sndE_win (w := 1 + z1) (n := n) (K := K) (pl := ⟨#[120]⟩) (by decide) (by omega)
          rw [he0] at he
          refine WL.ce Try.call22 (by simp only [EN, Nat.reduceEqDiff, reduceIte, k2_0, k7_0, k8_0, k10_0, i12_0, AR]; exact sr_Send _ hS hT hR) ?_
          rintro v30 h30 ⟨hv30, ⟨al3, cap3, hT3⟩, hR3⟩
          rw [he0, hm0] at hv30
          subst hv30
          simp only [put_some]
          replace hT := hT3
          replace hR := hR3
          refine WL.qq (by simp only [EN, Nat.reduceEqDiff, reduceIte, qv_move]; rfl) ?_
          refine WL.qq (by simp only [EN, Nat.reduceEqDiff, reduceIte, qv_extract, AR]; rfl) ?_
          refine WL.qq (by simp only [EN, Nat.reduceEqDiff, reduceIte, qv_extract, AR]; rfl) ?_
          refine WL.allocSt zr43 sz43 (fun u => by simp only [EN, Nat.reduceEqDiff, reduceIte, Value.cells]; rfl) ⟨rfl, rfl⟩ (by simp [Value.oneCell']) ?_
          intro h5 B5 hx5 hlt5 hB5
          replace hT := hT.ext hx5
          replace hR := hR.ext hx5
          refine WL.qq (by simp only [EN, Nat.reduceEqDiff, reduceIte, qv_assign, hB5.cell]; rfl) ?_
          refine WL.nil ?_
          refine th_norm ?_
          refine hx_seq ?_
          refine hx_region ?_
          refine WL.qq (by simp only [EN, Nat.reduceEqDiff, reduceIte, qv_move, hB5.cell]; rfl) ?_
          refine WL.qq (by simp only [EN, Nat.reduceEqDiff, reduceIte, qv_binOp, binv_neq, eq37, Option.map_some, hB5.cell]; rfl) ?_
          refine WL.qq (by simp only [EN, Nat.reduceEqDiff, reduceIte, qv_move, hB5.cell]; rfl) ?_
          refine WL.cq (gd_at (t := 96) rfl (by simp only [EN, Nat.reduceEqDiff, reduceIte, hB5.cell] <;> rfl)) (fun hg14_3 => by simp only [EN, Nat.reduceEqDiff, reduceIte, qv_move, hB5.cell, hg14_3, GR]; rfl) ?_
          refine WL.cq (gd_at (t := 96) rfl (by simp only [EN, Nat.reduceEqDiff, reduceIte, hB5.cell] <;> rfl)) (fun hg14_4 => by simp only [EN, Nat.reduceEqDiff, reduceIte, qv_binOp, binv_neq, eq37, Option.map_some, hB5.cell, hg14_4, GR]; rfl) ?_
          refine WL.cq (gd_at (t := 96) rfl (by simp only [EN, Nat.reduceEqDiff, reduceIte, hB5.cell] <;> rfl)) (fun hg14_5 => by simp only [EN, Nat.reduceEqDiff, reduceIte, qv_move, hB5.cell, hg14_5, GR]; rfl) ?_
          refine WL.cq2 (t := 99) rfl (by simp only [EN, Nat.reduceEqDiff, reduceIte, hB5.cell]; rfl) (fun hC14_6 hg14_6 => by simp only [EN, Nat.reduceEqDiff, reduceIte, qv_move, hB5.cell, hC14_6, hg14_6, GR]; rfl) ?_
          refine WL.cq2 (t := 99) rfl (by simp only [EN, Nat.reduceEqDiff, reduceIte, hB5.cell]; rfl) (fun hC14_7 hg14_7 => by simp only [EN, Nat.reduceEqDiff, reduceIte, qv_len, ln34, AR, hB5.cell, hC14_7, hg14_7, GR]; rfl) ?_
          refine WL.cq2 (t := 99) rfl (by simp only [EN, Nat.reduceEqDiff, reduceIte, k7_0, hB5.cell]; rfl) (fun hC14_8 hg14_8 => by simp only [EN, Nat.reduceEqDiff, reduceIte, qv_move, k7_0, hB5.cell, hC14_8, hg14_8, GR]; rfl) ?_
          refine WL.cq2 (t := 99) rfl (by simp only [EN, Nat.reduceEqDiff, reduceIte, hB5.cell]; rfl) (fun hC14_9 hg14_9 => by have hC14_9o := hC14_9; (try simp only [hg14_9] at hC14_9); simp only [EN, Nat.reduceEqDiff, reduceIte, qv_binOp, binv_neq, eq3, Option.map_some, hB5.cell, hC14_9o, hC14_9, hg14_9, GR]; rfl) ?_
          refine WL.cq (gd_at (t := 96) rfl (by simp only [EN, Nat.reduceEqDiff, reduceIte, hB5.cell] <;> rfl)) (fun hg14_10 => by simp only [EN, Nat.reduceEqDiff, reduceIte, qv_pick, pk_and, pk_or, GR, hB5.cell, hg14_10, GR]; rfl) ?_
          refine WL.qq (by simp only [EN, Nat.reduceEqDiff, reduceIte, qv_pick, pk_and, pk_or, GR, hB5.cell]; rfl) ?_
          refine WL.nil ?_
          refine th_norm ?_
          refine hx_cond (by simp only [EN, Nat.reduceEqDiff, reduceIte, hB5.cell]; rfl) (fun hct105 => ?_) (fun hct105 => ?_)
          ·
            simp at hct105; omega
          ·
            try simp only [BD] at hct105
            refine hx_skip ?_
            refine bl_norm ?_
            refine bl_norm ?_
            refine th_norm ?_
            refine hx_region ?_
            refine WL.qq (by simp only [EN, Nat.reduceEqDiff, reduceIte, qv_move, i12_0, hB5.cell]; rfl) ?_
            refine WL.qq (by simp only [EN, Nat.reduceEqDiff, reduceIte, qv_binOp, binv_add, hB5.cell]; (try simp (disch := omega) only [w64, w8, wu64]); rfl) ?_
            refine WL.qq (by simp only [EN, Nat.reduceEqDiff, reduceIte, qv_assign, hB5.cell]; rfl) ?_
            refine WL.nil ?_
            refine th_norm ?_
            refine ⟨rfl, ?_, _, ?_, i + 1, rfl, ?_, ?_, ?_⟩  -- again 0 of loop 0
            · (repeat (first | exact Fr.refl _ _ | refine Fr.set rfl ?_ | refine Fr.put rfl ?_ | with_reducible refine Fr.put0 ?_))
            · omega
            · omega
            · exact ⟨_, _, _, _, _, _, _, hS.snd _, hG, hlk, hT, hR, (by have := sndN_le (w := 1 + z1) (n := n) (K := K) (pl := ⟨#[120]⟩); omega), sndK_sz (by decide) hKs, har, Int.le_trans hrn sndN_le.1, fun x hx => Int.lt_of_lt_of_le (hbn x hx) sndN_le.1⟩
            · simp only [EN, Nat.reduceEqDiff, reduceIte, k2_0, k7_0, k8_0, k10_0, i12_0, hB5.cell] <;> first | rfl | (congr 1; omega)
        ·
          try simp only [BD] at hct77
          refine hx_seq ?_
          refine hx_region ?_
          refine WL.qq (by simp only [EN, Nat.reduceEqDiff, reduceIte, qv_move, k2_0]; rfl) ?_
          refine WL.qq (by simp only [EN, Nat.reduceEqDiff, reduceIte, qv_move, i12_0]; rfl) ?_
          refine WL.qq (by simp only [EN, Nat.reduceEqDiff, reduceIte, qv_indexAddr]; (try simp (disch := omega) only [ix32, Int.toNat_natCast]); rfl) ?_
          refine WL.qq (by simp only [EN, Nat.reduceEqDiff, reduceIte, k2_0, k7_0, k8_0, k10_0, i12_0, qv_load, ld5, Int.toNat_natCast, hy0]; rfl) ?_
          refine WL.qq (by simp only [EN, Nat.reduceEqDiff, reduceIte, qv_binOp]; (try simp (disch := omega) only [binv_rem, w64, w8, wu64]); rfl) ?_
          refine WL.qq (by simp only [EN, Nat.reduceEqDiff, reduceIte, qv_binOp, binv_eql, eq5, Option.map_some]; rfl) ?_
          refine WL.qq (by simp only [EN, Nat.reduceEqDiff, reduceIte, qv_assign]; rfl) ?_
          refine WL.nil ?_
          refine th_norm ?_
          refine hx_cond (by simp only [EN, Nat.reduceEqDiff, reduceIte]; rfl) (fun hct106 => ?_) (fun hct106 => ?_)
          ·
            try simp only [BD] at hct106
            obtain ⟨z, hz, hz8⟩ : ∃ z : Nat, (y : Int).tdiv 3 = (z : Int) ∧ z ≤ 85 := ⟨((y : Int).tdiv 3).toNat, by rw [Int.tdiv_eq_ediv_of_nonneg (by omega)]; omega, by rw [Int.tdiv_eq_ediv_of_nonneg (by omega)]; omega⟩
            have hK0 : 0 < K.length := (by omega)
            obtain ⟨r, hrr, hrl⟩ : ∃ r : Nat, (z : Int).tmod (K.length : Int) = (r : Int) ∧ r < K.length := ⟨z % K.length, by rw [Int.tmod_eq_emod_of_nonneg (by omega)]; exact (Int.natCast_emod _ _).symm, Nat.mod_lt _ hK0⟩
            obtain ⟨x, hx⟩ := atG (l := K) (i := r) hrl
            have hxs := hS.sq r x hx; have hxz := hKs x (List.mem_of_getElem? hx)
            obtain ⟨b7, o7, rfl, hr7, _, _⟩ := msg_rd hk5.rd.rd hx
            refine hx_seq ?_
            refine hx_region ?_
            refine WL.qq (by simp only [EN, Nat.reduceEqDiff, reduceIte, qv_move, k10_0]; rfl) ?_
            refine WL.qq (by simp only [EN, Nat.reduceEqDiff, reduceIte, qv_move]; rfl) ?_
            refine WL.qq (by simp only [EN, Nat.reduceEqDiff, reduceIte, qv_move, k2_0]; rfl) ?_
            refine WL.qq (by simp only [EN, Nat.reduceEqDiff, reduceIte, qv_move, i12_0]; rfl) ?_
            refine WL.qq (by simp only [EN, Nat.reduceEqDiff, reduceIte, qv_indexAddr]; (try simp (disch := omega) only [ix32, Int.toNat_natCast]); rfl) ?_
            refine WL.qq (by simp only [EN, Nat.reduceEqDiff, reduceIte, k2_0, k7_0, k8_0, k10_0, i12_0, qv_load, ld5, Int.toNat_natCast, hy0]; rfl) ?_
            refine WL.qq (by simp only [EN, Nat.reduceEqDiff, reduceIte, qv_binOp]; (try simp (disch := omega) only [binv_quo, w64, w8, wu64]); rfl) ?_
            refine WL.qq (by simp only [EN, Nat.reduceEqDiff, reduceIte, qv_convert, convv, Try.underlying5, Try.underlying3, hz]; (try simp (disch := omega) only [w64, w8, wu64]); rfl) ?_
            refine WL.qq (by simp only [EN, Nat.reduceEqDiff, reduceIte, qv_move]; rfl) ?_
            refine WL.qq (by simp only [EN, Nat.reduceEqDiff, reduceIte, qv_len, ln34, AR]; rfl) ?_
            refine WL.qq (by simp only [EN, Nat.reduceEqDiff, reduceIte, qv_binOp]; (try simp (disch := omega) only [binv_rem, w64, w8, wu64]); rfl) ?_
            refine WL.qq (by simp only [EN, Nat.reduceEqDiff, reduceIte, qv_indexAddr, hrr]; (try simp (disch := omega) only [ix34, Int.toNat_natCast]); rfl) ?_
            refine WL.qq (by simp only [EN, Nat.reduceEqDiff, reduceIte, k2_0, k7_0, k8_0, k10_0, i12_0, qv_load, ld43, Int.toNat_natCast, hr7]; rfl) ?_
            obtain ⟨e, he0⟩ : ∃ e, accE (1 + z1 + z2) rn bf x = e := ⟨_, rfl⟩
            have he := accE_in (w := 1 + z1 + z2) (n := rn) (bf := bf) (m := x) (by omega) hxz (by omega)
            rw [he0] at he
            refine WL.ce Try.call16 (by simp only [EN, Nat.reduceEqDiff, reduceIte, k2_0, k7_0, k8_0, k10_0, i12_0, AR]; exact sr_Acc x hG hT hR) ?_
            rintro v31 h31 ⟨b6, c6, hv31, _, hT4, hR4, _⟩
            rw [he0] at hv31
            subst hv31
            simp only [put_some]
            replace hT := hT4
            replace hR := hR4
            refine WL.qq (by simp only [EN, Nat.reduceEqDiff, reduceIte, qv_move]; rfl) ?_
            refine WL.qq (by simp only [EN, Nat.reduceEqDiff, reduceIte, qv_extract, AR]; rfl) ?_
            refine WL.qq (by simp only [EN, Nat.reduceEqDiff, reduceIte, qv_extract, AR]; rfl) ?_
            refine WL.qq (by simp only [EN, Nat.reduceEqDiff, reduceIte, qv_assign]; rfl) ?_
            refine WL.qq (by simp only [EN, Nat.reduceEqDiff, reduceIte, qv_assign]; rfl) ?_
            refine WL.nil ?_
            refine th_norm ?_
            refine hx_seq ?_
            refine hx_region ?_
            refine WL.qq (by simp only [EN, Nat.reduceEqDiff, reduceIte, qv_move]; rfl) ?_
            refine WL.qq (by simp only [EN, Nat.reduceEqDiff, reduceIte, qv_binOp, binv_neq, eq37, Option.map_some]; rfl) ?_
            refine WL.qq (by simp only [EN, Nat.reduceEqDiff, reduceIte, qv_move]; rfl) ?_
            refine WL.cq (gd_at (t := 132) rfl (by simp only [EN, Nat.reduceEqDiff, reduceIte] <;> rfl)) (fun hg18_3 => by simp only [EN, Nat.reduceEqDiff, reduceIte, qv_move, hg18_3, GR]; rfl) ?_
            refine WL.cq (gd_at (t := 132) rfl (by simp only [EN, Nat.reduceEqDiff, reduceIte] <;> rfl)) (fun hg18_4 => by simp only [EN, Nat.reduceEqDiff, reduceIte, qv_binOp, binv_neq, eq37, Option.map_some, hg18_4, GR]; rfl) ?_
            refine WL.qq (by simp only [EN, Nat.reduceEqDiff, reduceIte, qv_pick, pk_and, pk_or, GR]; rfl) ?_
            refine WL.nil ?_
            refine th_norm ?_
            refine hx_cond (by simp only [EN, Nat.reduceEqDiff, reduceIte]; rfl) (fun hct135 => ?_) (fun hct135 => ?_)
            ·
              simp at hct135; omega
            ·
              try simp only [BD] at hct135
              refine hx_skip ?_
              refine bl_norm ?_
              refine bl_norm ?_
              refine th_norm ?_
              refine hx_region ?_
              refine WL.qq (by simp only [EN, Nat.reduceEqDiff, reduceIte, qv_move, i12_0]; rfl) ?_
              refine WL.qq (by simp only [EN, Nat.reduceEqDiff, reduceIte, qv_binOp, binv_add]; (try simp (disch := omega) only [w64, w8, wu64]); rfl) ?_
              refine WL.qq (by simp only [EN, Nat.reduceEqDiff, reduceIte, qv_assign]; rfl) ?_
              refine WL.nil ?_
              refine th_norm ?_
              refine ⟨rfl, ?_, _, ?_, i + 1, rfl, ?_, ?_, ?_⟩  -- again 1 of loop 0
              · (repeat (first | exact Fr.refl _ _ | refine Fr.set rfl ?_ | refine Fr.put rfl ?_ | with_reducible refine Fr.put0 ?_))
              · omega
              · omega
              · have hac := hG.acc x hlk; have hle := acc_le (m := x) hG hrn hbn (by omega); exact ⟨_, _, _, _, _, _, _, hS, hac.1, hac.2, hT, hR, (by omega), hKs, Int.le_trans har (acc_ge hG), hle.1, hle.2⟩
              · simp only [EN, Nat.reduceEqDiff, reduceIte, k2_0, k7_0, k8_0, k10_0, i12_0] <;> first | rfl | (congr 1; omega)
          ·
            try simp only [BD] at hct106
            refine hx_seq ?_
            refine hx_region ?_
            refine WL.qq (by simp only [EN, Nat.reduceEqDiff, reduceIte, qv_move, k8_0]; rfl) ?_
            refine WL.qq (by simp only [EN, Nat.reduceEqDiff, reduceIte, qv_move, k10_0]; rfl) ?_
            refine WL.ck Try.call17 (by simp only [EN, Nat.reduceEqDiff, reduceIte, AR]; exact tr_Next hR) ?_
            have hez : ackE n a rn = 0 := (by have := hG.n1; unfold ackE; rw [if_neg (by omega), if_neg (by omega)])
            refine WL.ce Try.call23 (by simp only [EN, Nat.reduceEqDiff, reduceIte, k2_0, k7_0, k8_0, k10_0, i12_0, AR]; exact sr_Ack rn hS hT hR) ?_
            rintro v32 h32 ⟨hv32, ⟨al4, cap4, hT4⟩, hR4⟩
            rw [hez] at hv32
            subst hv32
            simp only [put_some]
            replace hT := hT4
            replace hR := hR4
            refine WL.qq (by simp only [EN, Nat.reduceEqDiff, reduceIte, qv_binOp, binv_neq, eq37, Option.map_some]; rfl) ?_
            refine WL.nil ?_
            refine th_norm ?_
            refine hx_cond (by simp only [EN, Nat.reduceEqDiff, reduceIte]; rfl) (fun hct76 => ?_) (fun hct76 => ?_)
            ·
              simp at hct76
            ·
              try simp only [BD] at hct76
              refine hx_skip ?_
              refine bl_norm ?_
              refine bl_norm ?_
              refine th_norm ?_
              refine hx_region ?_
              refine WL.qq (by simp only [EN, Nat.reduceEqDiff, reduceIte, qv_move, i12_0]; rfl) ?_
              refine WL.qq (by simp only [EN, Nat.reduceEqDiff, reduceIte, qv_binOp, binv_add]; (try simp (disch := omega) only [w64, w8, wu64]); rfl) ?_
              refine WL.qq (by simp only [EN, Nat.reduceEqDiff, reduceIte, qv_assign]; rfl) ?_
              refine WL.nil ?_
              refine th_norm ?_
              refine ⟨rfl, ?_, _, ?_, i + 1, rfl, ?_, ?_, ?_⟩  -- again 2 of loop 0
              · (repeat (first | exact Fr.refl _ _ | refine Fr.set rfl ?_ | refine Fr.put rfl ?_ | with_reducible refine Fr.put0 ?_))
              · omega
              · omega
              · exact ⟨_, _, _, _, _, _, _, hS.ack rn, hG, hlk, hT, hR, (by omega), ackK_sz hKs, (by unfold ackA; rw [if_pos hez]; exact Int.le_refl _), hrn, hbn⟩
              · simp only [EN, Nat.reduceEqDiff, reduceIte, k2_0, k7_0, k8_0, k10_0, i12_0] <;> first | rfl | (congr 1; omega)
      ·
        try simp only [BD] at hct67
        refine hx_exit ?_
        refine th_exit ?_
        refine th_exit ?_
        refine bl_hit ?_
        refine th_norm ?_
        refine hx_seq ?_
        refine hx_region ?_
        refine WL.cg Try.call12 (by simp only [EN, Nat.reduceEqDiff, reduceIte, AR]; exact c_known49 _) ?_
        intro h6 hx6
        replace hT := hT.ext hx6
        replace hR := hR.ext hx6
        refine WL.qq (by simp only [EN, Nat.reduceEqDiff, reduceIte, qv_assign]; rfl) ?_
        refine WL.nil ?_
        refine th_norm ?_
        refine hx_ret ?_
        refine fin_ret [.tmp 6] rfl rfl (by simp only [EN, Nat.reduceEqDiff, reduceIte, resv, k2_0, k7_0, k8_0, k10_0, i12_0]; rfl) ?_  -- ret 1 r20
        exact ⟨rfl, hT.E⟩
end GL
namespace Go.Proofs.Ytmlhncifcaicpaa.sessionWindow
open Go.ChangeShapes Go.WideShapes Go.ChangeAt Go.RowKit
theorem own : ownKnob Try.prog.godebug = none := by kernel_rfl
theorem laid : laidOutB Try.prog = true := by kernel_rfl
set_option maxRecDepth 100000 in
theorem lifted (os : Os) (started : os.Started) (H : Type) (enc : TypeId × Value → H) :
    ReturnsInHanded {} Try.checked os 6 .any (Rows.sessionWindowSpec.pre6 enc Try.prog Try.f6 Rows.sessionWindowRow.domain false) (Rows.sessionWindowSpec.post enc Try.prog Try.f6 false true false false) := by
  refine returnsInHanded_of_change (C := Try.checked) own started (by kernel_rfl) Try.func6
    (ChangeSpec.witness6 (enc := enc) (C := Try.checked) false ⟨#[], #[(.int .u8 0), (.int .u8 0), (.slice none 0 0)], []⟩ 8 (by kernel_rfl) (by kernel_rfl) (by kernel_rfl) (by kernel_rfl)) ?_
  intro W base args ds gs before hval0 hW hcnd _
  have hval : ∀ (j : Nat) t v, Try.f6.params[j]? = some t → args[j]? = some v → Value.okWide Try.prog W .any base t v := hval0
  have hW' := hW
  obtain ⟨p, q, hA0, hV, rfl, hfz, hnd⟩ := hW
  have hA : DataW.TrodAll enc Try.prog W 0 (fun _ => true) true Try.f6.params.toList args.toList ds p := hA0
  rw [Try.params6] at hA hval
  obtain ⟨v0, vs0, d0, ds0, p0, q0, hargs, rfl, rfl, h0, r0⟩ := trodAll_cons hA
  obtain ⟨v1, vs1, d1, ds1, p1, q1, rfl, rfl, rfl, h1, r1⟩ := trodAll_cons r0
  obtain ⟨v2, vs2, d2, ds2, p2, q2, rfl, rfl, rfl, h2, r2⟩ := trodAll_cons r1
  obtain ⟨rfl, rfl, rfl⟩ := trodAll_nil r2
  obtain rfl : args = #[v0, v1, v2] := by cases args; simp_all
  obtain ⟨rfl, rfl⟩ := trodVars_none hV
  obtain ⟨t, rfl, ht⟩ := GL.view_u (hval 0 5 v0 rfl rfl) h0
  obtain ⟨u, rfl, hu⟩ := GL.view_u (hval 1 5 v1 rfl rfl) h1
  obtain ⟨al, l, cl, rfl, hl, hlc, hcl, _, hop⟩ := GL.view_u8s (hval 2 32 v2 rfl rfl) h2
  exact GL.law_done (tb := 4) laid (by kernel_rfl) rfl (by kernel_rfl) Try.underlying4 hW' rfl (GL.l_win t u ht hu al l cl hl (Nat.le_trans hlc hcl) hop)
theorem over : Rows.sessionWindowRow.holds Try.pinned (OpenSpec.ofChange Rows.sessionWindowSpec) :=
  OpenClaim.holds_of_wide 6 Try.f6 rfl rfl rfl rfl rfl rfl rfl ⟨rfl, rfl, rfl, rfl, rfl⟩ rfl rfl rfl rfl rfl (by kernel_rfl) Try.func6 (by kernel_rfl)
    (of_decide_eq_true (by kernel_rfl)) (by unfold Func.isWrapper; first | (rw [if_pos (by decide +kernel)]; kernel_rfl) | (rw [if_neg (by decide +kernel)]; exact ⟨rfl, rfl⟩))
    (fun os started H enc _ => lifted os started H enc)
theorem proved : Rows.SessionWindowSaid := over
end Go.Proofs.Ytmlhncifcaicpaa.sessionWindow


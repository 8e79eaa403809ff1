/- Limits: the reference's Record. -/
import Derived.Test.YtenjmnpefmjdfaaLimL
set_option linter.unusedSimpArgs false
set_option linter.unusedVariables false
set_option linter.unnecessarySimpa false
namespace GL
open Go Go.Proofs
set_option maxRecDepth 8000
/-- A flow after which the reference finds a number out of range. -/
def overR (F : List L2) (x : L2) : Prop := ¬ (wthn (netR F x.1.f x.1.t) = true) ∨ ¬ (wthn (outR F x.1.f) = true) ∨ ¬ (wthn (outR F x.1.t) = true)
instance (F : List L2) (x : L2) : Decidable (overR F x) := inferInstanceAs (Decidable (_ ∨ _))
/-- The error with which the reference rejects flows. -/
def chkR (Ls F G : List L2) : Int :=
  if valE G ≠ 0 then valE G else
  if 256 < cntR Ls (F ++ G) then 8 else
  if ∃ x ∈ G, overR (F ++ G) x then 12 else
  if ∃ x ∈ Ls, x.1.t ≠ em ∧ excd x.2 (netR F x.1.f x.1.t) (netR (F ++ G) x.1.f x.1.t) = true then 15 else
  if ∃ x ∈ Ls, x.1.t = em ∧ excd x.2 (outR F x.1.f) (outR (F ++ G) x.1.f) = true then 16 else 0
theorem valL_step {l : List L2} {i : Nat} {x : L2} (hx : l[i]? = some x) (h6 : ¬ (x.1.f = em ∨ x.1.t = em)) (h7 : ¬ x.1.f = x.1.t) (h2 : ¬ (x.2 < 0 ∨ 1000000000000000 < x.2)) : valL (l.drop i) = valL (l.drop (i + 1)) := by
  rw [valL_drop hx, if_neg h6, if_neg h7, if_neg h2]
set_option maxHeartbeats 2000000 in
theorem c_rRecord (al : Option Addr) (Ls : List L2) (cl : Nat) (af : Option Addr) (F : List L2) (cf : Nat) (ag : Option Addr) (G : List L2) (cg : Nat) (hlL : Ls.length ≤ 1000) (hlF : F.length ≤ 10000) (hlG : G.length ≤ 10000) {h : Heap} (hs1 : SlG 3 limL h al Ls) (hs2 : SlG 3 limL h af F)
    (hs3 : SlG 3 limL h ag G) {r : Int} (hr : chkR Ls F G = r) :
    HCalls Try.prog 37 #[rfV al Ls.length cl af F.length cf, .slice ag G.length cg] h fun v h' => Ext h h' ∧ ∃ w, v = .tuple #[w, iV r] ∧ RT h' w Ls (if r = 0 then F ++ G else F) := by
  refine hcalls2 Try.func37 rfl (by decide +kernel) (by simp only [Try.ntmps37]; exact of_decide_eq_true rfl) ?_
  intro e hin
  have e0 := hin 0 _ rfl
  have e1 := hin 1 _ rfl
  have k1 := hs1; have k2 := hs2; have k3 := hs3
  refine hx_seq ?_
  refine hx_region ?_
  refine WL.box2 (by simp only [EN, Nat.reduceEqDiff, reduceIte, Value.cells, e0, strEq]; rfl) ?_
  intro h1 B1 hx1 hlt1 hB1
  replace hs1 := hs1.ext hx1
  replace hs2 := hs2.ext hx1
  replace hs3 := hs3.ext hx1
  refine WL.alloc2 zr41 ?_
  intro h2 B2 hx2 hlt2 hB2
  replace hs1 := hs1.ext hx2
  replace hs2 := hs2.ext hx2
  replace hs3 := hs3.ext hx2
  replace hB1 := hB1.ext hx2
  simp only [Value.cells] at hB2
  refine WL.qq (by simp only [EN, Nat.reduceEqDiff, reduceIte, qv_assign, strEq, hB1.cell, hB2.cell]; rfl) ?_
  refine WL.nil ?_
  refine th_norm ?_
  refine hx_seq ?_
  refine hx_seq ?_
  refine hx_region ?_
  have hz1 := hx1.size; have hn2 : h.size ≤ B2 := (by omega)
  refine WL.qq (by simp only [EN, Nat.reduceEqDiff, reduceIte, qv_move, e1, strEq, hB1.cell, hB2.cell]; rfl) ?_
  refine WL.qq (by simp only [EN, Nat.reduceEqDiff, reduceIte, qv_len, ln39, AR, strEq, hB1.cell, hB2.cell]; rfl) ?_
  refine WL.qq (by simp only [EN, Nat.reduceEqDiff, reduceIte, qv_binOp, binv_gtr, strEq, hB1.cell, hB2.cell]; rfl) ?_
  refine WL.nil ?_
  refine th_norm ?_
  refine hx_cond (by simp only [EN, Nat.reduceEqDiff, reduceIte, strEq, hB1.cell, hB2.cell]; rfl) (fun hct19 => ?_) (fun hct19 => ?_)
  ·
    try simp only [BD] at hct19
    refine hx_seq ?_
    refine hx_region ?_
    refine WL.qq (by simp only [EN, Nat.reduceEqDiff, reduceIte, qv_load, ld41, readN, AR, Nat.zero_add, Nat.reduceAdd, strEq, hB1.cell, hB2.cell]; rfl) ?_
    refine WL.store (by simp only [EN, Nat.reduceEqDiff, reduceIte, e0, e1, strEq, hB1.cell, hB2.cell] <;> rfl) sz41 (by simp only [EN, Nat.reduceEqDiff, reduceIte, e0, e1, strEq, hB1.cell, hB2.cell, Value.cells]; rfl) rfl hB2 (by simp) (by intro u hu; simp at hu; rcases hu with rfl | rfl <;> rfl) ?_
    intro h20 hw20
    have hE9 := hw20.ext ((hx1).trans (hx2)) hn2
    replace hB2 := hw20.at_
    refine WL.qq (by simp only [EN, Nat.reduceEqDiff, reduceIte, qv_assign, strEq, hB1.cell, hB2.cell]; rfl) ?_
    refine WL.nil ?_
    refine th_norm ?_
    refine hx_ret ?_
    refine th_ret ?_
    refine fin_ret [.cell 4 41, .tmp 5] rfl rfl (by simp only [EN, Nat.reduceEqDiff, reduceIte, resv, ld41, readN, AR, Nat.zero_add, Nat.reduceAdd, e0, e1, strEq, hB1.cell, hB2.cell]; rfl) ?_  -- ret 0 r2
    have hv : valE G = 8 := if_pos (by omega)
    rw [chkR, hv, if_pos (by decide)] at hr
    subst hr
    exact ⟨hE9, _, rfl, ⟨al, cl, af, cf, rfl, k1.ext hE9, k2.ext hE9⟩⟩
  ·
    try simp only [BD] at hct19
    have hv : valE G = valL (G.drop 0) := if_neg (by omega)
    refine hx_skip ?_
    refine th_norm ?_
    refine hx_seq ?_
    refine hx_seq ?_
    refine hx_region ?_
    refine WL.qq (by simp only [EN, Nat.reduceEqDiff, reduceIte, qv_assign, strEq, hB1.cell, hB2.cell]; rfl) ?_
    refine WL.nil ?_
    refine th_norm ?_
    refine hx_block ?_
    refine hx_loopS [5, 6, 21, 22, 23, 24, 25, 26, 27, 28, 29, 30, 31, 32, 33, 34, 35, 36, 37, 38, 39, 40, 41, 42, 43, 44, 45, 46, 47, 48, 49, 50, 51, 52, 53, 54, 55, 56, 57, 58, 59, 60, 61, 62, 63, 64, 65, 66, 67, 68, 69, 70, 71] (fun k e => ∃ (i : Nat), G.length - i = k ∧ (i ≤ G.length) ∧ (valE G = valL (G.drop i)) ∧ e 6 = .int .i64 i) _ ⟨0, rfl, ?_, ?_, ?_⟩ ?_
    · omega
    · exact hv
    · simp only [EN, Nat.reduceEqDiff, reduceIte, e0, e1, strEq, hB1.cell, hB2.cell] <;> rfl
    ·
      rintro k e0L hfr0 ⟨i, rfl, hi, hv, i6_0⟩
      have k1_0 := hfr0 1 rfl; try simp only [EN, Nat.reduceEqDiff, reduceIte, e1, strEq, hB1.cell, hB2.cell] at k1_0
      have k2_0 := hfr0 2 rfl; try simp only [EN, Nat.reduceEqDiff, reduceIte, strEq, hB1.cell, hB2.cell] at k2_0
      have k4_0 := hfr0 4 rfl; try simp only [EN, Nat.reduceEqDiff, reduceIte, strEq, hB1.cell, hB2.cell] at k4_0
      refine hx_seq ?_
      refine hx_seq ?_
      refine hx_region ?_
      refine WL.qq (by simp only [EN, Nat.reduceEqDiff, reduceIte, qv_move, i6_0, strEq, hB1.cell, hB2.cell]; rfl) ?_
      refine WL.qq (by simp only [EN, Nat.reduceEqDiff, reduceIte, qv_move, k1_0, strEq, hB1.cell, hB2.cell]; rfl) ?_
      refine WL.qq (by simp only [EN, Nat.reduceEqDiff, reduceIte, qv_len, ln39, AR, strEq, hB1.cell, hB2.cell]; rfl) ?_
      refine WL.qq (by simp only [EN, Nat.reduceEqDiff, reduceIte, qv_binOp, binv_lss, strEq, hB1.cell, hB2.cell]; rfl) ?_
      refine WL.nil ?_
      refine th_norm ?_
      refine hx_cond (by simp only [EN, Nat.reduceEqDiff, reduceIte, strEq, hB1.cell, hB2.cell]; rfl) (fun hct24 => ?_) (fun hct24 => ?_)
      ·
        try simp only [BD] at hct24
        obtain ⟨x, hx⟩ := atG (l := G) (i := i) (by omega)
        obtain ⟨b, off, rfl, hr3, hc0, hc1, hc2⟩ := lim_rd hs3 hx
        refine hx_skip ?_
        refine th_norm ?_
        refine hx_seq ?_
        refine hx_block ?_
        refine hx_block ?_
        refine hx_seq ?_
        refine hx_region ?_
        refine WL.qq (by simp only [EN, Nat.reduceEqDiff, reduceIte, qv_move, k1_0, strEq, hB1.cell, hB2.cell]; rfl) ?_
        refine WL.qq (by simp only [EN, Nat.reduceEqDiff, reduceIte, qv_move, i6_0, strEq, hB1.cell, hB2.cell]; rfl) ?_
        refine WL.qq (by simp only [EN, Nat.reduceEqDiff, reduceIte, qv_indexAddr, strEq, hB1.cell, hB2.cell]; (try simp (disch := omega) only [ix39, Int.toNat_natCast]); rfl) ?_
        refine WL.qq (by simp only [EN, Nat.reduceEqDiff, reduceIte, qv_fieldAddr, fa47_0, Nat.zero_add, Nat.reduceAdd, strEq, hB1.cell, hB2.cell]; rfl) ?_
        refine WL.qq (by simp only [EN, Nat.reduceEqDiff, reduceIte, k1_0, k2_0, k4_0, i6_0, strEq, hB1.cell, hB2.cell, qv_load, ld9, Int.toNat_natCast, Nat.add_zero, hc0]; rfl) ?_
        refine WL.qq (by simp only [EN, Nat.reduceEqDiff, reduceIte, qv_binOp, binv_eql, eq9, Option.map_some, strEq, hB1.cell, hB2.cell]; rfl) ?_
        refine WL.qq (by simp only [EN, Nat.reduceEqDiff, reduceIte, qv_move, strEq, hB1.cell, hB2.cell]; rfl) ?_
        refine WL.cq (gd_at (t := 34) rfl (by simp only [EN, Nat.reduceEqDiff, reduceIte, k1_0, strEq, hB1.cell, hB2.cell] <;> rfl)) (fun hg6_7 => by simp only [EN, Nat.reduceEqDiff, reduceIte, qv_move, k1_0, strEq, hB1.cell, hB2.cell, hg6_7, GR]; rfl) ?_
        refine WL.cq (gd_at (t := 34) rfl (by simp only [EN, Nat.reduceEqDiff, reduceIte, i6_0, strEq, hB1.cell, hB2.cell] <;> rfl)) (fun hg6_8 => by simp only [EN, Nat.reduceEqDiff, reduceIte, qv_move, i6_0, strEq, hB1.cell, hB2.cell, hg6_8, GR]; rfl) ?_
        refine WL.cq (gd_at (t := 34) rfl (by simp only [EN, Nat.reduceEqDiff, reduceIte, strEq, hB1.cell, hB2.cell] <;> rfl)) (fun hg6_9 => by have hq0 := hg6_9; (try simp only [BD] at hq0); simp only [EN, Nat.reduceEqDiff, reduceIte, qv_indexAddr, strEq, hB1.cell, hB2.cell, hg6_9, GR]; (try simp (disch := omega) only [ix39, Int.toNat_natCast]); rfl) ?_
        refine WL.cq (gd_at (t := 34) rfl (by simp only [EN, Nat.reduceEqDiff, reduceIte, strEq, hB1.cell, hB2.cell] <;> rfl)) (fun hg6_10 => by simp only [EN, Nat.reduceEqDiff, reduceIte, qv_fieldAddr, fa47_1, Nat.zero_add, Nat.reduceAdd, strEq, hB1.cell, hB2.cell, hg6_10, GR]; rfl) ?_
        refine WL.cq (gd_at (t := 34) rfl (by simp only [EN, Nat.reduceEqDiff, reduceIte, strEq, hB1.cell, hB2.cell] <;> rfl)) (fun hg6_11 => by simp only [EN, Nat.reduceEqDiff, reduceIte, k1_0, k2_0, k4_0, i6_0, strEq, hB1.cell, hB2.cell, GR, hg6_11, qv_load, ld9, Int.toNat_natCast, hc1]; rfl) ?_
        refine WL.cq (gd_at (t := 34) rfl (by simp only [EN, Nat.reduceEqDiff, reduceIte, strEq, hB1.cell, hB2.cell] <;> rfl)) (fun hg6_12 => by simp only [EN, Nat.reduceEqDiff, reduceIte, qv_binOp, binv_eql, eq9, Option.map_some, strEq, hB1.cell, hB2.cell, hg6_12, GR]; rfl) ?_
        refine WL.qq (by simp only [EN, Nat.reduceEqDiff, reduceIte, qv_pick, pk_and, pk_or, GR, strEq, hB1.cell, hB2.cell]; rfl) ?_
        refine WL.qq (by simp only [EN, Nat.reduceEqDiff, reduceIte, qv_assign, strEq, hB1.cell, hB2.cell]; rfl) ?_
        refine WL.nil ?_
        refine th_norm ?_
        refine hx_cond (by simp only [EN, Nat.reduceEqDiff, reduceIte, strEq, hB1.cell, hB2.cell]; rfl) (fun hct27 => ?_) (fun hct27 => ?_)
        ·
          try simp only [BD] at hct27
          refine hx_seq ?_
          refine hx_region ?_
          refine WL.qq (by simp only [EN, Nat.reduceEqDiff, reduceIte, qv_load, ld41, readN, AR, Nat.zero_add, Nat.reduceAdd, k2_0, strEq, hB1.cell, hB2.cell]; rfl) ?_
          refine WL.store (by simp only [EN, Nat.reduceEqDiff, reduceIte, k1_0, k2_0, k4_0, i6_0, strEq, hB1.cell, hB2.cell] <;> rfl) sz41 (by simp only [EN, Nat.reduceEqDiff, reduceIte, k1_0, k2_0, k4_0, i6_0, strEq, hB1.cell, hB2.cell, Value.cells]; rfl) rfl hB2 (by simp) (by intro u hu; simp at hu; rcases hu with rfl | rfl <;> rfl) ?_
          intro h21 hw21
          have hE9 := hw21.ext ((hx1).trans (hx2)) hn2
          replace hB2 := hw21.at_
          refine WL.qq (by simp only [EN, Nat.reduceEqDiff, reduceIte, qv_assign, strEq, hB1.cell, hB2.cell]; rfl) ?_
          refine WL.nil ?_
          refine th_norm ?_
          refine hx_ret ?_
          refine bl_ret ?_
          refine bl_ret ?_
          refine th_ret ?_
          refine th_ret ?_
          refine bl_ret ?_
          refine th_ret ?_
          refine fin_ret [.cell 4 41, .tmp 5] rfl rfl (by simp only [EN, Nat.reduceEqDiff, reduceIte, resv, ld41, readN, AR, Nat.zero_add, Nat.reduceAdd, k1_0, k2_0, k4_0, i6_0, strEq, hB1.cell, hB2.cell]; rfl) ?_  -- ret 1 r7
          have h6 : x.1.f = em ∨ x.1.t = em := (by simpa using hct27)
          rw [valL_drop hx, if_pos h6] at hv
          rw [chkR, hv, if_pos (by decide)] at hr
          subst hr
          exact ⟨hE9, _, rfl, ⟨al, cl, af, cf, rfl, k1.ext hE9, k2.ext hE9⟩⟩
        ·
          try simp only [BD] at hct27
          have h6 : ¬ (x.1.f = em ∨ x.1.t = em) := (by simpa using hct27)
          refine hx_seq ?_
          apply hx_draw2 Rel.same [] [] [] rfl (by decide +kernel) rfl
          refine LD.qq rfl rfl (by simp only [EN, Nat.reduceEqDiff, reduceIte, qv_move, k1_0, strEq, hB1.cell, hB2.cell]; rfl) ?_
          refine LD.qq rfl rfl (by simp only [EN, Nat.reduceEqDiff, reduceIte, qv_move, i6_0, strEq, hB1.cell, hB2.cell]; rfl) ?_
          refine LD.qq rfl rfl (by simp only [EN, Nat.reduceEqDiff, reduceIte, qv_indexAddr, strEq, hB1.cell, hB2.cell]; (try simp (disch := omega) only [ix39, Int.toNat_natCast]); rfl) ?_
          refine LD.qq rfl rfl (by simp only [EN, Nat.reduceEqDiff, reduceIte, qv_fieldAddr, fa47_0, Nat.zero_add, Nat.reduceAdd, strEq, hB1.cell, hB2.cell]; rfl) ?_
          refine LD.qq rfl rfl (by simp only [EN, Nat.reduceEqDiff, reduceIte, k1_0, k2_0, k4_0, i6_0, strEq, hB1.cell, hB2.cell, qv_load, ld9, Int.toNat_natCast, Nat.add_zero, hc0]; rfl) ?_
          refine LD.qq rfl rfl (by simp only [EN, Nat.reduceEqDiff, reduceIte, qv_move, k1_0, strEq, hB1.cell, hB2.cell]; rfl) ?_
          refine LD.qq rfl rfl (by simp only [EN, Nat.reduceEqDiff, reduceIte, qv_move, i6_0, strEq, hB1.cell, hB2.cell]; rfl) ?_
          refine LD.qq rfl rfl (by simp only [EN, Nat.reduceEqDiff, reduceIte, qv_indexAddr, strEq, hB1.cell, hB2.cell]; (try simp (disch := omega) only [ix39, Int.toNat_natCast]); rfl) ?_
          refine LD.qq rfl rfl (by simp only [EN, Nat.reduceEqDiff, reduceIte, qv_fieldAddr, fa47_1, Nat.zero_add, Nat.reduceAdd, strEq, hB1.cell, hB2.cell]; rfl) ?_
          refine LD.qq rfl rfl (by simp only [EN, Nat.reduceEqDiff, reduceIte, k1_0, k2_0, k4_0, i6_0, strEq, hB1.cell, hB2.cell, qv_load, ld9, Int.toNat_natCast, hc1]; rfl) ?_
          refine LD.qq rfl rfl (by simp only [EN, Nat.reduceEqDiff, reduceIte, qv_binOp, binv_eql, eq9, Option.map_some, strEq, hB1.cell, hB2.cell]; rfl) ?_
          refine LD.qq rfl rfl (by simp only [EN, Nat.reduceEqDiff, reduceIte, qv_assign, strEq, hB1.cell, hB2.cell]; rfl) ?_
          refine LD.nil ?_
          rintro _ rfl -
          refine WL.nil ?_
          refine th_norm ?_
          refine hx_cond (by simp only [EN, Nat.reduceEqDiff, reduceIte, strEq, hB1.cell, hB2.cell]; rfl) (fun hct43 => ?_) (fun hct43 => ?_)
          ·
            try simp only [BD] at hct43
            refine hx_seq ?_
            refine hx_region ?_
            refine WL.qq (by simp only [EN, Nat.reduceEqDiff, reduceIte, qv_load, ld41, readN, AR, Nat.zero_add, Nat.reduceAdd, k2_0, strEq, hB1.cell, hB2.cell]; rfl) ?_
            refine WL.store (by simp only [EN, Nat.reduceEqDiff, reduceIte, k1_0, k2_0, k4_0, i6_0, strEq, hB1.cell, hB2.cell] <;> rfl) sz41 (by simp only [EN, Nat.reduceEqDiff, reduceIte, k1_0, k2_0, k4_0, i6_0, strEq, hB1.cell, hB2.cell, Value.cells]; rfl) rfl hB2 (by simp) (by intro u hu; simp at hu; rcases hu with rfl | rfl <;> rfl) ?_
            intro h22 hw22
            have hE9 := hw22.ext ((hx1).trans (hx2)) hn2
            replace hB2 := hw22.at_
            refine WL.qq (by simp only [EN, Nat.reduceEqDiff, reduceIte, qv_assign, strEq, hB1.cell, hB2.cell]; rfl) ?_
            refine WL.nil ?_
            refine th_norm ?_
            refine hx_ret ?_
            refine bl_ret ?_
            refine bl_ret ?_
            refine th_ret ?_
            refine th_ret ?_
            refine bl_ret ?_
            refine th_ret ?_
            refine fin_ret [.cell 4 41, .tmp 5] rfl rfl (by simp only [EN, Nat.reduceEqDiff, reduceIte, resv, ld41, readN, AR, Nat.zero_add, Nat.reduceAdd, k1_0, k2_0, k4_0, i6_0, strEq, hB1.cell, hB2.cell]; rfl) ?_  -- ret 2 r9
            have h7 : x.1.f = x.1.t := (by simpa using hct43)
            rw [valL_drop hx, if_neg h6, if_pos h7] at hv
            rw [chkR, hv, if_pos (by decide)] at hr
            subst hr
            exact ⟨hE9, _, rfl, ⟨al, cl, af, cf, rfl, k1.ext hE9, k2.ext hE9⟩⟩
          ·
            try simp only [BD] at hct43
            have h7 : ¬ x.1.f = x.1.t := (by simpa using hct43)
            refine hx_seq ?_
            refine hx_region ?_
            refine WL.qq (by simp only [EN, Nat.reduceEqDiff, reduceIte, qv_move, k1_0, strEq, hB1.cell, hB2.cell]; rfl) ?_
            refine WL.qq (by simp only [EN, Nat.reduceEqDiff, reduceIte, qv_move, i6_0, strEq, hB1.cell, hB2.cell]; rfl) ?_
            refine WL.qq (by simp only [EN, Nat.reduceEqDiff, reduceIte, qv_indexAddr, strEq, hB1.cell, hB2.cell]; (try simp (disch := omega) only [ix39, Int.toNat_natCast]); rfl) ?_
            refine WL.qq (by simp only [EN, Nat.reduceEqDiff, reduceIte, qv_fieldAddr, fa47_2, Nat.zero_add, Nat.reduceAdd, strEq, hB1.cell, hB2.cell]; rfl) ?_
            refine WL.qq (by simp only [EN, Nat.reduceEqDiff, reduceIte, k1_0, k2_0, k4_0, i6_0, strEq, hB1.cell, hB2.cell, qv_load, ld2, Int.toNat_natCast, hc2]; rfl) ?_
            refine WL.qq (by simp only [EN, Nat.reduceEqDiff, reduceIte, qv_binOp, binv_lss, strEq, hB1.cell, hB2.cell]; rfl) ?_
            refine WL.qq (by simp only [EN, Nat.reduceEqDiff, reduceIte, qv_move, strEq, hB1.cell, hB2.cell]; rfl) ?_
            refine WL.cq (gd_at (t := 63) rfl (by simp only [EN, Nat.reduceEqDiff, reduceIte, k1_0, strEq, hB1.cell, hB2.cell] <;> rfl)) (fun hg10_7 => by simp only [EN, Nat.reduceEqDiff, reduceIte, qv_move, k1_0, strEq, hB1.cell, hB2.cell, hg10_7, GR]; rfl) ?_
            refine WL.cq (gd_at (t := 63) rfl (by simp only [EN, Nat.reduceEqDiff, reduceIte, i6_0, strEq, hB1.cell, hB2.cell] <;> rfl)) (fun hg10_8 => by simp only [EN, Nat.reduceEqDiff, reduceIte, qv_move, i6_0, strEq, hB1.cell, hB2.cell, hg10_8, GR]; rfl) ?_
            refine WL.cq (gd_at (t := 63) rfl (by simp only [EN, Nat.reduceEqDiff, reduceIte, strEq, hB1.cell, hB2.cell] <;> rfl)) (fun hg10_9 => by have hq0 := hg10_9; (try simp only [BD] at hq0); simp only [EN, Nat.reduceEqDiff, reduceIte, qv_indexAddr, strEq, hB1.cell, hB2.cell, hg10_9, GR]; (try simp (disch := omega) only [ix39, Int.toNat_natCast]); rfl) ?_
            refine WL.cq (gd_at (t := 63) rfl (by simp only [EN, Nat.reduceEqDiff, reduceIte, strEq, hB1.cell, hB2.cell] <;> rfl)) (fun hg10_10 => by simp only [EN, Nat.reduceEqDiff, reduceIte, qv_fieldAddr, fa47_2, Nat.zero_add, Nat.reduceAdd, strEq, hB1.cell, hB2.cell, hg10_10, GR]; rfl) ?_
            refine WL.cq (gd_at (t := 63) rfl (by simp only [EN, Nat.reduceEqDiff, reduceIte, strEq, hB1.cell, hB2.cell] <;> rfl)) (fun hg10_11 => by simp only [EN, Nat.reduceEqDiff, reduceIte, k1_0, k2_0, k4_0, i6_0, strEq, hB1.cell, hB2.cell, GR, hg10_11, qv_load, ld2, Int.toNat_natCast, hc2]; rfl) ?_
            refine WL.cq (gd_at (t := 63) rfl (by simp only [EN, Nat.reduceEqDiff, reduceIte, strEq, hB1.cell, hB2.cell] <;> rfl)) (fun hg10_12 => by simp only [EN, Nat.reduceEqDiff, reduceIte, qv_binOp, binv_gtr, strEq, hB1.cell, hB2.cell, hg10_12, GR]; rfl) ?_
            refine WL.qq (by simp only [EN, Nat.reduceEqDiff, reduceIte, qv_pick, pk_and, pk_or, GR, strEq, hB1.cell, hB2.cell]; rfl) ?_
            refine WL.qq (by simp only [EN, Nat.reduceEqDiff, reduceIte, qv_assign, strEq, hB1.cell, hB2.cell]; rfl) ?_
            refine WL.nil ?_
            refine th_norm ?_
            refine hx_cond (by simp only [EN, Nat.reduceEqDiff, reduceIte, strEq, hB1.cell, hB2.cell]; rfl) (fun hct56 => ?_) (fun hct56 => ?_)
            ·
              try simp only [BD] at hct56
              refine hx_seq ?_
              refine hx_region ?_
              refine WL.qq (by simp only [EN, Nat.reduceEqDiff, reduceIte, qv_load, ld41, readN, AR, Nat.zero_add, Nat.reduceAdd, k2_0, strEq, hB1.cell, hB2.cell]; rfl) ?_
              refine WL.store (by simp only [EN, Nat.reduceEqDiff, reduceIte, k1_0, k2_0, k4_0, i6_0, strEq, hB1.cell, hB2.cell] <;> rfl) sz41 (by simp only [EN, Nat.reduceEqDiff, reduceIte, k1_0, k2_0, k4_0, i6_0, strEq, hB1.cell, hB2.cell, Value.cells]; rfl) rfl hB2 (by simp) (by intro u hu; simp at hu; rcases hu with rfl | rfl <;> rfl) ?_
              intro h23 hw23
              have hE9 := hw23.ext ((hx1).trans (hx2)) hn2
              replace hB2 := hw23.at_
              refine WL.qq (by simp only [EN, Nat.reduceEqDiff, reduceIte, qv_assign, strEq, hB1.cell, hB2.cell]; rfl) ?_
              refine WL.nil ?_
              refine th_norm ?_
              refine hx_ret ?_
              refine bl_ret ?_
              refine bl_ret ?_
              refine th_ret ?_
              refine th_ret ?_
              refine bl_ret ?_
              refine th_ret ?_
              refine fin_ret [.cell 4 41, .tmp 5] rfl rfl (by simp only [EN, Nat.reduceEqDiff, reduceIte, resv, ld41, readN, AR, Nat.zero_add, Nat.reduceAdd, k1_0, k2_0, k4_0, i6_0, strEq, hB1.cell, hB2.cell]; rfl) ?_  -- ret 3 r11
              have h2 : x.2 < 0 ∨ 1000000000000000 < x.2 := (by simpa using hct56)
              rw [valL_drop hx, if_neg h6, if_neg h7, if_pos h2] at hv
              rw [chkR, hv, if_pos (by decide)] at hr
              subst hr
              exact ⟨hE9, _, rfl, ⟨al, cl, af, cf, rfl, k1.ext hE9, k2.ext hE9⟩⟩
            ·
              try simp only [BD] at hct56
              refine hx_skip ?_
              refine bl_norm ?_
              refine bl_norm ?_
              refine th_norm ?_
              refine hx_region ?_
              refine WL.qq (by simp only [EN, Nat.reduceEqDiff, reduceIte, qv_move, i6_0, strEq, hB1.cell, hB2.cell]; rfl) ?_
              refine WL.qq (by simp only [EN, Nat.reduceEqDiff, reduceIte, qv_binOp, binv_add, strEq, hB1.cell, hB2.cell]; (try simp (disch := omega) only [w64, w8, wu64]); rfl) ?_
              refine WL.qq (by simp only [EN, Nat.reduceEqDiff, reduceIte, qv_assign, strEq, hB1.cell, hB2.cell]; rfl) ?_
              refine WL.nil ?_
              refine th_norm ?_
              refine ⟨rfl, rfl, ?_, _, ?_, i + 1, rfl, ?_, ?_, ?_⟩  -- again 0 of loop 0
              · (repeat (first | exact Fr.refl _ _ | refine Fr.set rfl ?_ | refine Fr.put rfl ?_ | with_reducible refine Fr.put0 ?_))
              · omega
              · omega
              · rw [hv]; exact valL_step hx h6 h7 (by simpa using hct56)
              · simp only [EN, Nat.reduceEqDiff, reduceIte, k1_0, k2_0, k4_0, i6_0, strEq, hB1.cell, hB2.cell] <;> first | rfl | (congr 1; omega)
      ·
        try simp only [BD] at hct24
        have h0 : valE G = 0 := (by rw [hv, List.drop_of_length_le (by omega)]; rfl)
        rw [chkR, if_neg (by simp [h0])] at hr
        refine hx_exit ?_
        refine th_exit ?_
        refine th_exit ?_
        refine bl_hit ?_
        refine th_norm ?_
        refine hx_seq ?_
        apply hx_draw2R (Rel.app (Array.size h2) 47 3 F.length G.length (F.flatMap limL) (G.flatMap limL)) [10] [2, 5, 7, 9] [(2, Spec.ls (Array.size h2) #[] 47 0), (5, Spec.own (Array.size h2) 47 3 F.length (F.flatMap limL)), (7, Spec.own (Array.size h2) 47 3 (F.length + G.length) (F.flatMap limL ++ G.flatMap limL)), (9, Spec.blk (Array.size h2) #[.slice none 0 0, .slice none 0 0] 41)] rfl (by decide +kernel) rfl (app_stable (by decide))
        have hzs := Ext.size ((hx1).trans (hx2)); have hb1z := (Array.getElem?_eq_some_iff.1 hB1).1; have hb2z := (Array.getElem?_eq_some_iff.1 hB2).1
        refine LD.qr rfl rfl (fun hD hr => by have hX : Ext _ _ := app_ext hr; have hB1 := hB1.ext hX; simp only [EN, Nat.reduceEqDiff, reduceIte, qv_fieldAddr, fa41_0, Nat.zero_add, Nat.reduceAdd, k2_0, strEq, hB1.cell, hB2.cell]; rfl) ?_
        refine LD.qr rfl rfl (fun hD hr => by have hX : Ext _ _ := app_ext hr; have hB1 := hB1.ext hX; simp only [EN, Nat.reduceEqDiff, reduceIte, qv_load, ld38, readN, AR, Nat.zero_add, Nat.reduceAdd, strEq, hB1.cell, hB2.cell]; rfl) ?_
        refine LD.es rfl rfl (by intro hD hr hf; have hX : Ext _ _ := app_ext hr; have hB1 := hB1.ext hX; exact (e_lit0 hX.size Try.underlying39 sz47).mono (fun _ _ hh => ⟨app_of_ext hh.1, hh.2⟩)) ?_
        intro u12_2 w12_2
        obtain ⟨B30, hlt30, rfl⟩ := w12_2
        refine LD.qr rfl rfl (fun hD hr => by have hX : Ext _ _ := app_ext hr; have hB1 := hB1.ext hX; simp only [EN, Nat.reduceEqDiff, reduceIte, qv_fieldAddr, fa41_1, Nat.zero_add, Nat.reduceAdd, k2_0, strEq, hB1.cell, hB2.cell]; rfl) ?_
        refine LD.qr rfl rfl (fun hD hr => by have hX : Ext _ _ := app_ext hr; have hB1 := hB1.ext hX; simp only [EN, Nat.reduceEqDiff, reduceIte, qv_load, ld39, readN, AR, Nat.zero_add, Nat.reduceAdd, strEq, hB1.cell, hB2.cell]; rfl) ?_
        refine LD.es rfl rfl (by intro hD hr hf; have hX : Ext _ _ := app_ext hr; have hB1 := hB1.ext hX; have hB30 := hf (2, .slice (some ⟨B30, 0, none⟩) 0 0) (by simp) (by show tb _ _ 2 = true; decide +kernel) _ rfl B30 rfl; exact (e_copyG (f := limL) (L := F) (bytes := 40) Try.underlying39 (inf_of Try.type47) rfl rfl rfl rfl (by decide) (fun _ => rfl) (by simp only [EN, Nat.reduceEqDiff, reduceIte, k1_0, k2_0, k4_0, i6_0, strEq, hB1.cell, hB2.cell]) hB30 hlt30 (by simp only [EN, Nat.reduceEqDiff, reduceIte, k1_0, k2_0, k4_0, i6_0, strEq, hB1.cell, hB2.cell]; rfl) rfl (hs2.ext hX) (by simp only [maxLen]; omega) (by omega) hX.size).mono (fun _ _ hh => ⟨app_of_ext hh.1, hh.2⟩)) ?_
        intro u12_5 w12_5
        obtain ⟨a31, c31, rfl⟩ := w12_5
        refine LD.qr rfl rfl (fun hD hr => by have hX : Ext _ _ := app_ext hr; have hB1 := hB1.ext hX; simp only [EN, Nat.reduceEqDiff, reduceIte, qv_move, k1_0, strEq, hB1.cell, hB2.cell]; rfl) ?_
        refine LD.es rfl rfl (by intro hD hr hf; have hX : Ext _ _ := app_ext hr; have hB1 := hB1.ext hX; have ho31 := hf (5, .slice a31 F.length c31) (by simp) (by show tb _ _ 5 = true; decide +kernel) _ rfl; exact e_appIn (f := limL) (L := F) (M := G) (bytes := 40) Try.underlying39 (inf_of Try.type47) rfl rfl rfl rfl (by decide) (fun _ => rfl) (fun x u hu => by simp at hu; rcases hu with rfl | rfl | rfl <;> rfl) (by simp only [EN, Nat.reduceEqDiff, reduceIte, k1_0, k2_0, k4_0, i6_0, strEq, hB1.cell, hB2.cell]) ho31 (by simp only [EN, Nat.reduceEqDiff, reduceIte, k1_0, k2_0, k4_0, i6_0, strEq, hB1.cell, hB2.cell]; rfl) rfl (hs3.ext hX) (by simp only [maxLen]; omega) (by omega) hX.size) ?_
        intro u12_7 w12_7
        obtain ⟨a32, c32, rfl⟩ := w12_7
        refine LD.qr rfl rfl (fun hD hr => by have hX : Ext _ _ := app_ext hr; have hB1 := hB1.ext hX; refine qv_bld (by simp only [EN, Nat.reduceEqDiff, reduceIte, AR, strEq, hB1.cell, hB2.cell] <;> rfl) (by rw [bl41]; simp [Instr.fill, Value.cells]; rfl)) ?_
        refine LD.es rfl rfl (by intro hD hr hf; have hX : Ext _ _ := app_ext hr; have hB1 := hB1.ext hX; exact (e_alloc zr41).mono (fun _ _ hh => by obtain ⟨B, rfl, hn⟩ := hh; exact ⟨app_of_ext hn.ext, ⟨B, Nat.le_trans hX.size hn.fresh, rfl⟩, fun B' hB' => by cases hB'; exact hn.at_⟩)) ?_
        intro u12_9 w12_9
        obtain ⟨B7, hlt7, rfl⟩ := w12_9
        refine LD.skip rfl ?_
        refine LD.nil ?_
        rintro h3 hr12 hF12
        have hx3 : Ext _ _ := app_ext hr12
        replace hs1 := hs1.ext hx3
        replace hs2 := hs2.ext hx3
        replace hs3 := hs3.ext hx3
        replace hB1 := hB1.ext hx3
        replace hB2 := hB2.ext hx3
        have hB7 : Has h3 B7 (.cells #[.slice none 0 0, .slice none 0 0] 41) := hF12 (9, .pointer (some ⟨B7, 0, none⟩)) (by simp) _ rfl B7 rfl
        have ho32 : Own h3 _ 47 3 (.slice a32 (F.length + G.length) c32) (F.length + G.length) (F.flatMap limL ++ G.flatMap limL) := hF12 (7, .slice a32 (F.length + G.length) c32) (by simp) _ rfl
        refine WL.store (by simp only [EN, Nat.reduceEqDiff, reduceIte, k1_0, k2_0, k4_0, i6_0, strEq, hB1.cell, hB2.cell] <;> rfl) sz41 (by simp only [EN, Nat.reduceEqDiff, reduceIte, k1_0, k2_0, k4_0, i6_0, strEq, hB1.cell, hB2.cell, Value.cells]; rfl) rfl hB7 (by simp) (by intro u hu; simp at hu; rcases hu with rfl | rfl <;> rfl) ?_
        intro h40 hw40
        have hE := hw40.ext ((hx1).trans ((hx2).trans (hx3))) (Nat.le_trans hzs hlt7)
        have ho40 := ho32.keep (h' := h40) (fun c hc => hw40.same c fun hh => by subst hh; exact ho32.ncell hB7 (by decide) hc)
        replace hB1 := hB1.wr hw40 (by omega)
        replace hB2 := hB2.wr hw40 (by omega)
        replace hB7 := hw40.at_
        obtain ⟨F2, hF2⟩ : ∃ F2, F ++ G = F2 := ⟨_, rfl⟩
        have hl2 : F.length + G.length = F2.length := (by rw [← hF2, List.length_append])
        rw [← List.flatMap_append, hF2, hl2] at ho40
        simp only [splc, List.take_zero, List.nil_append, hl2, List.drop_succ_cons, List.drop_zero, List.length_cons, List.length_nil, List.drop_nil, List.append_nil, Nat.zero_add, Nat.reduceAdd] at hB7
        rw [hF2] at hr ⊢
        replace hs1 := k1.ext hE
        replace hs2 := k2.ext hE
        replace hs3 := k3.ext hE
        have ho7 := ho40.base (Nat.zero_le _)
        have hs7 := slG_own (f := limL) (sz := 3) (fun _ => rfl) ho7 rfl
        refine WL.nil ?_
        refine th_norm ?_
        refine hx_seq ?_
        refine hx_seq ?_
        refine hx_region ?_
        refine WL.qq (by simp only [EN, Nat.reduceEqDiff, reduceIte, k1_0, k2_0, k4_0, i6_0, strEq, hB1.cell, hB2.cell, qv_load, ld41, readN, hB7.cell, AR, Nat.zero_add, Nat.reduceAdd]; rfl) ?_
        refine WL.cg Try.call58 (by simp only [EN, Nat.reduceEqDiff, reduceIte, AR, strEq, hB1.cell, hB2.cell]; exact c_rMent al Ls cl a32 F2 c32 (by omega) (by omega) hs1 hs7) ?_
        intro h4 hx4
        replace hE := hE.ext hx4
        replace hs1 := hs1.ext hx4
        replace hs2 := hs2.ext hx4
        replace hs3 := hs3.ext hx4
        replace hB1 := hB1.ext hx4
        replace hB2 := hB2.ext hx4
        replace hB7 := hB7.ext hx4
        replace ho7 := ho7.ext hx4
        replace hs7 := hs7.ext hx4
        refine WL.qq (by simp only [EN, Nat.reduceEqDiff, reduceIte, qv_binOp, binv_gtr, strEq, hB1.cell, hB2.cell]; rfl) ?_
        refine WL.nil ?_
        refine th_norm ?_
        refine hx_cond (by simp only [EN, Nat.reduceEqDiff, reduceIte, strEq, hB1.cell, hB2.cell]; rfl) (fun hct83 => ?_) (fun hct83 => ?_)
        ·
          try simp only [BD] at hct83
          refine hx_seq ?_
          refine hx_region ?_
          refine WL.qq (by simp only [EN, Nat.reduceEqDiff, reduceIte, qv_load, ld41, readN, AR, Nat.zero_add, Nat.reduceAdd, k2_0, strEq, hB1.cell, hB2.cell]; rfl) ?_
          refine WL.store (by simp only [EN, Nat.reduceEqDiff, reduceIte, k1_0, k2_0, k4_0, i6_0, strEq, hB1.cell, hB2.cell] <;> rfl) sz41 (by simp only [EN, Nat.reduceEqDiff, reduceIte, k1_0, k2_0, k4_0, i6_0, strEq, hB1.cell, hB2.cell, Value.cells]; rfl) rfl hB2 (by simp) (by intro u hu; simp at hu; rcases hu with rfl | rfl <;> rfl) ?_
          intro h24 hw24
          have hE9 := hw24.ext hE hn2
          have ho9 := ho7.keep (h' := h24) (fun c hc => hw24.same c fun hh => by subst hh; exact ho7.ncell hB2 (by decide) hc)
          replace hB2 := hw24.at_
          refine WL.qq (by simp only [EN, Nat.reduceEqDiff, reduceIte, qv_assign, strEq, hB1.cell, hB2.cell]; rfl) ?_
          refine WL.nil ?_
          refine th_norm ?_
          refine hx_ret ?_
          refine th_ret ?_
          refine fin_ret [.cell 4 41, .tmp 5] rfl rfl (by simp only [EN, Nat.reduceEqDiff, reduceIte, resv, ld41, readN, AR, Nat.zero_add, Nat.reduceAdd, k1_0, k2_0, k4_0, i6_0, strEq, hB1.cell, hB2.cell]; rfl) ?_  -- ret 4 r14
          rw [if_pos (by omega)] at hr
          subst hr
          exact ⟨hE9, _, rfl, ⟨al, cl, af, cf, rfl, k1.ext hE9, k2.ext hE9⟩⟩
        ·
          try simp only [BD] at hct83
          rw [if_neg (by omega)] at hr
          refine hx_skip ?_
          refine th_norm ?_
          refine hx_seq ?_
          refine hx_seq ?_
          refine hx_fresh (fun eF15 hfcf15 => ?_)
          have k1_f15 := hfcf15 1 rfl; try simp only [EN, Nat.reduceEqDiff, reduceIte, k1_0, strEq, hB1.cell, hB2.cell] at k1_f15
          have k2_f15 := hfcf15 2 rfl; try simp only [EN, Nat.reduceEqDiff, reduceIte, k2_0, strEq, hB1.cell, hB2.cell] at k2_f15
          have k4_f15 := hfcf15 4 rfl; try simp only [EN, Nat.reduceEqDiff, reduceIte, k4_0, strEq, hB1.cell, hB2.cell] at k4_f15
          have k7_f15 := hfcf15 7 rfl; try simp only [EN, Nat.reduceEqDiff, reduceIte, strEq, hB1.cell, hB2.cell] at k7_f15
          refine hx_region ?_
          refine WL.qq (by simp only [EN, Nat.reduceEqDiff, reduceIte, qv_assign, strEq, hB1.cell, hB2.cell]; rfl) ?_
          refine WL.nil ?_
          refine th_norm ?_
          refine hx_block ?_
          refine hx_loopX [5, 8, 9, 10, 85, 86, 87, 88, 89, 90, 91, 92, 93, 94, 95, 96, 97, 98, 99, 100, 101, 102, 103, 104, 105, 106, 107, 108, 109, 110, 111, 112, 113, 114, 115, 116, 117, 118, 119, 120, 121, 122, 123, 124, 125, 126, 127, 128, 129, 130, 131, 132, 133, 134, 135, 136] (fun k e => ∃ (j : Nat), G.length - j = k ∧ (j ≤ G.length) ∧ (∀ y ∈ G.take j, ¬ overR F2 y) ∧ e 8 = .int .i64 j) _ ⟨0, rfl, ?_, ?_, ?_⟩ ?_
          · omega
          · simp
          · simp only [EN, Nat.reduceEqDiff, reduceIte, k1_f15, k2_f15, k4_f15, k7_f15, strEq, hB1.cell, hB2.cell] <;> rfl
          ·
            rintro k e1L hL1 hX1 hfr1 ⟨j, rfl, hj, hno, i8_1⟩
            replace hE := hE.ext hX1
            replace hs1 := hs1.ext hX1
            replace hs2 := hs2.ext hX1
            replace hs3 := hs3.ext hX1
            replace hB1 := hB1.ext hX1
            replace hB2 := hB2.ext hX1
            replace hB7 := hB7.ext hX1
            replace ho7 := ho7.ext hX1
            replace hs7 := hs7.ext hX1
            have k1_1 := hfr1 1 rfl; try simp only [EN, Nat.reduceEqDiff, reduceIte, k1_f15, strEq, hB1.cell, hB2.cell] at k1_1
            have k2_1 := hfr1 2 rfl; try simp only [EN, Nat.reduceEqDiff, reduceIte, k2_f15, strEq, hB1.cell, hB2.cell] at k2_1
            have k4_1 := hfr1 4 rfl; try simp only [EN, Nat.reduceEqDiff, reduceIte, k4_f15, strEq, hB1.cell, hB2.cell] at k4_1
            have k7_1 := hfr1 7 rfl; try simp only [EN, Nat.reduceEqDiff, reduceIte, k7_f15, strEq, hB1.cell, hB2.cell] at k7_1
            refine hx_seq ?_
            refine hx_seq ?_
            refine hx_region ?_
            refine WL.qq (by simp only [EN, Nat.reduceEqDiff, reduceIte, qv_move, i8_1, strEq, hB1.cell, hB2.cell]; rfl) ?_
            refine WL.qq (by simp only [EN, Nat.reduceEqDiff, reduceIte, qv_move, k1_1, strEq, hB1.cell, hB2.cell]; rfl) ?_
            refine WL.qq (by simp only [EN, Nat.reduceEqDiff, reduceIte, qv_len, ln39, AR, strEq, hB1.cell, hB2.cell]; rfl) ?_
            refine WL.qq (by simp only [EN, Nat.reduceEqDiff, reduceIte, qv_binOp, binv_lss, strEq, hB1.cell, hB2.cell]; rfl) ?_
            refine WL.nil ?_
            refine th_norm ?_
            refine hx_cond (by simp only [EN, Nat.reduceEqDiff, reduceIte, strEq, hB1.cell, hB2.cell]; rfl) (fun hct88 => ?_) (fun hct88 => ?_)
            ·
              try simp only [BD] at hct88
              obtain ⟨x, hx⟩ := atG (l := G) (i := j) (by omega)
              obtain ⟨b, off, rfl, hr3, hc0, hc1, hc2⟩ := lim_rd hs3 hx
              refine hx_skip ?_
              refine th_norm ?_
              refine hx_seq ?_
              refine hx_block ?_
              refine hx_seq ?_
              apply hx_draw2 Rel.grows [] [11, 18, 25, 26] [(11, Spec.is _), (18, Spec.is _), (25, Spec.is _), (26, (Spec.ls (Array.size hL1) #[iV (netR F2 x.1.f x.1.t), iV (outR F2 x.1.f), iV (outR F2 x.1.t)] 2 3))] rfl (by decide +kernel) rfl
              refine LD.qq rfl rfl (by simp only [EN, Nat.reduceEqDiff, reduceIte, k1_1, k2_1, k4_1, k7_1, i8_1, strEq, hB1.cell, hB2.cell, qv_load, ld41, readN, hB7.cell, AR, Nat.zero_add, Nat.reduceAdd]; rfl) ?_
              refine LD.qq rfl rfl (by simp only [EN, Nat.reduceEqDiff, reduceIte, qv_move, k1_1, strEq, hB1.cell, hB2.cell]; rfl) ?_
              refine LD.qq rfl rfl (by simp only [EN, Nat.reduceEqDiff, reduceIte, qv_move, i8_1, strEq, hB1.cell, hB2.cell]; rfl) ?_
              refine LD.qq rfl rfl (by simp only [EN, Nat.reduceEqDiff, reduceIte, qv_indexAddr, strEq, hB1.cell, hB2.cell]; (try simp (disch := omega) only [ix39, Int.toNat_natCast]); rfl) ?_
              refine LD.qq rfl rfl (by simp only [EN, Nat.reduceEqDiff, reduceIte, qv_fieldAddr, fa47_0, Nat.zero_add, Nat.reduceAdd, strEq, hB1.cell, hB2.cell]; rfl) ?_
              refine LD.qq rfl rfl (by simp only [EN, Nat.reduceEqDiff, reduceIte, k1_1, k2_1, k4_1, k7_1, i8_1, strEq, hB1.cell, hB2.cell, qv_load, ld9, Int.toNat_natCast, Nat.add_zero, hc0]; rfl) ?_
              refine LD.qq rfl rfl (by simp only [EN, Nat.reduceEqDiff, reduceIte, qv_move, k1_1, strEq, hB1.cell, hB2.cell]; rfl) ?_
              refine LD.qq rfl rfl (by simp only [EN, Nat.reduceEqDiff, reduceIte, qv_move, i8_1, strEq, hB1.cell, hB2.cell]; rfl) ?_
              refine LD.qq rfl rfl (by simp only [EN, Nat.reduceEqDiff, reduceIte, qv_indexAddr, strEq, hB1.cell, hB2.cell]; (try simp (disch := omega) only [ix39, Int.toNat_natCast]); rfl) ?_
              refine LD.qq rfl rfl (by simp only [EN, Nat.reduceEqDiff, reduceIte, qv_fieldAddr, fa47_1, Nat.zero_add, Nat.reduceAdd, strEq, hB1.cell, hB2.cell]; rfl) ?_
              refine LD.qq rfl rfl (by simp only [EN, Nat.reduceEqDiff, reduceIte, k1_1, k2_1, k4_1, k7_1, i8_1, strEq, hB1.cell, hB2.cell, qv_load, ld9, Int.toNat_natCast, hc1]; rfl) ?_
              refine LD.ck rfl rfl Try.call50 (by intro hD hr; have hx : Ext _ _ := hr; have hE := hE.ext hx; have hs1 := hs1.ext hx; have hs2 := hs2.ext hx; have hs3 := hs3.ext hx; have hB1 := hB1.ext hx; have hB2 := hB2.ext hx; have hB7 := hB7.ext hx; have ho7 := ho7.ext hx; have hs7 := hs7.ext hx; simp only [EN, Nat.reduceEqDiff, reduceIte, AR, strEq, hB1.cell, hB2.cell]; exact c_rNet al Ls.length cl a32 F2 c32 x.1.f x.1.t (by omega) hs7) ?_
              refine LD.qq rfl rfl (by simp only [EN, Nat.reduceEqDiff, reduceIte, k1_1, k2_1, k4_1, k7_1, i8_1, strEq, hB1.cell, hB2.cell, qv_load, ld41, readN, hB7.cell, AR, Nat.zero_add, Nat.reduceAdd]; rfl) ?_
              refine LD.qq rfl rfl (by simp only [EN, Nat.reduceEqDiff, reduceIte, qv_move, k1_1, strEq, hB1.cell, hB2.cell]; rfl) ?_
              refine LD.qq rfl rfl (by simp only [EN, Nat.reduceEqDiff, reduceIte, qv_move, i8_1, strEq, hB1.cell, hB2.cell]; rfl) ?_
              refine LD.qq rfl rfl (by simp only [EN, Nat.reduceEqDiff, reduceIte, qv_indexAddr, strEq, hB1.cell, hB2.cell]; (try simp (disch := omega) only [ix39, Int.toNat_natCast]); rfl) ?_
              refine LD.qq rfl rfl (by simp only [EN, Nat.reduceEqDiff, reduceIte, qv_fieldAddr, fa47_0, Nat.zero_add, Nat.reduceAdd, strEq, hB1.cell, hB2.cell]; rfl) ?_
              refine LD.qq rfl rfl (by simp only [EN, Nat.reduceEqDiff, reduceIte, k1_1, k2_1, k4_1, k7_1, i8_1, strEq, hB1.cell, hB2.cell, qv_load, ld9, Int.toNat_natCast, Nat.add_zero, hc0]; rfl) ?_
              refine LD.ck rfl rfl Try.call49 (by intro hD hr; have hx : Ext _ _ := hr; have hE := hE.ext hx; have hs1 := hs1.ext hx; have hs2 := hs2.ext hx; have hs3 := hs3.ext hx; have hB1 := hB1.ext hx; have hB2 := hB2.ext hx; have hB7 := hB7.ext hx; have ho7 := ho7.ext hx; have hs7 := hs7.ext hx; simp only [EN, Nat.reduceEqDiff, reduceIte, AR, strEq, hB1.cell, hB2.cell]; exact c_rOut al Ls.length cl a32 F2 c32 x.1.f (by omega) hs7) ?_
              refine LD.qq rfl rfl (by simp only [EN, Nat.reduceEqDiff, reduceIte, k1_1, k2_1, k4_1, k7_1, i8_1, strEq, hB1.cell, hB2.cell, qv_load, ld41, readN, hB7.cell, AR, Nat.zero_add, Nat.reduceAdd]; rfl) ?_
              refine LD.qq rfl rfl (by simp only [EN, Nat.reduceEqDiff, reduceIte, qv_move, k1_1, strEq, hB1.cell, hB2.cell]; rfl) ?_
              refine LD.qq rfl rfl (by simp only [EN, Nat.reduceEqDiff, reduceIte, qv_move, i8_1, strEq, hB1.cell, hB2.cell]; rfl) ?_
              refine LD.qq rfl rfl (by simp only [EN, Nat.reduceEqDiff, reduceIte, qv_indexAddr, strEq, hB1.cell, hB2.cell]; (try simp (disch := omega) only [ix39, Int.toNat_natCast]); rfl) ?_
              refine LD.qq rfl rfl (by simp only [EN, Nat.reduceEqDiff, reduceIte, qv_fieldAddr, fa47_1, Nat.zero_add, Nat.reduceAdd, strEq, hB1.cell, hB2.cell]; rfl) ?_
              refine LD.qq rfl rfl (by simp only [EN, Nat.reduceEqDiff, reduceIte, k1_1, k2_1, k4_1, k7_1, i8_1, strEq, hB1.cell, hB2.cell, qv_load, ld9, Int.toNat_natCast, hc1]; rfl) ?_
              refine LD.ck rfl rfl Try.call49 (by intro hD hr; have hx : Ext _ _ := hr; have hE := hE.ext hx; have hs1 := hs1.ext hx; have hs2 := hs2.ext hx; have hs3 := hs3.ext hx; have hB1 := hB1.ext hx; have hB2 := hB2.ext hx; have hB7 := hB7.ext hx; have ho7 := ho7.ext hx; have hs7 := hs7.ext hx; simp only [EN, Nat.reduceEqDiff, reduceIte, AR, strEq, hB1.cell, hB2.cell]; exact c_rOut al Ls.length cl a32 F2 c32 x.1.t (by omega) hs7) ?_
              refine LD.es rfl rfl (by intro hD hr hf; have hx : Ext _ _ := hr; have hE := hE.ext hx; have hs1 := hs1.ext hx; have hs2 := hs2.ext hx; have hs3 := hs3.ext hx; have hB1 := hB1.ext hx; have hB2 := hB2.ext hx; have hB7 := hB7.ext hx; have ho7 := ho7.ext hx; have hs7 := hs7.ext hx; exact e_litN hx.size #[iV 0, iV 0, iV 0] Try.underlying103 sz2 zr2 (by decide) (by kernel_rfl) ⟨_, (by simp only [EN, Nat.reduceEqDiff, reduceIte, k1_1, k2_1, k4_1, k7_1, i8_1, strEq, hB1.cell, hB2.cell, AR]; simp [Instr.fill, Value.cells] <;> rfl), rfl⟩) ?_
              intro u18_26 w18_26
              obtain ⟨B50, hlt50, rfl⟩ := w18_26
              refine LD.qq rfl rfl (by simp only [EN, Nat.reduceEqDiff, reduceIte, qv_assign, strEq, hB1.cell, hB2.cell]; rfl) ?_
              refine LD.nil ?_
              rintro h5 hx5 hF18
              replace hx5 : Ext _ _ := hx5
              replace hE := hE.ext hx5
              replace hs1 := hs1.ext hx5
              replace hs2 := hs2.ext hx5
              replace hs3 := hs3.ext hx5
              replace hB1 := hB1.ext hx5
              replace hB2 := hB2.ext hx5
              replace hB7 := hB7.ext hx5
              replace ho7 := ho7.ext hx5
              replace hs7 := hs7.ext hx5
              refine WL.nil ?_
              refine th_norm ?_
              refine hx_seq ?_
              refine hx_region ?_
              have hB50 := hF18 (26, .slice (some ⟨B50, 0, none⟩) 3 3) (by simp) _ rfl B50 rfl
              obtain ⟨N3, hN3⟩ : ∃ N3, [netR F2 x.1.f x.1.t, outR F2 x.1.f, outR F2 x.1.t] = N3 := ⟨_, rfl⟩
              have hs50 : SlG 1 intL h5 (some ⟨B50, 0, none⟩) N3 := hN3 ▸ slG_has (f := intL) (sz := 1) (L := [netR F2 x.1.f x.1.t, outR F2 x.1.f, outR F2 x.1.t]) (fun _ => rfl) hB50 rfl
              have hl50 : N3.length = 3 := (by rw [← hN3]; rfl)
              refine WL.qq (by simp only [EN, Nat.reduceEqDiff, reduceIte, qv_assign, strEq, hB1.cell, hB2.cell]; rfl) ?_
              refine WL.nil ?_
              refine th_norm ?_
              refine hx_block ?_
              refine hx_loopS [5, 10, 118, 119, 120, 121, 122, 123, 124, 125, 126, 127, 128, 129, 130, 131, 132, 133, 134, 135, 136] (fun k e => ∃ (m2 : Nat), 3 - m2 = k ∧ (m2 ≤ 3) ∧ (∀ y ∈ N3.take m2, wthn y = true) ∧ e 10 = .int .i64 m2) _ ⟨0, rfl, ?_, ?_, ?_⟩ ?_
              · omega
              · simp
              · simp only [EN, Nat.reduceEqDiff, reduceIte, k1_1, k2_1, k4_1, k7_1, i8_1, strEq, hB1.cell, hB2.cell] <;> rfl
              ·
                rintro k e2L hfr2 ⟨m2, rfl, hm2, hw3, i10_2⟩
                have k1_2 := hfr2 1 rfl; try simp only [EN, Nat.reduceEqDiff, reduceIte, k1_1, strEq, hB1.cell, hB2.cell] at k1_2
                have k2_2 := hfr2 2 rfl; try simp only [EN, Nat.reduceEqDiff, reduceIte, k2_1, strEq, hB1.cell, hB2.cell] at k2_2
                have k4_2 := hfr2 4 rfl; try simp only [EN, Nat.reduceEqDiff, reduceIte, k4_1, strEq, hB1.cell, hB2.cell] at k4_2
                have k7_2 := hfr2 7 rfl; try simp only [EN, Nat.reduceEqDiff, reduceIte, k7_1, strEq, hB1.cell, hB2.cell] at k7_2
                have k8_2 := hfr2 8 rfl; try simp only [EN, Nat.reduceEqDiff, reduceIte, i8_1, strEq, hB1.cell, hB2.cell] at k8_2
                have k9_2 := hfr2 9 rfl; try simp only [EN, Nat.reduceEqDiff, reduceIte, strEq, hB1.cell, hB2.cell] at k9_2
                refine hx_seq ?_
                refine hx_seq ?_
                refine hx_region ?_
                refine WL.qq (by simp only [EN, Nat.reduceEqDiff, reduceIte, qv_move, i10_2, strEq, hB1.cell, hB2.cell]; rfl) ?_
                refine WL.qq (by simp only [EN, Nat.reduceEqDiff, reduceIte, qv_move, k9_2, strEq, hB1.cell, hB2.cell]; rfl) ?_
                refine WL.qq (by simp only [EN, Nat.reduceEqDiff, reduceIte, qv_len, ln103, AR, strEq, hB1.cell, hB2.cell]; rfl) ?_
                refine WL.qq (by simp only [EN, Nat.reduceEqDiff, reduceIte, qv_binOp, binv_lss, strEq, hB1.cell, hB2.cell]; rfl) ?_
                refine WL.nil ?_
                refine th_norm ?_
                refine hx_cond (by simp only [EN, Nat.reduceEqDiff, reduceIte, strEq, hB1.cell, hB2.cell]; rfl) (fun hct121 => ?_) (fun hct121 => ?_)
                ·
                  try simp only [BD] at hct121
                  obtain ⟨y, hy⟩ := atG (l := N3) (i := m2) (by omega)
                  obtain ⟨b5, off5, hq5, hr5⟩ := hs50 m2 y hy; cases hq5
                  have hc5 := readN_cell hr5 0 _ rfl; rw [Nat.add_zero, Nat.mul_one] at hc5
                  refine hx_skip ?_
                  refine th_norm ?_
                  refine hx_seq ?_
                  refine hx_block ?_
                  refine hx_seq ?_
                  refine hx_region ?_
                  refine WL.qq (by simp only [EN, Nat.reduceEqDiff, reduceIte, qv_move, k9_2, strEq, hB1.cell, hB2.cell]; rfl) ?_
                  refine WL.qq (by simp only [EN, Nat.reduceEqDiff, reduceIte, qv_move, i10_2, strEq, hB1.cell, hB2.cell]; rfl) ?_
                  refine WL.qq (by simp only [EN, Nat.reduceEqDiff, reduceIte, qv_indexAddr, strEq, hB1.cell, hB2.cell]; (try simp (disch := omega) only [ix103, Int.toNat_natCast]); rfl) ?_
                  refine WL.qq (by simp only [EN, Nat.reduceEqDiff, reduceIte, k1_2, k2_2, k4_2, k7_2, k8_2, k9_2, i10_2, strEq, hB1.cell, hB2.cell, qv_load, ld2, Int.toNat_natCast, hc5]; rfl) ?_
                  refine WL.qq (by simp only [EN, Nat.reduceEqDiff, reduceIte, qv_binOp, binv_lss, strEq, hB1.cell, hB2.cell]; rfl) ?_
                  refine WL.qq (by simp only [EN, Nat.reduceEqDiff, reduceIte, qv_move, strEq, hB1.cell, hB2.cell]; rfl) ?_
                  refine WL.cq (gd_at (t := 129) rfl (by simp only [EN, Nat.reduceEqDiff, reduceIte, k9_2, strEq, hB1.cell, hB2.cell] <;> rfl)) (fun hg22_6 => by simp only [EN, Nat.reduceEqDiff, reduceIte, qv_move, k9_2, strEq, hB1.cell, hB2.cell, hg22_6, GR]; rfl) ?_
                  refine WL.cq (gd_at (t := 129) rfl (by simp only [EN, Nat.reduceEqDiff, reduceIte, i10_2, strEq, hB1.cell, hB2.cell] <;> rfl)) (fun hg22_7 => by simp only [EN, Nat.reduceEqDiff, reduceIte, qv_move, i10_2, strEq, hB1.cell, hB2.cell, hg22_7, GR]; rfl) ?_
                  refine WL.cq (gd_at (t := 129) rfl (by simp only [EN, Nat.reduceEqDiff, reduceIte, strEq, hB1.cell, hB2.cell] <;> rfl)) (fun hg22_8 => by have hq0 := hg22_8; (try simp only [BD] at hq0); simp only [EN, Nat.reduceEqDiff, reduceIte, qv_indexAddr, strEq, hB1.cell, hB2.cell, hg22_8, GR]; (try simp (disch := omega) only [ix103, Int.toNat_natCast]); rfl) ?_
                  refine WL.cq (gd_at (t := 129) rfl (by simp only [EN, Nat.reduceEqDiff, reduceIte, strEq, hB1.cell, hB2.cell] <;> rfl)) (fun hg22_9 => by simp only [EN, Nat.reduceEqDiff, reduceIte, k1_2, k2_2, k4_2, k7_2, k8_2, k9_2, i10_2, strEq, hB1.cell, hB2.cell, GR, hg22_9, qv_load, ld2, Int.toNat_natCast, hc5]; rfl) ?_
                  refine WL.cq (gd_at (t := 129) rfl (by simp only [EN, Nat.reduceEqDiff, reduceIte, strEq, hB1.cell, hB2.cell] <;> rfl)) (fun hg22_10 => by simp only [EN, Nat.reduceEqDiff, reduceIte, qv_binOp, binv_gtr, strEq, hB1.cell, hB2.cell, hg22_10, GR]; rfl) ?_
                  refine WL.qq (by simp only [EN, Nat.reduceEqDiff, reduceIte, qv_pick, pk_and, pk_or, GR, strEq, hB1.cell, hB2.cell]; rfl) ?_
                  refine WL.nil ?_
                  refine th_norm ?_
                  refine hx_cond (by simp only [EN, Nat.reduceEqDiff, reduceIte, strEq, hB1.cell, hB2.cell]; rfl) (fun hct135 => ?_) (fun hct135 => ?_)
                  ·
                    try simp only [BD] at hct135
                    refine hx_seq ?_
                    refine hx_region ?_
                    refine WL.qq (by simp only [EN, Nat.reduceEqDiff, reduceIte, qv_load, ld41, readN, AR, Nat.zero_add, Nat.reduceAdd, k2_2, strEq, hB1.cell, hB2.cell]; rfl) ?_
                    refine WL.store (by simp only [EN, Nat.reduceEqDiff, reduceIte, k1_2, k2_2, k4_2, k7_2, k8_2, k9_2, i10_2, strEq, hB1.cell, hB2.cell] <;> rfl) sz41 (by simp only [EN, Nat.reduceEqDiff, reduceIte, k1_2, k2_2, k4_2, k7_2, k8_2, k9_2, i10_2, strEq, hB1.cell, hB2.cell, Value.cells]; rfl) rfl hB2 (by simp) (by intro u hu; simp at hu; rcases hu with rfl | rfl <;> rfl) ?_
                    intro h25 hw25
                    have hE9 := hw25.ext hE hn2
                    have ho9 := ho7.keep (h' := h25) (fun c hc => hw25.same c fun hh => by subst hh; exact ho7.ncell hB2 (by decide) hc)
                    replace hB2 := hw25.at_
                    refine WL.qq (by simp only [EN, Nat.reduceEqDiff, reduceIte, qv_assign, strEq, hB1.cell, hB2.cell]; rfl) ?_
                    refine WL.nil ?_
                    refine th_norm ?_
                    refine hx_ret ?_
                    refine bl_ret ?_
                    refine th_ret ?_
                    refine th_ret ?_
                    refine bl_ret ?_
                    refine bl_ret ?_
                    refine th_ret ?_
                    refine th_ret ?_
                    refine bl_ret ?_
                    refine th_ret ?_
                    refine fin_ret [.cell 4 41, .tmp 5] rfl rfl (by simp only [EN, Nat.reduceEqDiff, reduceIte, resv, ld41, readN, AR, Nat.zero_add, Nat.reduceAdd, k1_2, k2_2, k4_2, k7_2, k8_2, k9_2, i10_2, strEq, hB1.cell, hB2.cell]; rfl) ?_  -- ret 5 r23
                    have hov : overR F2 x := (by have hym := List.mem_of_getElem? hy; rw [← hN3] at hym; have hyw : ¬ (wthn y = true) := (by rw [wthn_iff]; omega); simp only [List.mem_cons, List.not_mem_nil, or_false] at hym; rcases hym with rfl | rfl | rfl; (exact .inl hyw); (exact .inr (.inl hyw)); (exact .inr (.inr hyw)))
                    rw [if_pos ⟨x, List.mem_of_getElem? hx, hov⟩] at hr
                    subst hr
                    exact ⟨hE9, _, rfl, ⟨al, cl, af, cf, rfl, k1.ext hE9, k2.ext hE9⟩⟩
                  ·
                    try simp only [BD] at hct135
                    refine hx_skip ?_
                    refine bl_norm ?_
                    refine th_norm ?_
                    refine hx_region ?_
                    refine WL.qq (by simp only [EN, Nat.reduceEqDiff, reduceIte, qv_move, i10_2, strEq, hB1.cell, hB2.cell]; rfl) ?_
                    refine WL.qq (by simp only [EN, Nat.reduceEqDiff, reduceIte, qv_binOp, binv_add, strEq, hB1.cell, hB2.cell]; (try simp (disch := omega) only [w64, w8, wu64]); rfl) ?_
                    refine WL.qq (by simp only [EN, Nat.reduceEqDiff, reduceIte, qv_assign, strEq, hB1.cell, hB2.cell]; rfl) ?_
                    refine WL.nil ?_
                    refine th_norm ?_
                    refine ⟨rfl, rfl, ?_, _, ?_, m2 + 1, rfl, ?_, ?_, ?_⟩  -- again 0 of loop 2
                    · (repeat (first | exact Fr.refl _ _ | refine Fr.set rfl ?_ | refine Fr.put rfl ?_ | with_reducible refine Fr.put0 ?_))
                    · omega
                    · omega
                    · exact all_take (p := fun y => wthn y = true) hw3 hy (by rw [wthn_iff]; omega)
                    · simp only [EN, Nat.reduceEqDiff, reduceIte, k1_2, k2_2, k4_2, k7_2, k8_2, k9_2, i10_2, strEq, hB1.cell, hB2.cell] <;> first | rfl | (congr 1; omega)
                ·
                  try simp only [BD] at hct121
                  have hno3 : ¬ overR F2 x := (by have h9 := all_end (p := fun y => wthn y = true) hw3 (by omega); rw [← hN3] at h9; rintro (h8 | h8 | h8) <;> exact h8 (h9 _ (by simp)))
                  refine hx_exit ?_
                  refine th_exit ?_
                  refine th_exit ?_
                  refine bl_hit ?_
                  refine bl_norm ?_
                  refine th_norm ?_
                  refine hx_region ?_
                  refine WL.qq (by simp only [EN, Nat.reduceEqDiff, reduceIte, qv_move, k8_2, strEq, hB1.cell, hB2.cell]; rfl) ?_
                  refine WL.qq (by simp only [EN, Nat.reduceEqDiff, reduceIte, qv_binOp, binv_add, strEq, hB1.cell, hB2.cell]; (try simp (disch := omega) only [w64, w8, wu64]); rfl) ?_
                  refine WL.qq (by simp only [EN, Nat.reduceEqDiff, reduceIte, qv_assign, strEq, hB1.cell, hB2.cell]; rfl) ?_
                  refine WL.nil ?_
                  refine th_norm ?_
                  refine ⟨rfl, ?_, ?_, _, ?_, j + 1, rfl, ?_, ?_, ?_⟩  -- again 0 of loop 1
                  · exact hx5
                  · (repeat (first | exact Fr.refl _ _ | refine Fr.set rfl ?_ | refine Fr.put rfl ?_ | with_reducible refine Fr.put0 ?_ | refine Fr.trans ?_ (Fr.of hfr2 rfl)))
                  · omega
                  · omega
                  · exact all_take (p := fun y => ¬ overR F2 y) hno hx hno3
                  · simp only [EN, Nat.reduceEqDiff, reduceIte, k1_2, k2_2, k4_2, k7_2, k8_2, k9_2, i10_2, strEq, hB1.cell, hB2.cell] <;> first | rfl | (congr 1; omega)
            ·
              try simp only [BD] at hct88
              rw [if_neg (fun hh => by obtain ⟨y, hy, h8⟩ := hh; exact all_end (p := fun y => ¬ overR F2 y) hno (by omega) y hy h8)] at hr
              refine hx_exit ?_
              refine th_exit ?_
              refine th_exit ?_
              refine bl_hit ?_
              refine th_norm ?_
              refine hx_seq ?_
              refine hx_seq ?_
              refine hx_fresh (fun eF24 hfcf24 => ?_)
              have k2_f24 := hfcf24 2 rfl; try simp only [EN, Nat.reduceEqDiff, reduceIte, k2_1, strEq, hB1.cell, hB2.cell] at k2_f24
              have k4_f24 := hfcf24 4 rfl; try simp only [EN, Nat.reduceEqDiff, reduceIte, k4_1, strEq, hB1.cell, hB2.cell] at k4_f24
              have k7_f24 := hfcf24 7 rfl; try simp only [EN, Nat.reduceEqDiff, reduceIte, k7_1, strEq, hB1.cell, hB2.cell] at k7_f24
              refine hx_region ?_
              refine WL.qq (by simp only [EN, Nat.reduceEqDiff, reduceIte, qv_assign, strEq, hB1.cell, hB2.cell]; rfl) ?_
              refine WL.nil ?_
              refine th_norm ?_
              refine hx_block ?_
              refine hx_loopX [5, 11, 12, 13, 137, 138, 139, 140, 141, 142, 143, 144, 145, 146, 147, 148, 149, 150, 151, 152, 153, 154, 155, 156, 157, 158, 159, 160, 161, 162, 163, 164, 165, 166, 167, 168, 169, 170, 171, 172, 173, 174] (fun k e => ∃ (i : Nat), Ls.length - i = k ∧ (i ≤ Ls.length) ∧ (∀ y ∈ Ls.take i, ¬ (y.1.t ≠ em ∧ excd y.2 (netR F y.1.f y.1.t) (netR F2 y.1.f y.1.t) = true)) ∧ e 11 = .int .i64 i) _ ⟨0, rfl, ?_, ?_, ?_⟩ ?_
              · omega
              · simp
              · simp only [EN, Nat.reduceEqDiff, reduceIte, k2_f24, k4_f24, k7_f24, strEq, hB1.cell, hB2.cell] <;> rfl
              ·
                rintro k e3L hL3 hX3 hfr3 ⟨i, rfl, hi, hno, i11_3⟩
                replace hE := hE.ext hX3
                replace hs1 := hs1.ext hX3
                replace hs2 := hs2.ext hX3
                replace hs3 := hs3.ext hX3
                replace hB1 := hB1.ext hX3
                replace hB2 := hB2.ext hX3
                replace hB7 := hB7.ext hX3
                replace ho7 := ho7.ext hX3
                replace hs7 := hs7.ext hX3
                have k2_3 := hfr3 2 rfl; try simp only [EN, Nat.reduceEqDiff, reduceIte, k2_f24, strEq, hB1.cell, hB2.cell] at k2_3
                have k4_3 := hfr3 4 rfl; try simp only [EN, Nat.reduceEqDiff, reduceIte, k4_f24, strEq, hB1.cell, hB2.cell] at k4_3
                have k7_3 := hfr3 7 rfl; try simp only [EN, Nat.reduceEqDiff, reduceIte, k7_f24, strEq, hB1.cell, hB2.cell] at k7_3
                refine hx_seq ?_
                refine hx_seq ?_
                refine hx_region ?_
                refine WL.qq (by simp only [EN, Nat.reduceEqDiff, reduceIte, qv_move, i11_3, strEq, hB1.cell, hB2.cell, hB1.cell]; rfl) ?_
                refine WL.qq (by simp only [EN, Nat.reduceEqDiff, reduceIte, qv_fieldAddr, fa41_0, Nat.zero_add, Nat.reduceAdd, k2_3, strEq, hB1.cell, hB2.cell, hB1.cell]; rfl) ?_
                refine WL.qq (by simp only [EN, Nat.reduceEqDiff, reduceIte, qv_load, ld38, readN, AR, Nat.zero_add, Nat.reduceAdd, strEq, hB1.cell, hB2.cell, hB1.cell]; rfl) ?_
                refine WL.qq (by simp only [EN, Nat.reduceEqDiff, reduceIte, qv_len, ln38, AR, strEq, hB1.cell, hB2.cell, hB1.cell]; rfl) ?_
                refine WL.qq (by simp only [EN, Nat.reduceEqDiff, reduceIte, qv_binOp, binv_lss, strEq, hB1.cell, hB2.cell, hB1.cell]; rfl) ?_
                refine WL.nil ?_
                refine th_norm ?_
                refine hx_cond (by simp only [EN, Nat.reduceEqDiff, reduceIte, strEq, hB1.cell, hB2.cell, hB1.cell]; rfl) (fun hct141 => ?_) (fun hct141 => ?_)
                ·
                  try simp only [BD] at hct141
                  obtain ⟨x, hx⟩ := atG (l := Ls) (i := i) (by omega)
                  obtain ⟨b, off, rfl, hr3, hc0, hc1, hc2⟩ := lim_rd hs1 hx
                  refine hx_skip ?_
                  refine th_norm ?_
                  refine hx_seq ?_
                  refine hx_block ?_
                  refine hx_seq ?_
                  refine hx_region ?_
                  refine WL.qq (by simp only [EN, Nat.reduceEqDiff, reduceIte, qv_fieldAddr, fa41_0, Nat.zero_add, Nat.reduceAdd, k2_3, strEq, hB1.cell, hB2.cell, hB1.cell]; rfl) ?_
                  refine WL.qq (by simp only [EN, Nat.reduceEqDiff, reduceIte, qv_load, ld38, readN, AR, Nat.zero_add, Nat.reduceAdd, strEq, hB1.cell, hB2.cell, hB1.cell]; rfl) ?_
                  refine WL.qq (by simp only [EN, Nat.reduceEqDiff, reduceIte, qv_move, i11_3, strEq, hB1.cell, hB2.cell, hB1.cell]; rfl) ?_
                  refine WL.qq (by simp only [EN, Nat.reduceEqDiff, reduceIte, qv_indexAddr, strEq, hB1.cell, hB2.cell, hB1.cell]; (try simp (disch := omega) only [ix38, Int.toNat_natCast]); rfl) ?_
                  refine WL.qq (by simp only [EN, Nat.reduceEqDiff, reduceIte, k2_3, k4_3, k7_3, i11_3, strEq, hB1.cell, hB2.cell, hB1.cell, qv_load, ld57, Int.toNat_natCast, hr3]; rfl) ?_
                  refine WL.allocSt zr57 sz57 (fun u => by simp only [EN, Nat.reduceEqDiff, reduceIte, Value.cells, strEq, hB1.cell, hB2.cell, hB1.cell]; rfl) ⟨rfl, rfl⟩ (by simp [Value.oneCell']) ?_
                  intro h6 B6 hx6 hlt6 hB6
                  replace hE := hE.ext hx6
                  replace hs1 := hs1.ext hx6
                  replace hs2 := hs2.ext hx6
                  replace hs3 := hs3.ext hx6
                  replace hB1 := hB1.ext hx6
                  replace hB2 := hB2.ext hx6
                  replace hB7 := hB7.ext hx6
                  replace ho7 := ho7.ext hx6
                  replace hs7 := hs7.ext hx6
                  refine WL.nil ?_
                  refine th_norm ?_
                  refine hx_seq ?_
                  refine hx_region ?_
                  refine WL.qq (by simp only [EN, Nat.reduceEqDiff, reduceIte, k2_3, k4_3, k7_3, i11_3, strEq, hB1.cell, hB2.cell, hB1.cell, hB6.cell, qv_load, ld41, readN, hB7.cell, AR, Nat.zero_add, Nat.reduceAdd]; rfl) ?_
                  refine WL.qq (by simp only [EN, Nat.reduceEqDiff, reduceIte, qv_fieldAddr, fa57_0, Nat.zero_add, Nat.reduceAdd, strEq, hB1.cell, hB2.cell, hB1.cell, hB6.cell]; rfl) ?_
                  refine WL.qq (by simp only [EN, Nat.reduceEqDiff, reduceIte, qv_load, ld9, readN, AR, Nat.zero_add, Nat.reduceAdd, strEq, hB1.cell, hB2.cell, hB1.cell, hB6.cell]; rfl) ?_
                  refine WL.qq (by simp only [EN, Nat.reduceEqDiff, reduceIte, qv_fieldAddr, fa57_1, Nat.zero_add, Nat.reduceAdd, strEq, hB1.cell, hB2.cell, hB1.cell, hB6.cell]; rfl) ?_
                  refine WL.qq (by simp only [EN, Nat.reduceEqDiff, reduceIte, qv_load, ld9, readN, AR, Nat.zero_add, Nat.reduceAdd, strEq, hB1.cell, hB2.cell, hB1.cell, hB6.cell]; rfl) ?_
                  refine WL.cg Try.call50 (by simp only [EN, Nat.reduceEqDiff, reduceIte, AR, strEq, hB1.cell, hB2.cell, hB1.cell, hB6.cell]; exact c_rNet (some ⟨b, off, none⟩) Ls.length cl a32 F2 c32 x.1.f x.1.t (by omega) hs7) ?_
                  intro h7 hx7
                  replace hE := hE.ext hx7
                  replace hs1 := hs1.ext hx7
                  replace hs2 := hs2.ext hx7
                  replace hs3 := hs3.ext hx7
                  replace hB1 := hB1.ext hx7
                  replace hB2 := hB2.ext hx7
                  replace hB7 := hB7.ext hx7
                  replace ho7 := ho7.ext hx7
                  replace hs7 := hs7.ext hx7
                  replace hB6 := hB6.ext hx7
                  refine WL.qq (by simp only [EN, Nat.reduceEqDiff, reduceIte, qv_assign, strEq, hB1.cell, hB2.cell, hB1.cell, hB6.cell]; rfl) ?_
                  refine WL.nil ?_
                  refine th_norm ?_
                  refine hx_seq ?_
                  refine hx_region ?_
                  refine WL.qq (by simp only [EN, Nat.reduceEqDiff, reduceIte, qv_fieldAddr, fa57_1, Nat.zero_add, Nat.reduceAdd, strEq, hB1.cell, hB2.cell, hB1.cell, hB6.cell]; rfl) ?_
                  refine WL.qq (by simp only [EN, Nat.reduceEqDiff, reduceIte, qv_load, ld9, readN, AR, Nat.zero_add, Nat.reduceAdd, strEq, hB1.cell, hB2.cell, hB1.cell, hB6.cell]; rfl) ?_
                  refine WL.qq (by simp only [EN, Nat.reduceEqDiff, reduceIte, qv_binOp, binv_neq, eq9, Option.map_some, strEq, hB1.cell, hB2.cell, hB1.cell, hB6.cell]; rfl) ?_
                  refine WL.qq (by simp only [EN, Nat.reduceEqDiff, reduceIte, qv_move, strEq, hB1.cell, hB2.cell, hB1.cell, hB6.cell]; rfl) ?_
                  refine WL.cq (gd_at (t := 158) rfl (by simp only [EN, Nat.reduceEqDiff, reduceIte, strEq, hB1.cell, hB2.cell, hB1.cell, hB6.cell] <;> rfl)) (fun hg29_4 => by simp only [EN, Nat.reduceEqDiff, reduceIte, qv_move, strEq, hB1.cell, hB2.cell, hB1.cell, hB6.cell, hg29_4, GR]; rfl) ?_
                  refine WL.cq (gd_at (t := 158) rfl (by simp only [EN, Nat.reduceEqDiff, reduceIte, k2_3, strEq, hB1.cell, hB2.cell, hB1.cell, hB6.cell] <;> rfl)) (fun hg29_5 => by simp only [EN, Nat.reduceEqDiff, reduceIte, qv_load, ld41, readN, AR, Nat.zero_add, Nat.reduceAdd, k2_3, strEq, hB1.cell, hB2.cell, hB1.cell, hB6.cell, hg29_5, GR]; rfl) ?_
                  refine WL.cq (gd_at (t := 158) rfl (by simp only [EN, Nat.reduceEqDiff, reduceIte, strEq, hB1.cell, hB2.cell, hB1.cell, hB6.cell] <;> rfl)) (fun hg29_6 => by simp only [EN, Nat.reduceEqDiff, reduceIte, qv_fieldAddr, fa57_0, Nat.zero_add, Nat.reduceAdd, strEq, hB1.cell, hB2.cell, hB1.cell, hB6.cell, hg29_6, GR]; rfl) ?_
                  refine WL.cq (gd_at (t := 158) rfl (by simp only [EN, Nat.reduceEqDiff, reduceIte, strEq, hB1.cell, hB2.cell, hB1.cell, hB6.cell] <;> rfl)) (fun hg29_7 => by simp only [EN, Nat.reduceEqDiff, reduceIte, qv_load, ld9, readN, AR, Nat.zero_add, Nat.reduceAdd, strEq, hB1.cell, hB2.cell, hB1.cell, hB6.cell, hg29_7, GR]; rfl) ?_
                  refine WL.cq (gd_at (t := 158) rfl (by simp only [EN, Nat.reduceEqDiff, reduceIte, strEq, hB1.cell, hB2.cell, hB1.cell, hB6.cell] <;> rfl)) (fun hg29_8 => by simp only [EN, Nat.reduceEqDiff, reduceIte, qv_fieldAddr, fa57_1, Nat.zero_add, Nat.reduceAdd, strEq, hB1.cell, hB2.cell, hB1.cell, hB6.cell, hg29_8, GR]; rfl) ?_
                  refine WL.cq (gd_at (t := 158) rfl (by simp only [EN, Nat.reduceEqDiff, reduceIte, strEq, hB1.cell, hB2.cell, hB1.cell, hB6.cell] <;> rfl)) (fun hg29_9 => by simp only [EN, Nat.reduceEqDiff, reduceIte, qv_load, ld9, readN, AR, Nat.zero_add, Nat.reduceAdd, strEq, hB1.cell, hB2.cell, hB1.cell, hB6.cell, hg29_9, GR]; rfl) ?_
                  refine WL.ccg (gd_at (t := 158) rfl (by simp only [EN, Nat.reduceEqDiff, reduceIte, strEq, hB1.cell, hB2.cell, hB1.cell, hB6.cell] <;> rfl)) Try.call50 (fun hg29_10 => by simp only [EN, Nat.reduceEqDiff, reduceIte, AR, strEq, hB1.cell, hB2.cell, hB1.cell, hB6.cell, hg29_10, GR]; exact c_rNet (some ⟨b, off, none⟩) Ls.length cl af F cf x.1.f x.1.t (by omega) hs2) ?_
                  intro h8 hx8
                  replace hE := hE.ext hx8
                  replace hs1 := hs1.ext hx8
                  replace hs2 := hs2.ext hx8
                  replace hs3 := hs3.ext hx8
                  replace hB1 := hB1.ext hx8
                  replace hB2 := hB2.ext hx8
                  replace hB7 := hB7.ext hx8
                  replace ho7 := ho7.ext hx8
                  replace hs7 := hs7.ext hx8
                  replace hB6 := hB6.ext hx8
                  refine WL.cq (gd_at (t := 158) rfl (by simp only [EN, Nat.reduceEqDiff, reduceIte, strEq, hB1.cell, hB2.cell, hB1.cell, hB6.cell] <;> rfl)) (fun hg29_11 => by simp only [EN, Nat.reduceEqDiff, reduceIte, qv_binOp, binv_gtr, strEq, hB1.cell, hB2.cell, hB1.cell, hB6.cell, hg29_11, GR]; rfl) ?_
                  refine WL.qq (by simp only [EN, Nat.reduceEqDiff, reduceIte, qv_pick, pk_and, pk_or, GR, strEq, hB1.cell, hB2.cell, hB1.cell, hB6.cell]; rfl) ?_
                  refine WL.qq (by simp only [EN, Nat.reduceEqDiff, reduceIte, qv_move, strEq, hB1.cell, hB2.cell, hB1.cell, hB6.cell]; rfl) ?_
                  refine WL.cq (gd_at (t := 168) rfl (by simp only [EN, Nat.reduceEqDiff, reduceIte, strEq, hB1.cell, hB2.cell, hB1.cell, hB6.cell] <;> rfl)) (fun hg29_14 => by simp only [EN, Nat.reduceEqDiff, reduceIte, qv_move, strEq, hB1.cell, hB2.cell, hB1.cell, hB6.cell, hg29_14, GR]; rfl) ?_
                  refine WL.cq (gd_at (t := 168) rfl (by simp only [EN, Nat.reduceEqDiff, reduceIte, strEq, hB1.cell, hB2.cell, hB1.cell, hB6.cell] <;> rfl)) (fun hg29_15 => by simp only [EN, Nat.reduceEqDiff, reduceIte, qv_fieldAddr, fa57_2, Nat.zero_add, Nat.reduceAdd, strEq, hB1.cell, hB2.cell, hB1.cell, hB6.cell, hg29_15, GR]; rfl) ?_
                  refine WL.cq (gd_at (t := 168) rfl (by simp only [EN, Nat.reduceEqDiff, reduceIte, strEq, hB1.cell, hB2.cell, hB1.cell, hB6.cell] <;> rfl)) (fun hg29_16 => by simp only [EN, Nat.reduceEqDiff, reduceIte, qv_load, ld2, readN, AR, Nat.zero_add, Nat.reduceAdd, strEq, hB1.cell, hB2.cell, hB1.cell, hB6.cell, hg29_16, GR]; rfl) ?_
                  refine WL.cq (gd_at (t := 168) rfl (by simp only [EN, Nat.reduceEqDiff, reduceIte, strEq, hB1.cell, hB2.cell, hB1.cell, hB6.cell] <;> rfl)) (fun hg29_17 => by simp only [EN, Nat.reduceEqDiff, reduceIte, qv_binOp, binv_gtr, strEq, hB1.cell, hB2.cell, hB1.cell, hB6.cell, hg29_17, GR]; rfl) ?_
                  refine WL.qq (by simp only [EN, Nat.reduceEqDiff, reduceIte, qv_pick, pk_and, pk_or, GR, strEq, hB1.cell, hB2.cell, hB1.cell, hB6.cell]; rfl) ?_
                  refine WL.nil ?_
                  refine th_norm ?_
                  refine hx_cond (by simp only [EN, Nat.reduceEqDiff, reduceIte, strEq, hB1.cell, hB2.cell, hB1.cell, hB6.cell]; rfl) (fun hct173 => ?_) (fun hct173 => ?_)
                  ·
                    try simp only [BD] at hct173
                    refine hx_seq ?_
                    refine hx_region ?_
                    refine WL.qq (by simp only [EN, Nat.reduceEqDiff, reduceIte, qv_load, ld41, readN, AR, Nat.zero_add, Nat.reduceAdd, k2_3, strEq, hB1.cell, hB2.cell, hB1.cell, hB6.cell]; rfl) ?_
                    refine WL.store (by simp only [EN, Nat.reduceEqDiff, reduceIte, k2_3, k4_3, k7_3, i11_3, strEq, hB1.cell, hB2.cell, hB1.cell, hB6.cell] <;> rfl) sz41 (by simp only [EN, Nat.reduceEqDiff, reduceIte, k2_3, k4_3, k7_3, i11_3, strEq, hB1.cell, hB2.cell, hB1.cell, hB6.cell, Value.cells]; rfl) rfl hB2 (by simp) (by intro u hu; simp at hu; rcases hu with rfl | rfl <;> rfl) ?_
                    intro h26 hw26
                    have hE9 := hw26.ext hE hn2
                    have ho9 := ho7.keep (h' := h26) (fun c hc => hw26.same c fun hh => by subst hh; exact ho7.ncell hB2 (by decide) hc)
                    replace hB2 := hw26.at_
                    refine WL.qq (by simp only [EN, Nat.reduceEqDiff, reduceIte, qv_assign, strEq, hB1.cell, hB2.cell, hB1.cell, hB6.cell]; rfl) ?_
                    refine WL.nil ?_
                    refine th_norm ?_
                    refine hx_ret ?_
                    refine bl_ret ?_
                    refine th_ret ?_
                    refine th_ret ?_
                    refine bl_ret ?_
                    refine th_ret ?_
                    refine fin_ret [.cell 4 41, .tmp 5] rfl rfl (by simp only [EN, Nat.reduceEqDiff, reduceIte, resv, ld41, readN, AR, Nat.zero_add, Nat.reduceAdd, k2_3, k4_3, k7_3, i11_3, strEq, hB1.cell, hB2.cell, hB1.cell, hB6.cell]; rfl) ?_  -- ret 6 r30
                    rw [if_pos ⟨x, List.mem_of_getElem? hx, hct173.1.1, by simp only [excd, Bool.and_eq_true, decide_eq_true_eq]; exact ⟨hct173.1.2, hct173.2⟩⟩] at hr
                    subst hr
                    exact ⟨hE9, _, rfl, ⟨_, cl, af, cf, rfl, k1.ext hE9, k2.ext hE9⟩⟩
                  ·
                    try simp only [BD] at hct173
                    refine hx_skip ?_
                    refine bl_norm ?_
                    refine th_norm ?_
                    refine hx_region ?_
                    refine WL.qq (by simp only [EN, Nat.reduceEqDiff, reduceIte, qv_move, i11_3, strEq, hB1.cell, hB2.cell, hB1.cell, hB6.cell]; rfl) ?_
                    refine WL.qq (by simp only [EN, Nat.reduceEqDiff, reduceIte, qv_binOp, binv_add, strEq, hB1.cell, hB2.cell, hB1.cell, hB6.cell]; (try simp (disch := omega) only [w64, w8, wu64]); rfl) ?_
                    refine WL.qq (by simp only [EN, Nat.reduceEqDiff, reduceIte, qv_assign, strEq, hB1.cell, hB2.cell, hB1.cell, hB6.cell]; rfl) ?_
                    refine WL.nil ?_
                    refine th_norm ?_
                    refine ⟨rfl, ?_, ?_, _, ?_, i + 1, rfl, ?_, ?_, ?_⟩  -- again 0 of loop 3
                    · exact (hx6).trans ((hx7).trans (hx8))
                    · (repeat (first | exact Fr.refl _ _ | refine Fr.set rfl ?_ | refine Fr.put rfl ?_ | with_reducible refine Fr.put0 ?_))
                    · omega
                    · omega
                    · exact all_take (p := fun y : L2 => ¬ (y.1.t ≠ em ∧ excd y.2 (netR F y.1.f y.1.t) (netR F2 y.1.f y.1.t) = true)) hno hx (fun hh => by obtain ⟨h8, h9⟩ := hh; simp only [excd, Bool.and_eq_true, decide_eq_true_eq] at h9; rcases hct173 with (h7 | h7) | h7; (exact h8 h7); (exact h7 h9.1); (exact h7 h9.2))
                    · simp only [EN, Nat.reduceEqDiff, reduceIte, k2_3, k4_3, k7_3, i11_3, strEq, hB1.cell, hB2.cell, hB1.cell, hB6.cell] <;> first | rfl | (congr 1; omega)
                ·
                  try simp only [BD] at hct141
                  rw [if_neg (fun hh => by obtain ⟨y, hy, h8⟩ := hh; exact all_end (p := fun y : L2 => ¬ (y.1.t ≠ em ∧ excd y.2 (netR F y.1.f y.1.t) (netR F2 y.1.f y.1.t) = true)) hno (by omega) y hy h8)] at hr
                  refine hx_exit ?_
                  refine th_exit ?_
                  refine th_exit ?_
                  refine bl_hit ?_
                  refine th_norm ?_
                  refine hx_seq ?_
                  refine hx_seq ?_
                  refine hx_fresh (fun eF31 hfcf31 => ?_)
                  have k2_f31 := hfcf31 2 rfl; try simp only [EN, Nat.reduceEqDiff, reduceIte, k2_3, strEq, hB1.cell, hB2.cell, hB1.cell] at k2_f31
                  have k4_f31 := hfcf31 4 rfl; try simp only [EN, Nat.reduceEqDiff, reduceIte, k4_3, strEq, hB1.cell, hB2.cell, hB1.cell] at k4_f31
                  have k7_f31 := hfcf31 7 rfl; try simp only [EN, Nat.reduceEqDiff, reduceIte, k7_3, strEq, hB1.cell, hB2.cell, hB1.cell] at k7_f31
                  refine hx_region ?_
                  refine WL.qq (by simp only [EN, Nat.reduceEqDiff, reduceIte, qv_assign, strEq, hB1.cell, hB2.cell, hB1.cell]; rfl) ?_
                  refine WL.nil ?_
                  refine th_norm ?_
                  refine hx_block ?_
                  refine hx_loopX [5, 14, 15, 16, 175, 176, 177, 178, 179, 180, 181, 182, 183, 184, 185, 186, 187, 188, 189, 190, 191, 192, 193, 194, 195, 196, 197, 198, 199, 200, 201, 202, 203, 204, 205, 206, 207, 208] (fun k e => ∃ (i : Nat), Ls.length - i = k ∧ (i ≤ Ls.length) ∧ (∀ y ∈ Ls.take i, ¬ (y.1.t = em ∧ excd y.2 (outR F y.1.f) (outR F2 y.1.f) = true)) ∧ e 14 = .int .i64 i) _ ⟨0, rfl, ?_, ?_, ?_⟩ ?_
                  · omega
                  · simp
                  · simp only [EN, Nat.reduceEqDiff, reduceIte, k2_f31, k4_f31, k7_f31, strEq, hB1.cell, hB2.cell, hB1.cell] <;> rfl
                  ·
                    rintro k e4L hL4 hX4 hfr4 ⟨i, rfl, hi, hno, i14_4⟩
                    replace hE := hE.ext hX4
                    replace hs1 := hs1.ext hX4
                    replace hs2 := hs2.ext hX4
                    replace hs3 := hs3.ext hX4
                    replace hB1 := hB1.ext hX4
                    replace hB2 := hB2.ext hX4
                    replace hB7 := hB7.ext hX4
                    replace ho7 := ho7.ext hX4
                    replace hs7 := hs7.ext hX4
                    have k2_4 := hfr4 2 rfl; try simp only [EN, Nat.reduceEqDiff, reduceIte, k2_f31, strEq, hB1.cell, hB2.cell, hB1.cell] at k2_4
                    have k4_4 := hfr4 4 rfl; try simp only [EN, Nat.reduceEqDiff, reduceIte, k4_f31, strEq, hB1.cell, hB2.cell, hB1.cell] at k4_4
                    have k7_4 := hfr4 7 rfl; try simp only [EN, Nat.reduceEqDiff, reduceIte, k7_f31, strEq, hB1.cell, hB2.cell, hB1.cell] at k7_4
                    refine hx_seq ?_
                    refine hx_seq ?_
                    refine hx_region ?_
                    refine WL.qq (by simp only [EN, Nat.reduceEqDiff, reduceIte, qv_move, i14_4, strEq, hB1.cell, hB2.cell, hB1.cell, hB1.cell]; rfl) ?_
                    refine WL.qq (by simp only [EN, Nat.reduceEqDiff, reduceIte, qv_fieldAddr, fa41_0, Nat.zero_add, Nat.reduceAdd, k2_4, strEq, hB1.cell, hB2.cell, hB1.cell, hB1.cell]; rfl) ?_
                    refine WL.qq (by simp only [EN, Nat.reduceEqDiff, reduceIte, qv_load, ld38, readN, AR, Nat.zero_add, Nat.reduceAdd, strEq, hB1.cell, hB2.cell, hB1.cell, hB1.cell]; rfl) ?_
                    refine WL.qq (by simp only [EN, Nat.reduceEqDiff, reduceIte, qv_len, ln38, AR, strEq, hB1.cell, hB2.cell, hB1.cell, hB1.cell]; rfl) ?_
                    refine WL.qq (by simp only [EN, Nat.reduceEqDiff, reduceIte, qv_binOp, binv_lss, strEq, hB1.cell, hB2.cell, hB1.cell, hB1.cell]; rfl) ?_
                    refine WL.nil ?_
                    refine th_norm ?_
                    refine hx_cond (by simp only [EN, Nat.reduceEqDiff, reduceIte, strEq, hB1.cell, hB2.cell, hB1.cell, hB1.cell]; rfl) (fun hct179 => ?_) (fun hct179 => ?_)
                    ·
                      try simp only [BD] at hct179
                      obtain ⟨x, hx⟩ := atG (l := Ls) (i := i) (by omega)
                      obtain ⟨b, off, rfl, hr3, hc0, hc1, hc2⟩ := lim_rd hs1 hx
                      refine hx_skip ?_
                      refine th_norm ?_
                      refine hx_seq ?_
                      refine hx_block ?_
                      refine hx_seq ?_
                      refine hx_region ?_
                      refine WL.qq (by simp only [EN, Nat.reduceEqDiff, reduceIte, qv_fieldAddr, fa41_0, Nat.zero_add, Nat.reduceAdd, k2_4, strEq, hB1.cell, hB2.cell, hB1.cell, hB1.cell]; rfl) ?_
                      refine WL.qq (by simp only [EN, Nat.reduceEqDiff, reduceIte, qv_load, ld38, readN, AR, Nat.zero_add, Nat.reduceAdd, strEq, hB1.cell, hB2.cell, hB1.cell, hB1.cell]; rfl) ?_
                      refine WL.qq (by simp only [EN, Nat.reduceEqDiff, reduceIte, qv_move, i14_4, strEq, hB1.cell, hB2.cell, hB1.cell, hB1.cell]; rfl) ?_
                      refine WL.qq (by simp only [EN, Nat.reduceEqDiff, reduceIte, qv_indexAddr, strEq, hB1.cell, hB2.cell, hB1.cell, hB1.cell]; (try simp (disch := omega) only [ix38, Int.toNat_natCast]); rfl) ?_
                      refine WL.qq (by simp only [EN, Nat.reduceEqDiff, reduceIte, k2_4, k4_4, k7_4, i14_4, strEq, hB1.cell, hB2.cell, hB1.cell, hB1.cell, qv_load, ld57, Int.toNat_natCast, hr3]; rfl) ?_
                      refine WL.allocSt zr57 sz57 (fun u => by simp only [EN, Nat.reduceEqDiff, reduceIte, Value.cells, strEq, hB1.cell, hB2.cell, hB1.cell, hB1.cell]; rfl) ⟨rfl, rfl⟩ (by simp [Value.oneCell']) ?_
                      intro h9 B9 hx9 hlt9 hB9
                      replace hE := hE.ext hx9
                      replace hs1 := hs1.ext hx9
                      replace hs2 := hs2.ext hx9
                      replace hs3 := hs3.ext hx9
                      replace hB1 := hB1.ext hx9
                      replace hB2 := hB2.ext hx9
                      replace hB7 := hB7.ext hx9
                      replace ho7 := ho7.ext hx9
                      replace hs7 := hs7.ext hx9
                      refine WL.nil ?_
                      refine th_norm ?_
                      refine hx_seq ?_
                      refine hx_region ?_
                      refine WL.qq (by simp only [EN, Nat.reduceEqDiff, reduceIte, k2_4, k4_4, k7_4, i14_4, strEq, hB1.cell, hB2.cell, hB1.cell, hB1.cell, hB9.cell, qv_load, ld41, readN, hB7.cell, AR, Nat.zero_add, Nat.reduceAdd]; rfl) ?_
                      refine WL.qq (by simp only [EN, Nat.reduceEqDiff, reduceIte, qv_fieldAddr, fa57_0, Nat.zero_add, Nat.reduceAdd, strEq, hB1.cell, hB2.cell, hB1.cell, hB1.cell, hB9.cell]; rfl) ?_
                      refine WL.qq (by simp only [EN, Nat.reduceEqDiff, reduceIte, qv_load, ld9, readN, AR, Nat.zero_add, Nat.reduceAdd, strEq, hB1.cell, hB2.cell, hB1.cell, hB1.cell, hB9.cell]; rfl) ?_
                      refine WL.cg Try.call49 (by simp only [EN, Nat.reduceEqDiff, reduceIte, AR, strEq, hB1.cell, hB2.cell, hB1.cell, hB1.cell, hB9.cell]; exact c_rOut (some ⟨b, off, none⟩) Ls.length cl a32 F2 c32 x.1.f (by omega) hs7) ?_
                      intro h10 hx10
                      replace hE := hE.ext hx10
                      replace hs1 := hs1.ext hx10
                      replace hs2 := hs2.ext hx10
                      replace hs3 := hs3.ext hx10
                      replace hB1 := hB1.ext hx10
                      replace hB2 := hB2.ext hx10
                      replace hB7 := hB7.ext hx10
                      replace ho7 := ho7.ext hx10
                      replace hs7 := hs7.ext hx10
                      replace hB9 := hB9.ext hx10
                      refine WL.qq (by simp only [EN, Nat.reduceEqDiff, reduceIte, qv_assign, strEq, hB1.cell, hB2.cell, hB1.cell, hB1.cell, hB9.cell]; rfl) ?_
                      refine WL.nil ?_
                      refine th_norm ?_
                      refine hx_seq ?_
                      refine hx_region ?_
                      refine WL.qq (by simp only [EN, Nat.reduceEqDiff, reduceIte, qv_fieldAddr, fa57_1, Nat.zero_add, Nat.reduceAdd, strEq, hB1.cell, hB2.cell, hB1.cell, hB1.cell, hB9.cell]; rfl) ?_
                      refine WL.qq (by simp only [EN, Nat.reduceEqDiff, reduceIte, qv_load, ld9, readN, AR, Nat.zero_add, Nat.reduceAdd, strEq, hB1.cell, hB2.cell, hB1.cell, hB1.cell, hB9.cell]; rfl) ?_
                      refine WL.qq (by simp only [EN, Nat.reduceEqDiff, reduceIte, qv_binOp, binv_eql, eq9, Option.map_some, strEq, hB1.cell, hB2.cell, hB1.cell, hB1.cell, hB9.cell]; rfl) ?_
                      refine WL.qq (by simp only [EN, Nat.reduceEqDiff, reduceIte, qv_move, strEq, hB1.cell, hB2.cell, hB1.cell, hB1.cell, hB9.cell]; rfl) ?_
                      refine WL.cq (gd_at (t := 194) rfl (by simp only [EN, Nat.reduceEqDiff, reduceIte, strEq, hB1.cell, hB2.cell, hB1.cell, hB1.cell, hB9.cell] <;> rfl)) (fun hg36_4 => by simp only [EN, Nat.reduceEqDiff, reduceIte, qv_move, strEq, hB1.cell, hB2.cell, hB1.cell, hB1.cell, hB9.cell, hg36_4, GR]; rfl) ?_
                      refine WL.cq (gd_at (t := 194) rfl (by simp only [EN, Nat.reduceEqDiff, reduceIte, k2_4, strEq, hB1.cell, hB2.cell, hB1.cell, hB1.cell, hB9.cell] <;> rfl)) (fun hg36_5 => by simp only [EN, Nat.reduceEqDiff, reduceIte, qv_load, ld41, readN, AR, Nat.zero_add, Nat.reduceAdd, k2_4, strEq, hB1.cell, hB2.cell, hB1.cell, hB1.cell, hB9.cell, hg36_5, GR]; rfl) ?_
                      refine WL.cq (gd_at (t := 194) rfl (by simp only [EN, Nat.reduceEqDiff, reduceIte, strEq, hB1.cell, hB2.cell, hB1.cell, hB1.cell, hB9.cell] <;> rfl)) (fun hg36_6 => by simp only [EN, Nat.reduceEqDiff, reduceIte, qv_fieldAddr, fa57_0, Nat.zero_add, Nat.reduceAdd, strEq, hB1.cell, hB2.cell, hB1.cell, hB1.cell, hB9.cell, hg36_6, GR]; rfl) ?_
                      refine WL.cq (gd_at (t := 194) rfl (by simp only [EN, Nat.reduceEqDiff, reduceIte, strEq, hB1.cell, hB2.cell, hB1.cell, hB1.cell, hB9.cell] <;> rfl)) (fun hg36_7 => by simp only [EN, Nat.reduceEqDiff, reduceIte, qv_load, ld9, readN, AR, Nat.zero_add, Nat.reduceAdd, strEq, hB1.cell, hB2.cell, hB1.cell, hB1.cell, hB9.cell, hg36_7, GR]; rfl) ?_
                      refine WL.ccg (gd_at (t := 194) rfl (by simp only [EN, Nat.reduceEqDiff, reduceIte, strEq, hB1.cell, hB2.cell, hB1.cell, hB1.cell, hB9.cell] <;> rfl)) Try.call49 (fun hg36_8 => by simp only [EN, Nat.reduceEqDiff, reduceIte, AR, strEq, hB1.cell, hB2.cell, hB1.cell, hB1.cell, hB9.cell, hg36_8, GR]; exact c_rOut (some ⟨b, off, none⟩) Ls.length cl af F cf x.1.f (by omega) hs2) ?_
                      intro h11 hx11
                      replace hE := hE.ext hx11
                      replace hs1 := hs1.ext hx11
                      replace hs2 := hs2.ext hx11
                      replace hs3 := hs3.ext hx11
                      replace hB1 := hB1.ext hx11
                      replace hB2 := hB2.ext hx11
                      replace hB7 := hB7.ext hx11
                      replace ho7 := ho7.ext hx11
                      replace hs7 := hs7.ext hx11
                      replace hB9 := hB9.ext hx11
                      refine WL.cq (gd_at (t := 194) rfl (by simp only [EN, Nat.reduceEqDiff, reduceIte, strEq, hB1.cell, hB2.cell, hB1.cell, hB1.cell, hB9.cell] <;> rfl)) (fun hg36_9 => by simp only [EN, Nat.reduceEqDiff, reduceIte, qv_binOp, binv_gtr, strEq, hB1.cell, hB2.cell, hB1.cell, hB1.cell, hB9.cell, hg36_9, GR]; rfl) ?_
                      refine WL.qq (by simp only [EN, Nat.reduceEqDiff, reduceIte, qv_pick, pk_and, pk_or, GR, strEq, hB1.cell, hB2.cell, hB1.cell, hB1.cell, hB9.cell]; rfl) ?_
                      refine WL.qq (by simp only [EN, Nat.reduceEqDiff, reduceIte, qv_move, strEq, hB1.cell, hB2.cell, hB1.cell, hB1.cell, hB9.cell]; rfl) ?_
                      refine WL.cq (gd_at (t := 202) rfl (by simp only [EN, Nat.reduceEqDiff, reduceIte, strEq, hB1.cell, hB2.cell, hB1.cell, hB1.cell, hB9.cell] <;> rfl)) (fun hg36_12 => by simp only [EN, Nat.reduceEqDiff, reduceIte, qv_move, strEq, hB1.cell, hB2.cell, hB1.cell, hB1.cell, hB9.cell, hg36_12, GR]; rfl) ?_
                      refine WL.cq (gd_at (t := 202) rfl (by simp only [EN, Nat.reduceEqDiff, reduceIte, strEq, hB1.cell, hB2.cell, hB1.cell, hB1.cell, hB9.cell] <;> rfl)) (fun hg36_13 => by simp only [EN, Nat.reduceEqDiff, reduceIte, qv_fieldAddr, fa57_2, Nat.zero_add, Nat.reduceAdd, strEq, hB1.cell, hB2.cell, hB1.cell, hB1.cell, hB9.cell, hg36_13, GR]; rfl) ?_
                      refine WL.cq (gd_at (t := 202) rfl (by simp only [EN, Nat.reduceEqDiff, reduceIte, strEq, hB1.cell, hB2.cell, hB1.cell, hB1.cell, hB9.cell] <;> rfl)) (fun hg36_14 => by simp only [EN, Nat.reduceEqDiff, reduceIte, qv_load, ld2, readN, AR, Nat.zero_add, Nat.reduceAdd, strEq, hB1.cell, hB2.cell, hB1.cell, hB1.cell, hB9.cell, hg36_14, GR]; rfl) ?_
                      refine WL.cq (gd_at (t := 202) rfl (by simp only [EN, Nat.reduceEqDiff, reduceIte, strEq, hB1.cell, hB2.cell, hB1.cell, hB1.cell, hB9.cell] <;> rfl)) (fun hg36_15 => by simp only [EN, Nat.reduceEqDiff, reduceIte, qv_binOp, binv_gtr, strEq, hB1.cell, hB2.cell, hB1.cell, hB1.cell, hB9.cell, hg36_15, GR]; rfl) ?_
                      refine WL.qq (by simp only [EN, Nat.reduceEqDiff, reduceIte, qv_pick, pk_and, pk_or, GR, strEq, hB1.cell, hB2.cell, hB1.cell, hB1.cell, hB9.cell]; rfl) ?_
                      refine WL.nil ?_
                      refine th_norm ?_
                      refine hx_cond (by simp only [EN, Nat.reduceEqDiff, reduceIte, strEq, hB1.cell, hB2.cell, hB1.cell, hB1.cell, hB9.cell]; rfl) (fun hct207 => ?_) (fun hct207 => ?_)
                      ·
                        try simp only [BD] at hct207
                        refine hx_seq ?_
                        refine hx_region ?_
                        refine WL.qq (by simp only [EN, Nat.reduceEqDiff, reduceIte, qv_load, ld41, readN, AR, Nat.zero_add, Nat.reduceAdd, k2_4, strEq, hB1.cell, hB2.cell, hB1.cell, hB1.cell, hB9.cell]; rfl) ?_
                        refine WL.store (by simp only [EN, Nat.reduceEqDiff, reduceIte, k2_4, k4_4, k7_4, i14_4, strEq, hB1.cell, hB2.cell, hB1.cell, hB1.cell, hB9.cell] <;> rfl) sz41 (by simp only [EN, Nat.reduceEqDiff, reduceIte, k2_4, k4_4, k7_4, i14_4, strEq, hB1.cell, hB2.cell, hB1.cell, hB1.cell, hB9.cell, Value.cells]; rfl) rfl hB2 (by simp) (by intro u hu; simp at hu; rcases hu with rfl | rfl <;> rfl) ?_
                        intro h27 hw27
                        have hE9 := hw27.ext hE hn2
                        have ho9 := ho7.keep (h' := h27) (fun c hc => hw27.same c fun hh => by subst hh; exact ho7.ncell hB2 (by decide) hc)
                        replace hB2 := hw27.at_
                        refine WL.qq (by simp only [EN, Nat.reduceEqDiff, reduceIte, qv_assign, strEq, hB1.cell, hB2.cell, hB1.cell, hB1.cell, hB9.cell]; rfl) ?_
                        refine WL.nil ?_
                        refine th_norm ?_
                        refine hx_ret ?_
                        refine bl_ret ?_
                        refine th_ret ?_
                        refine th_ret ?_
                        refine bl_ret ?_
                        refine th_ret ?_
                        refine fin_ret [.cell 4 41, .tmp 5] rfl rfl (by simp only [EN, Nat.reduceEqDiff, reduceIte, resv, ld41, readN, AR, Nat.zero_add, Nat.reduceAdd, k2_4, k4_4, k7_4, i14_4, strEq, hB1.cell, hB2.cell, hB1.cell, hB1.cell, hB9.cell]; rfl) ?_  -- ret 7 r37
                        rw [if_pos ⟨x, List.mem_of_getElem? hx, hct207.1.1, by simp only [excd, Bool.and_eq_true, decide_eq_true_eq]; exact ⟨hct207.1.2, hct207.2⟩⟩] at hr
                        subst hr
                        exact ⟨hE9, _, rfl, ⟨_, cl, af, cf, rfl, k1.ext hE9, k2.ext hE9⟩⟩
                      ·
                        try simp only [BD] at hct207
                        refine hx_skip ?_
                        refine bl_norm ?_
                        refine th_norm ?_
                        refine hx_region ?_
                        refine WL.qq (by simp only [EN, Nat.reduceEqDiff, reduceIte, qv_move, i14_4, strEq, hB1.cell, hB2.cell, hB1.cell, hB1.cell, hB9.cell]; rfl) ?_
                        refine WL.qq (by simp only [EN, Nat.reduceEqDiff, reduceIte, qv_binOp, binv_add, strEq, hB1.cell, hB2.cell, hB1.cell, hB1.cell, hB9.cell]; (try simp (disch := omega) only [w64, w8, wu64]); rfl) ?_
                        refine WL.qq (by simp only [EN, Nat.reduceEqDiff, reduceIte, qv_assign, strEq, hB1.cell, hB2.cell, hB1.cell, hB1.cell, hB9.cell]; rfl) ?_
                        refine WL.nil ?_
                        refine th_norm ?_
                        refine ⟨rfl, ?_, ?_, _, ?_, i + 1, rfl, ?_, ?_, ?_⟩  -- again 0 of loop 4
                        · exact (hx9).trans ((hx10).trans (hx11))
                        · (repeat (first | exact Fr.refl _ _ | refine Fr.set rfl ?_ | refine Fr.put rfl ?_ | with_reducible refine Fr.put0 ?_))
                        · omega
                        · omega
                        · exact all_take (p := fun y : L2 => ¬ (y.1.t = em ∧ excd y.2 (outR F y.1.f) (outR F2 y.1.f) = true)) hno hx (fun hh => by obtain ⟨h8, h9⟩ := hh; simp only [excd, Bool.and_eq_true, decide_eq_true_eq] at h9; rcases hct207 with (h7 | h7) | h7; (exact h7 h8); (exact h7 h9.1); (exact h7 h9.2))
                        · simp only [EN, Nat.reduceEqDiff, reduceIte, k2_4, k4_4, k7_4, i14_4, strEq, hB1.cell, hB2.cell, hB1.cell, hB1.cell, hB9.cell] <;> first | rfl | (congr 1; omega)
                    ·
                      try simp only [BD] at hct179
                      rw [if_neg (fun hh => by obtain ⟨y, hy, h8⟩ := hh; exact all_end (p := fun y : L2 => ¬ (y.1.t = em ∧ excd y.2 (outR F y.1.f) (outR F2 y.1.f) = true)) hno (by omega) y hy h8)] at hr
                      refine hx_exit ?_
                      refine th_exit ?_
                      refine th_exit ?_
                      refine bl_hit ?_
                      refine th_norm ?_
                      refine hx_seq ?_
                      refine hx_region ?_
                      refine WL.qq (by simp only [EN, Nat.reduceEqDiff, reduceIte, k2_4, k4_4, k7_4, i14_4, strEq, hB1.cell, hB2.cell, hB1.cell, hB1.cell, qv_load, ld41, readN, hB7.cell, AR, Nat.zero_add, Nat.reduceAdd]; rfl) ?_
                      refine WL.store (by simp only [EN, Nat.reduceEqDiff, reduceIte, k2_4, k4_4, k7_4, i14_4, strEq, hB1.cell, hB2.cell, hB1.cell, hB1.cell] <;> rfl) sz41 (by simp only [EN, Nat.reduceEqDiff, reduceIte, k2_4, k4_4, k7_4, i14_4, strEq, hB1.cell, hB2.cell, hB1.cell, hB1.cell, Value.cells]; rfl) rfl hB2 (by simp) (by intro u hu; simp at hu; rcases hu with rfl | rfl <;> rfl) ?_
                      intro h28 hw28
                      have hE9 := hw28.ext hE hn2
                      have ho9 := ho7.keep (h' := h28) (fun c hc => hw28.same c fun hh => by subst hh; exact ho7.ncell hB2 (by decide) hc)
                      replace hB2 := hw28.at_
                      refine WL.qq (by simp only [EN, Nat.reduceEqDiff, reduceIte, qv_assign, strEq, hB1.cell, hB2.cell, hB1.cell, hB1.cell]; rfl) ?_
                      refine WL.nil ?_
                      refine th_norm ?_
                      refine hx_ret ?_
                      refine fin_ret [.cell 4 41, .tmp 5] rfl rfl (by simp only [EN, Nat.reduceEqDiff, reduceIte, resv, ld41, readN, AR, Nat.zero_add, Nat.reduceAdd, k2_4, k4_4, k7_4, i14_4, strEq, hB1.cell, hB2.cell, hB1.cell, hB1.cell]; rfl) ?_  -- ret 8 r38
                      subst hr
                      exact ⟨hE9, _, rfl, ⟨al, cl, a32, c32, rfl, k1.ext hE9, slG_own (f := limL) (sz := 3) (fun _ => rfl) ho9 rfl⟩⟩
end GL


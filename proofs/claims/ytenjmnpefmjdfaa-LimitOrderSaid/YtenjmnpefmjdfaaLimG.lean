/- Limits: the reference's reading functions. -/
import Derived.Test.YtenjmnpefmjdfaaLimF
set_option linter.unusedSimpArgs false
set_option linter.unusedVariables false
set_option linter.unnecessarySimpa false
namespace GL
open Go Go.Proofs
set_option maxRecDepth 8000
abbrev rfV (al : Option Addr) (n cl : Nat) (af : Option Addr) (m cf : Nat) : Value := .agg #[.slice al n cl, .slice af m cf]
def netV (a b : ByteArray) (x : L2) : Int := (if x.1.f = a ∧ x.1.t = b then x.2 else 0) - (if x.1.f = b ∧ x.1.t = a then x.2 else 0)
def netR (F : List L2) (a b : ByteArray) : Int := if a = b then 0 else IntKind.i64.wrap (sumF (netV a b) F)
def outU (a : ByteArray) (x : L2) : Int := (if x.1.f = a then x.2 else 0) - (if x.1.t = a then x.2 else 0)
def outR (F : List L2) (a : ByteArray) : Int := IntKind.i64.wrap (sumF (outU a) F)
section
variable {h h' : Heap}
theorem c_rNet (al : Option Addr) (n cl : Nat) (af : Option Addr) (F : List L2) (cf : Nat) (a b : ByteArray) (hlen : F.length ≤ 1000000) (hs : SlG 3 limL h af F) :
    HCalls Try.prog 50 #[rfV al n cl af F.length cf, .string a, .string b] h (Grow (iV (netR F a b)) h) := by
  refine hcalls2 Try.func50 rfl (by decide +kernel) (by simp only [Try.ntmps50]; exact of_decide_eq_true rfl) ?_
  intro e hin
  have e0 := hin 0 _ rfl
  have e1 := hin 1 _ rfl
  have e2 := hin 2 _ rfl
  refine hx_seq ?_
  refine hx_region ?_
  refine WL.box2 (by simp only [EN, Nat.reduceEqDiff, reduceIte, Value.cells, e0, strEq]; rfl) ?_
  intro h1 B1 hx1 hlt1 hB1
  replace hs := hs.ext hx1
  refine WL.qq (by simp only [EN, Nat.reduceEqDiff, reduceIte, qv_assign, strEq, hB1.cell]; rfl) ?_
  refine WL.nil ?_
  refine th_norm ?_
  refine hx_seq ?_
  refine hx_region ?_
  refine WL.qq (by simp only [EN, Nat.reduceEqDiff, reduceIte, qv_assign, strEq, hB1.cell]; rfl) ?_
  refine WL.nil ?_
  refine th_norm ?_
  refine hx_seq ?_
  refine hx_seq ?_
  refine hx_region ?_
  refine WL.qq (by simp only [EN, Nat.reduceEqDiff, reduceIte, qv_assign, strEq, hB1.cell]; rfl) ?_
  refine WL.nil ?_
  refine th_norm ?_
  refine hx_block ?_
  refine hx_loopX [7, 8, 9, 10, 11, 12, 13, 14, 15, 16, 17, 18, 19, 20, 21, 22, 23, 24, 25, 26, 27, 28, 29, 30, 31, 32, 33, 34, 35, 36, 37, 38, 39, 40, 41, 42, 43, 44, 45, 46, 47, 48, 49] (fun k e => ∃ (i : Nat), F.length - i = k ∧ (i ≤ F.length) ∧ e 8 = .int .i64 i ∧ e 7 = iV (IntKind.i64.wrap (sumF (netV a b) (F.take i)))) _ ⟨0, rfl, ?_, ?_, ?_⟩ ?_
  · omega
  · simp only [EN, Nat.reduceEqDiff, reduceIte, e0, e1, e2, strEq, hB1.cell] <;> rfl
  · simp only [EN, Nat.reduceEqDiff, reduceIte, e0, e1, e2, strEq, hB1.cell] <;> rfl
  ·
    rintro k e0L hL0 hX0 hfr0 ⟨i, rfl, hi, i8_0, i7_0⟩
    replace hs := hs.ext hX0
    replace hB1 := hB1.ext hX0
    have k1_0 := hfr0 1 rfl; try simp only [EN, Nat.reduceEqDiff, reduceIte, e1, strEq, hB1.cell] at k1_0
    have k2_0 := hfr0 2 rfl; try simp only [EN, Nat.reduceEqDiff, reduceIte, e2, strEq, hB1.cell] at k2_0
    have k3_0 := hfr0 3 rfl; try simp only [EN, Nat.reduceEqDiff, reduceIte, strEq, hB1.cell] at k3_0
    refine hx_seq ?_
    refine hx_seq ?_
    refine hx_region ?_
    refine WL.qq (by simp only [EN, Nat.reduceEqDiff, reduceIte, qv_move, i8_0, strEq, hB1.cell]; rfl) ?_
    refine WL.qq (by simp only [EN, Nat.reduceEqDiff, reduceIte, qv_fieldAddr, fa41_1, Nat.zero_add, Nat.reduceAdd, k3_0, strEq, hB1.cell]; rfl) ?_
    refine WL.qq (by simp only [EN, Nat.reduceEqDiff, reduceIte, qv_load, ld39, readN, AR, Nat.zero_add, Nat.reduceAdd, strEq, hB1.cell]; rfl) ?_
    refine WL.qq (by simp only [EN, Nat.reduceEqDiff, reduceIte, qv_len, ln39, AR, strEq, hB1.cell]; rfl) ?_
    refine WL.qq (by simp only [EN, Nat.reduceEqDiff, reduceIte, qv_binOp, binv_lss, strEq, hB1.cell]; rfl) ?_
    refine WL.nil ?_
    refine th_norm ?_
    refine hx_cond (by simp only [EN, Nat.reduceEqDiff, reduceIte, strEq, hB1.cell]; rfl) (fun hct14 => ?_) (fun hct14 => ?_)
    ·
      try simp only [BD] at hct14
      obtain ⟨x, hx⟩ := atG (l := F) (i := i) (by omega)
      obtain ⟨bb, off, rfl, hr3, hc0, hc1, hc2⟩ := lim_rd hs hx
      refine hx_skip ?_
      refine th_norm ?_
      refine hx_seq ?_
      refine hx_block ?_
      refine hx_seq ?_
      refine hx_region ?_
      refine WL.qq (by simp only [EN, Nat.reduceEqDiff, reduceIte, qv_fieldAddr, fa41_1, Nat.zero_add, Nat.reduceAdd, k3_0, strEq, hB1.cell]; rfl) ?_
      refine WL.qq (by simp only [EN, Nat.reduceEqDiff, reduceIte, qv_load, ld39, readN, AR, Nat.zero_add, Nat.reduceAdd, strEq, hB1.cell]; rfl) ?_
      refine WL.qq (by simp only [EN, Nat.reduceEqDiff, reduceIte, qv_move, i8_0, strEq, hB1.cell]; rfl) ?_
      refine WL.qq (by simp only [EN, Nat.reduceEqDiff, reduceIte, qv_indexAddr, strEq, hB1.cell]; (try simp (disch := omega) only [ix39, Int.toNat_natCast]); rfl) ?_
      refine WL.qq (by simp only [EN, Nat.reduceEqDiff, reduceIte, k1_0, k2_0, k3_0, i8_0, i7_0, strEq, hB1.cell, qv_load, ld47, Int.toNat_natCast, hr3]; rfl) ?_
      refine WL.allocSt zr47 sz47 (fun u => by simp only [EN, Nat.reduceEqDiff, reduceIte, Value.cells, strEq, hB1.cell]; rfl) ⟨rfl, rfl⟩ (by simp [Value.oneCell']) ?_
      intro h2 B2 hx2 hlt2 hB2
      replace hs := hs.ext hx2
      replace hB1 := hB1.ext hx2
      refine WL.nil ?_
      refine th_norm ?_
      refine hx_cutS [7, 22, 23, 24, 25, 26, 27, 28, 29, 30, 31, 32, 33, 34, 35] (fun e => e 7 = iV (IntKind.i64.wrap (sumF (netV a b) (F.take i) + (if x.1.f = a ∧ x.1.t = b then x.2 else 0)))) ?_ ?_
      ·
        refine hx_seq ?_
        refine hx_region ?_
        refine WL.qq (by simp only [EN, Nat.reduceEqDiff, reduceIte, qv_fieldAddr, fa47_0, Nat.zero_add, Nat.reduceAdd, strEq, hB1.cell, hB2.cell]; rfl) ?_
        refine WL.qq (by simp only [EN, Nat.reduceEqDiff, reduceIte, qv_load, ld9, readN, AR, Nat.zero_add, Nat.reduceAdd, strEq, hB1.cell, hB2.cell]; rfl) ?_
        refine WL.qq (by simp only [EN, Nat.reduceEqDiff, reduceIte, qv_move, k1_0, strEq, hB1.cell, hB2.cell]; rfl) ?_
        refine WL.qq (by simp only [EN, Nat.reduceEqDiff, reduceIte, qv_binOp, binv_eql, eq9, Option.map_some, strEq, hB1.cell, hB2.cell]; rfl) ?_
        refine WL.qq (by simp only [EN, Nat.reduceEqDiff, reduceIte, qv_move, strEq, hB1.cell, hB2.cell]; rfl) ?_
        refine WL.cq (gd_at (t := 26) rfl (by simp only [EN, Nat.reduceEqDiff, reduceIte, strEq, hB1.cell, hB2.cell] <;> rfl)) (fun hg6_5 => by simp only [EN, Nat.reduceEqDiff, reduceIte, qv_fieldAddr, fa47_1, Nat.zero_add, Nat.reduceAdd, strEq, hB1.cell, hB2.cell, hg6_5, GR]; rfl) ?_
        refine WL.cq (gd_at (t := 26) rfl (by simp only [EN, Nat.reduceEqDiff, reduceIte, strEq, hB1.cell, hB2.cell] <;> rfl)) (fun hg6_6 => by simp only [EN, Nat.reduceEqDiff, reduceIte, qv_load, ld9, readN, AR, Nat.zero_add, Nat.reduceAdd, strEq, hB1.cell, hB2.cell, hg6_6, GR]; rfl) ?_
        refine WL.cq (gd_at (t := 26) rfl (by simp only [EN, Nat.reduceEqDiff, reduceIte, k2_0, strEq, hB1.cell, hB2.cell] <;> rfl)) (fun hg6_7 => by simp only [EN, Nat.reduceEqDiff, reduceIte, qv_move, k2_0, strEq, hB1.cell, hB2.cell, hg6_7, GR]; rfl) ?_
        refine WL.cq (gd_at (t := 26) rfl (by simp only [EN, Nat.reduceEqDiff, reduceIte, strEq, hB1.cell, hB2.cell] <;> rfl)) (fun hg6_8 => by simp only [EN, Nat.reduceEqDiff, reduceIte, qv_binOp, binv_eql, eq9, Option.map_some, strEq, hB1.cell, hB2.cell, hg6_8, GR]; rfl) ?_
        refine WL.qq (by simp only [EN, Nat.reduceEqDiff, reduceIte, qv_pick, pk_and, pk_or, GR, strEq, hB1.cell, hB2.cell]; rfl) ?_
        refine WL.nil ?_
        refine th_norm ?_
        refine hx_cond (by simp only [EN, Nat.reduceEqDiff, reduceIte, strEq, hB1.cell, hB2.cell]; rfl) (fun hct31 => ?_) (fun hct31 => ?_)
        ·
          try simp only [BD] at hct31
          refine hx_region ?_
          refine WL.qq (by simp only [EN, Nat.reduceEqDiff, reduceIte, qv_move, i7_0, strEq, hB1.cell, hB2.cell]; rfl) ?_
          refine WL.qq (by simp only [EN, Nat.reduceEqDiff, reduceIte, qv_fieldAddr, fa47_2, Nat.zero_add, Nat.reduceAdd, strEq, hB1.cell, hB2.cell]; rfl) ?_
          refine WL.qq (by simp only [EN, Nat.reduceEqDiff, reduceIte, qv_load, ld2, readN, AR, Nat.zero_add, Nat.reduceAdd, strEq, hB1.cell, hB2.cell]; rfl) ?_
          refine WL.qq (by simp only [EN, Nat.reduceEqDiff, reduceIte, k1_0, k2_0, k3_0, i8_0, i7_0, strEq, hB1.cell, hB2.cell, qv_binOp, binv_add]; rfl) ?_
          refine WL.qq (by simp only [EN, Nat.reduceEqDiff, reduceIte, qv_assign, strEq, hB1.cell, hB2.cell]; rfl) ?_
          refine WL.nil ?_
          refine th_norm ?_
          refine ⟨rfl, rfl, ?_, ?_⟩  -- meet 0 of cut 6
          · (repeat (first | exact Fr.refl _ _ | refine Fr.set rfl ?_ | refine Fr.put rfl ?_ | with_reducible refine Fr.put0 ?_))
          · simp only [EN, Nat.reduceEqDiff, reduceIte, k1_0, k2_0, k3_0, i8_0, i7_0, strEq, hB1.cell, hB2.cell] <;> first | (rw [wrap_add_l, if_pos (by simpa using hct31)]; done) | (rw [if_neg (fun hh => by simp [hh.1, hh.2] at hct31), Int.add_zero]; done)
        ·
          try simp only [BD] at hct31
          refine hx_skip ?_
          refine th_norm ?_
          refine ⟨rfl, rfl, ?_, ?_⟩  -- meet 1 of cut 6
          · (repeat (first | exact Fr.refl _ _ | refine Fr.set rfl ?_ | refine Fr.put rfl ?_ | with_reducible refine Fr.put0 ?_))
          · simp only [EN, Nat.reduceEqDiff, reduceIte, k1_0, k2_0, k3_0, i8_0, i7_0, strEq, hB1.cell, hB2.cell] <;> first | (rw [wrap_add_l, if_pos (by simpa using hct31)]; done) | (rw [if_neg (fun hh => by simp [hh.1, hh.2] at hct31), Int.add_zero]; done)
      ·
        rintro ec6 hfc6 i7_c6
        have k1_c6 := hfc6 1 rfl; try simp only [EN, Nat.reduceEqDiff, reduceIte, k1_0, strEq, hB1.cell, hB2.cell] at k1_c6
        have k2_c6 := hfc6 2 rfl; try simp only [EN, Nat.reduceEqDiff, reduceIte, k2_0, strEq, hB1.cell, hB2.cell] at k2_c6
        have k3_c6 := hfc6 3 rfl; try simp only [EN, Nat.reduceEqDiff, reduceIte, k3_0, strEq, hB1.cell, hB2.cell] at k3_c6
        have k8_c6 := hfc6 8 rfl; try simp only [EN, Nat.reduceEqDiff, reduceIte, i8_0, strEq, hB1.cell, hB2.cell] at k8_c6
        have k9_c6 := hfc6 9 rfl; try simp only [EN, Nat.reduceEqDiff, reduceIte, strEq, hB1.cell, hB2.cell] at k9_c6
        refine hx_seq ?_
        refine hx_region ?_
        refine WL.qq (by simp only [EN, Nat.reduceEqDiff, reduceIte, qv_fieldAddr, fa47_0, Nat.zero_add, Nat.reduceAdd, k9_c6, strEq, hB1.cell, hB2.cell]; rfl) ?_
        refine WL.qq (by simp only [EN, Nat.reduceEqDiff, reduceIte, qv_load, ld9, readN, AR, Nat.zero_add, Nat.reduceAdd, strEq, hB1.cell, hB2.cell]; rfl) ?_
        refine WL.qq (by simp only [EN, Nat.reduceEqDiff, reduceIte, qv_move, k2_c6, strEq, hB1.cell, hB2.cell]; rfl) ?_
        refine WL.qq (by simp only [EN, Nat.reduceEqDiff, reduceIte, qv_binOp, binv_eql, eq9, Option.map_some, strEq, hB1.cell, hB2.cell]; rfl) ?_
        refine WL.qq (by simp only [EN, Nat.reduceEqDiff, reduceIte, qv_move, strEq, hB1.cell, hB2.cell]; rfl) ?_
        refine WL.cq (gd_at (t := 40) rfl (by simp only [EN, Nat.reduceEqDiff, reduceIte, k9_c6, strEq, hB1.cell, hB2.cell] <;> rfl)) (fun hg8_5 => by simp only [EN, Nat.reduceEqDiff, reduceIte, qv_fieldAddr, fa47_1, Nat.zero_add, Nat.reduceAdd, k9_c6, strEq, hB1.cell, hB2.cell, hg8_5, GR]; rfl) ?_
        refine WL.cq (gd_at (t := 40) rfl (by simp only [EN, Nat.reduceEqDiff, reduceIte, strEq, hB1.cell, hB2.cell] <;> rfl)) (fun hg8_6 => by simp only [EN, Nat.reduceEqDiff, reduceIte, qv_load, ld9, readN, AR, Nat.zero_add, Nat.reduceAdd, strEq, hB1.cell, hB2.cell, hg8_6, GR]; rfl) ?_
        refine WL.cq (gd_at (t := 40) rfl (by simp only [EN, Nat.reduceEqDiff, reduceIte, k1_c6, strEq, hB1.cell, hB2.cell] <;> rfl)) (fun hg8_7 => by simp only [EN, Nat.reduceEqDiff, reduceIte, qv_move, k1_c6, strEq, hB1.cell, hB2.cell, hg8_7, GR]; rfl) ?_
        refine WL.cq (gd_at (t := 40) rfl (by simp only [EN, Nat.reduceEqDiff, reduceIte, strEq, hB1.cell, hB2.cell] <;> rfl)) (fun hg8_8 => by simp only [EN, Nat.reduceEqDiff, reduceIte, qv_binOp, binv_eql, eq9, Option.map_some, strEq, hB1.cell, hB2.cell, hg8_8, GR]; rfl) ?_
        refine WL.qq (by simp only [EN, Nat.reduceEqDiff, reduceIte, qv_pick, pk_and, pk_or, GR, strEq, hB1.cell, hB2.cell]; rfl) ?_
        refine WL.nil ?_
        refine th_norm ?_
        refine hx_cond (by simp only [EN, Nat.reduceEqDiff, reduceIte, strEq, hB1.cell, hB2.cell]; rfl) (fun hct45 => ?_) (fun hct45 => ?_)
        ·
          try simp only [BD] at hct45
          refine hx_region ?_
          refine WL.qq (by simp only [EN, Nat.reduceEqDiff, reduceIte, qv_move, i7_c6, strEq, hB1.cell, hB2.cell]; rfl) ?_
          refine WL.qq (by simp only [EN, Nat.reduceEqDiff, reduceIte, qv_fieldAddr, fa47_2, Nat.zero_add, Nat.reduceAdd, k9_c6, strEq, hB1.cell, hB2.cell]; rfl) ?_
          refine WL.qq (by simp only [EN, Nat.reduceEqDiff, reduceIte, qv_load, ld2, readN, AR, Nat.zero_add, Nat.reduceAdd, strEq, hB1.cell, hB2.cell]; rfl) ?_
          refine WL.qq (by simp only [EN, Nat.reduceEqDiff, reduceIte, k1_c6, k2_c6, k3_c6, k8_c6, k9_c6, i7_c6, strEq, hB1.cell, hB2.cell, qv_binOp, binv_sub]; rfl) ?_
          refine WL.qq (by simp only [EN, Nat.reduceEqDiff, reduceIte, qv_assign, strEq, hB1.cell, hB2.cell]; rfl) ?_
          refine WL.nil ?_
          refine bl_norm ?_
          refine th_norm ?_
          refine hx_region ?_
          refine WL.qq (by simp only [EN, Nat.reduceEqDiff, reduceIte, qv_move, k8_c6, strEq, hB1.cell, hB2.cell]; rfl) ?_
          refine WL.qq (by simp only [EN, Nat.reduceEqDiff, reduceIte, qv_binOp, binv_add, strEq, hB1.cell, hB2.cell]; (try simp (disch := omega) only [w64, w8, wu64]); rfl) ?_
          refine WL.qq (by simp only [EN, Nat.reduceEqDiff, reduceIte, qv_assign, strEq, hB1.cell, hB2.cell]; rfl) ?_
          refine WL.nil ?_
          refine th_norm ?_
          refine ⟨rfl, ?_, ?_, _, ?_, i + 1, rfl, ?_, ?_, ?_⟩  -- again 0 of loop 0
          · exact hx2
          · (repeat (first | exact Fr.refl _ _ | refine Fr.set rfl ?_ | refine Fr.put rfl ?_ | with_reducible refine Fr.put0 ?_ | refine Fr.trans ?_ (Fr.of hfc6 rfl)))
          · omega
          · omega
          · simp only [EN, Nat.reduceEqDiff, reduceIte, k1_c6, k2_c6, k3_c6, k8_c6, k9_c6, i7_c6, strEq, hB1.cell, hB2.cell] <;> first | rfl | (congr 1; omega)
          · simp only [EN, Nat.reduceEqDiff, reduceIte, k1_c6, k2_c6, k3_c6, k8_c6, k9_c6, i7_c6, strEq, hB1.cell, hB2.cell] <;> first | (rw [wrap_sub_l, sumF_step hx, netV, if_pos (c := x.1.f = b ∧ x.1.t = a) (by simpa using hct45)]; congr 2; omega) | (rw [sumF_step hx, netV, if_neg (c := x.1.f = b ∧ x.1.t = a) (fun hh => by simp [hh.1, hh.2] at hct45)]; congr 2; omega)
        ·
          try simp only [BD] at hct45
          refine hx_skip ?_
          refine bl_norm ?_
          refine th_norm ?_
          refine hx_region ?_
          refine WL.qq (by simp only [EN, Nat.reduceEqDiff, reduceIte, qv_move, k8_c6, strEq, hB1.cell, hB2.cell]; rfl) ?_
          refine WL.qq (by simp only [EN, Nat.reduceEqDiff, reduceIte, qv_binOp, binv_add, strEq, hB1.cell, hB2.cell]; (try simp (disch := omega) only [w64, w8, wu64]); rfl) ?_
          refine WL.qq (by simp only [EN, Nat.reduceEqDiff, reduceIte, qv_assign, strEq, hB1.cell, hB2.cell]; rfl) ?_
          refine WL.nil ?_
          refine th_norm ?_
          refine ⟨rfl, ?_, ?_, _, ?_, i + 1, rfl, ?_, ?_, ?_⟩  -- again 1 of loop 0
          · exact hx2
          · (repeat (first | exact Fr.refl _ _ | refine Fr.set rfl ?_ | refine Fr.put rfl ?_ | with_reducible refine Fr.put0 ?_ | refine Fr.trans ?_ (Fr.of hfc6 rfl)))
          · omega
          · omega
          · simp only [EN, Nat.reduceEqDiff, reduceIte, k1_c6, k2_c6, k3_c6, k8_c6, k9_c6, i7_c6, strEq, hB1.cell, hB2.cell] <;> first | rfl | (congr 1; omega)
          · simp only [EN, Nat.reduceEqDiff, reduceIte, k1_c6, k2_c6, k3_c6, k8_c6, k9_c6, i7_c6, strEq, hB1.cell, hB2.cell] <;> first | (rw [wrap_sub_l, sumF_step hx, netV, if_pos (c := x.1.f = b ∧ x.1.t = a) (by simpa using hct45)]; congr 2; omega) | (rw [sumF_step hx, netV, if_neg (c := x.1.f = b ∧ x.1.t = a) (fun hh => by simp [hh.1, hh.2] at hct45)]; congr 2; omega)
    ·
      try simp only [BD] at hct14
      refine hx_exit ?_
      refine th_exit ?_
      refine th_exit ?_
      refine bl_hit ?_
      refine th_norm ?_
      refine hx_seq ?_
      refine hx_seq ?_
      refine hx_region ?_
      refine WL.qq (by simp only [EN, Nat.reduceEqDiff, reduceIte, qv_move, k1_0, strEq, hB1.cell]; rfl) ?_
      refine WL.qq (by simp only [EN, Nat.reduceEqDiff, reduceIte, qv_move, k2_0, strEq, hB1.cell]; rfl) ?_
      refine WL.qq (by simp only [EN, Nat.reduceEqDiff, reduceIte, qv_binOp, binv_eql, eq9, Option.map_some, strEq, hB1.cell]; rfl) ?_
      refine WL.nil ?_
      refine th_norm ?_
      refine hx_cond (by simp only [EN, Nat.reduceEqDiff, reduceIte, strEq, hB1.cell]; rfl) (fun hct52 => ?_) (fun hct52 => ?_)
      ·
        try simp only [BD] at hct52
        refine hx_seq ?_
        refine hx_region ?_
        refine WL.qq (by simp only [EN, Nat.reduceEqDiff, reduceIte, qv_assign, strEq, hB1.cell]; rfl) ?_
        refine WL.nil ?_
        refine th_norm ?_
        refine hx_ret ?_
        refine th_ret ?_
        refine fin_ret [.tmp 6] rfl rfl (by simp only [EN, Nat.reduceEqDiff, reduceIte, resv, k1_0, k2_0, k3_0, i8_0, i7_0, strEq, hB1.cell]; rfl) ?_  -- ret 0 r11
        exact ⟨by rw [netR, if_pos (by simpa using hct52)]; rfl, ((hx1).trans (hX0))⟩
      ·
        try simp only [BD] at hct52
        refine hx_skip ?_
        refine th_norm ?_
        refine hx_seq ?_
        refine hx_region ?_
        refine WL.qq (by simp only [EN, Nat.reduceEqDiff, reduceIte, qv_move, i7_0, strEq, hB1.cell]; rfl) ?_
        refine WL.qq (by simp only [EN, Nat.reduceEqDiff, reduceIte, qv_assign, strEq, hB1.cell]; rfl) ?_
        refine WL.nil ?_
        refine th_norm ?_
        refine hx_ret ?_
        refine fin_ret [.tmp 6] rfl rfl (by simp only [EN, Nat.reduceEqDiff, reduceIte, resv, k1_0, k2_0, k3_0, i8_0, i7_0, strEq, hB1.cell]; rfl) ?_  -- ret 1 r12
        have hil : i = F.length := (by omega)
        exact ⟨by rw [netR, if_neg (by simpa using hct52)]; subst hil; rw [List.take_length]; rfl, ((hx1).trans (hX0))⟩
theorem c_rOut (al : Option Addr) (n cl : Nat) (af : Option Addr) (F : List L2) (cf : Nat) (a : ByteArray) (hlen : F.length ≤ 1000000) (hs : SlG 3 limL h af F) :
    HCalls Try.prog 49 #[rfV al n cl af F.length cf, .string a] h (Grow (iV (outR F a)) h) := by
  refine hcalls2 Try.func49 rfl (by decide +kernel) (by simp only [Try.ntmps49]; exact of_decide_eq_true rfl) ?_
  intro e hin
  have e0 := hin 0 _ rfl
  have e1 := hin 1 _ rfl
  refine hx_seq ?_
  refine hx_region ?_
  refine WL.box2 (by simp only [EN, Nat.reduceEqDiff, reduceIte, Value.cells, e0, strEq]; rfl) ?_
  intro h1 B1 hx1 hlt1 hB1
  replace hs := hs.ext hx1
  refine WL.qq (by simp only [EN, Nat.reduceEqDiff, reduceIte, qv_assign, strEq, hB1.cell]; rfl) ?_
  refine WL.nil ?_
  refine th_norm ?_
  refine hx_seq ?_
  refine hx_region ?_
  refine WL.qq (by simp only [EN, Nat.reduceEqDiff, reduceIte, qv_assign, strEq, hB1.cell]; rfl) ?_
  refine WL.nil ?_
  refine th_norm ?_
  refine hx_seq ?_
  refine hx_seq ?_
  refine hx_region ?_
  refine WL.qq (by simp only [EN, Nat.reduceEqDiff, reduceIte, qv_assign, strEq, hB1.cell]; rfl) ?_
  refine WL.nil ?_
  refine th_norm ?_
  refine hx_block ?_
  refine hx_loopX [5, 6, 7, 8, 9, 10, 11, 12, 13, 14, 15, 16, 17, 18, 19, 20, 21, 22, 23, 24, 25, 26, 27, 28, 29, 30, 31, 32, 33, 34, 35, 36, 37, 38, 39, 40, 41, 42, 43, 44, 45] (fun k e => ∃ (i : Nat), F.length - i = k ∧ (i ≤ F.length) ∧ e 6 = .int .i64 i ∧ e 5 = iV (IntKind.i64.wrap (sumF (outU a) (F.take i)))) _ ⟨0, rfl, ?_, ?_, ?_⟩ ?_
  · omega
  · simp only [EN, Nat.reduceEqDiff, reduceIte, e0, e1, strEq, hB1.cell] <;> rfl
  · simp only [EN, Nat.reduceEqDiff, reduceIte, e0, e1, strEq, hB1.cell] <;> rfl
  ·
    rintro k e0L hL0 hX0 hfr0 ⟨i, rfl, hi, i6_0, i5_0⟩
    replace hs := hs.ext hX0
    replace hB1 := hB1.ext hX0
    have k1_0 := hfr0 1 rfl; try simp only [EN, Nat.reduceEqDiff, reduceIte, e1, strEq, hB1.cell] at k1_0
    have k2_0 := hfr0 2 rfl; try simp only [EN, Nat.reduceEqDiff, reduceIte, strEq, hB1.cell] at k2_0
    refine hx_seq ?_
    refine hx_seq ?_
    refine hx_region ?_
    refine WL.qq (by simp only [EN, Nat.reduceEqDiff, reduceIte, qv_move, i6_0, strEq, hB1.cell]; rfl) ?_
    refine WL.qq (by simp only [EN, Nat.reduceEqDiff, reduceIte, qv_fieldAddr, fa41_1, Nat.zero_add, Nat.reduceAdd, k2_0, strEq, hB1.cell]; rfl) ?_
    refine WL.qq (by simp only [EN, Nat.reduceEqDiff, reduceIte, qv_load, ld39, readN, AR, Nat.zero_add, Nat.reduceAdd, strEq, hB1.cell]; rfl) ?_
    refine WL.qq (by simp only [EN, Nat.reduceEqDiff, reduceIte, qv_len, ln39, AR, strEq, hB1.cell]; rfl) ?_
    refine WL.qq (by simp only [EN, Nat.reduceEqDiff, reduceIte, qv_binOp, binv_lss, strEq, hB1.cell]; rfl) ?_
    refine WL.nil ?_
    refine th_norm ?_
    refine hx_cond (by simp only [EN, Nat.reduceEqDiff, reduceIte, strEq, hB1.cell]; rfl) (fun hct11 => ?_) (fun hct11 => ?_)
    ·
      try simp only [BD] at hct11
      obtain ⟨x, hx⟩ := atG (l := F) (i := i) (by omega)
      obtain ⟨bb, off, rfl, hr3, hc0, hc1, hc2⟩ := lim_rd hs hx
      refine hx_skip ?_
      refine th_norm ?_
      refine hx_seq ?_
      refine hx_block ?_
      refine hx_cutS [5, 14, 15, 16, 17, 18, 19, 20, 21, 22, 23, 24, 25, 26, 27, 28, 29] (fun e => e 5 = iV (IntKind.i64.wrap (sumF (outU a) (F.take i) + (if x.1.f = a then x.2 else 0)))) ?_ ?_
      ·
        refine hx_seq ?_
        refine hx_region ?_
        refine WL.qq (by simp only [EN, Nat.reduceEqDiff, reduceIte, qv_fieldAddr, fa41_1, Nat.zero_add, Nat.reduceAdd, k2_0, strEq, hB1.cell]; rfl) ?_
        refine WL.qq (by simp only [EN, Nat.reduceEqDiff, reduceIte, qv_load, ld39, readN, AR, Nat.zero_add, Nat.reduceAdd, strEq, hB1.cell]; rfl) ?_
        refine WL.qq (by simp only [EN, Nat.reduceEqDiff, reduceIte, qv_move, i6_0, strEq, hB1.cell]; rfl) ?_
        refine WL.qq (by simp only [EN, Nat.reduceEqDiff, reduceIte, qv_indexAddr, strEq, hB1.cell]; (try simp (disch := omega) only [ix39, Int.toNat_natCast]); rfl) ?_
        refine WL.qq (by simp only [EN, Nat.reduceEqDiff, reduceIte, qv_fieldAddr, fa47_0, Nat.zero_add, Nat.reduceAdd, strEq, hB1.cell]; rfl) ?_
        refine WL.qq (by simp only [EN, Nat.reduceEqDiff, reduceIte, k1_0, k2_0, i6_0, i5_0, strEq, hB1.cell, qv_load, ld9, Int.toNat_natCast, Nat.add_zero, hc0]; rfl) ?_
        refine WL.qq (by simp only [EN, Nat.reduceEqDiff, reduceIte, qv_move, k1_0, strEq, hB1.cell]; rfl) ?_
        refine WL.qq (by simp only [EN, Nat.reduceEqDiff, reduceIte, qv_binOp, binv_eql, eq9, Option.map_some, strEq, hB1.cell]; rfl) ?_
        refine WL.nil ?_
        refine th_norm ?_
        refine hx_cond (by simp only [EN, Nat.reduceEqDiff, reduceIte, strEq, hB1.cell]; rfl) (fun hct21 => ?_) (fun hct21 => ?_)
        ·
          try simp only [BD] at hct21
          refine hx_region ?_
          refine WL.qq (by simp only [EN, Nat.reduceEqDiff, reduceIte, qv_move, i5_0, strEq, hB1.cell]; rfl) ?_
          refine WL.qq (by simp only [EN, Nat.reduceEqDiff, reduceIte, qv_fieldAddr, fa41_1, Nat.zero_add, Nat.reduceAdd, k2_0, strEq, hB1.cell]; rfl) ?_
          refine WL.qq (by simp only [EN, Nat.reduceEqDiff, reduceIte, qv_load, ld39, readN, AR, Nat.zero_add, Nat.reduceAdd, strEq, hB1.cell]; rfl) ?_
          refine WL.qq (by simp only [EN, Nat.reduceEqDiff, reduceIte, qv_move, i6_0, strEq, hB1.cell]; rfl) ?_
          refine WL.qq (by simp only [EN, Nat.reduceEqDiff, reduceIte, qv_indexAddr, strEq, hB1.cell]; (try simp (disch := omega) only [ix39, Int.toNat_natCast]); rfl) ?_
          refine WL.qq (by simp only [EN, Nat.reduceEqDiff, reduceIte, qv_fieldAddr, fa47_2, Nat.zero_add, Nat.reduceAdd, strEq, hB1.cell]; rfl) ?_
          refine WL.qq (by simp only [EN, Nat.reduceEqDiff, reduceIte, k1_0, k2_0, i6_0, i5_0, strEq, hB1.cell, qv_load, ld2, Int.toNat_natCast, hc2]; rfl) ?_
          refine WL.qq (by simp only [EN, Nat.reduceEqDiff, reduceIte, k1_0, k2_0, i6_0, i5_0, strEq, hB1.cell, qv_binOp, binv_add]; rfl) ?_
          refine WL.qq (by simp only [EN, Nat.reduceEqDiff, reduceIte, qv_assign, strEq, hB1.cell]; rfl) ?_
          refine WL.nil ?_
          refine th_norm ?_
          refine ⟨rfl, rfl, ?_, ?_⟩  -- meet 0 of cut 5
          · (repeat (first | exact Fr.refl _ _ | refine Fr.set rfl ?_ | refine Fr.put rfl ?_ | with_reducible refine Fr.put0 ?_))
          · simp only [EN, Nat.reduceEqDiff, reduceIte, k1_0, k2_0, i6_0, i5_0, strEq, hB1.cell] <;> first | (rw [wrap_add_l, if_pos (by simpa using hct21)]; done) | (rw [if_neg (by simpa using hct21), Int.add_zero]; done)
        ·
          try simp only [BD] at hct21
          refine hx_skip ?_
          refine th_norm ?_
          refine ⟨rfl, rfl, ?_, ?_⟩  -- meet 1 of cut 5
          · (repeat (first | exact Fr.refl _ _ | refine Fr.set rfl ?_ | refine Fr.put rfl ?_ | with_reducible refine Fr.put0 ?_))
          · simp only [EN, Nat.reduceEqDiff, reduceIte, k1_0, k2_0, i6_0, i5_0, strEq, hB1.cell] <;> first | (rw [wrap_add_l, if_pos (by simpa using hct21)]; done) | (rw [if_neg (by simpa using hct21), Int.add_zero]; done)
      ·
        rintro ec5 hfc5 i5_c5
        have k1_c5 := hfc5 1 rfl; try simp only [EN, Nat.reduceEqDiff, reduceIte, k1_0, strEq, hB1.cell] at k1_c5
        have k2_c5 := hfc5 2 rfl; try simp only [EN, Nat.reduceEqDiff, reduceIte, k2_0, strEq, hB1.cell] at k2_c5
        have k6_c5 := hfc5 6 rfl; try simp only [EN, Nat.reduceEqDiff, reduceIte, i6_0, strEq, hB1.cell] at k6_c5
        refine hx_seq ?_
        refine hx_region ?_
        refine WL.qq (by simp only [EN, Nat.reduceEqDiff, reduceIte, qv_fieldAddr, fa41_1, Nat.zero_add, Nat.reduceAdd, k2_c5, strEq, hB1.cell]; rfl) ?_
        refine WL.qq (by simp only [EN, Nat.reduceEqDiff, reduceIte, qv_load, ld39, readN, AR, Nat.zero_add, Nat.reduceAdd, strEq, hB1.cell]; rfl) ?_
        refine WL.qq (by simp only [EN, Nat.reduceEqDiff, reduceIte, qv_move, k6_c5, strEq, hB1.cell]; rfl) ?_
        refine WL.qq (by simp only [EN, Nat.reduceEqDiff, reduceIte, qv_indexAddr, strEq, hB1.cell]; (try simp (disch := omega) only [ix39, Int.toNat_natCast]); rfl) ?_
        refine WL.qq (by simp only [EN, Nat.reduceEqDiff, reduceIte, qv_fieldAddr, fa47_1, Nat.zero_add, Nat.reduceAdd, strEq, hB1.cell]; rfl) ?_
        refine WL.qq (by simp only [EN, Nat.reduceEqDiff, reduceIte, k1_c5, k2_c5, k6_c5, i5_c5, strEq, hB1.cell, qv_load, ld9, Int.toNat_natCast, hc1]; rfl) ?_
        refine WL.qq (by simp only [EN, Nat.reduceEqDiff, reduceIte, qv_move, k1_c5, strEq, hB1.cell]; rfl) ?_
        refine WL.qq (by simp only [EN, Nat.reduceEqDiff, reduceIte, qv_binOp, binv_eql, eq9, Option.map_some, strEq, hB1.cell]; rfl) ?_
        refine WL.nil ?_
        refine th_norm ?_
        refine hx_cond (by simp only [EN, Nat.reduceEqDiff, reduceIte, strEq, hB1.cell]; rfl) (fun hct37 => ?_) (fun hct37 => ?_)
        ·
          try simp only [BD] at hct37
          refine hx_region ?_
          refine WL.qq (by simp only [EN, Nat.reduceEqDiff, reduceIte, qv_move, i5_c5, strEq, hB1.cell]; rfl) ?_
          refine WL.qq (by simp only [EN, Nat.reduceEqDiff, reduceIte, qv_fieldAddr, fa41_1, Nat.zero_add, Nat.reduceAdd, k2_c5, strEq, hB1.cell]; rfl) ?_
          refine WL.qq (by simp only [EN, Nat.reduceEqDiff, reduceIte, qv_load, ld39, readN, AR, Nat.zero_add, Nat.reduceAdd, strEq, hB1.cell]; rfl) ?_
          refine WL.qq (by simp only [EN, Nat.reduceEqDiff, reduceIte, qv_move, k6_c5, strEq, hB1.cell]; rfl) ?_
          refine WL.qq (by simp only [EN, Nat.reduceEqDiff, reduceIte, qv_indexAddr, strEq, hB1.cell]; (try simp (disch := omega) only [ix39, Int.toNat_natCast]); rfl) ?_
          refine WL.qq (by simp only [EN, Nat.reduceEqDiff, reduceIte, qv_fieldAddr, fa47_2, Nat.zero_add, Nat.reduceAdd, strEq, hB1.cell]; rfl) ?_
          refine WL.qq (by simp only [EN, Nat.reduceEqDiff, reduceIte, k1_c5, k2_c5, k6_c5, i5_c5, strEq, hB1.cell, qv_load, ld2, Int.toNat_natCast, hc2]; rfl) ?_
          refine WL.qq (by simp only [EN, Nat.reduceEqDiff, reduceIte, k1_c5, k2_c5, k6_c5, i5_c5, strEq, hB1.cell, qv_binOp, binv_sub]; rfl) ?_
          refine WL.qq (by simp only [EN, Nat.reduceEqDiff, reduceIte, qv_assign, strEq, hB1.cell]; rfl) ?_
          refine WL.nil ?_
          refine bl_norm ?_
          refine th_norm ?_
          refine hx_region ?_
          refine WL.qq (by simp only [EN, Nat.reduceEqDiff, reduceIte, qv_move, k6_c5, strEq, hB1.cell]; rfl) ?_
          refine WL.qq (by simp only [EN, Nat.reduceEqDiff, reduceIte, qv_binOp, binv_add, strEq, hB1.cell]; (try simp (disch := omega) only [w64, w8, wu64]); rfl) ?_
          refine WL.qq (by simp only [EN, Nat.reduceEqDiff, reduceIte, qv_assign, strEq, hB1.cell]; rfl) ?_
          refine WL.nil ?_
          refine th_norm ?_
          refine ⟨rfl, ?_, ?_, _, ?_, i + 1, rfl, ?_, ?_, ?_⟩  -- again 0 of loop 0
          · exact Ext.refl _
          · (repeat (first | exact Fr.refl _ _ | refine Fr.set rfl ?_ | refine Fr.put rfl ?_ | with_reducible refine Fr.put0 ?_ | refine Fr.trans ?_ (Fr.of hfc5 rfl)))
          · omega
          · omega
          · simp only [EN, Nat.reduceEqDiff, reduceIte, k1_c5, k2_c5, k6_c5, i5_c5, strEq, hB1.cell] <;> first | rfl | (congr 1; omega)
          · simp only [EN, Nat.reduceEqDiff, reduceIte, k1_c5, k2_c5, k6_c5, i5_c5, strEq, hB1.cell] <;> first | (rw [wrap_sub_l, sumF_step hx, outU, if_pos (c := x.1.t = a) (by simpa using hct37)]; congr 2; omega) | (rw [sumF_step hx, outU, if_neg (c := x.1.t = a) (by simpa using hct37)]; congr 2; omega)
        ·
          try simp only [BD] at hct37
          refine hx_skip ?_
          refine bl_norm ?_
          refine th_norm ?_
          refine hx_region ?_
          refine WL.qq (by simp only [EN, Nat.reduceEqDiff, reduceIte, qv_move, k6_c5, strEq, hB1.cell]; rfl) ?_
          refine WL.qq (by simp only [EN, Nat.reduceEqDiff, reduceIte, qv_binOp, binv_add, strEq, hB1.cell]; (try simp (disch := omega) only [w64, w8, wu64]); rfl) ?_
          refine WL.qq (by simp only [EN, Nat.reduceEqDiff, reduceIte, qv_assign, strEq, hB1.cell]; rfl) ?_
          refine WL.nil ?_
          refine th_norm ?_
          refine ⟨rfl, ?_, ?_, _, ?_, i + 1, rfl, ?_, ?_, ?_⟩  -- again 1 of loop 0
          · exact Ext.refl _
          · (repeat (first | exact Fr.refl _ _ | refine Fr.set rfl ?_ | refine Fr.put rfl ?_ | with_reducible refine Fr.put0 ?_ | refine Fr.trans ?_ (Fr.of hfc5 rfl)))
          · omega
          · omega
          · simp only [EN, Nat.reduceEqDiff, reduceIte, k1_c5, k2_c5, k6_c5, i5_c5, strEq, hB1.cell] <;> first | rfl | (congr 1; omega)
          · simp only [EN, Nat.reduceEqDiff, reduceIte, k1_c5, k2_c5, k6_c5, i5_c5, strEq, hB1.cell] <;> first | (rw [wrap_sub_l, sumF_step hx, outU, if_pos (c := x.1.t = a) (by simpa using hct37)]; congr 2; omega) | (rw [sumF_step hx, outU, if_neg (c := x.1.t = a) (by simpa using hct37)]; congr 2; omega)
    ·
      try simp only [BD] at hct11
      refine hx_exit ?_
      refine th_exit ?_
      refine th_exit ?_
      refine bl_hit ?_
      refine th_norm ?_
      refine hx_seq ?_
      refine hx_region ?_
      refine WL.qq (by simp only [EN, Nat.reduceEqDiff, reduceIte, qv_move, i5_0, strEq, hB1.cell]; rfl) ?_
      refine WL.qq (by simp only [EN, Nat.reduceEqDiff, reduceIte, qv_assign, strEq, hB1.cell]; rfl) ?_
      refine WL.nil ?_
      refine th_norm ?_
      refine hx_ret ?_
      refine fin_ret [.tmp 4] rfl rfl (by simp only [EN, Nat.reduceEqDiff, reduceIte, resv, k1_0, k2_0, i6_0, i5_0, strEq, hB1.cell]; rfl) ?_  -- ret 0 r9
      have hil : i = F.length := (by omega)
      exact ⟨by rw [outR]; subst hil; rw [List.take_length]; rfl, ((hx1).trans (hX0))⟩
theorem c_rFind (al : Option Addr) (Ls : List L2) (cl : Nat) (af : Option Addr) (m cf : Nat) (q : PK) (hlen : Ls.length ≤ 1000000) (hn : (Ls.map Prod.fst).Nodup) (hs : SlG 3 limL h al Ls) :
    HCalls Try.prog 48 #[rfV al Ls.length cl af m cf, (.string q.f), (.string q.t)] h (Grow (.tuple #[iV (lk Ls q), .bool (Ls.lookup q).isSome]) h) := by
  refine hcalls2 Try.func48 rfl (by decide +kernel) (by simp only [Try.ntmps48]; exact of_decide_eq_true rfl) ?_
  intro e hin
  have e0 := hin 0 _ rfl
  have e1 := hin 1 _ rfl
  have e2 := hin 2 _ rfl
  refine hx_seq ?_
  refine hx_region ?_
  refine WL.box2 (by simp only [EN, Nat.reduceEqDiff, reduceIte, Value.cells, e0, strEq]; rfl) ?_
  intro h1 B1 hx1 hlt1 hB1
  replace hs := hs.ext hx1
  refine WL.qq (by simp only [EN, Nat.reduceEqDiff, reduceIte, qv_assign, strEq, hB1.cell]; rfl) ?_
  refine WL.qq (by simp only [EN, Nat.reduceEqDiff, reduceIte, qv_assign, strEq, hB1.cell]; rfl) ?_
  refine WL.nil ?_
  refine th_norm ?_
  refine hx_seq ?_
  refine hx_seq ?_
  refine hx_region ?_
  refine WL.qq (by simp only [EN, Nat.reduceEqDiff, reduceIte, qv_assign, strEq, hB1.cell]; rfl) ?_
  refine WL.nil ?_
  refine th_norm ?_
  refine hx_block ?_
  refine hx_loopX [6, 7, 8, 9, 10, 11, 12, 13, 14, 15, 16, 17, 18, 19, 20, 21, 22, 23, 24, 25, 26, 27, 28, 29, 30, 31, 32, 33, 34, 35, 36, 37, 38, 39] (fun k e => ∃ (i : Nat), Ls.length - i = k ∧ (i ≤ Ls.length) ∧ (∀ y ∈ Ls.take i, y.1 ≠ q) ∧ e 8 = .int .i64 i) _ ⟨0, rfl, ?_, ?_, ?_⟩ ?_
  · omega
  · simp
  · simp only [EN, Nat.reduceEqDiff, reduceIte, e0, e1, e2, strEq, hB1.cell] <;> rfl
  ·
    rintro k e0L hL0 hX0 hfr0 ⟨i, rfl, hi, hno, i8_0⟩
    replace hs := hs.ext hX0
    replace hB1 := hB1.ext hX0
    have k1_0 := hfr0 1 rfl; try simp only [EN, Nat.reduceEqDiff, reduceIte, e1, strEq, hB1.cell] at k1_0
    have k2_0 := hfr0 2 rfl; try simp only [EN, Nat.reduceEqDiff, reduceIte, e2, strEq, hB1.cell] at k2_0
    have k3_0 := hfr0 3 rfl; try simp only [EN, Nat.reduceEqDiff, reduceIte, strEq, hB1.cell] at k3_0
    refine hx_seq ?_
    refine hx_seq ?_
    refine hx_region ?_
    refine WL.qq (by simp only [EN, Nat.reduceEqDiff, reduceIte, qv_move, i8_0, strEq, hB1.cell]; rfl) ?_
    refine WL.qq (by simp only [EN, Nat.reduceEqDiff, reduceIte, qv_fieldAddr, fa41_0, Nat.zero_add, Nat.reduceAdd, k3_0, strEq, hB1.cell]; rfl) ?_
    refine WL.qq (by simp only [EN, Nat.reduceEqDiff, reduceIte, qv_load, ld38, readN, AR, Nat.zero_add, Nat.reduceAdd, strEq, hB1.cell]; rfl) ?_
    refine WL.qq (by simp only [EN, Nat.reduceEqDiff, reduceIte, qv_len, ln38, AR, strEq, hB1.cell]; rfl) ?_
    refine WL.qq (by simp only [EN, Nat.reduceEqDiff, reduceIte, qv_binOp, binv_lss, strEq, hB1.cell]; rfl) ?_
    refine WL.nil ?_
    refine th_norm ?_
    refine hx_cond (by simp only [EN, Nat.reduceEqDiff, reduceIte, strEq, hB1.cell]; rfl) (fun hct13 => ?_) (fun hct13 => ?_)
    ·
      try simp only [BD] at hct13
      obtain ⟨x, hx⟩ := atG (l := Ls) (i := i) (by omega)
      obtain ⟨bb, off, rfl, hr3, hc0, hc1, hc2⟩ := lim_rd hs hx
      refine hx_skip ?_
      refine th_norm ?_
      refine hx_seq ?_
      refine hx_block ?_
      refine hx_seq ?_
      refine hx_region ?_
      refine WL.qq (by simp only [EN, Nat.reduceEqDiff, reduceIte, qv_fieldAddr, fa41_0, Nat.zero_add, Nat.reduceAdd, k3_0, strEq, hB1.cell]; rfl) ?_
      refine WL.qq (by simp only [EN, Nat.reduceEqDiff, reduceIte, qv_load, ld38, readN, AR, Nat.zero_add, Nat.reduceAdd, strEq, hB1.cell]; rfl) ?_
      refine WL.qq (by simp only [EN, Nat.reduceEqDiff, reduceIte, qv_move, i8_0, strEq, hB1.cell]; rfl) ?_
      refine WL.qq (by simp only [EN, Nat.reduceEqDiff, reduceIte, qv_indexAddr, strEq, hB1.cell]; (try simp (disch := omega) only [ix38, Int.toNat_natCast]); rfl) ?_
      refine WL.qq (by simp only [EN, Nat.reduceEqDiff, reduceIte, qv_fieldAddr, fa57_0, Nat.zero_add, Nat.reduceAdd, strEq, hB1.cell]; rfl) ?_
      refine WL.qq (by simp only [EN, Nat.reduceEqDiff, reduceIte, k1_0, k2_0, k3_0, i8_0, strEq, hB1.cell, qv_load, ld9, Int.toNat_natCast, Nat.add_zero, hc0]; rfl) ?_
      refine WL.qq (by simp only [EN, Nat.reduceEqDiff, reduceIte, qv_move, k1_0, strEq, hB1.cell]; rfl) ?_
      refine WL.qq (by simp only [EN, Nat.reduceEqDiff, reduceIte, qv_binOp, binv_eql, eq9, Option.map_some, strEq, hB1.cell]; rfl) ?_
      refine WL.qq (by simp only [EN, Nat.reduceEqDiff, reduceIte, qv_move, strEq, hB1.cell]; rfl) ?_
      refine WL.cq (gd_at (t := 24) rfl (by simp only [EN, Nat.reduceEqDiff, reduceIte, k3_0, strEq, hB1.cell] <;> rfl)) (fun hg4_9 => by simp only [EN, Nat.reduceEqDiff, reduceIte, qv_fieldAddr, fa41_0, Nat.zero_add, Nat.reduceAdd, k3_0, strEq, hB1.cell, hg4_9, GR]; rfl) ?_
      refine WL.cq (gd_at (t := 24) rfl (by simp only [EN, Nat.reduceEqDiff, reduceIte, strEq, hB1.cell] <;> rfl)) (fun hg4_10 => by simp only [EN, Nat.reduceEqDiff, reduceIte, qv_load, ld38, readN, AR, Nat.zero_add, Nat.reduceAdd, strEq, hB1.cell, hg4_10, GR]; rfl) ?_
      refine WL.cq (gd_at (t := 24) rfl (by simp only [EN, Nat.reduceEqDiff, reduceIte, i8_0, strEq, hB1.cell] <;> rfl)) (fun hg4_11 => by simp only [EN, Nat.reduceEqDiff, reduceIte, qv_move, i8_0, strEq, hB1.cell, hg4_11, GR]; rfl) ?_
      refine WL.cq (gd_at (t := 24) rfl (by simp only [EN, Nat.reduceEqDiff, reduceIte, strEq, hB1.cell] <;> rfl)) (fun hg4_12 => by have hq0 := hg4_12; (try simp only [BD] at hq0); simp only [EN, Nat.reduceEqDiff, reduceIte, qv_indexAddr, strEq, hB1.cell, hg4_12, GR]; (try simp (disch := omega) only [ix38, Int.toNat_natCast]); rfl) ?_
      refine WL.cq (gd_at (t := 24) rfl (by simp only [EN, Nat.reduceEqDiff, reduceIte, strEq, hB1.cell] <;> rfl)) (fun hg4_13 => by simp only [EN, Nat.reduceEqDiff, reduceIte, qv_fieldAddr, fa57_1, Nat.zero_add, Nat.reduceAdd, strEq, hB1.cell, hg4_13, GR]; rfl) ?_
      refine WL.cq (gd_at (t := 24) rfl (by simp only [EN, Nat.reduceEqDiff, reduceIte, strEq, hB1.cell] <;> rfl)) (fun hg4_14 => by simp only [EN, Nat.reduceEqDiff, reduceIte, k1_0, k2_0, k3_0, i8_0, strEq, hB1.cell, GR, hg4_14, qv_load, ld9, Int.toNat_natCast, hc1]; rfl) ?_
      refine WL.cq (gd_at (t := 24) rfl (by simp only [EN, Nat.reduceEqDiff, reduceIte, k2_0, strEq, hB1.cell] <;> rfl)) (fun hg4_15 => by simp only [EN, Nat.reduceEqDiff, reduceIte, qv_move, k2_0, strEq, hB1.cell, hg4_15, GR]; rfl) ?_
      refine WL.cq (gd_at (t := 24) rfl (by simp only [EN, Nat.reduceEqDiff, reduceIte, strEq, hB1.cell] <;> rfl)) (fun hg4_16 => by simp only [EN, Nat.reduceEqDiff, reduceIte, qv_binOp, binv_eql, eq9, Option.map_some, strEq, hB1.cell, hg4_16, GR]; rfl) ?_
      refine WL.qq (by simp only [EN, Nat.reduceEqDiff, reduceIte, qv_pick, pk_and, pk_or, GR, strEq, hB1.cell]; rfl) ?_
      refine WL.nil ?_
      refine th_norm ?_
      refine hx_cond (by simp only [EN, Nat.reduceEqDiff, reduceIte, strEq, hB1.cell]; rfl) (fun hct33 => ?_) (fun hct33 => ?_)
      ·
        try simp only [BD] at hct33
        refine hx_seq ?_
        refine hx_region ?_
        refine WL.qq (by simp only [EN, Nat.reduceEqDiff, reduceIte, qv_fieldAddr, fa41_0, Nat.zero_add, Nat.reduceAdd, k3_0, strEq, hB1.cell]; rfl) ?_
        refine WL.qq (by simp only [EN, Nat.reduceEqDiff, reduceIte, qv_load, ld38, readN, AR, Nat.zero_add, Nat.reduceAdd, strEq, hB1.cell]; rfl) ?_
        refine WL.qq (by simp only [EN, Nat.reduceEqDiff, reduceIte, qv_move, i8_0, strEq, hB1.cell]; rfl) ?_
        refine WL.qq (by simp only [EN, Nat.reduceEqDiff, reduceIte, qv_indexAddr, strEq, hB1.cell]; (try simp (disch := omega) only [ix38, Int.toNat_natCast]); rfl) ?_
        refine WL.qq (by simp only [EN, Nat.reduceEqDiff, reduceIte, qv_fieldAddr, fa57_2, Nat.zero_add, Nat.reduceAdd, strEq, hB1.cell]; rfl) ?_
        refine WL.qq (by simp only [EN, Nat.reduceEqDiff, reduceIte, k1_0, k2_0, k3_0, i8_0, strEq, hB1.cell, qv_load, ld2, Int.toNat_natCast, hc2]; rfl) ?_
        refine WL.qq (by simp only [EN, Nat.reduceEqDiff, reduceIte, qv_assign, strEq, hB1.cell]; rfl) ?_
        refine WL.qq (by simp only [EN, Nat.reduceEqDiff, reduceIte, qv_assign, strEq, hB1.cell]; rfl) ?_
        refine WL.nil ?_
        refine th_norm ?_
        refine hx_ret ?_
        refine bl_ret ?_
        refine th_ret ?_
        refine th_ret ?_
        refine bl_ret ?_
        refine th_ret ?_
        refine fin_ret [.tmp 6, .tmp 7] rfl rfl (by simp only [EN, Nat.reduceEqDiff, reduceIte, resv, k1_0, k2_0, k3_0, i8_0, strEq, hB1.cell]; rfl) ?_  -- ret 0 r5
        have hk : x.1 = q := (by rw [pk_eq]; simpa using hct33)
        have hl := lookup_mem hn (x := q) (v := x.2) (by rw [← hk]; exact List.mem_of_getElem? hx)
        exact ⟨by rw [lk, hl]; rfl, ((hx1).trans (hX0))⟩
      ·
        try simp only [BD] at hct33
        refine hx_skip ?_
        refine bl_norm ?_
        refine th_norm ?_
        refine hx_region ?_
        refine WL.qq (by simp only [EN, Nat.reduceEqDiff, reduceIte, qv_move, i8_0, strEq, hB1.cell]; rfl) ?_
        refine WL.qq (by simp only [EN, Nat.reduceEqDiff, reduceIte, qv_binOp, binv_add, strEq, hB1.cell]; (try simp (disch := omega) only [w64, w8, wu64]); rfl) ?_
        refine WL.qq (by simp only [EN, Nat.reduceEqDiff, reduceIte, qv_assign, strEq, hB1.cell]; rfl) ?_
        refine WL.nil ?_
        refine th_norm ?_
        refine ⟨rfl, ?_, ?_, _, ?_, i + 1, rfl, ?_, ?_, ?_⟩  -- again 0 of loop 0
        · exact Ext.refl _
        · (repeat (first | exact Fr.refl _ _ | refine Fr.set rfl ?_ | refine Fr.put rfl ?_ | with_reducible refine Fr.put0 ?_))
        · omega
        · omega
        · exact all_take (p := fun y : L2 => y.1 ≠ q) hno hx (fun hh => by rw [hh] at hct33; simp at hct33)
        · simp only [EN, Nat.reduceEqDiff, reduceIte, k1_0, k2_0, k3_0, i8_0, strEq, hB1.cell] <;> first | rfl | (congr 1; omega)
    ·
      try simp only [BD] at hct13
      refine hx_exit ?_
      refine th_exit ?_
      refine th_exit ?_
      refine bl_hit ?_
      refine th_norm ?_
      refine hx_seq ?_
      refine hx_region ?_
      refine WL.qq (by simp only [EN, Nat.reduceEqDiff, reduceIte, qv_assign, strEq, hB1.cell]; rfl) ?_
      refine WL.qq (by simp only [EN, Nat.reduceEqDiff, reduceIte, qv_assign, strEq, hB1.cell]; rfl) ?_
      refine WL.nil ?_
      refine th_norm ?_
      refine hx_ret ?_
      refine fin_ret [.tmp 6, .tmp 7] rfl rfl (by simp only [EN, Nat.reduceEqDiff, reduceIte, resv, k1_0, k2_0, k3_0, i8_0, strEq, hB1.cell]; rfl) ?_  -- ret 1 r6
      have hnn := lookup_no (all_end (p := fun y : L2 => y.1 ≠ q) hno (by omega))
      exact ⟨by rw [lk, hnn]; rfl, ((hx1).trans (hX0))⟩
/-! Sets of strings. -/
def addL (l : List ByteArray) (s : ByteArray) : List ByteArray := if s ∈ l then l else l ++ [s]
theorem mem_addL {l : List ByteArray} {s a : ByteArray} : a ∈ addL l s ↔ a ∈ l ∨ a = s := by
  unfold addL
  split
  · rename_i hs
    exact ⟨.inl, fun hh => hh.elim id (fun h2 => h2 ▸ hs)⟩
  · simp
theorem addL_nd {l : List ByteArray} {s : ByteArray} (hn : l.Nodup) : (addL l s).Nodup := by
  unfold addL
  split
  · exact hn
  · rename_i hs
    rw [List.nodup_append]
    exact ⟨hn, by simp, by intro a ha b hb hab; simp at hb; subst hb; subst hab; exact hs ha⟩
theorem addL_len {l : List ByteArray} {s : ByteArray} : (addL l s).length ≤ l.length + 1 := by
  unfold addL; split <;> simp
abbrev strL (s : ByteArray) : List Value := [.string s]
theorem c_rAdd {base n : Nat} {v : Value} (l : List ByteArray) (s : ByteArray) (hlen : l.length ≤ 1000000) (hn : n = l.length) (hbs : base ≤ h.size) (ho : Own h base 9 1 v n (l.flatMap strL)) :
    HCalls Try.prog 65 #[v, .string s] h fun v' h' => Own h' base 9 1 v' (addL l s).length ((addL l s).flatMap strL) ∧ Gr h h' v.ownBlock := by
  obtain ⟨a, cap, rfl, _, hs, _⟩ := Own.slG (f := strL) (sz := 1) (fun _ => rfl) ho hn
  refine hcalls2 Try.func65 rfl (by decide +kernel) (by simp only [Try.ntmps65]; exact of_decide_eq_true rfl) ?_
  intro e hin
  have e0 := hin 0 _ rfl
  have e1 := hin 1 _ rfl
  refine hx_seq ?_
  refine hx_region ?_
  refine WL.qq (by simp only [EN, Nat.reduceEqDiff, reduceIte, qv_assign, strEq]; rfl) ?_
  refine WL.nil ?_
  refine th_norm ?_
  refine hx_seq ?_
  refine hx_seq ?_
  refine hx_region ?_
  refine WL.qq (by simp only [EN, Nat.reduceEqDiff, reduceIte, qv_assign, strEq]; rfl) ?_
  refine WL.nil ?_
  refine th_norm ?_
  refine hx_block ?_
  refine hx_loopS [4, 5, 6, 7, 8, 9, 10, 11, 12, 13, 14, 15, 16, 17, 18] (fun k e => ∃ (i : Nat), l.length - i = k ∧ (i ≤ l.length) ∧ (∀ y ∈ l.take i, y ≠ s) ∧ e 5 = .int .i64 i) _ ⟨0, rfl, ?_, ?_, ?_⟩ ?_
  · omega
  · simp
  · simp only [EN, Nat.reduceEqDiff, reduceIte, e0, e1, strEq] <;> rfl
  ·
    rintro k e0L hfr0 ⟨i, rfl, hi, hno, i5_0⟩
    have k0_0 := hfr0 0 rfl; try simp only [EN, Nat.reduceEqDiff, reduceIte, e0, strEq] at k0_0
    have k1_0 := hfr0 1 rfl; try simp only [EN, Nat.reduceEqDiff, reduceIte, e1, strEq] at k1_0
    refine hx_seq ?_
    refine hx_seq ?_
    refine hx_region ?_
    refine WL.qq (by simp only [EN, Nat.reduceEqDiff, reduceIte, qv_move, i5_0, strEq]; rfl) ?_
    refine WL.qq (by simp only [EN, Nat.reduceEqDiff, reduceIte, qv_move, k0_0, strEq]; rfl) ?_
    refine WL.qq (by simp only [EN, Nat.reduceEqDiff, reduceIte, qv_len, ln37, AR, strEq]; rfl) ?_
    refine WL.qq (by simp only [EN, Nat.reduceEqDiff, reduceIte, qv_binOp, binv_lss, strEq]; rfl) ?_
    refine WL.nil ?_
    refine th_norm ?_
    refine hx_cond (by simp only [EN, Nat.reduceEqDiff, reduceIte, strEq]; rfl) (fun hct9 => ?_) (fun hct9 => ?_)
    ·
      try simp only [BD] at hct9
      obtain ⟨x, hx⟩ := atG (l := l) (i := i) (by omega)
      obtain ⟨bb, off, rfl, hr0⟩ := hs i x hx
      have hc0 := readN_cell hr0 0 _ rfl
      rw [Nat.add_zero, Nat.mul_one] at hc0
      refine hx_skip ?_
      refine th_norm ?_
      refine hx_seq ?_
      refine hx_block ?_
      refine hx_seq ?_
      refine hx_region ?_
      refine WL.qq (by simp only [EN, Nat.reduceEqDiff, reduceIte, qv_move, k0_0, strEq]; rfl) ?_
      refine WL.qq (by simp only [EN, Nat.reduceEqDiff, reduceIte, qv_move, i5_0, strEq]; rfl) ?_
      refine WL.qq (by simp only [EN, Nat.reduceEqDiff, reduceIte, qv_indexAddr, strEq]; (try simp (disch := omega) only [ix37, Int.toNat_natCast]); rfl) ?_
      refine WL.qq (by simp only [EN, Nat.reduceEqDiff, reduceIte, k0_0, k1_0, i5_0, strEq, qv_load, ld9, Int.toNat_natCast, hc0]; rfl) ?_
      refine WL.qq (by simp only [EN, Nat.reduceEqDiff, reduceIte, qv_move, k1_0, strEq]; rfl) ?_
      refine WL.qq (by simp only [EN, Nat.reduceEqDiff, reduceIte, qv_binOp, binv_eql, eq9, Option.map_some, strEq]; rfl) ?_
      refine WL.nil ?_
      refine th_norm ?_
      refine hx_cond (by simp only [EN, Nat.reduceEqDiff, reduceIte, strEq]; rfl) (fun hct17 => ?_) (fun hct17 => ?_)
      ·
        try simp only [BD] at hct17
        refine hx_seq ?_
        refine hx_region ?_
        refine WL.qq (by simp only [EN, Nat.reduceEqDiff, reduceIte, qv_move, k0_0, strEq]; rfl) ?_
        refine WL.qq (by simp only [EN, Nat.reduceEqDiff, reduceIte, qv_assign, strEq]; rfl) ?_
        refine WL.nil ?_
        refine th_norm ?_
        refine hx_ret ?_
        refine bl_ret ?_
        refine th_ret ?_
        refine th_ret ?_
        refine bl_ret ?_
        refine th_ret ?_
        refine fin_ret [.tmp 4] rfl rfl (by simp only [EN, Nat.reduceEqDiff, reduceIte, resv, k0_0, k1_0, i5_0, strEq]; rfl) ?_  -- ret 0 r5
        have hk : s ∈ l := (by have h9 : x = s := (by simpa using hct17); rw [← h9]; exact List.mem_of_getElem? hx)
        exact ⟨by rw [addL, if_pos hk]; subst hn; exact ho, Gr.refl _ _⟩
      ·
        try simp only [BD] at hct17
        refine hx_skip ?_
        refine bl_norm ?_
        refine th_norm ?_
        refine hx_region ?_
        refine WL.qq (by simp only [EN, Nat.reduceEqDiff, reduceIte, qv_move, i5_0, strEq]; rfl) ?_
        refine WL.qq (by simp only [EN, Nat.reduceEqDiff, reduceIte, qv_binOp, binv_add, strEq]; (try simp (disch := omega) only [w64, w8, wu64]); rfl) ?_
        refine WL.qq (by simp only [EN, Nat.reduceEqDiff, reduceIte, qv_assign, strEq]; rfl) ?_
        refine WL.nil ?_
        refine th_norm ?_
        refine ⟨rfl, rfl, ?_, _, ?_, i + 1, rfl, ?_, ?_, ?_⟩  -- again 0 of loop 0
        · (repeat (first | exact Fr.refl _ _ | refine Fr.set rfl ?_ | refine Fr.put rfl ?_ | with_reducible refine Fr.put0 ?_))
        · omega
        · omega
        · exact all_take (p := fun y => y ≠ s) hno hx (by simpa using hct17)
        · simp only [EN, Nat.reduceEqDiff, reduceIte, k0_0, k1_0, i5_0, strEq] <;> first | rfl | (congr 1; omega)
    ·
      try simp only [BD] at hct9
      have hk : s ∉ l := fun hh => all_end (p := fun y => y ≠ s) hno (by omega) s hh rfl
      refine hx_exit ?_
      refine th_exit ?_
      refine th_exit ?_
      refine bl_hit ?_
      refine th_norm ?_
      refine hx_seq ?_
      refine hx_region ?_
      refine WL.qq (by simp only [EN, Nat.reduceEqDiff, reduceIte, qv_move, k0_0, strEq]; rfl) ?_
      refine WL.qq (by simp only [EN, Nat.reduceEqDiff, reduceIte, qv_move, k1_0, strEq]; rfl) ?_
      subst hn
      refine WL.push (bytes := 16) Try.underlying37 (inf_of Try.type9) rfl rfl rfl rfl (by decide) (by decide) sz9 zr9 (fun u => by simp only [EN, Nat.reduceEqDiff, reduceIte, k0_0, k1_0, i5_0, strEq]) ho (by simp only [EN, Nat.reduceEqDiff, reduceIte, k0_0, k1_0, i5_0, strEq, Value.cells]; rfl) rfl (by simp [Value.oneCell']) (by simp only [maxLen]; omega) (by omega) hbs ?_
      intro h40 v40 B40 ho40 hg40 hp40 hn40
      skip
      refine WL.qq (by simp only [EN, Nat.reduceEqDiff, reduceIte, qv_assign, strEq]; rfl) ?_
      refine WL.nil ?_
      refine th_norm ?_
      refine hx_ret ?_
      refine fin_ret [.tmp 4] rfl rfl (by simp only [EN, Nat.reduceEqDiff, reduceIte, resv, k0_0, k1_0, i5_0, strEq]; rfl) ?_  -- ret 1 r6
      exact ⟨by rw [addL, if_neg hk, List.length_append, List.flatMap_append]; exact ho40, hg40⟩
/-! The number of members. -/
def flM (F : List L2) (x : L2) : List ByteArray := if netR F x.1.f x.1.t = 0 then [] else [x.1.f, x.1.t]
def cntR (Ls F : List L2) : Nat := (nub (ments Ls ++ F.flatMap (flM F))).length
theorem ments_take {Ls : List L2} {i : Nat} {x : L2} {a : ByteArray} (hx : Ls[i]? = some x) : a ∈ ments (Ls.take (i + 1)) ↔ a ∈ ments (Ls.take i) ∨ a ∈ ment x := by
  unfold ments
  rw [List.take_add_one, hx, List.flatMap_append, List.mem_append]
  simp
theorem flM_take {F : List L2} {i : Nat} {x : L2} {a : ByteArray} (hx : F[i]? = some x) : a ∈ (F.take (i + 1)).flatMap (flM F) ↔ a ∈ (F.take i).flatMap (flM F) ∨ a ∈ flM F x := by
  rw [List.take_add_one, hx, List.flatMap_append, List.mem_append]
  simp
end
end GL


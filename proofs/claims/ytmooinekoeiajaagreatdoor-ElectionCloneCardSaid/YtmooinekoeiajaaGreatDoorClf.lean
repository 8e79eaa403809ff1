/- Part 6 of the texts of one law: what it needs of the logic of heaps, of the walks, of the plain facts. -/
import Derived.Test.YtmooinekoeiajaaGreatDoorCle
set_option linter.unusedSimpArgs false
set_option linter.unusedVariables false
set_option linter.unnecessarySimpa false
namespace GL
open Go Go.Proofs
set_option maxRecDepth 8000
abbrev kA : ByteArray := ⟨#[65]⟩
abbrev kB : ByteArray := ⟨#[66]⟩
abbrev kC : ByteArray := ⟨#[67]⟩
abbrev kCash : ByteArray := ⟨#[67, 65, 83, 72]⟩
abbrev kShare : ByteArray := ⟨#[83, 72, 65, 82, 69]⟩
def kL : List SI := [⟨kA, 10⟩, ⟨kB, 5⟩, ⟨kC, 5⟩]
def kO : List SI := [⟨kCash, 6⟩, ⟨kShare, 0⟩]
def kE0 : EL := newE kL kO kShare 9 0
def kE1 : EL := chsE kE0 kA kCash 8
def kE2 : EL := chsE kE1 kB kCash 5
def kR : List RR := [⟨kA, kCash, 8, 4⟩, ⟨kA, kShare, 2, 6⟩, ⟨kB, kCash, 5, 2⟩, ⟨kB, kShare, 0, 3⟩, ⟨kC, kShare, 5, 5⟩]
theorem kn : erN kL kO kShare 9 0 = 0 := by decide +kernel
theorem kc1 : chX kE0 kA kCash 8 0 0 = 0 := by decide +kernel
theorem kc2 : chX kE1 kB kCash 5 9 0 = 0 := by decide +kernel
theorem kz : clX kE2 9 1 = 0 := by decide +kernel
theorem kr : resE kE2 = kR := by decide +kernel
theorem kg0 : GoodE kE0 := new_good kn
theorem kg1 : GoodE kE1 := good_choose kg0 kc1
theorem kg2 : GoodE kE2 := good_choose kg1 kc2
theorem kh : kE2.hs.length ≤ 40 := by decide +kernel
theorem c_newK (a a' : Option Addr) {h : Heap} (hs : SlG 2 siL h a kL) (ho : SlG 2 siL h a' kO) (hn : a' ≠ none) :
    HCalls Tryz.prog 29 #[.slice a 3 3, .slice a' 2 2, .string kShare, .agg #[iV 9, iV 0]] h fun v h' => Ext h h' ∧ ∃ p b vh vo, v = .tuple #[.pointer (some ⟨p, 0, none⟩), iV 0] ∧ IsE h' h.size p b vh vo kE0 := by
  refine (c_new a kL 3 a' kO 2 kShare 9 0 (by decide) (by decide) (by decide) (by decide) (fun hh => absurd hh hn) hs ho).mono ?_
  rintro v h' ⟨hx, (⟨he, _⟩ | ⟨_, p, b, vh, vo, rfl, hE⟩)⟩
  · exact absurd kn he
  · exact ⟨hx, p, b, vh, vo, rfl, hE⟩
set_option maxHeartbeats 4000000 in
theorem c_known44 (h : Heap) : HCalls Tryz.prog 10 #[] h (Grow (.bool true) h) := by
  refine hcalls2 Tryz.func10 rfl (by decide +kernel) (by simp only [Tryz.ntmps10]; exact of_decide_eq_true rfl) ?_
  intro e hin
  refine hx_seq (hx_region ?_)
  refine WL.qq (by simp only [EN, Nat.reduceEqDiff, reduceIte, qv_assign, decide_true, Bool.not_true, Bool.not_false, decide_false, eq_self, strEq]; rfl) ?_
  refine WL.nil (th_norm (hx_seq (hx_region ?_)))
  refine WL.qq (by refine qv_bld (by simp only [EN, Nat.reduceEqDiff, reduceIte, AR, decide_true, Bool.not_true, Bool.not_false, decide_false, eq_self, strEq] <;> rfl) (by rw [bl78]; simp [Instr.fill, Value.cells]; rfl)) ?_
  refine WL.qq (by refine qv_bld (by simp only [EN, Nat.reduceEqDiff, reduceIte, AR, decide_true, Bool.not_true, Bool.not_false, decide_false, eq_self, strEq] <;> rfl) (by rw [bl78]; simp [Instr.fill, Value.cells]; rfl)) ?_
  refine WL.qq (by refine qv_bld (by simp only [EN, Nat.reduceEqDiff, reduceIte, AR, decide_true, Bool.not_true, Bool.not_false, decide_false, eq_self, strEq] <;> rfl) (by rw [bl78]; simp [Instr.fill, Value.cells]; rfl)) ?_
  refine WL.lit2 #[(.string ⟨#[]⟩), (.int .i64 0), (.string ⟨#[]⟩), (.int .i64 0), (.string ⟨#[]⟩), (.int .i64 0)] Tryz.underlying79 sz78 zr78 (by decide) (by kernel_rfl) ⟨_, (by simp only [EN, Nat.reduceEqDiff, reduceIte, AR, decide_true, Bool.not_true, Bool.not_false, decide_false, eq_self, strEq]; simp [Instr.fill, Value.cells]; rfl), rfl⟩ ?_
  intro h1 B1 hx1 hlt1 hB1
  refine WL.qq (by refine qv_bld (by simp only [EN, Nat.reduceEqDiff, reduceIte, AR, decide_true, Bool.not_true, Bool.not_false, decide_false, eq_self, strEq, hB1.cell] <;> rfl) (by rw [bl80]; simp [Instr.fill, Value.cells]; rfl)) ?_
  refine WL.qq (by refine qv_bld (by simp only [EN, Nat.reduceEqDiff, reduceIte, AR, decide_true, Bool.not_true, Bool.not_false, decide_false, eq_self, strEq, hB1.cell] <;> rfl) (by rw [bl80]; simp [Instr.fill, Value.cells]; rfl)) ?_
  refine WL.lit2 #[(.string ⟨#[]⟩), (.int .i64 0), (.string ⟨#[]⟩), (.int .i64 0)] Tryz.underlying81 sz80 zr80 (by decide) (by kernel_rfl) ⟨_, (by simp only [EN, Nat.reduceEqDiff, reduceIte, AR, decide_true, Bool.not_true, Bool.not_false, decide_false, eq_self, strEq, hB1.cell]; simp [Instr.fill, Value.cells]; rfl), rfl⟩ ?_
  intro h2 B2 hx2 hlt2 hB2
  replace hB1 := hB1.ext hx2
  refine WL.qq (by refine qv_bld (by simp only [EN, Nat.reduceEqDiff, reduceIte, AR, decide_true, Bool.not_true, Bool.not_false, decide_false, eq_self, strEq, hB1.cell, hB2.cell] <;> rfl) (by rw [bl49]; simp [Instr.fill, Value.cells]; rfl)) ?_
  refine WL.ce Tryz.call29 (by simp only [EN, Nat.reduceEqDiff, reduceIte, AR, decide_true, Bool.not_true, Bool.not_false, decide_false, eq_self, strEq, hB1.cell, hB2.cell]; exact c_newK (some ⟨B1, 0, none⟩) (some ⟨B2, 0, none⟩) (slG_has (f := siL) (sz := 2) (fun _ => rfl) hB1 rfl) (slG_has (f := siL) (sz := 2) (fun _ => rfl) hB2 rfl) (by simp)) ?_
  rintro _ h3 ⟨hx3, p, b, vh, vo, rfl, hE⟩
  replace hB1 := hB1.ext hx3
  replace hB2 := hB2.ext hx3
  simp only [put_some]
  have hX3 := ((hx1).trans ((hx2).trans (hx3)))
  have hb3 := hE.map.lt
  have hzz := Ext.size (hx1.trans hx2)
  replace hE := hE.lower hzz
  have hlo := hE.lo
  iterate 5 refine WL.qq (by simp only [EN, Nat.reduceEqDiff, reduceIte, qv_move, decide_true, Bool.not_true, Bool.not_false, decide_false, eq_self, strEq, hB1.cell, hB2.cell, qv_extract, AR, qv_assign]; rfl) ?_
  refine WL.nil (th_norm (hx_seq (hx_seq (hx_region ?_))))
  iterate 3 refine WL.qq (by simp only [EN, Nat.reduceEqDiff, reduceIte, qv_move, decide_true, Bool.not_true, Bool.not_false, decide_false, eq_self, strEq, hB1.cell, hB2.cell, qv_binOp, binv_neq, eq46, Option.map_some]; rfl) ?_
  refine WL.on (by rw [gOk_s (gd_at (t := 19) rfl (by simp only [EN, Nat.reduceEqDiff, reduceIte, decide_true, Bool.not_true, Bool.not_false, decide_false, eq_self, strEq, hB1.cell, hB2.cell] <;> rfl))]; rfl) ?_
  refine WL.qq (by simp only [EN, Nat.reduceEqDiff, reduceIte, qv_move, decide_true, Bool.not_true, Bool.not_false, decide_false, eq_self, strEq, hB1.cell, hB2.cell]; rfl) ?_
  refine WL.on (by rw [gOk_s (gd_at (t := 19) rfl (by simp only [EN, Nat.reduceEqDiff, reduceIte, decide_true, Bool.not_true, Bool.not_false, decide_false, eq_self, strEq, hB1.cell, hB2.cell] <;> rfl))]; rfl) ?_
  refine WL.qq (by refine qv_bld (by simp only [EN, Nat.reduceEqDiff, reduceIte, AR, decide_true, Bool.not_true, Bool.not_false, decide_false, eq_self, strEq, hB1.cell, hB2.cell] <;> rfl) (by rw [bl49]; simp [Instr.fill, Value.cells]; rfl)) ?_
  refine WL.on (by rw [gOk_s (gd_at (t := 19) rfl (by simp only [EN, Nat.reduceEqDiff, reduceIte, decide_true, Bool.not_true, Bool.not_false, decide_false, eq_self, strEq, hB1.cell, hB2.cell] <;> rfl))]; rfl) ?_
  refine WL.ce Tryz.call18 (by simp only [EN, Nat.reduceEqDiff, reduceIte, AR, decide_true, Bool.not_true, Bool.not_false, decide_false, eq_self, strEq, hB1.cell, hB2.cell]; exact c_choose kg0.b kA kCash 8 0 0 hE kc1) ?_
  rintro _ h20 ⟨rfl, hG1, hE1⟩
  simp only [put_some]
  rw [if_pos rfl] at hE1
  have hE2 : IsE h20 h.size p b vh vo kE1 := hE1
  have hX20 : Ext h h20 := hG1.toExt hX3 (by simp; omega)
  refine WL.on (by rw [gOk_s (gd_at (t := 19) rfl (by simp only [EN, Nat.reduceEqDiff, reduceIte, decide_true, Bool.not_true, Bool.not_false, decide_false, eq_self, strEq, hB1.cell, hB2.cell] <;> rfl))]; rfl) ?_
  iterate 3 refine WL.qq (by simp only [EN, Nat.reduceEqDiff, reduceIte, qv_binOp, binv_neq, eq46, Option.map_some, decide_true, Bool.not_true, Bool.not_false, decide_false, eq_self, strEq, hB1.cell, hB2.cell, qv_pick, pk_and, pk_or, GR, qv_move]; rfl) ?_
  refine WL.on (by rw [gOk_s (gd_at (t := 25) rfl (by simp only [EN, Nat.reduceEqDiff, reduceIte, decide_true, Bool.not_true, Bool.not_false, decide_false, eq_self, strEq, hB1.cell, hB2.cell] <;> rfl))]; rfl) ?_
  refine WL.qq (by simp only [EN, Nat.reduceEqDiff, reduceIte, qv_move, decide_true, Bool.not_true, Bool.not_false, decide_false, eq_self, strEq, hB1.cell, hB2.cell]; rfl) ?_
  refine WL.on (by rw [gOk_s (gd_at (t := 25) rfl (by simp only [EN, Nat.reduceEqDiff, reduceIte, decide_true, Bool.not_true, Bool.not_false, decide_false, eq_self, strEq, hB1.cell, hB2.cell] <;> rfl))]; rfl) ?_
  refine WL.qq (by refine qv_bld (by simp only [EN, Nat.reduceEqDiff, reduceIte, AR, decide_true, Bool.not_true, Bool.not_false, decide_false, eq_self, strEq, hB1.cell, hB2.cell] <;> rfl) (by rw [bl49]; simp [Instr.fill, Value.cells]; rfl)) ?_
  refine WL.on (by rw [gOk_s (gd_at (t := 25) rfl (by simp only [EN, Nat.reduceEqDiff, reduceIte, decide_true, Bool.not_true, Bool.not_false, decide_false, eq_self, strEq, hB1.cell, hB2.cell] <;> rfl))]; rfl) ?_
  refine WL.ce Tryz.call18 (by simp only [EN, Nat.reduceEqDiff, reduceIte, AR, decide_true, Bool.not_true, Bool.not_false, decide_false, eq_self, strEq, hB1.cell, hB2.cell]; exact c_choose kg1.b kB kCash 5 9 0 hE2 kc2) ?_
  rintro _ h21 ⟨rfl, hG2, hE3⟩
  simp only [put_some]
  rw [if_pos rfl] at hE3
  have hE4 : IsE h21 h.size p b vh vo kE2 := hE3
  have hX21 : Ext h h21 := hG2.toExt hX20 (by simp; omega)
  have hb21 : b < h21.size := hE4.map.lt
  refine WL.on (by rw [gOk_s (gd_at (t := 25) rfl (by simp only [EN, Nat.reduceEqDiff, reduceIte, decide_true, Bool.not_true, Bool.not_false, decide_false, eq_self, strEq, hB1.cell, hB2.cell] <;> rfl))]; rfl) ?_
  iterate 2 refine WL.qq (by simp only [EN, Nat.reduceEqDiff, reduceIte, qv_binOp, binv_neq, eq46, Option.map_some, decide_true, Bool.not_true, Bool.not_false, decide_false, eq_self, strEq, hB1.cell, hB2.cell, qv_pick, pk_and, pk_or, GR]; rfl) ?_
  refine WL.nil (th_norm ?_)
  refine hx_cond (by simp only [EN, Nat.reduceEqDiff, reduceIte, decide_true, Bool.not_true, Bool.not_false, decide_false, eq_self, strEq, hB1.cell, hB2.cell]; rfl) (fun hct30 => ?_) (fun hct30 => ?_)
  ·
   simp at hct30
  ·
   try simp only [BD] at hct30
   refine hx_skip (th_norm (hx_seq (hx_region ?_)))
   refine WL.qq (by simp only [EN, Nat.reduceEqDiff, reduceIte, qv_move, decide_true, Bool.not_true, Bool.not_false, decide_false, eq_self, strEq, hB1.cell, hB2.cell]; rfl) ?_
   refine WL.qq (by refine qv_bld (by simp only [EN, Nat.reduceEqDiff, reduceIte, AR, decide_true, Bool.not_true, Bool.not_false, decide_false, eq_self, strEq, hB1.cell, hB2.cell] <;> rfl) (by rw [bl49]; simp [Instr.fill, Value.cells]; rfl)) ?_
   refine WL.ce Tryz.call17 (by simp only [EN, Nat.reduceEqDiff, reduceIte, AR, decide_true, Bool.not_true, Bool.not_false, decide_false, eq_self, strEq, hB1.cell, hB2.cell]; exact c_close (kg2.cl kh) 9 1 hE4 hb21 kz) ?_
   rintro _ h22 ⟨hGc, u, rfl, hE5, hu⟩
   simp only [put_some]
   rw [if_pos rfl, kr] at hu
   have hX22 : Ext h h22 := hGc.toExt hX21 (by simp; omega)
   obtain ⟨gu, cu, hue, _⟩ := hu.rd (i := 0) (by decide)
   rw [show kR.length = 5 from rfl] at hue
   subst hue
   have hsu := slG_own (f := rxL) (sz := 4) (fun _ => rfl) hu rfl
   obtain ⟨g0, q0, hg0, hr0⟩ := hsu 0 ⟨kA, kCash, 8, 4⟩ rfl
   cases hg0
   obtain ⟨g0, q0, hg0, hr3⟩ := hsu 3 ⟨kB, kShare, 0, 3⟩ rfl
   cases hg0
   obtain ⟨g0, q0, hg0, hr4⟩ := hsu 4 ⟨kC, kShare, 5, 5⟩ rfl
   cases hg0
   have hc43 := readN_cell hr4 3 _ rfl
   iterate 5 refine WL.qq (by simp only [EN, Nat.reduceEqDiff, reduceIte, qv_move, decide_true, Bool.not_true, Bool.not_false, decide_false, eq_self, strEq, hB1.cell, hB2.cell, qv_extract, AR, qv_assign]; rfl) ?_
   refine WL.nil (th_norm (hx_seq (hx_region ?_)))
   iterate 3 refine WL.qq (by simp only [EN, Nat.reduceEqDiff, reduceIte, qv_move, decide_true, Bool.not_true, Bool.not_false, decide_false, eq_self, strEq, hB1.cell, hB2.cell, qv_binOp, binv_eql, eq46, Option.map_some]; rfl) ?_
   refine WL.on (by rw [gOk_s (gd_at (t := 39) rfl (by simp only [EN, Nat.reduceEqDiff, reduceIte, decide_true, Bool.not_true, Bool.not_false, decide_false, eq_self, strEq, hB1.cell, hB2.cell] <;> rfl))]; rfl) ?_
   refine WL.qq (by simp only [EN, Nat.reduceEqDiff, reduceIte, qv_move, decide_true, Bool.not_true, Bool.not_false, decide_false, eq_self, strEq, hB1.cell, hB2.cell]; rfl) ?_
   refine WL.on (by rw [gOk_s (gd_at (t := 39) rfl (by simp only [EN, Nat.reduceEqDiff, reduceIte, decide_true, Bool.not_true, Bool.not_false, decide_false, eq_self, strEq, hB1.cell, hB2.cell] <;> rfl))]; rfl) ?_
   refine WL.qq (by simp only [EN, Nat.reduceEqDiff, reduceIte, qv_len, ln45, AR, decide_true, Bool.not_true, Bool.not_false, decide_false, eq_self, strEq, hB1.cell, hB2.cell]; rfl) ?_
   refine WL.on (by rw [gOk_s (gd_at (t := 39) rfl (by simp only [EN, Nat.reduceEqDiff, reduceIte, decide_true, Bool.not_true, Bool.not_false, decide_false, eq_self, strEq, hB1.cell, hB2.cell] <;> rfl))]; rfl) ?_
   iterate 3 refine WL.qq (by simp only [EN, Nat.reduceEqDiff, reduceIte, qv_binOp, binv_eql, eq3, Option.map_some, decide_true, Bool.not_true, Bool.not_false, decide_false, eq_self, strEq, hB1.cell, hB2.cell, qv_pick, pk_and, pk_or, GR, qv_move]; rfl) ?_
   refine WL.on (by rw [gOk_s (gd_at (t := 44) rfl (by simp only [EN, Nat.reduceEqDiff, reduceIte, decide_true, Bool.not_true, Bool.not_false, decide_false, eq_self, strEq, hB1.cell, hB2.cell] <;> rfl))]; rfl) ?_
   refine WL.qq (by simp only [EN, Nat.reduceEqDiff, reduceIte, qv_move, decide_true, Bool.not_true, Bool.not_false, decide_false, eq_self, strEq, hB1.cell, hB2.cell]; rfl) ?_
   refine WL.on (by rw [gOk_s (gd_at (t := 44) rfl (by simp only [EN, Nat.reduceEqDiff, reduceIte, decide_true, Bool.not_true, Bool.not_false, decide_false, eq_self, strEq, hB1.cell, hB2.cell] <;> rfl))]; rfl) ?_
   refine WL.qq (by simp only [EN, Nat.reduceEqDiff, reduceIte, qv_indexAddr, decide_true, Bool.not_true, Bool.not_false, decide_false, eq_self, strEq, hB1.cell, hB2.cell]; (try simp (disch := omega) only [ix45, Int.toNat_natCast]); rfl) ?_
   refine WL.on (by rw [gOk_s (gd_at (t := 44) rfl (by simp only [EN, Nat.reduceEqDiff, reduceIte, decide_true, Bool.not_true, Bool.not_false, decide_false, eq_self, strEq, hB1.cell, hB2.cell] <;> rfl))]; rfl) ?_
   refine WL.qq (by simp only [EN, Nat.reduceEqDiff, reduceIte, decide_true, Bool.not_true, Bool.not_false, decide_false, eq_self, strEq, hB1.cell, hB2.cell, qv_load, ld64, Int.reduceToNat, hr0]; rfl) ?_
   refine WL.on (by rw [gOk_s (gd_at (t := 44) rfl (by simp only [EN, Nat.reduceEqDiff, reduceIte, decide_true, Bool.not_true, Bool.not_false, decide_false, eq_self, strEq, hB1.cell, hB2.cell] <;> rfl))]; rfl) ?_
   refine WL.qq (by refine qv_bld (by simp only [EN, Nat.reduceEqDiff, reduceIte, AR, decide_true, Bool.not_true, Bool.not_false, decide_false, eq_self, strEq, hB1.cell, hB2.cell] <;> rfl) (by rw [bl64]; simp [Instr.fill, Value.cells]; rfl)) ?_
   refine WL.on (by rw [gOk_s (gd_at (t := 44) rfl (by simp only [EN, Nat.reduceEqDiff, reduceIte, decide_true, Bool.not_true, Bool.not_false, decide_false, eq_self, strEq, hB1.cell, hB2.cell] <;> rfl))]; rfl) ?_
   iterate 3 refine WL.qq (by simp only [EN, Nat.reduceEqDiff, reduceIte, qv_binOp, binv_eql, eqs64, Option.map_some, decide_true, Bool.not_true, Bool.not_false, decide_false, eq_self, strEq, hB1.cell, hB2.cell, qv_pick, pk_and, pk_or, GR, qv_move]; rfl) ?_
   refine WL.on (by rw [gOk_s (gd_at (t := 51) rfl (by simp only [EN, Nat.reduceEqDiff, reduceIte, decide_true, Bool.not_true, Bool.not_false, decide_false, eq_self, strEq, hB1.cell, hB2.cell] <;> rfl))]; rfl) ?_
   refine WL.qq (by simp only [EN, Nat.reduceEqDiff, reduceIte, qv_move, decide_true, Bool.not_true, Bool.not_false, decide_false, eq_self, strEq, hB1.cell, hB2.cell]; rfl) ?_
   refine WL.on (by rw [gOk_s (gd_at (t := 51) rfl (by simp only [EN, Nat.reduceEqDiff, reduceIte, decide_true, Bool.not_true, Bool.not_false, decide_false, eq_self, strEq, hB1.cell, hB2.cell] <;> rfl))]; rfl) ?_
   refine WL.qq (by simp only [EN, Nat.reduceEqDiff, reduceIte, qv_indexAddr, decide_true, Bool.not_true, Bool.not_false, decide_false, eq_self, strEq, hB1.cell, hB2.cell]; (try simp (disch := omega) only [ix45, Int.toNat_natCast]); rfl) ?_
   refine WL.on (by rw [gOk_s (gd_at (t := 51) rfl (by simp only [EN, Nat.reduceEqDiff, reduceIte, decide_true, Bool.not_true, Bool.not_false, decide_false, eq_self, strEq, hB1.cell, hB2.cell] <;> rfl))]; rfl) ?_
   refine WL.qq (by simp only [EN, Nat.reduceEqDiff, reduceIte, decide_true, Bool.not_true, Bool.not_false, decide_false, eq_self, strEq, hB1.cell, hB2.cell, qv_load, ld64, Int.reduceToNat, hr3]; rfl) ?_
   refine WL.on (by rw [gOk_s (gd_at (t := 51) rfl (by simp only [EN, Nat.reduceEqDiff, reduceIte, decide_true, Bool.not_true, Bool.not_false, decide_false, eq_self, strEq, hB1.cell, hB2.cell] <;> rfl))]; rfl) ?_
   refine WL.qq (by refine qv_bld (by simp only [EN, Nat.reduceEqDiff, reduceIte, AR, decide_true, Bool.not_true, Bool.not_false, decide_false, eq_self, strEq, hB1.cell, hB2.cell] <;> rfl) (by rw [bl64]; simp [Instr.fill, Value.cells]; rfl)) ?_
   refine WL.on (by rw [gOk_s (gd_at (t := 51) rfl (by simp only [EN, Nat.reduceEqDiff, reduceIte, decide_true, Bool.not_true, Bool.not_false, decide_false, eq_self, strEq, hB1.cell, hB2.cell] <;> rfl))]; rfl) ?_
   iterate 3 refine WL.qq (by simp only [EN, Nat.reduceEqDiff, reduceIte, qv_binOp, binv_eql, eqs64, Option.map_some, decide_true, Bool.not_true, Bool.not_false, decide_false, eq_self, strEq, hB1.cell, hB2.cell, qv_pick, pk_and, pk_or, GR, qv_move]; rfl) ?_
   refine WL.on (by rw [gOk_s (gd_at (t := 58) rfl (by simp only [EN, Nat.reduceEqDiff, reduceIte, decide_true, Bool.not_true, Bool.not_false, decide_false, eq_self, strEq, hB1.cell, hB2.cell] <;> rfl))]; rfl) ?_
   refine WL.qq (by simp only [EN, Nat.reduceEqDiff, reduceIte, qv_move, decide_true, Bool.not_true, Bool.not_false, decide_false, eq_self, strEq, hB1.cell, hB2.cell]; rfl) ?_
   refine WL.on (by rw [gOk_s (gd_at (t := 58) rfl (by simp only [EN, Nat.reduceEqDiff, reduceIte, decide_true, Bool.not_true, Bool.not_false, decide_false, eq_self, strEq, hB1.cell, hB2.cell] <;> rfl))]; rfl) ?_
   refine WL.qq (by simp only [EN, Nat.reduceEqDiff, reduceIte, qv_indexAddr, decide_true, Bool.not_true, Bool.not_false, decide_false, eq_self, strEq, hB1.cell, hB2.cell]; (try simp (disch := omega) only [ix45, Int.toNat_natCast]); rfl) ?_
   refine WL.on (by rw [gOk_s (gd_at (t := 58) rfl (by simp only [EN, Nat.reduceEqDiff, reduceIte, decide_true, Bool.not_true, Bool.not_false, decide_false, eq_self, strEq, hB1.cell, hB2.cell] <;> rfl))]; rfl) ?_
   refine WL.qq (by simp only [EN, Nat.reduceEqDiff, reduceIte, qv_fieldAddr, fa64_3, Nat.zero_add, Nat.reduceAdd, decide_true, Bool.not_true, Bool.not_false, decide_false, eq_self, strEq, hB1.cell, hB2.cell]; rfl) ?_
   refine WL.on (by rw [gOk_s (gd_at (t := 58) rfl (by simp only [EN, Nat.reduceEqDiff, reduceIte, decide_true, Bool.not_true, Bool.not_false, decide_false, eq_self, strEq, hB1.cell, hB2.cell] <;> rfl))]; rfl) ?_
   refine WL.qq (by simp only [EN, Nat.reduceEqDiff, reduceIte, decide_true, Bool.not_true, Bool.not_false, decide_false, eq_self, strEq, hB1.cell, hB2.cell, qv_load, ld2, Int.reduceToNat, hc43]; rfl) ?_
   refine WL.on (by rw [gOk_s (gd_at (t := 58) rfl (by simp only [EN, Nat.reduceEqDiff, reduceIte, decide_true, Bool.not_true, Bool.not_false, decide_false, eq_self, strEq, hB1.cell, hB2.cell] <;> rfl))]; rfl) ?_
   iterate 3 refine WL.qq (by simp only [EN, Nat.reduceEqDiff, reduceIte, qv_binOp, binv_eql, eq2, Option.map_some, decide_true, Bool.not_true, Bool.not_false, decide_false, eq_self, strEq, hB1.cell, hB2.cell, qv_pick, pk_and, pk_or, GR, qv_assign]; rfl) ?_
   refine WL.nil (th_norm (hx_ret ?_))
   refine fin_ret [.tmp 0] rfl rfl (by simp only [EN, Nat.reduceEqDiff, reduceIte, resv, decide_true, Bool.not_true, Bool.not_false, decide_false, eq_self, strEq, hB1.cell, hB2.cell]; rfl) ?_
   exact ⟨by simp [retOf], hX22⟩
end GL
namespace GL
open Go Go.Proofs
set_option maxRecDepth 8000
theorem RnV.ext {h h' : Heap} {N : Nat} {x : SX} {E : EL} {u w : Value} (hr : RnV h N x E u w) (hx : Ext h h') : RnV h' N x E u w :=
  hr.imp id fun ⟨h1, p, b, vh, vo, wh, wo, wc, h2, h3, h4, h5⟩ => ⟨h1, p, b, vh, vo, wh, wo, wc, h2, h3, h4.ext hx, h5.ext hx⟩
theorem RnV.shape {h : Heap} {N : Nat} {x : SX} {E : EL} {u w : Value} (hw : RnV h N x E u w) :
    ∃ (a0 : Option Addr) (n0 k0 : Nat) (a1 : Option Addr) (n1 k1 : Nat) (x2 x3 x4 : Int) (a5 : Option Addr) (n5 k5 : Nat) (b6 : Bool), w = .agg #[.slice a0 n0 k0, .slice a1 n1 k1, iV x2, iV x3, iV x4, .slice a5 n5 k5, .bool b6] := by
  rcases hw with ⟨_, _, rfl⟩ | ⟨_, p, b, vh, vo, wh, wo, wc, _, rfl, _, hI⟩
  · exact ⟨_, _, _, _, _, _, _, _, _, _, _, _, _, rfl⟩
  · obtain ⟨⟨a, c, rfl, _⟩, ⟨a', c', rfl, _⟩, ⟨a2, c2, r, rfl, _⟩⟩ := hI
    exact ⟨_, _, _, _, _, _, _, _, _, _, _, _, _, rfl⟩
theorem Own.own_ge {h : Heap} {base : Nat} {el : TypeId} {sz : Nat} {v : Value} {n : Nat} {xs : List Value} (ho : Own h base el sz v n xs) {c : Nat} (hc : v.ownBlock = some c) : base ≤ c := by
  rcases ho.2 with hn | ⟨g, cap, cur, rfl, hg, _⟩
  · rw [hn.1] at hc; cases hc
  · cases hc; exact hg
theorem IsE.off {h : Heap} {N p b p' b' : Nat} {vh vo : Value} {E : EL} (hE : IsE h N p b vh vo E) (hp : p' < N) (hb : b' < N) :
    p ∉ [p', b'] ∧ b ∉ [p', b'] ∧ (∀ c, vh.ownBlock = some c → c ∉ [p', b']) ∧ (∀ c, vo.ownBlock = some c → c ∉ [p', b']) := by
  have h1 := hE.lo
  have key : ∀ c, N ≤ c → c ∉ [p', b'] := fun c hc hm => by simp at hm; omega
  exact ⟨key _ h1.1, key _ h1.2, fun c hc => key c (hE.oh.own_ge hc), fun c hc => key c (hE.oo.own_ge hc)⟩
section
variable {h : Heap} {N p b N' p' b' : Nat} {vh vo vc vh' vo' vc' : Value} {E F : EL}
theorem c_sameG (g : GoodE E) (g' : GoodE F) (hI : RI h vh vo vc E) (hJ : RI h vh' vo' vc' F) :
    HCalls Tryz.prog 15 #[reV vh vo vc E, reV vh' vo' vc' F] h (Grow (.bool (decide (eqE E F))) h) := by
  refine (c_rSame g g' hI hJ).mono ?_
  rintro v h' ⟨hx, r, rfl, hr⟩
  have h1 : r = decide (eqE E F) := by rw [Bool.eq_iff_iff, decide_eq_true_iff, hr]; exact (eq_sam g g').symm
  exact ⟨by rw [h1], hx⟩
theorem c_equalS (g : GoodE E) (hE : IsE h N p b vh vo E) (hF : IsE h N' p' b' vh' vo' E) :
    HCalls Tryz.prog 14 #[.pointer (some ⟨p, 0, none⟩), .pointer (some ⟨p', 0, none⟩)] h (Grow (.bool true) h) := by
  have h1 := c_equal g.b hE hF
  rwa [decide_eq_true ((eq_sam g g).2 (sam_refl E))] at h1
theorem c_equalN (p : Nat) (h : Heap) : HCalls Tryz.prog 14 #[.pointer (some ⟨p, 0, none⟩), .pointer none] h (Grow (.bool false) h) := by
  refine hcalls2 Tryz.func14 rfl (by decide +kernel) (by simp only [Tryz.ntmps14]; exact of_decide_eq_true rfl) ?_
  intro e hin
  have e0 := hin 0 _ rfl
  have e1 := hin 1 _ rfl
  refine hx_seq (hx_region ?_)
  refine WL.qq (by simp only [EN, Nat.reduceEqDiff, reduceIte, qv_assign]; rfl) ?_
  refine WL.nil (th_norm (hx_seq (hx_seq (hx_region ?_))))
  iterate 3 refine WL.qq (by simp only [EN, Nat.reduceEqDiff, reduceIte, qv_move, e0, qv_binOp, binv_eql, eqz31, eqn31, eqm31, Option.map_some]; rfl) ?_
  refine WL.cq (gd_at (t := 7) rfl (by simp only [EN, Nat.reduceEqDiff, reduceIte, e1] <;> rfl)) (fun hg1_3 => by simp only [EN, Nat.reduceEqDiff, reduceIte, qv_move, e1, hg1_3, GR]; rfl) ?_
  refine WL.cq (gd_at (t := 7) rfl (by simp only [EN, Nat.reduceEqDiff, reduceIte] <;> rfl)) (fun hg1_4 => by simp only [EN, Nat.reduceEqDiff, reduceIte, qv_binOp, binv_eql, eqz31, eqn31, eqm31, Option.map_some, hg1_4, GR]; rfl) ?_
  refine WL.qq (by simp only [EN, Nat.reduceEqDiff, reduceIte, qv_pick, pk_and, pk_or, GR]; rfl) ?_
  refine WL.nil (th_norm ?_)
  refine hx_cond (by simp only [EN, Nat.reduceEqDiff, reduceIte]; rfl) (fun hct10 => ?_) (fun hct10 => ?_)
  ·
   try simp only [BD] at hct10
   refine hx_seq (hx_region ?_)
   iterate 4 refine WL.qq (by simp only [EN, Nat.reduceEqDiff, reduceIte, qv_move, e0, e1, qv_binOp, binv_eql, eqz31, eqn31, eqm31, Option.map_some, qv_assign]; rfl) ?_
   refine WL.nil (th_norm (hx_ret (th_ret ?_)))
   refine fin_ret [.tmp 4] rfl rfl (by simp only [EN, Nat.reduceEqDiff, reduceIte, resv, e0, e1]; rfl) ?_
   exact ⟨by simp [retOf], (Ext.refl _)⟩
  ·
   simp at hct10
end
end GL

/- Session: the example. -/
import Derived.Test.YtmlhncifcaicpaaSesI
set_option linter.unusedSimpArgs false
set_option linter.unusedVariables false
set_option linter.unnecessarySimpa false
namespace GL
open Go Go.Proofs
set_option maxRecDepth 8000
abbrev sA : ByteArray := ⟨#[97]⟩
abbrev sB : ByteArray := ⟨#[98]⟩
abbrev sC : ByteArray := ⟨#[99]⟩
abbrev sH : ByteArray := ⟨#[104]⟩
abbrev kb1 : List M2 := [(3, sC)]
theorem ka1 : accE 4 1 [] (3, sC) = 0 := by decide +kernel
theorem ka2 : accN 4 1 [] (3, sC) = 1 := by decide +kernel
theorem ka3 : accB 4 1 [] (3, sC) = kb1 := by decide +kernel
theorem ka4 : accO 4 1 [] (3, sC) = [] := by decide +kernel
theorem kc1 : accE 4 1 kb1 (1, sA) = 0 := by decide +kernel
theorem kc2 : accN 4 1 kb1 (1, sA) = 2 := by decide +kernel
theorem kc3 : accB 4 1 kb1 (1, sA) = kb1 := by decide +kernel
theorem kc4 : accO 4 1 kb1 (1, sA) = [sA] := by decide +kernel
theorem kd1 : accE 4 2 kb1 (2, sB) = 0 := by decide +kernel
theorem kd2 : accN 4 2 kb1 (2, sB) = 4 := by decide +kernel
theorem kd3 : accB 4 2 kb1 (2, sB) = [] := by decide +kernel
theorem kd4 : accO 4 2 kb1 (2, sB) = [sB, sC] := by decide +kernel
theorem ke1 : accE 4 4 [] (3, sC) = 7 := by decide +kernel
theorem ke2 : accN 4 4 [] (3, sC) = 4 := by decide +kernel
theorem ke3 : accB 4 4 [] (3, sC) = [] := by decide +kernel
theorem ke4 : accO 4 4 [] (3, sC) = [] := by decide +kernel
theorem kf1 : accE 4 4 [] (8, sH) = 8 := by decide +kernel
theorem kf2 : accN 4 4 [] (8, sH) = 4 := by decide +kernel
theorem kf3 : accB 4 4 [] (8, sH) = [] := by decide +kernel
theorem kf4 : accO 4 4 [] (8, sH) = [] := by decide +kernel
theorem kg1 : gapsK 1 (srt (kb1.map Prod.fst)) = [(1, 2)] := by
  have : srt (kb1.map Prod.fst) = [3] := by unfold srt; simp
  rw [this]; decide +kernel
theorem kG0 : RG 4 1 [] := rg_new 4 (by decide)
theorem kG1 : RG 4 1 kb1 := by have := (kG0.acc (3, sC) rfl).1; rwa [ka2, ka3] at this
theorem kG2 : RG 4 2 kb1 := by have := (kG1.acc (1, sA) (by decide +kernel)).1; rwa [kc2, kc3] at this
theorem kG3 : RG 4 4 [] := by have := (kG2.acc (2, sB) (by decide +kernel)).1; rwa [kd2, kd3] at this
section
variable {h0 h : Heap} {p : Nat} {w n : Int} {bf : List M2}
theorem tr_AcceptK (m : M2) {n' e : Int} {bf' : List M2} {O : List ByteArray} (hG : RG w n bf) (h1 : accE w n bf m = e) (h2 : accN w n bf m = n') (h3 : accB w n bf m = bf') (h4 : accO w n bf m = O) (ht : TR h0 h p w n bf) :
    HCalls Try.prog 16 #[.pointer (some ⟨p, 0, none⟩), .agg (msgL m).toArray] h fun v h' => ∃ a cap, v = .tuple #[.slice a O.length cap, iV e] ∧ SlR 9 1 strL h' a O ∧ TR h0 h' p w n' bf' ∧ Turn p h h' := by
  subst h1 h2 h3 h4
  exact tr_Accept m hG ht
set_option maxHeartbeats 2000000 in
theorem c_known49 (h : Heap) : HCalls Try.prog 12 #[] h (Grow (.bool true) h) := by
  refine hcalls2 Try.func12 rfl (by decide +kernel) (by simp only [Try.ntmps12]; exact of_decide_eq_true rfl) ?_
  intro e hin
  refine hx_seq ?_
  refine hx_region ?_
  refine WL.qq (by simp only [EN, Nat.reduceEqDiff, reduceIte, qv_assign, decide_true, Bool.not_true, Bool.not_false, decide_false, eq_self, if_true, if_false, Bool.or_true, Bool.and_true, Bool.or_false, Bool.and_self, Bool.false_or]; rfl) ?_
  refine WL.nil ?_
  refine th_norm ?_
  refine hx_seq ?_
  refine hx_region ?_
  refine WL.ce Try.call15 (by simp only [EN, Nat.reduceEqDiff, reduceIte, AR, decide_true, Bool.not_true, Bool.not_false, decide_false, eq_self, if_true, if_false, Bool.or_true, Bool.and_true, Bool.or_false, Bool.and_self, Bool.false_or]; exact tr_new 4 (by decide) h) ?_
  rintro _ h1 ⟨hx1, p, rfl, hT⟩
  simp only [put_some]
  refine WL.qq (by simp only [EN, Nat.reduceEqDiff, reduceIte, qv_move, decide_true, Bool.not_true, Bool.not_false, decide_false, eq_self, if_true, if_false, Bool.or_true, Bool.and_true, Bool.or_false, Bool.and_self, Bool.false_or]; rfl) ?_
  refine WL.qq (by simp only [EN, Nat.reduceEqDiff, reduceIte, qv_extract, AR, decide_true, Bool.not_true, Bool.not_false, decide_false, eq_self, if_true, if_false, Bool.or_true, Bool.and_true, Bool.or_false, Bool.and_self, Bool.false_or]; rfl) ?_
  refine WL.qq (by simp only [EN, Nat.reduceEqDiff, reduceIte, qv_extract, AR, decide_true, Bool.not_true, Bool.not_false, decide_false, eq_self, if_true, if_false, Bool.or_true, Bool.and_true, Bool.or_false, Bool.and_self, Bool.false_or]; rfl) ?_
  refine WL.qq (by simp only [EN, Nat.reduceEqDiff, reduceIte, qv_assign, decide_true, Bool.not_true, Bool.not_false, decide_false, eq_self, if_true, if_false, Bool.or_true, Bool.and_true, Bool.or_false, Bool.and_self, Bool.false_or]; rfl) ?_
  refine WL.qq (by simp only [EN, Nat.reduceEqDiff, reduceIte, qv_assign, decide_true, Bool.not_true, Bool.not_false, decide_false, eq_self, if_true, if_false, Bool.or_true, Bool.and_true, Bool.or_false, Bool.and_self, Bool.false_or]; rfl) ?_
  refine WL.nil ?_
  refine th_norm ?_
  refine hx_seq ?_
  refine hx_seq ?_
  refine hx_region ?_
  refine WL.qq (by simp only [EN, Nat.reduceEqDiff, reduceIte, qv_move, decide_true, Bool.not_true, Bool.not_false, decide_false, eq_self, if_true, if_false, Bool.or_true, Bool.and_true, Bool.or_false, Bool.and_self, Bool.false_or]; rfl) ?_
  refine WL.qq (by simp only [EN, Nat.reduceEqDiff, reduceIte, qv_binOp, binv_eql, eqz25, eqn25, eqm25, Option.map_some, decide_true, Bool.not_true, Bool.not_false, decide_false, eq_self, if_true, if_false, Bool.or_true, Bool.and_true, Bool.or_false, Bool.and_self, Bool.false_or]; rfl) ?_
  refine WL.qq (by simp only [EN, Nat.reduceEqDiff, reduceIte, qv_move, decide_true, Bool.not_true, Bool.not_false, decide_false, eq_self, if_true, if_false, Bool.or_true, Bool.and_true, Bool.or_false, Bool.and_self, Bool.false_or]; rfl) ?_
  refine WL.cq (gd_at (t := 20) rfl (by simp only [EN, Nat.reduceEqDiff, reduceIte, decide_true, Bool.not_true, Bool.not_false, decide_false, eq_self, if_true, if_false, Bool.or_true, Bool.and_true, Bool.or_false, Bool.and_self, Bool.false_or] <;> rfl)) (fun hg2_3 => by simp only [EN, Nat.reduceEqDiff, reduceIte, qv_move, decide_true, Bool.not_true, Bool.not_false, decide_false, eq_self, if_true, if_false, Bool.or_true, Bool.and_true, Bool.or_false, Bool.and_self, Bool.false_or, hg2_3, GR]; rfl) ?_
  refine WL.cq (gd_at (t := 20) rfl (by simp only [EN, Nat.reduceEqDiff, reduceIte, decide_true, Bool.not_true, Bool.not_false, decide_false, eq_self, if_true, if_false, Bool.or_true, Bool.and_true, Bool.or_false, Bool.and_self, Bool.false_or] <;> rfl)) (fun hg2_4 => by simp only [EN, Nat.reduceEqDiff, reduceIte, qv_binOp, binv_neq, eq37, Option.map_some, decide_true, Bool.not_true, Bool.not_false, decide_false, eq_self, if_true, if_false, Bool.or_true, Bool.and_true, Bool.or_false, Bool.and_self, Bool.false_or, hg2_4, GR]; rfl) ?_
  refine WL.qq (by simp only [EN, Nat.reduceEqDiff, reduceIte, qv_pick, pk_and, pk_or, GR, decide_true, Bool.not_true, Bool.not_false, decide_false, eq_self, if_true, if_false, Bool.or_true, Bool.and_true, Bool.or_false, Bool.and_self, Bool.false_or]; rfl) ?_
  refine WL.nil ?_
  refine th_norm ?_
  refine hx_cond (by simp only [EN, Nat.reduceEqDiff, reduceIte, decide_true, Bool.not_true, Bool.not_false, decide_false, eq_self, if_true, if_false, Bool.or_true, Bool.and_true, Bool.or_false, Bool.and_self, Bool.false_or]; rfl) (fun hct23 => ?_) (fun hct23 => ?_)
  ·
    simp at hct23
  ·
    try simp only [BD] at hct23
    refine hx_skip ?_
    refine th_norm ?_
    refine hx_seq ?_
    refine hx_region ?_
    refine WL.qq (by simp only [EN, Nat.reduceEqDiff, reduceIte, qv_move, decide_true, Bool.not_true, Bool.not_false, decide_false, eq_self, if_true, if_false, Bool.or_true, Bool.and_true, Bool.or_false, Bool.and_self, Bool.false_or]; rfl) ?_
    refine WL.qq (by refine qv_bld (by simp only [EN, Nat.reduceEqDiff, reduceIte, AR, decide_true, Bool.not_true, Bool.not_false, decide_false, eq_self, if_true, if_false, Bool.or_true, Bool.and_true, Bool.or_false, Bool.and_self, Bool.false_or] <;> rfl) (by rw [bl43]; simp [Instr.fill, Value.cells]; rfl)) ?_
    refine WL.ce Try.call16 (by simp only [EN, Nat.reduceEqDiff, reduceIte, AR, decide_true, Bool.not_true, Bool.not_false, decide_false, eq_self, if_true, if_false, Bool.or_true, Bool.and_true, Bool.or_false, Bool.and_self, Bool.false_or]; exact tr_AcceptK (3, sC) kG0 ka1 ka2 ka3 ka4 hT) ?_
    rintro _ h20 ⟨a1, c1, rfl, hs1, hT2, hu2⟩
    simp only [put_some]
    replace hT := hT2
    refine WL.qq (by simp only [EN, Nat.reduceEqDiff, reduceIte, qv_move, decide_true, Bool.not_true, Bool.not_false, decide_false, eq_self, if_true, if_false, Bool.or_true, Bool.and_true, Bool.or_false, Bool.and_self, Bool.false_or]; rfl) ?_
    refine WL.qq (by simp only [EN, Nat.reduceEqDiff, reduceIte, qv_extract, AR, decide_true, Bool.not_true, Bool.not_false, decide_false, eq_self, if_true, if_false, Bool.or_true, Bool.and_true, Bool.or_false, Bool.and_self, Bool.false_or]; rfl) ?_
    refine WL.qq (by simp only [EN, Nat.reduceEqDiff, reduceIte, qv_extract, AR, decide_true, Bool.not_true, Bool.not_false, decide_false, eq_self, if_true, if_false, Bool.or_true, Bool.and_true, Bool.or_false, Bool.and_self, Bool.false_or]; rfl) ?_
    refine WL.qq (by simp only [EN, Nat.reduceEqDiff, reduceIte, qv_assign, decide_true, Bool.not_true, Bool.not_false, decide_false, eq_self, if_true, if_false, Bool.or_true, Bool.and_true, Bool.or_false, Bool.and_self, Bool.false_or]; rfl) ?_
    refine WL.qq (by simp only [EN, Nat.reduceEqDiff, reduceIte, qv_assign, decide_true, Bool.not_true, Bool.not_false, decide_false, eq_self, if_true, if_false, Bool.or_true, Bool.and_true, Bool.or_false, Bool.and_self, Bool.false_or]; rfl) ?_
    refine WL.nil ?_
    refine th_norm ?_
    refine hx_seq ?_
    refine hx_region ?_
    refine WL.qq (by simp only [EN, Nat.reduceEqDiff, reduceIte, qv_move, decide_true, Bool.not_true, Bool.not_false, decide_false, eq_self, if_true, if_false, Bool.or_true, Bool.and_true, Bool.or_false, Bool.and_self, Bool.false_or]; rfl) ?_
    refine WL.ce Try.call29 (by simp only [EN, Nat.reduceEqDiff, reduceIte, AR, decide_true, Bool.not_true, Bool.not_false, decide_false, eq_self, if_true, if_false, Bool.or_true, Bool.and_true, Bool.or_false, Bool.and_self, Bool.false_or]; exact kg1 ▸ tr_Miss kG1 hT) ?_
    rintro _ h2 ⟨hx2, a2, c2, rfl, hs2⟩
    replace hT := hT.ext hx2
    simp only [put_some]
    refine WL.qq (by simp only [EN, Nat.reduceEqDiff, reduceIte, qv_assign, decide_true, Bool.not_true, Bool.not_false, decide_false, eq_self, if_true, if_false, Bool.or_true, Bool.and_true, Bool.or_false, Bool.and_self, Bool.false_or]; rfl) ?_
    refine WL.nil ?_
    refine th_norm ?_
    refine hx_seq ?_
    refine hx_region ?_
    refine WL.qq (by simp only [EN, Nat.reduceEqDiff, reduceIte, qv_move, decide_true, Bool.not_true, Bool.not_false, decide_false, eq_self, if_true, if_false, Bool.or_true, Bool.and_true, Bool.or_false, Bool.and_self, Bool.false_or]; rfl) ?_
    refine WL.qq (by refine qv_bld (by simp only [EN, Nat.reduceEqDiff, reduceIte, AR, decide_true, Bool.not_true, Bool.not_false, decide_false, eq_self, if_true, if_false, Bool.or_true, Bool.and_true, Bool.or_false, Bool.and_self, Bool.false_or] <;> rfl) (by rw [bl43]; simp [Instr.fill, Value.cells]; rfl)) ?_
    refine WL.ce Try.call16 (by simp only [EN, Nat.reduceEqDiff, reduceIte, AR, decide_true, Bool.not_true, Bool.not_false, decide_false, eq_self, if_true, if_false, Bool.or_true, Bool.and_true, Bool.or_false, Bool.and_self, Bool.false_or]; exact tr_AcceptK (1, sA) kG1 kc1 kc2 kc3 kc4 hT) ?_
    rintro _ h21 ⟨a3, c3, rfl, hs3, hT2, hu2⟩
    simp only [put_some]
    replace hs2 := hT.slR hs2 (fun _ => by simp) (by decide) hu2
    replace hT := hT2
    refine WL.qq (by simp only [EN, Nat.reduceEqDiff, reduceIte, qv_move, decide_true, Bool.not_true, Bool.not_false, decide_false, eq_self, if_true, if_false, Bool.or_true, Bool.and_true, Bool.or_false, Bool.and_self, Bool.false_or]; rfl) ?_
    refine WL.qq (by simp only [EN, Nat.reduceEqDiff, reduceIte, qv_extract, AR, decide_true, Bool.not_true, Bool.not_false, decide_false, eq_self, if_true, if_false, Bool.or_true, Bool.and_true, Bool.or_false, Bool.and_self, Bool.false_or]; rfl) ?_
    refine WL.qq (by simp only [EN, Nat.reduceEqDiff, reduceIte, qv_extract, AR, decide_true, Bool.not_true, Bool.not_false, decide_false, eq_self, if_true, if_false, Bool.or_true, Bool.and_true, Bool.or_false, Bool.and_self, Bool.false_or]; rfl) ?_
    refine WL.qq (by simp only [EN, Nat.reduceEqDiff, reduceIte, qv_assign, decide_true, Bool.not_true, Bool.not_false, decide_false, eq_self, if_true, if_false, Bool.or_true, Bool.and_true, Bool.or_false, Bool.and_self, Bool.false_or]; rfl) ?_
    refine WL.qq (by simp only [EN, Nat.reduceEqDiff, reduceIte, qv_assign, decide_true, Bool.not_true, Bool.not_false, decide_false, eq_self, if_true, if_false, Bool.or_true, Bool.and_true, Bool.or_false, Bool.and_self, Bool.false_or]; rfl) ?_
    refine WL.nil ?_
    refine th_norm ?_
    refine hx_seq ?_
    refine hx_region ?_
    refine WL.qq (by simp only [EN, Nat.reduceEqDiff, reduceIte, qv_move, decide_true, Bool.not_true, Bool.not_false, decide_false, eq_self, if_true, if_false, Bool.or_true, Bool.and_true, Bool.or_false, Bool.and_self, Bool.false_or]; rfl) ?_
    refine WL.qq (by refine qv_bld (by simp only [EN, Nat.reduceEqDiff, reduceIte, AR, decide_true, Bool.not_true, Bool.not_false, decide_false, eq_self, if_true, if_false, Bool.or_true, Bool.and_true, Bool.or_false, Bool.and_self, Bool.false_or] <;> rfl) (by rw [bl43]; simp [Instr.fill, Value.cells]; rfl)) ?_
    refine WL.ce Try.call16 (by simp only [EN, Nat.reduceEqDiff, reduceIte, AR, decide_true, Bool.not_true, Bool.not_false, decide_false, eq_self, if_true, if_false, Bool.or_true, Bool.and_true, Bool.or_false, Bool.and_self, Bool.false_or]; exact tr_AcceptK (2, sB) kG2 kd1 kd2 kd3 kd4 hT) ?_
    rintro _ h22 ⟨a4, c4, rfl, hs4, hT2, hu2⟩
    simp only [put_some]
    replace hs2 := hT.slR hs2 (fun _ => by simp) (by decide) hu2
    replace hs3 := hT.slR hs3 (fun _ => by simp) (by decide) hu2
    replace hT := hT2
    refine WL.qq (by simp only [EN, Nat.reduceEqDiff, reduceIte, qv_move, decide_true, Bool.not_true, Bool.not_false, decide_false, eq_self, if_true, if_false, Bool.or_true, Bool.and_true, Bool.or_false, Bool.and_self, Bool.false_or]; rfl) ?_
    refine WL.qq (by simp only [EN, Nat.reduceEqDiff, reduceIte, qv_extract, AR, decide_true, Bool.not_true, Bool.not_false, decide_false, eq_self, if_true, if_false, Bool.or_true, Bool.and_true, Bool.or_false, Bool.and_self, Bool.false_or]; rfl) ?_
    refine WL.qq (by simp only [EN, Nat.reduceEqDiff, reduceIte, qv_extract, AR, decide_true, Bool.not_true, Bool.not_false, decide_false, eq_self, if_true, if_false, Bool.or_true, Bool.and_true, Bool.or_false, Bool.and_self, Bool.false_or]; rfl) ?_
    refine WL.qq (by simp only [EN, Nat.reduceEqDiff, reduceIte, qv_assign, decide_true, Bool.not_true, Bool.not_false, decide_false, eq_self, if_true, if_false, Bool.or_true, Bool.and_true, Bool.or_false, Bool.and_self, Bool.false_or]; rfl) ?_
    refine WL.qq (by simp only [EN, Nat.reduceEqDiff, reduceIte, qv_assign, decide_true, Bool.not_true, Bool.not_false, decide_false, eq_self, if_true, if_false, Bool.or_true, Bool.and_true, Bool.or_false, Bool.and_self, Bool.false_or]; rfl) ?_
    refine WL.nil ?_
    refine th_norm ?_
    refine hx_seq ?_
    refine hx_region ?_
    refine WL.qq (by simp only [EN, Nat.reduceEqDiff, reduceIte, qv_move, decide_true, Bool.not_true, Bool.not_false, decide_false, eq_self, if_true, if_false, Bool.or_true, Bool.and_true, Bool.or_false, Bool.and_self, Bool.false_or]; rfl) ?_
    refine WL.qq (by refine qv_bld (by simp only [EN, Nat.reduceEqDiff, reduceIte, AR, decide_true, Bool.not_true, Bool.not_false, decide_false, eq_self, if_true, if_false, Bool.or_true, Bool.and_true, Bool.or_false, Bool.and_self, Bool.false_or] <;> rfl) (by rw [bl43]; simp [Instr.fill, Value.cells]; rfl)) ?_
    refine WL.ce Try.call16 (by simp only [EN, Nat.reduceEqDiff, reduceIte, AR, decide_true, Bool.not_true, Bool.not_false, decide_false, eq_self, if_true, if_false, Bool.or_true, Bool.and_true, Bool.or_false, Bool.and_self, Bool.false_or]; exact tr_AcceptK (3, sC) kG3 ke1 ke2 ke3 ke4 hT) ?_
    rintro _ h23 ⟨a5, c5, rfl, _, hT2, hu2⟩
    simp only [put_some]
    replace hs2 := hT.slR hs2 (fun _ => by simp) (by decide) hu2
    replace hs3 := hT.slR hs3 (fun _ => by simp) (by decide) hu2
    replace hs4 := hT.slR hs4 (fun _ => by simp) (by decide) hu2
    replace hT := hT2
    refine WL.qq (by simp only [EN, Nat.reduceEqDiff, reduceIte, qv_move, decide_true, Bool.not_true, Bool.not_false, decide_false, eq_self, if_true, if_false, Bool.or_true, Bool.and_true, Bool.or_false, Bool.and_self, Bool.false_or]; rfl) ?_
    refine WL.qq (by simp only [EN, Nat.reduceEqDiff, reduceIte, qv_extract, AR, decide_true, Bool.not_true, Bool.not_false, decide_false, eq_self, if_true, if_false, Bool.or_true, Bool.and_true, Bool.or_false, Bool.and_self, Bool.false_or]; rfl) ?_
    refine WL.qq (by simp only [EN, Nat.reduceEqDiff, reduceIte, qv_extract, AR, decide_true, Bool.not_true, Bool.not_false, decide_false, eq_self, if_true, if_false, Bool.or_true, Bool.and_true, Bool.or_false, Bool.and_self, Bool.false_or]; rfl) ?_
    refine WL.qq (by simp only [EN, Nat.reduceEqDiff, reduceIte, qv_assign, decide_true, Bool.not_true, Bool.not_false, decide_false, eq_self, if_true, if_false, Bool.or_true, Bool.and_true, Bool.or_false, Bool.and_self, Bool.false_or]; rfl) ?_
    refine WL.qq (by simp only [EN, Nat.reduceEqDiff, reduceIte, qv_assign, decide_true, Bool.not_true, Bool.not_false, decide_false, eq_self, if_true, if_false, Bool.or_true, Bool.and_true, Bool.or_false, Bool.and_self, Bool.false_or]; rfl) ?_
    refine WL.nil ?_
    refine th_norm ?_
    refine hx_seq ?_
    refine hx_region ?_
    refine WL.qq (by simp only [EN, Nat.reduceEqDiff, reduceIte, qv_move, decide_true, Bool.not_true, Bool.not_false, decide_false, eq_self, if_true, if_false, Bool.or_true, Bool.and_true, Bool.or_false, Bool.and_self, Bool.false_or]; rfl) ?_
    refine WL.qq (by refine qv_bld (by simp only [EN, Nat.reduceEqDiff, reduceIte, AR, decide_true, Bool.not_true, Bool.not_false, decide_false, eq_self, if_true, if_false, Bool.or_true, Bool.and_true, Bool.or_false, Bool.and_self, Bool.false_or] <;> rfl) (by rw [bl43]; simp [Instr.fill, Value.cells]; rfl)) ?_
    refine WL.ce Try.call16 (by simp only [EN, Nat.reduceEqDiff, reduceIte, AR, decide_true, Bool.not_true, Bool.not_false, decide_false, eq_self, if_true, if_false, Bool.or_true, Bool.and_true, Bool.or_false, Bool.and_self, Bool.false_or]; exact tr_AcceptK (8, sH) kG3 kf1 kf2 kf3 kf4 hT) ?_
    rintro _ h24 ⟨a6, c6, rfl, _, hT2, hu2⟩
    simp only [put_some]
    replace hs2 := hT.slR hs2 (fun _ => by simp) (by decide) hu2
    replace hs3 := hT.slR hs3 (fun _ => by simp) (by decide) hu2
    replace hs4 := hT.slR hs4 (fun _ => by simp) (by decide) hu2
    replace hT := hT2
    refine WL.qq (by simp only [EN, Nat.reduceEqDiff, reduceIte, qv_move, decide_true, Bool.not_true, Bool.not_false, decide_false, eq_self, if_true, if_false, Bool.or_true, Bool.and_true, Bool.or_false, Bool.and_self, Bool.false_or]; rfl) ?_
    refine WL.qq (by simp only [EN, Nat.reduceEqDiff, reduceIte, qv_extract, AR, decide_true, Bool.not_true, Bool.not_false, decide_false, eq_self, if_true, if_false, Bool.or_true, Bool.and_true, Bool.or_false, Bool.and_self, Bool.false_or]; rfl) ?_
    refine WL.qq (by simp only [EN, Nat.reduceEqDiff, reduceIte, qv_extract, AR, decide_true, Bool.not_true, Bool.not_false, decide_false, eq_self, if_true, if_false, Bool.or_true, Bool.and_true, Bool.or_false, Bool.and_self, Bool.false_or]; rfl) ?_
    refine WL.qq (by simp only [EN, Nat.reduceEqDiff, reduceIte, qv_assign, decide_true, Bool.not_true, Bool.not_false, decide_false, eq_self, if_true, if_false, Bool.or_true, Bool.and_true, Bool.or_false, Bool.and_self, Bool.false_or]; rfl) ?_
    refine WL.qq (by simp only [EN, Nat.reduceEqDiff, reduceIte, qv_assign, decide_true, Bool.not_true, Bool.not_false, decide_false, eq_self, if_true, if_false, Bool.or_true, Bool.and_true, Bool.or_false, Bool.and_self, Bool.false_or]; rfl) ?_
    refine WL.nil ?_
    refine th_norm ?_
    refine hx_seq ?_
    refine hx_region ?_
    obtain ⟨b2, o2, ha2, hr2, _, _⟩ := gap_rd (i := 0) (x := (1, 2)) hs2.rd rfl; subst ha2
    refine WL.qq (by simp only [EN, Nat.reduceEqDiff, reduceIte, qv_move, decide_true, Bool.not_true, Bool.not_false, decide_false, eq_self, if_true, if_false, Bool.or_true, Bool.and_true, Bool.or_false, Bool.and_self, Bool.false_or]; rfl) ?_
    refine WL.qq (by simp only [EN, Nat.reduceEqDiff, reduceIte, decide_true, Bool.not_true, Bool.not_false, decide_false, eq_self, if_true, if_false, Bool.or_true, Bool.and_true, Bool.or_false, Bool.and_self, Bool.false_or, qv_len, ln31, AR]; exact (rfl : _ = some (iV 0))) ?_
    refine WL.qq (by simp only [EN, Nat.reduceEqDiff, reduceIte, qv_binOp, binv_eql, eq3, Option.map_some, decide_true, Bool.not_true, Bool.not_false, decide_false, eq_self, if_true, if_false, Bool.or_true, Bool.and_true, Bool.or_false, Bool.and_self, Bool.false_or]; rfl) ?_
    refine WL.qq (by simp only [EN, Nat.reduceEqDiff, reduceIte, qv_move, decide_true, Bool.not_true, Bool.not_false, decide_false, eq_self, if_true, if_false, Bool.or_true, Bool.and_true, Bool.or_false, Bool.and_self, Bool.false_or]; rfl) ?_
    refine WL.cq (gd_at (t := 59) rfl (by simp only [EN, Nat.reduceEqDiff, reduceIte, decide_true, Bool.not_true, Bool.not_false, decide_false, eq_self, if_true, if_false, Bool.or_true, Bool.and_true, Bool.or_false, Bool.and_self, Bool.false_or] <;> rfl)) (fun hg10_4 => by simp only [EN, Nat.reduceEqDiff, reduceIte, qv_move, decide_true, Bool.not_true, Bool.not_false, decide_false, eq_self, if_true, if_false, Bool.or_true, Bool.and_true, Bool.or_false, Bool.and_self, Bool.false_or, hg10_4, GR]; rfl) ?_
    refine WL.cq (gd_at (t := 59) rfl (by simp only [EN, Nat.reduceEqDiff, reduceIte, decide_true, Bool.not_true, Bool.not_false, decide_false, eq_self, if_true, if_false, Bool.or_true, Bool.and_true, Bool.or_false, Bool.and_self, Bool.false_or] <;> rfl)) (fun hg10_5 => by simp only [EN, Nat.reduceEqDiff, reduceIte, qv_binOp, binv_eql, eq37, Option.map_some, decide_true, Bool.not_true, Bool.not_false, decide_false, eq_self, if_true, if_false, Bool.or_true, Bool.and_true, Bool.or_false, Bool.and_self, Bool.false_or, hg10_5, GR]; rfl) ?_
    refine WL.qq (by simp only [EN, Nat.reduceEqDiff, reduceIte, qv_pick, pk_and, pk_or, GR, decide_true, Bool.not_true, Bool.not_false, decide_false, eq_self, if_true, if_false, Bool.or_true, Bool.and_true, Bool.or_false, Bool.and_self, Bool.false_or]; rfl) ?_
    refine WL.qq (by simp only [EN, Nat.reduceEqDiff, reduceIte, qv_move, decide_true, Bool.not_true, Bool.not_false, decide_false, eq_self, if_true, if_false, Bool.or_true, Bool.and_true, Bool.or_false, Bool.and_self, Bool.false_or]; rfl) ?_
    refine WL.cq (gd_at (t := 63) rfl (by simp only [EN, Nat.reduceEqDiff, reduceIte, decide_true, Bool.not_true, Bool.not_false, decide_false, eq_self, if_true, if_false, Bool.or_true, Bool.and_true, Bool.or_false, Bool.and_self, Bool.false_or] <;> rfl)) (fun hg10_8 => by simp only [EN, Nat.reduceEqDiff, reduceIte, qv_move, decide_true, Bool.not_true, Bool.not_false, decide_false, eq_self, if_true, if_false, Bool.or_true, Bool.and_true, Bool.or_false, Bool.and_self, Bool.false_or, hg10_8, GR]; rfl) ?_
    refine WL.cq (gd_at (t := 63) rfl (by simp only [EN, Nat.reduceEqDiff, reduceIte, decide_true, Bool.not_true, Bool.not_false, decide_false, eq_self, if_true, if_false, Bool.or_true, Bool.and_true, Bool.or_false, Bool.and_self, Bool.false_or] <;> rfl)) (fun hg10_9 => by simp only [EN, Nat.reduceEqDiff, reduceIte, decide_true, Bool.not_true, Bool.not_false, decide_false, eq_self, if_true, if_false, Bool.or_true, Bool.and_true, Bool.or_false, Bool.and_self, Bool.false_or, qv_len, ln71, AR]; exact (rfl : _ = some (iV 1))) ?_
    refine WL.cq (gd_at (t := 63) rfl (by simp only [EN, Nat.reduceEqDiff, reduceIte, decide_true, Bool.not_true, Bool.not_false, decide_false, eq_self, if_true, if_false, Bool.or_true, Bool.and_true, Bool.or_false, Bool.and_self, Bool.false_or] <;> rfl)) (fun hg10_10 => by simp only [EN, Nat.reduceEqDiff, reduceIte, qv_binOp, binv_eql, eq3, Option.map_some, decide_true, Bool.not_true, Bool.not_false, decide_false, eq_self, if_true, if_false, Bool.or_true, Bool.and_true, Bool.or_false, Bool.and_self, Bool.false_or, hg10_10, GR]; rfl) ?_
    refine WL.qq (by simp only [EN, Nat.reduceEqDiff, reduceIte, qv_pick, pk_and, pk_or, GR, decide_true, Bool.not_true, Bool.not_false, decide_false, eq_self, if_true, if_false, Bool.or_true, Bool.and_true, Bool.or_false, Bool.and_self, Bool.false_or]; rfl) ?_
    refine WL.qq (by simp only [EN, Nat.reduceEqDiff, reduceIte, qv_move, decide_true, Bool.not_true, Bool.not_false, decide_false, eq_self, if_true, if_false, Bool.or_true, Bool.and_true, Bool.or_false, Bool.and_self, Bool.false_or]; rfl) ?_
    refine WL.cq (gd_at (t := 68) rfl (by simp only [EN, Nat.reduceEqDiff, reduceIte, decide_true, Bool.not_true, Bool.not_false, decide_false, eq_self, if_true, if_false, Bool.or_true, Bool.and_true, Bool.or_false, Bool.and_self, Bool.false_or] <;> rfl)) (fun hg10_13 => by simp only [EN, Nat.reduceEqDiff, reduceIte, qv_move, decide_true, Bool.not_true, Bool.not_false, decide_false, eq_self, if_true, if_false, Bool.or_true, Bool.and_true, Bool.or_false, Bool.and_self, Bool.false_or, hg10_13, GR]; rfl) ?_
    refine WL.cq (gd_at (t := 68) rfl (by simp only [EN, Nat.reduceEqDiff, reduceIte, decide_true, Bool.not_true, Bool.not_false, decide_false, eq_self, if_true, if_false, Bool.or_true, Bool.and_true, Bool.or_false, Bool.and_self, Bool.false_or] <;> rfl)) (fun hg10_14 => by simp only [EN, Nat.reduceEqDiff, reduceIte, decide_true, Bool.not_true, Bool.not_false, decide_false, eq_self, if_true, if_false, Bool.or_true, Bool.and_true, Bool.or_false, Bool.and_self, Bool.false_or, qv_indexAddr]; rw [ix71 _ _ _ _ _ _ (by decide) (by decide)]) ?_
    refine WL.cq (gd_at (t := 68) rfl (by simp only [EN, Nat.reduceEqDiff, reduceIte, decide_true, Bool.not_true, Bool.not_false, decide_false, eq_self, if_true, if_false, Bool.or_true, Bool.and_true, Bool.or_false, Bool.and_self, Bool.false_or] <;> rfl)) (fun hg10_15 => by simp only [EN, Nat.reduceEqDiff, reduceIte, decide_true, Bool.not_true, Bool.not_false, decide_false, eq_self, if_true, if_false, Bool.or_true, Bool.and_true, Bool.or_false, Bool.and_self, Bool.false_or, qv_load, ld70, Int.toNat_zero, hr2]; rfl) ?_
    refine WL.cq (gd_at (t := 68) rfl (by simp only [EN, Nat.reduceEqDiff, reduceIte, decide_true, Bool.not_true, Bool.not_false, decide_false, eq_self, if_true, if_false, Bool.or_true, Bool.and_true, Bool.or_false, Bool.and_self, Bool.false_or] <;> rfl)) (fun hg10_16 => by refine qv_bld (by simp only [EN, Nat.reduceEqDiff, reduceIte, AR, decide_true, Bool.not_true, Bool.not_false, decide_false, eq_self, if_true, if_false, Bool.or_true, Bool.and_true, Bool.or_false, Bool.and_self, Bool.false_or, hg10_16, GR] <;> rfl) (by rw [bl70]; simp [Instr.fill, Value.cells]; rfl)) ?_
    refine WL.cq (gd_at (t := 68) rfl (by simp only [EN, Nat.reduceEqDiff, reduceIte, decide_true, Bool.not_true, Bool.not_false, decide_false, eq_self, if_true, if_false, Bool.or_true, Bool.and_true, Bool.or_false, Bool.and_self, Bool.false_or] <;> rfl)) (fun hg10_17 => by simp only [EN, Nat.reduceEqDiff, reduceIte, qv_binOp, binv_eql, eqs70, Option.map_some, decide_true, Bool.not_true, Bool.not_false, decide_false, eq_self, if_true, if_false, Bool.or_true, Bool.and_true, Bool.or_false, Bool.and_self, Bool.false_or, hg10_17, GR]; rfl) ?_
    refine WL.qq (by simp only [EN, Nat.reduceEqDiff, reduceIte, qv_pick, pk_and, pk_or, GR, decide_true, Bool.not_true, Bool.not_false, decide_false, eq_self, if_true, if_false, Bool.or_true, Bool.and_true, Bool.or_false, Bool.and_self, Bool.false_or]; rfl) ?_
    refine WL.qq (by simp only [EN, Nat.reduceEqDiff, reduceIte, qv_move, decide_true, Bool.not_true, Bool.not_false, decide_false, eq_self, if_true, if_false, Bool.or_true, Bool.and_true, Bool.or_false, Bool.and_self, Bool.false_or]; rfl) ?_
    refine WL.cq (gd_at (t := 75) rfl (by simp only [EN, Nat.reduceEqDiff, reduceIte, decide_true, Bool.not_true, Bool.not_false, decide_false, eq_self, if_true, if_false, Bool.or_true, Bool.and_true, Bool.or_false, Bool.and_self, Bool.false_or] <;> rfl)) (fun hg10_20 => by simp only [EN, Nat.reduceEqDiff, reduceIte, qv_move, decide_true, Bool.not_true, Bool.not_false, decide_false, eq_self, if_true, if_false, Bool.or_true, Bool.and_true, Bool.or_false, Bool.and_self, Bool.false_or, hg10_20, GR]; rfl) ?_
    refine WL.gy _ (gd_at (t := 75) rfl (by simp only [EN, Nat.reduceEqDiff, reduceIte, decide_true, Bool.not_true, Bool.not_false, decide_false, eq_self, if_true, if_false, Bool.or_true, Bool.and_true, Bool.or_false, Bool.and_self, Bool.false_or] <;> rfl)) (e_lit1X Try.underlying31 sz9 zr9 (by decide) (by simp only [EN, Nat.reduceEqDiff, reduceIte, decide_true, Bool.not_true, Bool.not_false, decide_false, eq_self, if_true, if_false, Bool.or_true, Bool.and_true, Bool.or_false, Bool.and_self, Bool.false_or, Value.cells] <;> rfl) rfl) ?_
    rintro _ h31 ⟨hx31, B31, rfl, hB31⟩
    simp only [put_some]
    replace hs3 := hs3.ext hx31; replace hs4 := hs4.ext hx31; replace hT := hT.ext hx31
    refine WL.cck (gd_at (t := 75) rfl (by simp only [EN, Nat.reduceEqDiff, reduceIte, decide_true, Bool.not_true, Bool.not_false, decide_false, eq_self, if_true, if_false, Bool.or_true, Bool.and_true, Bool.or_false, Bool.and_self, Bool.false_or] <;> rfl)) Try.call34 (fun hg10_22 => by simp only [EN, Nat.reduceEqDiff, reduceIte, AR, decide_true, Bool.not_true, Bool.not_false, decide_false, eq_self, if_true, if_false, Bool.or_true, Bool.and_true, Bool.or_false, Bool.and_self, Bool.false_or, hg10_22, GR]; exact c_equalS a3 [sA] c3 (some ⟨B31, 0, none⟩) [sA] 1 (by simp) hs3.rd (slG_has (f := strL) (sz := 1) (L := [sA]) (fun _ => rfl) hB31 rfl)) ?_
    refine WL.qq (by simp only [EN, Nat.reduceEqDiff, reduceIte, qv_pick, pk_and, pk_or, GR, decide_true, Bool.not_true, Bool.not_false, decide_false, eq_self, if_true, if_false, Bool.or_true, Bool.and_true, Bool.or_false, Bool.and_self, Bool.false_or]; rfl) ?_
    refine WL.qq (by simp only [EN, Nat.reduceEqDiff, reduceIte, qv_move, decide_true, Bool.not_true, Bool.not_false, decide_false, eq_self, if_true, if_false, Bool.or_true, Bool.and_true, Bool.or_false, Bool.and_self, Bool.false_or]; rfl) ?_
    refine WL.cq (gd_at (t := 80) rfl (by simp only [EN, Nat.reduceEqDiff, reduceIte, decide_true, Bool.not_true, Bool.not_false, decide_false, eq_self, if_true, if_false, Bool.or_true, Bool.and_true, Bool.or_false, Bool.and_self, Bool.false_or] <;> rfl)) (fun hg10_25 => by simp only [EN, Nat.reduceEqDiff, reduceIte, qv_move, decide_true, Bool.not_true, Bool.not_false, decide_false, eq_self, if_true, if_false, Bool.or_true, Bool.and_true, Bool.or_false, Bool.and_self, Bool.false_or, hg10_25, GR]; rfl) ?_
    refine WL.cq (gd_at (t := 80) rfl (by simp only [EN, Nat.reduceEqDiff, reduceIte, decide_true, Bool.not_true, Bool.not_false, decide_false, eq_self, if_true, if_false, Bool.or_true, Bool.and_true, Bool.or_false, Bool.and_self, Bool.false_or] <;> rfl)) (fun hg10_26 => by simp only [EN, Nat.reduceEqDiff, reduceIte, qv_binOp, binv_eql, eq37, Option.map_some, decide_true, Bool.not_true, Bool.not_false, decide_false, eq_self, if_true, if_false, Bool.or_true, Bool.and_true, Bool.or_false, Bool.and_self, Bool.false_or, hg10_26, GR]; rfl) ?_
    refine WL.qq (by simp only [EN, Nat.reduceEqDiff, reduceIte, qv_pick, pk_and, pk_or, GR, decide_true, Bool.not_true, Bool.not_false, decide_false, eq_self, if_true, if_false, Bool.or_true, Bool.and_true, Bool.or_false, Bool.and_self, Bool.false_or]; rfl) ?_
    refine WL.qq (by simp only [EN, Nat.reduceEqDiff, reduceIte, qv_move, decide_true, Bool.not_true, Bool.not_false, decide_false, eq_self, if_true, if_false, Bool.or_true, Bool.and_true, Bool.or_false, Bool.and_self, Bool.false_or]; rfl) ?_
    refine WL.cq (gd_at (t := 84) rfl (by simp only [EN, Nat.reduceEqDiff, reduceIte, decide_true, Bool.not_true, Bool.not_false, decide_false, eq_self, if_true, if_false, Bool.or_true, Bool.and_true, Bool.or_false, Bool.and_self, Bool.false_or] <;> rfl)) (fun hg10_29 => by simp only [EN, Nat.reduceEqDiff, reduceIte, qv_move, decide_true, Bool.not_true, Bool.not_false, decide_false, eq_self, if_true, if_false, Bool.or_true, Bool.and_true, Bool.or_false, Bool.and_self, Bool.false_or, hg10_29, GR]; rfl) ?_
    refine WL.gy _ (gd_at (t := 84) rfl (by simp only [EN, Nat.reduceEqDiff, reduceIte, decide_true, Bool.not_true, Bool.not_false, decide_false, eq_self, if_true, if_false, Bool.or_true, Bool.and_true, Bool.or_false, Bool.and_self, Bool.false_or] <;> rfl)) (e_litN (N := 0) (Nat.zero_le _) #[.string em, .string em] Try.underlying31 sz9 zr9 (by decide) (by kernel_rfl) ⟨_, (by simp only [EN, Nat.reduceEqDiff, reduceIte, decide_true, Bool.not_true, Bool.not_false, decide_false, eq_self, if_true, if_false, Bool.or_true, Bool.and_true, Bool.or_false, Bool.and_self, Bool.false_or, AR]; simp [Instr.fill, Value.cells] <;> rfl), rfl⟩) ?_
    rintro _ h32 ⟨hx32, ⟨B32, _, rfl⟩, hm32⟩
    simp only [put_some]
    have hB32 := hm32 B32 rfl
    replace hx32 : Ext _ _ := hx32
    replace hs4 := hs4.ext hx32; replace hT := hT.ext hx32
    refine WL.cck (gd_at (t := 84) rfl (by simp only [EN, Nat.reduceEqDiff, reduceIte, decide_true, Bool.not_true, Bool.not_false, decide_false, eq_self, if_true, if_false, Bool.or_true, Bool.and_true, Bool.or_false, Bool.and_self, Bool.false_or] <;> rfl)) Try.call34 (fun hg10_31 => by simp only [EN, Nat.reduceEqDiff, reduceIte, AR, decide_true, Bool.not_true, Bool.not_false, decide_false, eq_self, if_true, if_false, Bool.or_true, Bool.and_true, Bool.or_false, Bool.and_self, Bool.false_or, hg10_31, GR]; exact c_equalS a4 [sB, sC] c4 (some ⟨B32, 0, none⟩) [sB, sC] 2 (by simp) hs4.rd (slG_has (f := strL) (sz := 1) (L := [sB, sC]) (fun _ => rfl) hB32 rfl)) ?_
    refine WL.qq (by simp only [EN, Nat.reduceEqDiff, reduceIte, qv_pick, pk_and, pk_or, GR, decide_true, Bool.not_true, Bool.not_false, decide_false, eq_self, if_true, if_false, Bool.or_true, Bool.and_true, Bool.or_false, Bool.and_self, Bool.false_or]; rfl) ?_
    refine WL.qq (by simp only [EN, Nat.reduceEqDiff, reduceIte, qv_move, decide_true, Bool.not_true, Bool.not_false, decide_false, eq_self, if_true, if_false, Bool.or_true, Bool.and_true, Bool.or_false, Bool.and_self, Bool.false_or]; rfl) ?_
    refine WL.cq (gd_at (t := 89) rfl (by simp only [EN, Nat.reduceEqDiff, reduceIte, decide_true, Bool.not_true, Bool.not_false, decide_false, eq_self, if_true, if_false, Bool.or_true, Bool.and_true, Bool.or_false, Bool.and_self, Bool.false_or] <;> rfl)) (fun hg10_34 => by simp only [EN, Nat.reduceEqDiff, reduceIte, qv_move, decide_true, Bool.not_true, Bool.not_false, decide_false, eq_self, if_true, if_false, Bool.or_true, Bool.and_true, Bool.or_false, Bool.and_self, Bool.false_or, hg10_34, GR]; rfl) ?_
    refine WL.cq (gd_at (t := 89) rfl (by simp only [EN, Nat.reduceEqDiff, reduceIte, decide_true, Bool.not_true, Bool.not_false, decide_false, eq_self, if_true, if_false, Bool.or_true, Bool.and_true, Bool.or_false, Bool.and_self, Bool.false_or] <;> rfl)) (fun hg10_35 => by simp only [EN, Nat.reduceEqDiff, reduceIte, qv_binOp, binv_eql, eq37, Option.map_some, decide_true, Bool.not_true, Bool.not_false, decide_false, eq_self, if_true, if_false, Bool.or_true, Bool.and_true, Bool.or_false, Bool.and_self, Bool.false_or, hg10_35, GR]; rfl) ?_
    refine WL.qq (by simp only [EN, Nat.reduceEqDiff, reduceIte, qv_pick, pk_and, pk_or, GR, decide_true, Bool.not_true, Bool.not_false, decide_false, eq_self, if_true, if_false, Bool.or_true, Bool.and_true, Bool.or_false, Bool.and_self, Bool.false_or]; rfl) ?_
    refine WL.qq (by simp only [EN, Nat.reduceEqDiff, reduceIte, qv_move, decide_true, Bool.not_true, Bool.not_false, decide_false, eq_self, if_true, if_false, Bool.or_true, Bool.and_true, Bool.or_false, Bool.and_self, Bool.false_or]; rfl) ?_
    refine WL.cq (gd_at (t := 93) rfl (by simp only [EN, Nat.reduceEqDiff, reduceIte, decide_true, Bool.not_true, Bool.not_false, decide_false, eq_self, if_true, if_false, Bool.or_true, Bool.and_true, Bool.or_false, Bool.and_self, Bool.false_or] <;> rfl)) (fun hg10_38 => by simp only [EN, Nat.reduceEqDiff, reduceIte, qv_move, decide_true, Bool.not_true, Bool.not_false, decide_false, eq_self, if_true, if_false, Bool.or_true, Bool.and_true, Bool.or_false, Bool.and_self, Bool.false_or, hg10_38, GR]; rfl) ?_
    refine WL.cck (gd_at (t := 93) rfl (by simp only [EN, Nat.reduceEqDiff, reduceIte, decide_true, Bool.not_true, Bool.not_false, decide_false, eq_self, if_true, if_false, Bool.or_true, Bool.and_true, Bool.or_false, Bool.and_self, Bool.false_or] <;> rfl)) Try.call17 (fun hg10_39 => by simp only [EN, Nat.reduceEqDiff, reduceIte, AR, decide_true, Bool.not_true, Bool.not_false, decide_false, eq_self, if_true, if_false, Bool.or_true, Bool.and_true, Bool.or_false, Bool.and_self, Bool.false_or, hg10_39, GR]; exact tr_Next hT) ?_
    refine WL.cq (gd_at (t := 93) rfl (by simp only [EN, Nat.reduceEqDiff, reduceIte, decide_true, Bool.not_true, Bool.not_false, decide_false, eq_self, if_true, if_false, Bool.or_true, Bool.and_true, Bool.or_false, Bool.and_self, Bool.false_or] <;> rfl)) (fun hg10_40 => by simp only [EN, Nat.reduceEqDiff, reduceIte, qv_binOp, binv_eql, eq3, Option.map_some, decide_true, Bool.not_true, Bool.not_false, decide_false, eq_self, if_true, if_false, Bool.or_true, Bool.and_true, Bool.or_false, Bool.and_self, Bool.false_or, hg10_40, GR]; rfl) ?_
    refine WL.qq (by simp only [EN, Nat.reduceEqDiff, reduceIte, qv_pick, pk_and, pk_or, GR, decide_true, Bool.not_true, Bool.not_false, decide_false, eq_self, if_true, if_false, Bool.or_true, Bool.and_true, Bool.or_false, Bool.and_self, Bool.false_or]; rfl) ?_
    refine WL.qq (by simp only [EN, Nat.reduceEqDiff, reduceIte, qv_move, decide_true, Bool.not_true, Bool.not_false, decide_false, eq_self, if_true, if_false, Bool.or_true, Bool.and_true, Bool.or_false, Bool.and_self, Bool.false_or]; rfl) ?_
    refine WL.cq (gd_at (t := 98) rfl (by simp only [EN, Nat.reduceEqDiff, reduceIte, decide_true, Bool.not_true, Bool.not_false, decide_false, eq_self, if_true, if_false, Bool.or_true, Bool.and_true, Bool.or_false, Bool.and_self, Bool.false_or] <;> rfl)) (fun hg10_43 => by simp only [EN, Nat.reduceEqDiff, reduceIte, qv_move, decide_true, Bool.not_true, Bool.not_false, decide_false, eq_self, if_true, if_false, Bool.or_true, Bool.and_true, Bool.or_false, Bool.and_self, Bool.false_or, hg10_43, GR]; rfl) ?_
    refine WL.cq (gd_at (t := 98) rfl (by simp only [EN, Nat.reduceEqDiff, reduceIte, decide_true, Bool.not_true, Bool.not_false, decide_false, eq_self, if_true, if_false, Bool.or_true, Bool.and_true, Bool.or_false, Bool.and_self, Bool.false_or] <;> rfl)) (fun hg10_44 => by simp only [EN, Nat.reduceEqDiff, reduceIte, qv_binOp, binv_eql, eq37, Option.map_some, decide_true, Bool.not_true, Bool.not_false, decide_false, eq_self, if_true, if_false, Bool.or_true, Bool.and_true, Bool.or_false, Bool.and_self, Bool.false_or, hg10_44, GR]; rfl) ?_
    refine WL.qq (by simp only [EN, Nat.reduceEqDiff, reduceIte, qv_pick, pk_and, pk_or, GR, decide_true, Bool.not_true, Bool.not_false, decide_false, eq_self, if_true, if_false, Bool.or_true, Bool.and_true, Bool.or_false, Bool.and_self, Bool.false_or]; rfl) ?_
    refine WL.qq (by simp only [EN, Nat.reduceEqDiff, reduceIte, qv_move, decide_true, Bool.not_true, Bool.not_false, decide_false, eq_self, if_true, if_false, Bool.or_true, Bool.and_true, Bool.or_false, Bool.and_self, Bool.false_or]; rfl) ?_
    refine WL.cq (gd_at (t := 102) rfl (by simp only [EN, Nat.reduceEqDiff, reduceIte, decide_true, Bool.not_true, Bool.not_false, decide_false, eq_self, if_true, if_false, Bool.or_true, Bool.and_true, Bool.or_false, Bool.and_self, Bool.false_or] <;> rfl)) (fun hg10_47 => by simp only [EN, Nat.reduceEqDiff, reduceIte, qv_move, decide_true, Bool.not_true, Bool.not_false, decide_false, eq_self, if_true, if_false, Bool.or_true, Bool.and_true, Bool.or_false, Bool.and_self, Bool.false_or, hg10_47, GR]; rfl) ?_
    refine WL.cq (gd_at (t := 102) rfl (by simp only [EN, Nat.reduceEqDiff, reduceIte, decide_true, Bool.not_true, Bool.not_false, decide_false, eq_self, if_true, if_false, Bool.or_true, Bool.and_true, Bool.or_false, Bool.and_self, Bool.false_or] <;> rfl)) (fun hg10_48 => by simp only [EN, Nat.reduceEqDiff, reduceIte, qv_binOp, binv_eql, eq37, Option.map_some, decide_true, Bool.not_true, Bool.not_false, decide_false, eq_self, if_true, if_false, Bool.or_true, Bool.and_true, Bool.or_false, Bool.and_self, Bool.false_or, hg10_48, GR]; rfl) ?_
    refine WL.qq (by simp only [EN, Nat.reduceEqDiff, reduceIte, qv_pick, pk_and, pk_or, GR, decide_true, Bool.not_true, Bool.not_false, decide_false, eq_self, if_true, if_false, Bool.or_true, Bool.and_true, Bool.or_false, Bool.and_self, Bool.false_or]; rfl) ?_
    refine WL.qq (by simp only [EN, Nat.reduceEqDiff, reduceIte, qv_assign, decide_true, Bool.not_true, Bool.not_false, decide_false, eq_self, if_true, if_false, Bool.or_true, Bool.and_true, Bool.or_false, Bool.and_self, Bool.false_or]; rfl) ?_
    refine WL.nil ?_
    refine th_norm ?_
    refine hx_ret ?_
    refine fin_ret [.tmp 0] rfl rfl (by simp only [EN, Nat.reduceEqDiff, reduceIte, resv, decide_true, Bool.not_true, Bool.not_false, decide_false, eq_self, if_true, if_false, Bool.or_true, Bool.and_true, Bool.or_false, Bool.and_self, Bool.false_or]; rfl) ?_  -- ret 0 r10
    exact ⟨by simp [retOf], hT.E⟩
end
end GL


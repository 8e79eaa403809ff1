/- The law ScheduleAllows returns true: Allows answers as the reference does, for every phase and action. No condition beyond the row's own. -/
import Derived.Test.YtnmgdjajmmgaaaaRows
import Derived.Test.YtnmgdjajmmgaaaaSchJ
import Derived.Test.YtnmgdjajmmgaaaaCalV
import Derived.Test.YtnmgdjajmmgaaaaGl18
set_option linter.unusedSimpArgs false
set_option linter.unusedVariables false
namespace Go.Proofs.Ytnmgdjajmmgaaaa.scheduleAllows
open Go.ChangeShapes Go.WideShapes Go.ChangeAt Go.RowKit
theorem own : ownKnob Try.prog.godebug = none := by kernel_rfl
theorem laid : laidOutB Try.prog = true := by kernel_rfl
set_option maxRecDepth 100000 in
theorem lifted (os : Os) (started : os.Started) (H : Type) (enc : TypeId × Value → H) :
    ReturnsInHanded {} Try.checked os 10 .any (Rows.scheduleAllowsSpec.pre6 enc Try.prog Try.f10 Rows.scheduleAllowsRow.domain false) (Rows.scheduleAllowsSpec.post enc Try.prog Try.f10 false true false false) := by
  refine returnsInHanded_of_change (C := Try.checked) own started (by kernel_rfl) Try.func10
    (ChangeSpec.witness6 (enc := enc) (C := Try.checked) false ⟨#[], #[.int .i64 0, .int .i64 0], []⟩ 8 (by kernel_rfl) (by kernel_rfl) (by kernel_rfl) (by kernel_rfl)) ?_
  intro W base args ds gs before hval0 hW hcnd _
  have hval : ∀ (j : Nat) t v, Try.f10.params[j]? = some t → args[j]? = some v → Value.okWide Try.prog W .any base t v := hval0
  have hW' := hW
  obtain ⟨p, q, hA0, hV, rfl, hfz, hnd⟩ := hW
  have hA : DataW.TrodAll enc Try.prog W 0 (fun _ => true) true Try.f10.params.toList args.toList ds p := hA0
  rw [Try.params10] at hA hval
  obtain ⟨v0, vs0, d0, ds0, p0, q0, hargs, rfl, rfl, h0, r0⟩ := trodAll_cons hA
  obtain ⟨v1, vs1, d1, ds1, p1, q1, rfl, rfl, rfl, h1, r1⟩ := trodAll_cons r0
  obtain ⟨rfl, rfl, rfl⟩ := trodAll_nil r1
  obtain rfl : args = #[v0, v1] := by cases args; simp_all
  obtain ⟨rfl, rfl⟩ := trodVars_none hV
  obtain ⟨o, rfl, wo⟩ := GL.view_int Try.underlying3 (hval 0 3 v0 rfl rfl) h0
  obtain ⟨k, rfl, wk⟩ := GL.view_int Try.underlying3 (hval 1 3 v1 rfl rfl) h1
  exact GL.law_done (tb := 4) laid (by kernel_rfl) rfl (by kernel_rfl) Try.underlying4 hW' rfl (GL.l_allows o k W.heap)
theorem over : Rows.scheduleAllowsRow.holds Try.pinned (OpenSpec.ofChange Rows.scheduleAllowsSpec) :=
  OpenClaim.holds_of_wide 10 Try.f10 rfl rfl rfl rfl rfl rfl rfl ⟨rfl, rfl, rfl, rfl, rfl⟩ rfl rfl rfl rfl rfl (by kernel_rfl) Try.func10 (by kernel_rfl)
    (of_decide_eq_true (by kernel_rfl)) (by unfold Func.isWrapper; first | (rw [if_pos (by decide +kernel)]; kernel_rfl) | (rw [if_neg (by decide +kernel)]; exact ⟨rfl, rfl⟩))
    (fun os started H enc _ => lifted os started H enc)
theorem proved : Rows.ScheduleAllowsSaid := over
end Go.Proofs.Ytnmgdjajmmgaaaa.scheduleAllows


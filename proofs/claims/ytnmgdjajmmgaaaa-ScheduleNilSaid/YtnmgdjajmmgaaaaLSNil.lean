/- The law ScheduleNil returns true: without a calendar, the methods return ErrArgument for a valid schedule. No condition beyond the row's own. -/
import Derived.Test.YtnmgdjajmmgaaaaRows
import Derived.Test.YtnmgdjajmmgaaaaSchM
import Derived.Test.YtnmgdjajmmgaaaaCalV
import Derived.Test.YtnmgdjajmmgaaaaGl18
set_option linter.unusedSimpArgs false
set_option linter.unusedVariables false
namespace Go.Proofs.Ytnmgdjajmmgaaaa.scheduleNil
open Go.ChangeShapes Go.WideShapes Go.ChangeAt Go.RowKit
theorem own : ownKnob Try.prog.godebug = none := by kernel_rfl
theorem laid : laidOutB Try.prog = true := by kernel_rfl
set_option maxRecDepth 100000 in
theorem lifted (os : Os) (started : os.Started) (H : Type) (enc : TypeId × Value → H) :
    ReturnsInHanded {} Try.checked os 11 .any (Rows.scheduleNilSpec.pre6 enc Try.prog Try.f11 Rows.scheduleNilRow.domain false) (Rows.scheduleNilSpec.post enc Try.prog Try.f11 false true false false) := by
  refine returnsInHanded_of_change (C := Try.checked) own started (by kernel_rfl) Try.func11
    (ChangeSpec.witness6 (enc := enc) (C := Try.checked) false ⟨#[], #[.agg #[.int .i64 0, .int .i64 0, .int .i64 0, .int .i64 0, .int .i64 0, .int .i64 0], .agg #[.int .i64 0, .int .i64 0], .int .i64 0], []⟩ 8 (by kernel_rfl) (by kernel_rfl) (by kernel_rfl) (by kernel_rfl)) ?_
  intro W base args ds gs before hval0 hW hcnd _
  have hval : ∀ (j : Nat) t v, Try.f11.params[j]? = some t → args[j]? = some v → Value.okWide Try.prog W .any base t v := hval0
  have hW' := hW
  obtain ⟨p, q, hA0, hV, rfl, hfz, hnd⟩ := hW
  have hA : DataW.TrodAll enc Try.prog W 0 (fun _ => true) true Try.f11.params.toList args.toList ds p := hA0
  rw [Try.params11] at hA hval
  obtain ⟨v0, vs0, d0, ds0, p0, q0, hargs, rfl, rfl, h0, r0⟩ := trodAll_cons hA
  obtain ⟨v1, vs1, d1, ds1, p1, q1, rfl, rfl, rfl, h1, r1⟩ := trodAll_cons r0
  obtain ⟨v2, vs2, d2, ds2, p2, q2, rfl, rfl, rfl, h2, r2⟩ := trodAll_cons r1
  obtain ⟨rfl, rfl, rfl⟩ := trodAll_nil r2
  obtain rfl : args = #[v0, v1, v2] := by cases args; simp_all
  obtain ⟨rfl, rfl⟩ := trodVars_none hV
  obtain ⟨ns0, hl0, rfl, bs⟩ := GL.view_agg (ts := [3, 3, 3, 3, 3, 3]) (.inl ⟨_, Try.underlying24⟩) (by kernel_rfl) (fun u hu => by simp at hu; subst hu; exact Try.underlying3) (hval 0 24 v0 rfl rfl)
  obtain ⟨s0, s1, s2, s3, s4, s5, rfl⟩ := GL.len6 (hl0.trans (by kernel_rfl))
  obtain ⟨ns1, hl1, rfl, bd⟩ := GL.view_agg (ts := [3, 3]) (.inl ⟨_, Try.underlying29⟩) (by kernel_rfl) (fun u hu => by simp at hu; subst hu; exact Try.underlying3) (hval 1 29 v1 rfl rfl)
  obtain ⟨d, m, rfl⟩ := GL.len2 (hl1.trans (by kernel_rfl))
  obtain ⟨k, rfl, wk⟩ := GL.view_int Try.underlying3 (hval 2 3 v2 rfl rfl) h2
  exact GL.law_done (tb := 4) laid (by kernel_rfl) rfl (by kernel_rfl) Try.underlying4 hW' rfl (GL.l_snil s0 s1 s2 s3 s4 s5 d m k W.heap)
theorem over : Rows.scheduleNilRow.holds Try.pinned (OpenSpec.ofChange Rows.scheduleNilSpec) :=
  OpenClaim.holds_of_wide 11 Try.f11 rfl rfl rfl rfl rfl rfl rfl ⟨rfl, rfl, rfl, rfl, rfl⟩ rfl rfl rfl rfl rfl (by kernel_rfl) Try.func11 (by kernel_rfl)
    (of_decide_eq_true (by kernel_rfl)) (by unfold Func.isWrapper; first | (rw [if_pos (by decide +kernel)]; kernel_rfl) | (rw [if_neg (by decide +kernel)]; exact ⟨rfl, rfl⟩))
    (fun os started H enc _ => lifted os started H enc)
theorem proved : Rows.ScheduleNilSaid := over
end Go.Proofs.Ytnmgdjajmmgaaaa.scheduleNil


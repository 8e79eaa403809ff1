/- The law LedgerNilClone returns true: nil books and bundles return ErrArgument or zero values, and clones are independent. No condition beyond the row's own. -/
import Derived.Test.YtlmealnfkadndaaRows
import Derived.Test.YtlmealnfkadndaaLedX
import Derived.Test.YtlmealnfkadndaaLedV
set_option linter.unusedSimpArgs false
set_option linter.unusedVariables false
namespace Go.Proofs.Ytlmealnfkadndaa.ledgerNilClone
open Go.ChangeShapes Go.WideShapes Go.ChangeAt Go.RowKit
theorem own : ownKnob Try.prog.godebug = none := by kernel_rfl
theorem laid : laidOutB Try.prog = true := by kernel_rfl
set_option maxRecDepth 100000 in
theorem lifted (os : Os) (started : os.Started) (H : Type) (enc : TypeId × Value → H) :
    ReturnsInHanded {} Try.checked os 10 .any (Rows.ledgerNilCloneSpec.pre6 enc Try.prog Try.f10 Rows.ledgerNilCloneRow.domain false) (Rows.ledgerNilCloneSpec.post enc Try.prog Try.f10 false true false false) := by
  refine returnsInHanded_of_change (C := Try.checked) own started (by kernel_rfl) Try.func10
    (ChangeSpec.witness6 (enc := enc) (C := Try.checked) false ⟨#[], #[(.slice none 0 0), (.slice none 0 0), (.agg #[(.int .u8 0), (.int .u8 0)]), .int .i64 0], []⟩ 8 (by kernel_rfl) (by kernel_rfl) (by kernel_rfl) (by kernel_rfl)) ?_
  intro W base args ds gs before hval0 hW hcnd _
  have hval : ∀ (j : Nat) t v, Try.f10.params[j]? = some t → args[j]? = some v → Value.okWide Try.prog W .any base t v := hval0
  have hW' := hW
  obtain ⟨p, q, hA0, hV, rfl, hfz, hnd⟩ := hW
  have hA : DataW.TrodAll enc Try.prog W 0 (fun _ => true) true Try.f10.params.toList args.toList ds p := hA0
  rw [Try.params10] at hA hval
  obtain ⟨v0, vs0, d0, ds0, p0, q0, hargs, rfl, rfl, h0, r0⟩ := trodAll_cons hA
  obtain ⟨v1, vs1, d1, ds1, p1, q1, rfl, rfl, rfl, h1, r1⟩ := trodAll_cons r0
  obtain ⟨v2, vs2, d2, ds2, p2, q2, rfl, rfl, rfl, h2, r2⟩ := trodAll_cons r1
  obtain ⟨v3, vs3, d3, ds3, p3, q3, rfl, rfl, rfl, h3, r3⟩ := trodAll_cons r2
  obtain ⟨rfl, rfl, rfl⟩ := trodAll_nil r3
  obtain rfl : args = #[v0, v1, v2, v3] := by cases args; simp_all
  obtain ⟨rfl, rfl⟩ := trodVars_none hV
  obtain ⟨al, l, cl, rfl, hsl, hlc, hcl, hu⟩ := GL.view_ops (hval 0 22 v0 rfl rfl) h0
  obtain ⟨am, m, cm, rfl, hsm, hmc, hcm, _, hum⟩ := GL.view_ents (hval 1 26 v1 rfl rfl) h1
  obtain ⟨q, rfl, _⟩ := GL.view_key (hval 2 34 v2 rfl rfl) h2
  obtain ⟨fl, rfl, w1⟩ := GL.view_int Try.underlying2 (hval 3 2 v3 rfl rfl) h3
  exact GL.law_done (tb := 4) laid (by kernel_rfl) rfl (by kernel_rfl) Try.underlying4 hW' rfl (GL.l_nil al l cl am m cm q fl hsl (Nat.le_trans hlc hcl) (fun o ho => GL.u8E (hu o ho).1) hsm (GL.u8E hum))
theorem over : Rows.ledgerNilCloneRow.holds Try.pinned (OpenSpec.ofChange Rows.ledgerNilCloneSpec) :=
  OpenClaim.holds_of_wide 10 Try.f10 rfl rfl rfl rfl rfl rfl rfl ⟨rfl, rfl, rfl, rfl, rfl⟩ rfl rfl rfl rfl rfl (by kernel_rfl) Try.func10 (by kernel_rfl)
    (of_decide_eq_true (by kernel_rfl)) (by unfold Func.isWrapper; first | (rw [if_pos (by decide +kernel)]; kernel_rfl) | (rw [if_neg (by decide +kernel)]; exact ⟨rfl, rfl⟩))
    (fun os started H enc _ => lifted os started H enc)
theorem proved : Rows.LedgerNilCloneSaid := over
end Go.Proofs.Ytlmealnfkadndaa.ledgerNilClone


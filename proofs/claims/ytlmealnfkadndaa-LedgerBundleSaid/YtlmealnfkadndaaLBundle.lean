/- The law LedgerBundle returns true: a bundle collects entries, gives them back and shows its balances without a change to its book, and commits once. No condition beyond the row's own. -/
import Derived.Test.YtlmealnfkadndaaRows
import Derived.Test.YtlmealnfkadndaaLedAD
set_option linter.unusedSimpArgs false
set_option linter.unusedVariables false
namespace Go.Proofs.Ytlmealnfkadndaa.ledgerBundle
open Go.ChangeShapes Go.WideShapes Go.ChangeAt Go.RowKit
theorem own : ownKnob Try.prog.godebug = none := by kernel_rfl
theorem laid : laidOutB Try.prog = true := by kernel_rfl
set_option maxRecDepth 100000 in
theorem lifted (os : Os) (started : os.Started) (H : Type) (enc : TypeId × Value → H) :
    ReturnsInHanded {} Try.checked os 9 .any (Rows.ledgerBundleSpec.pre6 enc Try.prog Try.f9 Rows.ledgerBundleRow.domain false) (Rows.ledgerBundleSpec.post enc Try.prog Try.f9 false true false false) := by
  refine returnsInHanded_of_change (C := Try.checked) own started (by kernel_rfl) Try.func9
    (ChangeSpec.witness6 (enc := enc) (C := Try.checked) false ⟨#[], #[(.slice none 0 0), (.slice none 0 0), (.slice none 0 0)], []⟩ 8 (by kernel_rfl) (by kernel_rfl) (by kernel_rfl) (by kernel_rfl)) ?_
  intro W base args ds gs before hval0 hW hcnd _
  have hval : ∀ (j : Nat) t v, Try.f9.params[j]? = some t → args[j]? = some v → Value.okWide Try.prog W .any base t v := hval0
  have hW' := hW
  obtain ⟨p, q, hA0, hV, rfl, hfz, hnd⟩ := hW
  have hA : DataW.TrodAll enc Try.prog W 0 (fun _ => true) true Try.f9.params.toList args.toList ds p := hA0
  rw [Try.params9] at hA hval
  obtain ⟨v0, vs0, d0, ds0, p0, q0, hargs, rfl, rfl, h0, r0⟩ := trodAll_cons hA
  obtain ⟨v1, vs1, d1, ds1, p1, q1, rfl, rfl, rfl, h1, r1⟩ := trodAll_cons r0
  obtain ⟨v2, vs2, d2, ds2, p2, q2, rfl, rfl, rfl, h2, r2⟩ := trodAll_cons r1
  obtain ⟨rfl, rfl, rfl⟩ := trodAll_nil r2
  obtain rfl : args = #[v0, v1, v2] := by cases args; simp_all
  obtain ⟨rfl, rfl⟩ := trodVars_none hV
  obtain ⟨al, l, cl, rfl, hsl, hlc, hcl, hu⟩ := GL.view_ops (hval 0 22 v0 rfl rfl) h0
  obtain ⟨ad, A, cd, rfl, hsA, hlA, hAV⟩ := GL.view_avs (hval 1 63 v1 rfl rfl) h1
  obtain ⟨ab, bk, cb, rfl, hsB, hlB, hBV⟩ := GL.view_u8s (hval 2 35 v2 rfl rfl) h2
  exact GL.law_done (tb := 4) laid (by kernel_rfl) rfl (by kernel_rfl) Try.underlying4 hW' rfl (GL.l_bund al l cl ad A cd ab bk cb hsl (Nat.le_trans hlc hcl) (fun o ho => GL.u8E (hu o ho).1) hsA hlA hAV hsB hlB hBV)
theorem over : Rows.ledgerBundleRow.holds Try.pinned (OpenSpec.ofChange Rows.ledgerBundleSpec) :=
  OpenClaim.holds_of_wide 9 Try.f9 rfl rfl rfl rfl rfl rfl rfl ⟨rfl, rfl, rfl, rfl, rfl⟩ rfl rfl rfl rfl rfl (by kernel_rfl) Try.func9 (by kernel_rfl)
    (of_decide_eq_true (by kernel_rfl)) (by unfold Func.isWrapper; first | (rw [if_pos (by decide +kernel)]; kernel_rfl) | (rw [if_neg (by decide +kernel)]; exact ⟨rfl, rfl⟩))
    (fun os started H enc _ => lifted os started H enc)
theorem proved : Rows.LedgerBundleSaid := over
end Go.Proofs.Ytlmealnfkadndaa.ledgerBundle


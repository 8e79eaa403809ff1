/- Calendar: how a calendar of the reference is opened. -/
import Derived.Test.YtnmgdjajmmgaaaaGlT
import Derived.Test.YtnmgdjajmmgaaaaGl15
set_option linter.unusedSimpArgs false
set_option linter.unusedVariables false
set_option linter.unnecessarySimpa false
namespace GL
open Go Go.Proofs Go.ChangeShapes Go.WideShapes Go.ChangeAt Go.RowKit
section
variable {H : Type} {enc : TypeId × Value → H}
set_option maxRecDepth 100000 in
theorem view_C {W : World} {r : Reach} {b0 : Nat} {v : Value} {d : DataW H} {p : List MemPlace} (hv : Value.okWide Try.prog W r b0 27 v) (h : DataW.Trod enc Try.prog W 0 (fun _ => true) true 27 v d p) :
    ∃ a wk c a' hol c', v = .agg #[.slice a wk.length c, .slice a' hol.length c'] ∧ SlI W.heap a wk ∧ SlI W.heap a' hol ∧ wk.length ≤ c ∧ hol.length ≤ c' ∧ wk.length ≤ 9223372036854775807 ∧ hol.length ≤ 9223372036854775807 ∧ (a = none → c = 0) ∧ (a' = none → c' = 0) := by
  obtain ⟨v0, v1, y0, y1, n, rfl, rfl, rfl, h0, h1⟩ := Joins.open_agg2 Try.underlying27 (by kernel_rfl) (by kernel_rfl) hv h
  obtain ⟨a, wk, c, e0, s0, l0, m0, n0, _⟩ := view_ints Try.underlying25 Try.underlying3 (by kernel_rfl) h0
  obtain ⟨a', hol, c', e1, s1, l1, m1, n1, _⟩ := view_ints Try.underlying25 Try.underlying3 (by kernel_rfl) h1
  cases e0
  cases e1
  exact ⟨a, wk, c, a', hol, c', rfl, s0, s1, l0, l1, by omega, by omega, n0, n1⟩
end
end GL


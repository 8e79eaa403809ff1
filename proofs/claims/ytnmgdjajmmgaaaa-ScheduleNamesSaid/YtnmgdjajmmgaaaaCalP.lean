/- Calendar: year fractions. -/
import Derived.Test.YtnmgdjajmmgaaaaCalO
set_option linter.unusedSimpArgs false
set_option linter.unusedVariables false
set_option linter.unnecessarySimpa false
namespace GL
open Go Go.Proofs
set_option maxRecDepth 8000
noncomputable def yearM (k a b : Int) : (Int × Int) × Int :=
  if k < 0 ∨ 2 < k then ((0, 0), 11) else if validM a = true ∧ validM b = true then (if k = 0 then fracM (b - a) 360 else if k = 1 then fracM (b - a) 365 else fracM (t360 (civM a) (civM b)) 360) else ((0, 0), 2)
theorem valid_bd {n : Int} (hv : validM n = true) : 0 ≤ n ∧ n ≤ 73048 := by simpa [validM] using hv
theorem hcalls_arg {P : Program} {f : FuncId} {x x' : Int} {v : Value} {h : Heap} {R : Value → Heap → Prop} (hc : HCalls P f #[.int .i64 x, v] h R) (he : x' = x) : HCalls P f #[.int .i64 x', v] h R := he ▸ hc
end GL


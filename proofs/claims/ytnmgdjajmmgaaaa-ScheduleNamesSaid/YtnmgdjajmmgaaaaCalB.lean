/- Calendar: the reference's step and its check of a calendar. -/
import Derived.Test.YtnmgdjajmmgaaaaCalA
set_option linter.unusedSimpArgs false
set_option linter.unusedVariables false
set_option linter.unnecessarySimpa false
namespace GL
open Go Go.Proofs
set_option maxRecDepth 8000
/-- The first business day on a road of single steps. -/
def scanM (bus : Int → Bool) (s : Int) : Nat → Int → Option Int
  | 0, _ => none
  | f + 1, d => if validM d = true then (if bus d = true then some d else scanM bus s f (d + s)) else none
theorem scanM_out (bus : Int → Bool) (s : Int) (f : Nat) (d : Int) (hd : validM d = false) : scanM bus s f d = none := by
  cases f <;> simp [scanM, hd]
def stepM (bus : Int → Bool) (d s : Int) : Int × Int :=
  if validM d = true then (match scanM bus s 73050 (d + s) with | some n => (n, 0) | none => (0, 28)) else (0, 2)
end GL


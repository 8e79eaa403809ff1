/- Calendar: moving by business days. -/
import Derived.Test.YtnmgdjajmmgaaaaCalF
set_option linter.unusedSimpArgs false
set_option linter.unusedVariables false
set_option linter.unnecessarySimpa false
namespace GL
open Go Go.Proofs
set_option maxRecDepth 8000
def addI (bus : Int → Bool) (m n : Int) : Int × Int :=
  if validM m = true then (if n = 0 then (m, 0) else if 0 < n then ans (searchM bus 1 73050 (m + 1) n) else if n < -73048 then (0, 28) else ans (searchM bus (-1) 73050 (m + -1) (-n))) else (0, 2)
def iterM (bus : Int → Bool) (s : Int) : Nat → Int → Int × Int
  | 0, d => (d, 0)
  | n + 1, d => if (stepM bus d s).2 = 0 then iterM bus s n (stepM bus d s).1 else (0, (stepM bus d s).2)
def addR (bus : Int → Bool) (m n : Int) : Int × Int :=
  if validM m = true then (if 73048 < n ∨ n < -73048 then (0, 28) else iterM bus (if n < 0 then -1 else 1) n.natAbs m) else (0, 2)
end GL


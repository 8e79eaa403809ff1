/- Calendar: fractions. -/
import Derived.Test.YtnmgdjajmmgaaaaCalL
set_option linter.unusedSimpArgs false
set_option linter.unusedVariables false
set_option linter.unnecessarySimpa false
namespace GL
open Go Go.Proofs
set_option maxRecDepth 8000
theorem tmod_nat (x y : Nat) : ((x : Int).tmod y) = ((x % y : Nat) : Int) := (Int.ofNat_tmod x y).symm
theorem tdiv_nat (x y : Nat) : ((x : Int).tdiv y) = ((x / y : Nat) : Int) := (Int.ofNat_tdiv x y).symm
theorem wu64_neg {n : Int} (h1 : -4611686018427387904 ≤ n) (h2 : n < 0) : IntKind.u64.wrap (0 - IntKind.u64.wrap n) = n.natAbs := by
  have hb : IntKind.u64.bits = 64 := rfl
  have hs : IntKind.u64.signed = false := rfl
  have e1 : (2 : Int) ^ 64 = 18446744073709551616 := by decide
  unfold IntKind.wrap
  rw [hb, hs, e1]
  simp only [Bool.false_and, Bool.false_eq_true, if_false]
  omega
/-- The fraction num / den in lowest terms, and its error. -/
def fracN (num den : Int) : Int := ((num.natAbs / Nat.gcd num.natAbs den.natAbs : Nat) : Int)
def fracD (num den : Int) : Int := ((den.natAbs / Nat.gcd num.natAbs den.natAbs : Nat) : Int)
def fracE (num den : Int) : Int := if den = 0 then 2 else if 1000000000 < fracN num den ∨ 1000000000 < fracD num den then 12 else 0
def fracV (num den : Int) : Int := if decide (num < 0) = decide (den < 0) then fracN num den else - fracN num den
def fracM (num den : Int) : (Int × Int) × Int := if fracE num den = 0 then ((fracV num den, fracD num den), 0) else ((0, 0), fracE num den)
abbrev fracR (num den : Int) : Value := .tuple #[.agg #[.int .i64 (fracM num den).1.1, .int .i64 (fracM num den).1.2], .int .i64 (fracM num den).2]
theorem frac_bd (num den : Int) (b1 : -4611686018427387904 ≤ num) (b2 : num ≤ 4611686018427387904) (b3 : -4611686018427387904 ≤ den) (b4 : den ≤ 4611686018427387904) :
    0 ≤ fracN num den ∧ fracN num den ≤ 4611686018427387904 ∧ 0 ≤ fracD num den ∧ fracD num den ≤ 4611686018427387904 := by
  unfold fracN fracD
  have e1 := Nat.div_le_self num.natAbs (Nat.gcd num.natAbs den.natAbs)
  have e2 := Nat.div_le_self den.natAbs (Nat.gcd num.natAbs den.natAbs)
  generalize num.natAbs / Nat.gcd num.natAbs den.natAbs = q1 at *
  generalize den.natAbs / Nat.gcd num.natAbs den.natAbs = q2 at *
  omega
theorem frac_q (num den : Int) (b1 : -4611686018427387904 ≤ num) (b2 : num ≤ 4611686018427387904) (b3 : -4611686018427387904 ≤ den) (b4 : den ≤ 4611686018427387904) :
    ∃ q r : Nat, num.natAbs / Nat.gcd num.natAbs den.natAbs = q ∧ den.natAbs / Nat.gcd num.natAbs den.natAbs = r ∧ fracN num den = q ∧ fracD num den = r ∧ q ≤ 4611686018427387904 ∧ r ≤ 4611686018427387904 := by
  have := frac_bd num den b1 b2 b3 b4
  exact ⟨_, _, rfl, rfl, rfl, rfl, by unfold fracN fracD at this; omega, by unfold fracN fracD at this; omega⟩
end GL


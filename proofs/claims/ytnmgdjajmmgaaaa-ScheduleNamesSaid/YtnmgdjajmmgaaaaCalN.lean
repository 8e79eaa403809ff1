/- Calendar: civil dates. -/
import Derived.Test.YtnmgdjajmmgaaaaCalM
import Derived.Test.YtnmgdjajmmgaaaaGl14
set_option linter.unusedSimpArgs false
set_option linter.unusedVariables false
set_option linter.unnecessarySimpa false
namespace GL
open Go Go.Proofs
set_option maxRecDepth 8000
def leapM (y : Int) : Bool := decide (y % 4 = 0) && (decide (y % 100 ≠ 0) || decide (y % 400 = 0))
def lenM (y m : Int) : Int :=
  if y < 2000 ∨ 2199 < y ∨ m < 1 ∨ 12 < m then 0
  else if m = 4 ∨ m = 6 ∨ m = 9 ∨ m = 11 then 30 else if m = 2 then (if leapM y = true then 29 else 28) else 31
def ylenM (y : Int) : Int := if leapM y = true then 366 else 365
def ysM (y : Int) : Int := if y < 2000 then -365 else 365 * (y - 2000) + ((y - 2000 + 3) / 4 - (y - 2000 + 99) / 100 + (y - 2000 + 399) / 400)
theorem leap_iff (y : Int) : leapM y = true ↔ y % 4 = 0 ∧ (y % 100 ≠ 0 ∨ y % 400 = 0) := by simp [leapM]
theorem ys_step (y : Int) (b : 2000 ≤ y) : ysM (y + 1) = ysM y + ylenM y := by
  unfold ysM ylenM
  rw [if_neg (by omega), if_neg (by omega)]
  by_cases hl : leapM y = true
  · rw [if_pos hl]
    rw [leap_iff] at hl
    omega
  · rw [if_neg hl]
    rw [leap_iff] at hl
    omega
theorem ylen_bd (y : Int) : 365 ≤ ylenM y ∧ ylenM y ≤ 366 := by unfold ylenM; split <;> omega
theorem ys_mono (y : Int) (b : 2000 ≤ y) : ∀ k : Nat, ysM y + 365 * k ≤ ysM (y + k)
  | 0 => by simp
  | k + 1 => by
    have h1 := ys_mono y b k
    have h2 := ys_step (y + k) (by omega)
    have h3 := ylen_bd (y + k)
    have e : y + ((k + 1 : Nat) : Int) = y + k + 1 := by omega
    rw [e, h2]
    omega
theorem ys_le {a b : Int} (ha : 2000 ≤ a) (hab : a ≤ b) : ysM a ≤ ysM b := by
  have := ys_mono a ha (b - a).toNat
  have e : a + ((b - a).toNat : Int) = b := by omega
  rw [e] at this
  omega
theorem ys_lt {a b : Int} (ha : 2000 ≤ a) (hab : a < b) : ysM (a + 1) ≤ ysM b := ys_le (by omega) (by omega)
/-- The year of a day. -/
noncomputable def yrM (n : Int) : Int := open Classical in if hx : ∃ y, 2000 ≤ y ∧ ysM y ≤ n ∧ n < ysM (y + 1) then Classical.choose hx else 2000
theorem yr_eq {n y : Int} (b : 2000 ≤ y) (h1 : ysM y ≤ n) (h2 : n < ysM (y + 1)) : yrM n = y := by
  have hx : ∃ y, 2000 ≤ y ∧ ysM y ≤ n ∧ n < ysM (y + 1) := ⟨y, b, h1, h2⟩
  unfold yrM
  rw [dif_pos hx]
  have h3 := Classical.choose_spec hx
  generalize Classical.choose hx = z at h3
  rcases Int.lt_trichotomy z y with h4 | h4 | h4
  · have := ys_lt h3.1 h4; omega
  · exact h4
  · have := ys_lt b h4; omega
/-- The month of a day of the year, and what is left of it. -/
def moM : Nat → Int → Int → Int → Int × Int
  | 0, _, m, r => (m, r)
  | f + 1, y, m, r => if r < lenM y m then (m, r) else moM f y (m + 1) (r - lenM y m)
def remM : Nat → Int → Int → Int
  | 0, _, _ => 0
  | f + 1, y, m => lenM y m + remM f y (m + 1)
theorem rem_year (y : Int) (b1 : 2000 ≤ y) (b2 : y ≤ 2199) : remM 12 y 1 = ylenM y := by
  have e : ∀ m, 1 ≤ m → m ≤ 12 → lenM y m = if m = 4 ∨ m = 6 ∨ m = 9 ∨ m = 11 then 30 else if m = 2 then (if leapM y = true then 29 else 28) else 31 := fun m h1 h2 => by
    unfold lenM; rw [if_neg (by omega)]
  simp only [remM, Int.reduceAdd]
  rw [e 1, e 2, e 3, e 4, e 5, e 6, e 7, e 8, e 9, e 10, e 11, e 12] <;> try omega
  unfold ylenM
  cases leapM y <;> simp
theorem len_bd (y m : Int) (b1 : 2000 ≤ y) (b2 : y ≤ 2199) (c1 : 1 ≤ m) (c2 : m ≤ 12) : 28 ≤ lenM y m ∧ lenM y m ≤ 31 := by
  unfold lenM
  rw [if_neg (by omega)]
  repeat' split
  all_goals omega
theorem len_le (y m : Int) : 0 ≤ lenM y m ∧ lenM y m ≤ 31 := by
  unfold lenM
  repeat' split
  all_goals omega
noncomputable def civM (n : Int) : Int × Int × Int := (yrM n, (moM 12 (yrM n) 1 (n - ysM (yrM n))).1, (moM 12 (yrM n) 1 (n - ysM (yrM n))).2 + 1)
theorem tmod_pos {x : Int} (k : Int) (hx : 0 ≤ x) : x.tmod k = x % k := Int.tmod_eq_emod_of_nonneg hx
theorem tdiv_pos {x : Int} (k : Int) (hx : 0 ≤ x) : x.tdiv k = x / k := Int.tdiv_eq_ediv_of_nonneg hx
theorem dim_cell (m : Int) (b1 : 1 ≤ m) (b2 : m ≤ 12) :
    (#[.int .i64 31, .int .i64 28, .int .i64 31, .int .i64 30, .int .i64 31, .int .i64 30, .int .i64 31, .int .i64 31, .int .i64 30, .int .i64 31, .int .i64 30, .int .i64 31] : Array Value)[(m - 1).toNat]? =
      some (.int .i64 (if m = 4 ∨ m = 6 ∨ m = 9 ∨ m = 11 then 30 else if m = 2 then 28 else 31)) := by
  have : m = 1 ∨ m = 2 ∨ m = 3 ∨ m = 4 ∨ m = 5 ∨ m = 6 ∨ m = 7 ∨ m = 8 ∨ m = 9 ∨ m = 10 ∨ m = 11 ∨ m = 12 := by omega
  rcases this with rfl | rfl | rfl | rfl | rfl | rfl | rfl | rfl | rfl | rfl | rfl | rfl <;> rfl
theorem ys_2000 : ysM 2000 = 0 := by decide
theorem ys_2200 : ysM 2200 = 73049 := by decide
theorem moM_stop (f : Nat) (y m r : Int) (hr : r < lenM y m) : moM f y m r = (m, r) := by
  cases f with
  | zero => rfl
  | succ f => simp [moM, hr]
noncomputable def civR (n : Int) : Value := .agg #[.int .i64 (civM n).1, .int .i64 (civM n).2.1, .int .i64 (civM n).2.2]
noncomputable def civA (n : Int) : Value := if validM n = true then .tuple #[.agg #[.int .i64 (civM n).1, .int .i64 (civM n).2.1, .int .i64 (civM n).2.2], .int .i64 0] else .tuple #[.agg #[.int .i64 0, .int .i64 0, .int .i64 0], .int .i64 2]
end GL


/- Calendar: the reference's civil dates; year fractions. -/
import Derived.Test.YtnmgdjajmmgaaaaCalN
set_option linter.unusedSimpArgs false
set_option linter.unusedVariables false
set_option linter.unnecessarySimpa false
namespace GL
open Go Go.Proofs
set_option maxRecDepth 8000
def t360 (a b : Int × Int × Int) : Int :=
  (b.1 - a.1) * 360 + (b.2.1 - a.2.1) * 30 + (if (if 30 < a.2.2 then 30 else a.2.2) = 30 then (if 30 < b.2.2 then 30 else b.2.2) else b.2.2) - (if 30 < a.2.2 then 30 else a.2.2)
theorem yr_ex (n : Int) (h0 : 0 ≤ n) (k : Nat) (hn : n < ysM (2000 + (k : Int))) : ∃ y : Int, 2000 ≤ y ∧ y < 2000 + (k : Int) ∧ ysM y ≤ n ∧ n < ysM (y + 1) := by
  induction k with
  | zero =>
    have e : (2000 : Int) + ((0 : Nat) : Int) = 2000 := rfl
    rw [e, ys_2000] at hn
    omega
  | succ k ih =>
    by_cases hk : n < ysM (2000 + (k : Int))
    · obtain ⟨y, h1, h2, h3, h4⟩ := ih hk
      exact ⟨y, h1, by omega, h3, h4⟩
    · have e : (2000 : Int) + ((k + 1 : Nat) : Int) = 2000 + (k : Int) + 1 := by omega
      rw [e] at hn
      exact ⟨2000 + (k : Int), by omega, by omega, by omega, hn⟩
theorem yr_bd (n : Int) (hv : 0 ≤ n ∧ n ≤ 73048) : 2000 ≤ yrM n ∧ yrM n ≤ 2199 ∧ ysM (yrM n) ≤ n ∧ n < ysM (yrM n + 1) := by
  obtain ⟨y, h1, h2, h3, h4⟩ := yr_ex n hv.1 200 (by have := ys_2200; have e : (2000 : Int) + ((200 : Nat) : Int) = 2200 := rfl; rw [e]; omega)
  have := yr_eq h1 h3 h4
  rw [this]
  exact ⟨h1, by omega, h3, h4⟩
theorem mo_spec (y : Int) (hy : 2000 ≤ y ∧ y ≤ 2199) : ∀ (f : Nat) (m r : Int), f + m = 13 → 1 ≤ m → 0 ≤ r → r < remM f y m →
    ∃ f' : Nat, m ≤ (moM f y m r).1 ∧ (f' : Int) + 1 + (moM f y m r).1 = 13 ∧ 0 ≤ (moM f y m r).2 ∧ (moM f y m r).2 < lenM y (moM f y m r).1 ∧ r - (moM f y m r).2 = remM f y m - remM (f' + 1) y (moM f y m r).1
  | 0, m, r, _, _, h0, hr => by simp [remM] at hr; omega
  | f + 1, m, r, hf, hm, h0, hr => by
    simp only [moM]
    by_cases hl : r < lenM y m
    · rw [if_pos hl]
      exact ⟨f, Int.le_refl _, by simp only []; omega, h0, hl, by simp⟩
    · rw [if_neg hl]
      simp only [remM] at hr
      obtain ⟨f', h1, h2, h3, h4, h5⟩ := mo_spec y hy f (m + 1) (r - lenM y m) (by omega) (by omega) (by omega) (by omega)
      refine ⟨f', by omega, h2, h3, h4, ?_⟩
      rw [show remM (f + 1) y m = lenM y m + remM f y (m + 1) from rfl]
      omega
theorem civ_bd (n : Int) (hv : 0 ≤ n ∧ n ≤ 73048) : 2000 ≤ (civM n).1 ∧ (civM n).1 ≤ 2199 ∧ 1 ≤ (civM n).2.1 ∧ (civM n).2.1 ≤ 12 ∧ 1 ≤ (civM n).2.2 ∧ (civM n).2.2 ≤ lenM (civM n).1 (civM n).2.1 ∧ ysM (civM n).1 ≤ n ∧ n < ysM ((civM n).1 + 1) := by
  have hb := yr_bd n hv
  have hs := ys_step (yrM n) hb.1
  obtain ⟨f', h1, h2, h3, h4, h5⟩ := mo_spec (yrM n) ⟨hb.1, hb.2.1⟩ 12 1 (n - ysM (yrM n)) (by decide) (by decide) (by omega) (by rw [rem_year _ hb.1 hb.2.1]; omega)
  simp only [civM]
  omega
theorem t360_bd (a b : Int) (ha : 0 ≤ a ∧ a ≤ 73048) (hb : 0 ≤ b ∧ b ≤ 73048) : -1000000 ≤ t360 (civM a) (civM b) ∧ t360 (civM a) (civM b) ≤ 1000000 := by
  have h1 := civ_bd a ha
  have h2 := civ_bd b hb
  have h3 := len_le (civM a).1 (civM a).2.1
  have h4 := len_le (civM b).1 (civM b).2.1
  unfold t360
  omega
end GL


/- Calendar: the sum of fractions; the law on year fractions. -/
import Derived.Test.YtafdegdodmelpaaCalQ
import Derived.Test.YtafdegdodmelpaaGl16
set_option linter.unusedSimpArgs false
set_option linter.unusedVariables false
set_option linter.unnecessarySimpa false
namespace GL
open Go Go.Proofs
set_option maxRecDepth 8000
theorem nat_ratio {a b c d : Nat} (hb : 0 < b) (hd : 0 < d) (h : a * d = c * b) : a / Nat.gcd a b = c / Nat.gcd c d ∧ b / Nat.gcd a b = d / Nat.gcd c d := by
  have hg : 0 < Nat.gcd a b := Nat.gcd_pos_of_pos_right a hb
  have hk : 0 < Nat.gcd c d := Nat.gcd_pos_of_pos_right c hd
  have e1 : Nat.gcd a b * d = Nat.gcd c d * b := by
    rw [← Nat.gcd_mul_right, ← Nat.gcd_mul_right, h, Nat.mul_comm b d]
  obtain ⟨a1, ha1⟩ := Nat.gcd_dvd_left a b
  obtain ⟨b1, hb1⟩ := Nat.gcd_dvd_right a b
  obtain ⟨c1, hc1⟩ := Nat.gcd_dvd_left c d
  obtain ⟨d1, hd1⟩ := Nat.gcd_dvd_right c d
  generalize Nat.gcd a b = g at *
  generalize Nat.gcd c d = k at *
  subst ha1 hb1 hc1 hd1
  have e2 : d1 = b1 := by
    have : (g * k) * d1 = (g * k) * b1 := by
      calc (g * k) * d1 = g * (k * d1) := Nat.mul_assoc _ _ _
        _ = k * (g * b1) := e1
        _ = (k * g) * b1 := (Nat.mul_assoc _ _ _).symm
        _ = (g * k) * b1 := by rw [Nat.mul_comm k g]
    exact Nat.eq_of_mul_eq_mul_left (Nat.mul_pos hg hk) this
  subst e2
  have hp : 0 < d1 := Nat.pos_of_ne_zero fun hh => by subst hh; simp at hd
  have e3 : a1 = c1 := by
    have h2 : (g * (k * d1)) * a1 = (g * (k * d1)) * c1 := by
      calc (g * (k * d1)) * a1 = (g * a1) * (k * d1) := by rw [Nat.mul_right_comm]
        _ = (k * c1) * (g * d1) := h
        _ = (g * (k * d1)) * c1 := by rw [Nat.mul_left_comm g k d1, Nat.mul_right_comm k c1]
    exact Nat.eq_of_mul_eq_mul_left (Nat.mul_pos hg (Nat.mul_pos hk hp)) h2
  subst e3
  rw [Nat.mul_div_cancel_left _ hg, Nat.mul_div_cancel_left _ hk, Nat.mul_div_cancel_left _ hg, Nat.mul_div_cancel_left _ hk]
  exact ⟨rfl, rfl⟩
/-- Equal ratios have one fraction. -/
theorem frac_ratio {p q p' q' : Int} (hq : 0 < q) (hq' : 0 < q') (h : p * q' = p' * q) : fracM p q = fracM p' q' := by
  have hn : p.natAbs * q'.natAbs = p'.natAbs * q.natAbs := by rw [← Int.natAbs_mul, ← Int.natAbs_mul, h]
  obtain ⟨h1, h2⟩ := nat_ratio (by omega) (by omega) hn
  have hs : decide (p < 0) = decide (p' < 0) := by
    have : p < 0 ↔ p' < 0 := by
      constructor
      · intro hp
        have : p * q' < 0 := Int.mul_neg_of_neg_of_pos hp hq'
        rw [h] at this
        exact Int.lt_of_not_ge fun hh => by have := Int.mul_nonneg hh (Int.le_of_lt hq); omega
      · intro hp
        have : p' * q < 0 := Int.mul_neg_of_neg_of_pos hp hq
        rw [← h] at this
        exact Int.lt_of_not_ge fun hh => by have := Int.mul_nonneg hh (Int.le_of_lt hq'); omega
    simp [this]
  have hd : decide (q < 0) = decide (q' < 0) := by
    have e1 : ¬ q < 0 := by omega
    have e2 : ¬ q' < 0 := by omega
    simp [e1, e2]
  have e1 : fracN p q = fracN p' q' := by unfold fracN; rw [h1]
  have e2 : fracD p q = fracD p' q' := by unfold fracD; rw [h2]
  have e3 : fracE p q = fracE p' q' := by
    unfold fracE
    rw [e1, e2, if_neg (show ¬ q = 0 by omega), if_neg (show ¬ q' = 0 by omega)]
  unfold fracM fracV
  rw [e1, e2, e3, hs, hd]
/-- What a fraction in lowest terms is. -/
structure IsFrac (n d : Int) : Prop where
  bd : 1 ≤ d ∧ d ≤ 1000000000
  bn : -1000000000 ≤ n ∧ n ≤ 1000000000
  cop : Nat.gcd n.natAbs d.toNat = 1
theorem frac_ok {p q n d : Int} (hq : 0 < q) (h : fracM p q = ((n, d), 0)) : IsFrac n d ∧ n * q = p * d := by
  unfold fracM at h
  split at h
  · rename_i he
    simp only [Prod.mk.injEq] at h
    obtain ⟨⟨h1, h2⟩, _⟩ := h
    have hE : fracN p q ≤ 1000000000 ∧ fracD p q ≤ 1000000000 := by
      unfold fracE at he
      rw [if_neg (by omega)] at he
      split at he
      · omega
      · omega
    have hg : 0 < Nat.gcd p.natAbs q.natAbs := Nat.gcd_pos_of_pos_right _ (by omega)
    obtain ⟨a1, ha1⟩ := Nat.gcd_dvd_left p.natAbs q.natAbs
    obtain ⟨b1, hb1⟩ := Nat.gcd_dvd_right p.natAbs q.natAbs
    have hcop : Nat.gcd a1 b1 = 1 := by
      generalize hgd : Nat.gcd p.natAbs q.natAbs = g at *
      have e := Nat.gcd_mul_left g a1 b1
      rw [← ha1, ← hb1, hgd] at e
      exact (Nat.eq_of_mul_eq_mul_left hg (by rw [Nat.mul_one]; exact e)).symm
    have eN : fracN p q = a1 := by
      unfold fracN
      rw [Nat.div_eq_of_eq_mul_right hg ha1]
    have eD : fracD p q = b1 := by
      unfold fracD
      rw [Nat.div_eq_of_eq_mul_right hg hb1]
    rw [eN, eD] at hE
    rw [eD] at h2
    have hb0 : b1 ≠ 0 := fun hh => by subst hh; omega
    have hqd : ¬ q < 0 := by omega
    have hV : n = if p < 0 then -(a1 : Int) else a1 := by
      rw [← h1]
      unfold fracV
      rw [eN]
      by_cases hp : p < 0 <;> simp [hp, hqd]
    subst h2
    have hpq : (p.natAbs : Int) = (Nat.gcd p.natAbs q.natAbs : Int) * a1 := by exact_mod_cast ha1
    have hqq : (q.natAbs : Int) = (Nat.gcd p.natAbs q.natAbs : Int) * b1 := by exact_mod_cast hb1
    have hq2 : q = (Nat.gcd p.natAbs q.natAbs : Int) * b1 := by omega
    refine ⟨⟨by omega, by rw [hV]; split <;> omega, ?_⟩, ?_⟩
    · have : n.natAbs = a1 := by rw [hV]; split <;> omega
      rw [this]
      simpa using hcop
    · rw [hV]
      generalize (Nat.gcd p.natAbs q.natAbs : Int) = g at *
      split
      · have : p = -(g * a1) := by omega
        rw [this, hq2, Int.neg_mul, Int.neg_mul, Int.mul_left_comm, Int.mul_assoc]
      · have : p = g * a1 := by omega
        rw [this, hq2, Int.mul_left_comm, Int.mul_assoc]
  · rename_i he
    simp only [Prod.mk.injEq] at h
    exact absurd h.2 he
def chkF (n d : Int) : Int := if (d < 1 ∨ 1000000000 < d) ∨ n < -1000000000 ∨ 1000000000 < n then 2 else if Nat.gcd n.natAbs d.toNat = 1 then 0 else 3
theorem mul_bd {a b : Int} (ha : -1000000000 ≤ a ∧ a ≤ 1000000000) (hb : 0 ≤ b ∧ b ≤ 1000000000) : -1000000000000000000 ≤ a * b ∧ a * b ≤ 1000000000000000000 := by
  have h1 : a * b ≤ 1000000000 * b := Int.mul_le_mul_of_nonneg_right ha.2 hb.1
  have h2 : -1000000000 * b ≤ a * b := Int.mul_le_mul_of_nonneg_right ha.1 hb.1
  omega
theorem c_check (n d : Int) (hf : IsFrac n d) (h : Heap) : HCalls Try.prog 72 #[.agg #[.int .i64 n, .int .i64 d]] h (Grow (.int .i64 0) h) := by
  have b1 := hf.bd
  have b2 := hf.bn
  refine hcalls2 Try.func72 rfl (by decide +kernel) (by simp only [Try.ntmps72]; exact of_decide_eq_true rfl) ?_
  intro e hin
  have e0 := hin 0 _ rfl
  refine hx_seq ?_
  refine hx_region ?_
  refine WL.box2 (by simp only [ev_tmp, ev_const, ev_func, set_get, Nat.reduceEqDiff, reduceIte, Value.cells, e0]; rfl) ?_
  intro h1 B1 hx1 hlt1 hB1
  refine WL.qq (by simp only [ev_tmp, ev_const, ev_func, set_get, Nat.reduceEqDiff, reduceIte, qv_assign, e0, hB1.cell]; rfl) ?_
  refine WL.nil ?_
  refine th_norm ?_
  refine hx_seq ?_
  refine hx_seq ?_
  refine hx_region ?_
  refine WL.qq (by simp only [ev_tmp, ev_const, ev_func, set_get, Nat.reduceEqDiff, reduceIte, qv_fieldAddr, fa45_1, Nat.zero_add, Nat.reduceAdd, e0, hB1.cell]; rfl) ?_
  refine WL.qq (by simp only [ev_tmp, ev_const, ev_func, set_get, Nat.reduceEqDiff, reduceIte, qv_load, ld2, readN, List.getElem?_toArray, List.getElem?_cons_zero, List.getElem?_cons_succ, List.map_toArray, List.map_cons, List.map_nil, Option.map_some, Option.bind_some, Nat.zero_add, Nat.reduceAdd, e0, hB1.cell]; rfl) ?_
  refine WL.qq (by simp only [ev_tmp, ev_const, ev_func, set_get, Nat.reduceEqDiff, reduceIte, qv_binOp, binv_lss, e0, hB1.cell]; rfl) ?_
  refine WL.qq (by simp only [ev_tmp, ev_const, ev_func, set_get, Nat.reduceEqDiff, reduceIte, qv_move, e0, hB1.cell]; rfl) ?_
  refine WL.cq (gd_at (t := 8) rfl (by simp only [ev_tmp, ev_const, ev_func, set_get, Nat.reduceEqDiff, reduceIte, e0, hB1.cell]; rfl)) (fun hg1_4 => by simp only [ev_tmp, ev_const, ev_func, set_get, Nat.reduceEqDiff, reduceIte, qv_fieldAddr, fa45_1, Nat.zero_add, Nat.reduceAdd, e0, hB1.cell, hg1_4, Bool.false_eq_true, Bool.true_eq_false, eq_self, if_true, if_false, true_and, and_true, false_and, and_false]; rfl) ?_
  refine WL.cq (gd_at (t := 8) rfl (by simp only [ev_tmp, ev_const, ev_func, set_get, Nat.reduceEqDiff, reduceIte, e0, hB1.cell]; rfl)) (fun hg1_5 => by simp only [ev_tmp, ev_const, ev_func, set_get, Nat.reduceEqDiff, reduceIte, qv_load, ld2, readN, List.getElem?_toArray, List.getElem?_cons_zero, List.getElem?_cons_succ, List.map_toArray, List.map_cons, List.map_nil, Option.map_some, Option.bind_some, Nat.zero_add, Nat.reduceAdd, e0, hB1.cell, hg1_5, Bool.false_eq_true, Bool.true_eq_false, eq_self, if_true, if_false, true_and, and_true, false_and, and_false]; rfl) ?_
  refine WL.cq (gd_at (t := 8) rfl (by simp only [ev_tmp, ev_const, ev_func, set_get, Nat.reduceEqDiff, reduceIte, e0, hB1.cell]; rfl)) (fun hg1_6 => by simp only [ev_tmp, ev_const, ev_func, set_get, Nat.reduceEqDiff, reduceIte, qv_binOp, binv_gtr, e0, hB1.cell, hg1_6, Bool.false_eq_true, Bool.true_eq_false, eq_self, if_true, if_false, true_and, and_true, false_and, and_false]; rfl) ?_
  refine WL.qq (by simp only [ev_tmp, ev_const, ev_func, set_get, Nat.reduceEqDiff, reduceIte, qv_pick, pk_and, pk_or, Bool.false_eq_true, Bool.true_eq_false, eq_self, if_true, if_false, true_and, and_true, false_and, and_false, e0, hB1.cell]; rfl) ?_
  refine WL.qq (by simp only [ev_tmp, ev_const, ev_func, set_get, Nat.reduceEqDiff, reduceIte, qv_move, e0, hB1.cell]; rfl) ?_
  refine WL.cq (gd_at (t := 13) rfl (by simp only [ev_tmp, ev_const, ev_func, set_get, Nat.reduceEqDiff, reduceIte, e0, hB1.cell]; rfl)) (fun hg1_9 => by simp only [ev_tmp, ev_const, ev_func, set_get, Nat.reduceEqDiff, reduceIte, qv_fieldAddr, fa45_0, Nat.zero_add, Nat.reduceAdd, e0, hB1.cell, hg1_9, Bool.false_eq_true, Bool.true_eq_false, eq_self, if_true, if_false, true_and, and_true, false_and, and_false]; rfl) ?_
  refine WL.cq (gd_at (t := 13) rfl (by simp only [ev_tmp, ev_const, ev_func, set_get, Nat.reduceEqDiff, reduceIte, e0, hB1.cell]; rfl)) (fun hg1_10 => by simp only [ev_tmp, ev_const, ev_func, set_get, Nat.reduceEqDiff, reduceIte, qv_load, ld2, readN, List.getElem?_toArray, List.getElem?_cons_zero, List.getElem?_cons_succ, List.map_toArray, List.map_cons, List.map_nil, Option.map_some, Option.bind_some, Nat.zero_add, Nat.reduceAdd, e0, hB1.cell, hg1_10, Bool.false_eq_true, Bool.true_eq_false, eq_self, if_true, if_false, true_and, and_true, false_and, and_false]; rfl) ?_
  refine WL.cq (gd_at (t := 13) rfl (by simp only [ev_tmp, ev_const, ev_func, set_get, Nat.reduceEqDiff, reduceIte, e0, hB1.cell]; rfl)) (fun hg1_11 => by simp only [ev_tmp, ev_const, ev_func, set_get, Nat.reduceEqDiff, reduceIte, qv_binOp, binv_lss, e0, hB1.cell, hg1_11, Bool.false_eq_true, Bool.true_eq_false, eq_self, if_true, if_false, true_and, and_true, false_and, and_false]; rfl) ?_
  refine WL.qq (by simp only [ev_tmp, ev_const, ev_func, set_get, Nat.reduceEqDiff, reduceIte, qv_pick, pk_and, pk_or, Bool.false_eq_true, Bool.true_eq_false, eq_self, if_true, if_false, true_and, and_true, false_and, and_false, e0, hB1.cell]; rfl) ?_
  refine WL.qq (by simp only [ev_tmp, ev_const, ev_func, set_get, Nat.reduceEqDiff, reduceIte, qv_move, e0, hB1.cell]; rfl) ?_
  refine WL.cq (gd_at (t := 18) rfl (by simp only [ev_tmp, ev_const, ev_func, set_get, Nat.reduceEqDiff, reduceIte, e0, hB1.cell]; rfl)) (fun hg1_14 => by simp only [ev_tmp, ev_const, ev_func, set_get, Nat.reduceEqDiff, reduceIte, qv_fieldAddr, fa45_0, Nat.zero_add, Nat.reduceAdd, e0, hB1.cell, hg1_14, Bool.false_eq_true, Bool.true_eq_false, eq_self, if_true, if_false, true_and, and_true, false_and, and_false]; rfl) ?_
  refine WL.cq (gd_at (t := 18) rfl (by simp only [ev_tmp, ev_const, ev_func, set_get, Nat.reduceEqDiff, reduceIte, e0, hB1.cell]; rfl)) (fun hg1_15 => by simp only [ev_tmp, ev_const, ev_func, set_get, Nat.reduceEqDiff, reduceIte, qv_load, ld2, readN, List.getElem?_toArray, List.getElem?_cons_zero, List.getElem?_cons_succ, List.map_toArray, List.map_cons, List.map_nil, Option.map_some, Option.bind_some, Nat.zero_add, Nat.reduceAdd, e0, hB1.cell, hg1_15, Bool.false_eq_true, Bool.true_eq_false, eq_self, if_true, if_false, true_and, and_true, false_and, and_false]; rfl) ?_
  refine WL.cq (gd_at (t := 18) rfl (by simp only [ev_tmp, ev_const, ev_func, set_get, Nat.reduceEqDiff, reduceIte, e0, hB1.cell]; rfl)) (fun hg1_16 => by simp only [ev_tmp, ev_const, ev_func, set_get, Nat.reduceEqDiff, reduceIte, qv_binOp, binv_gtr, e0, hB1.cell, hg1_16, Bool.false_eq_true, Bool.true_eq_false, eq_self, if_true, if_false, true_and, and_true, false_and, and_false]; rfl) ?_
  refine WL.qq (by simp only [ev_tmp, ev_const, ev_func, set_get, Nat.reduceEqDiff, reduceIte, qv_pick, pk_and, pk_or, Bool.false_eq_true, Bool.true_eq_false, eq_self, if_true, if_false, true_and, and_true, false_and, and_false, e0, hB1.cell]; rfl) ?_
  refine WL.nil ?_
  refine th_norm ?_
  refine hx_cond (by simp only [ev_tmp, ev_const, ev_func, set_get, Nat.reduceEqDiff, reduceIte, e0, hB1.cell]; rfl) (fun hct22 => ?_) (fun hct22 => ?_)
  ·
    (exfalso; simp at hct22; omega)
  ·
    try simp only [decide_eq_true_eq, decide_eq_false_iff_not, Bool.and_eq_true, Bool.and_eq_false_iff, Bool.or_eq_true, Bool.or_eq_false_iff, Bool.not_eq_true', Bool.not_eq_false', Bool.not_eq_true, Bool.not_eq_false] at hct22
    refine hx_skip ?_
    refine th_norm ?_
    refine hx_seq ?_
    refine hx_seq ?_
    refine hx_region ?_
    refine WL.qq (by simp only [ev_tmp, ev_const, ev_func, set_get, Nat.reduceEqDiff, reduceIte, qv_fieldAddr, fa45_0, Nat.zero_add, Nat.reduceAdd, e0, hB1.cell]; rfl) ?_
    refine WL.qq (by simp only [ev_tmp, ev_const, ev_func, set_get, Nat.reduceEqDiff, reduceIte, qv_load, ld2, readN, List.getElem?_toArray, List.getElem?_cons_zero, List.getElem?_cons_succ, List.map_toArray, List.map_cons, List.map_nil, Option.map_some, Option.bind_some, Nat.zero_add, Nat.reduceAdd, e0, hB1.cell]; rfl) ?_
    refine WL.ck Try.call65 (by simp only [ev_tmp, ev_const, ev_func, set_get, Nat.reduceEqDiff, reduceIte, List.getElem?_toArray, List.getElem?_cons_zero, List.getElem?_cons_succ, List.map_toArray, List.map_cons, List.map_nil, Option.map_some, Option.bind_some, e0, hB1.cell]; exact c_magnitude n (by omega) (by omega) _) ?_
    refine WL.qq (by simp only [ev_tmp, ev_const, ev_func, set_get, Nat.reduceEqDiff, reduceIte, qv_move, e0, hB1.cell]; rfl) ?_
    refine WL.qq (by simp only [ev_tmp, ev_const, ev_func, set_get, Nat.reduceEqDiff, reduceIte, qv_extract, List.getElem?_toArray, List.getElem?_cons_zero, List.getElem?_cons_succ, List.map_toArray, List.map_cons, List.map_nil, Option.map_some, Option.bind_some, e0, hB1.cell]; rfl) ?_
    refine WL.qq (by simp only [ev_tmp, ev_const, ev_func, set_get, Nat.reduceEqDiff, reduceIte, qv_extract, List.getElem?_toArray, List.getElem?_cons_zero, List.getElem?_cons_succ, List.map_toArray, List.map_cons, List.map_nil, Option.map_some, Option.bind_some, e0, hB1.cell]; rfl) ?_
    refine WL.qq (by simp only [ev_tmp, ev_const, ev_func, set_get, Nat.reduceEqDiff, reduceIte, qv_assign, e0, hB1.cell]; rfl) ?_
    refine WL.qq (by simp only [ev_tmp, ev_const, ev_func, set_get, Nat.reduceEqDiff, reduceIte, qv_assign, e0, hB1.cell]; rfl) ?_
    refine WL.nil ?_
    refine th_norm ?_
    refine hx_seq ?_
    refine hx_region ?_
    refine WL.qq (by simp only [ev_tmp, ev_const, ev_func, set_get, Nat.reduceEqDiff, reduceIte, qv_move, e0, hB1.cell]; rfl) ?_
    refine WL.qq (by simp only [ev_tmp, ev_const, ev_func, set_get, Nat.reduceEqDiff, reduceIte, qv_fieldAddr, fa45_1, Nat.zero_add, Nat.reduceAdd, e0, hB1.cell]; rfl) ?_
    refine WL.qq (by simp only [ev_tmp, ev_const, ev_func, set_get, Nat.reduceEqDiff, reduceIte, qv_load, ld2, readN, List.getElem?_toArray, List.getElem?_cons_zero, List.getElem?_cons_succ, List.map_toArray, List.map_cons, List.map_nil, Option.map_some, Option.bind_some, Nat.zero_add, Nat.reduceAdd, e0, hB1.cell]; rfl) ?_
    refine WL.qq (by simp only [ev_tmp, ev_const, ev_func, set_get, Nat.reduceEqDiff, reduceIte, e0, hB1.cell, qv_convert, convv, Try.underlying2, Try.underlying81]; rw [wu64 (by omega) (by omega), show d = ((d.toNat : Nat) : Int) from by omega]) ?_
    refine WL.ck Try.call66 (by simp only [ev_tmp, ev_const, ev_func, set_get, Nat.reduceEqDiff, reduceIte, List.getElem?_toArray, List.getElem?_cons_zero, List.getElem?_cons_succ, List.map_toArray, List.map_cons, List.map_nil, Option.map_some, Option.bind_some, e0, hB1.cell]; exact c_fgcd n.natAbs d.toNat _) ?_
    refine WL.qq (by simp only [ev_tmp, ev_const, ev_func, set_get, Nat.reduceEqDiff, reduceIte, qv_binOp, binv_neq, eq81, Option.map_some, e0, hB1.cell]; rfl) ?_
    refine WL.nil ?_
    refine th_norm ?_
    refine hx_cond (by simp only [ev_tmp, ev_const, ev_func, set_get, Nat.reduceEqDiff, reduceIte, e0, hB1.cell]; rfl) (fun hct34 => ?_) (fun hct34 => ?_)
    ·
      (exfalso; simp [hf.cop] at hct34)
    ·
      try simp only [decide_eq_true_eq, decide_eq_false_iff_not, Bool.and_eq_true, Bool.and_eq_false_iff, Bool.or_eq_true, Bool.or_eq_false_iff, Bool.not_eq_true', Bool.not_eq_false', Bool.not_eq_true, Bool.not_eq_false] at hct34
      refine hx_skip ?_
      refine th_norm ?_
      refine hx_seq ?_
      refine hx_region ?_
      refine WL.qq (by simp only [ev_tmp, ev_const, ev_func, set_get, Nat.reduceEqDiff, reduceIte, qv_assign, e0, hB1.cell]; rfl) ?_
      refine WL.nil ?_
      refine th_norm ?_
      refine hx_ret ?_
      refine fin_ret [.tmp 2] rfl rfl (by simp only [ev_tmp, ev_const, ev_func, set_get, Nat.reduceEqDiff, reduceIte, resv, e0, hB1.cell]; rfl) ?_  -- ret 0 r6
      exact ⟨rfl, (hx1)⟩
theorem c_addc (a b c d : Int) (hf : IsFrac a b) (hg : IsFrac c d) (h : Heap) : HCalls Try.prog 51 #[.agg #[.int .i64 a, .int .i64 b], .agg #[.int .i64 c, .int .i64 d]] h (Grow (.tuple #[.int .i64 (a * d + c * b), .int .i64 (b * d)]) h) := by
  have b1 := hf.bd
  have b2 := hg.bd
  have m1 := mul_bd hf.bn (b := d) (by omega)
  have m2 := mul_bd hg.bn (b := b) (by omega)
  have m3 := mul_bd (a := b) (by omega) (b := d) (by omega)
  refine hcalls2 Try.func51 rfl (by decide +kernel) (by simp only [Try.ntmps51]; exact of_decide_eq_true rfl) ?_
  intro e hin
  have e0 := hin 0 _ rfl
  have e1 := hin 1 _ rfl
  refine hx_seq ?_
  refine hx_region ?_
  refine WL.box2 (by simp only [ev_tmp, ev_const, ev_func, set_get, Nat.reduceEqDiff, reduceIte, Value.cells, e0, e1]; rfl) ?_
  intro h1 B1 hx1 hlt1 hB1
  refine WL.box2 (by simp only [ev_tmp, ev_const, ev_func, set_get, Nat.reduceEqDiff, reduceIte, Value.cells, e0, e1, hB1.cell]; rfl) ?_
  intro h2 B2 hx2 hlt2 hB2
  replace hB1 := hB1.ext hx2
  refine WL.qq (by simp only [ev_tmp, ev_const, ev_func, set_get, Nat.reduceEqDiff, reduceIte, qv_assign, e0, e1, hB1.cell, hB2.cell]; rfl) ?_
  refine WL.qq (by simp only [ev_tmp, ev_const, ev_func, set_get, Nat.reduceEqDiff, reduceIte, qv_assign, e0, e1, hB1.cell, hB2.cell]; rfl) ?_
  refine WL.nil ?_
  refine th_norm ?_
  refine hx_seq ?_
  apply hx_draw2 Rel.same [] [] [] rfl (by decide +kernel) rfl
  refine LD.qq rfl rfl (by simp only [ev_tmp, ev_const, ev_func, set_get, Nat.reduceEqDiff, reduceIte, qv_fieldAddr, fa45_0, Nat.zero_add, Nat.reduceAdd, e0, e1, hB1.cell, hB2.cell]; rfl) ?_
  refine LD.qq rfl rfl (by simp only [ev_tmp, ev_const, ev_func, set_get, Nat.reduceEqDiff, reduceIte, qv_load, ld2, readN, List.getElem?_toArray, List.getElem?_cons_zero, List.getElem?_cons_succ, List.map_toArray, List.map_cons, List.map_nil, Option.map_some, Option.bind_some, Nat.zero_add, Nat.reduceAdd, e0, e1, hB1.cell, hB2.cell]; rfl) ?_
  refine LD.qq rfl rfl (by simp only [ev_tmp, ev_const, ev_func, set_get, Nat.reduceEqDiff, reduceIte, qv_fieldAddr, fa45_1, Nat.zero_add, Nat.reduceAdd, e0, e1, hB1.cell, hB2.cell]; rfl) ?_
  refine LD.qq rfl rfl (by simp only [ev_tmp, ev_const, ev_func, set_get, Nat.reduceEqDiff, reduceIte, qv_load, ld2, readN, List.getElem?_toArray, List.getElem?_cons_zero, List.getElem?_cons_succ, List.map_toArray, List.map_cons, List.map_nil, Option.map_some, Option.bind_some, Nat.zero_add, Nat.reduceAdd, e0, e1, hB1.cell, hB2.cell]; rfl) ?_
  refine LD.qq rfl rfl (by simp only [ev_tmp, ev_const, ev_func, set_get, Nat.reduceEqDiff, reduceIte, qv_binOp, binv_mul, e0, e1, hB1.cell, hB2.cell]; (try simp (disch := omega) only [w64, w8, wu64]); rfl) ?_
  refine LD.qq rfl rfl (by simp only [ev_tmp, ev_const, ev_func, set_get, Nat.reduceEqDiff, reduceIte, qv_fieldAddr, fa45_0, Nat.zero_add, Nat.reduceAdd, e0, e1, hB1.cell, hB2.cell]; rfl) ?_
  refine LD.qq rfl rfl (by simp only [ev_tmp, ev_const, ev_func, set_get, Nat.reduceEqDiff, reduceIte, qv_load, ld2, readN, List.getElem?_toArray, List.getElem?_cons_zero, List.getElem?_cons_succ, List.map_toArray, List.map_cons, List.map_nil, Option.map_some, Option.bind_some, Nat.zero_add, Nat.reduceAdd, e0, e1, hB1.cell, hB2.cell]; rfl) ?_
  refine LD.qq rfl rfl (by simp only [ev_tmp, ev_const, ev_func, set_get, Nat.reduceEqDiff, reduceIte, qv_fieldAddr, fa45_1, Nat.zero_add, Nat.reduceAdd, e0, e1, hB1.cell, hB2.cell]; rfl) ?_
  refine LD.qq rfl rfl (by simp only [ev_tmp, ev_const, ev_func, set_get, Nat.reduceEqDiff, reduceIte, qv_load, ld2, readN, List.getElem?_toArray, List.getElem?_cons_zero, List.getElem?_cons_succ, List.map_toArray, List.map_cons, List.map_nil, Option.map_some, Option.bind_some, Nat.zero_add, Nat.reduceAdd, e0, e1, hB1.cell, hB2.cell]; rfl) ?_
  refine LD.qq rfl rfl (by simp only [ev_tmp, ev_const, ev_func, set_get, Nat.reduceEqDiff, reduceIte, qv_binOp, binv_mul, e0, e1, hB1.cell, hB2.cell]; (try simp (disch := omega) only [w64, w8, wu64]); rfl) ?_
  refine LD.qq rfl rfl (by simp only [ev_tmp, ev_const, ev_func, set_get, Nat.reduceEqDiff, reduceIte, qv_binOp, binv_add, e0, e1, hB1.cell, hB2.cell]; (try simp (disch := omega) only [w64, w8, wu64]); rfl) ?_
  refine LD.qq rfl rfl (by simp only [ev_tmp, ev_const, ev_func, set_get, Nat.reduceEqDiff, reduceIte, qv_fieldAddr, fa45_1, Nat.zero_add, Nat.reduceAdd, e0, e1, hB1.cell, hB2.cell]; rfl) ?_
  refine LD.qq rfl rfl (by simp only [ev_tmp, ev_const, ev_func, set_get, Nat.reduceEqDiff, reduceIte, qv_load, ld2, readN, List.getElem?_toArray, List.getElem?_cons_zero, List.getElem?_cons_succ, List.map_toArray, List.map_cons, List.map_nil, Option.map_some, Option.bind_some, Nat.zero_add, Nat.reduceAdd, e0, e1, hB1.cell, hB2.cell]; rfl) ?_
  refine LD.qq rfl rfl (by simp only [ev_tmp, ev_const, ev_func, set_get, Nat.reduceEqDiff, reduceIte, qv_fieldAddr, fa45_1, Nat.zero_add, Nat.reduceAdd, e0, e1, hB1.cell, hB2.cell]; rfl) ?_
  refine LD.qq rfl rfl (by simp only [ev_tmp, ev_const, ev_func, set_get, Nat.reduceEqDiff, reduceIte, qv_load, ld2, readN, List.getElem?_toArray, List.getElem?_cons_zero, List.getElem?_cons_succ, List.map_toArray, List.map_cons, List.map_nil, Option.map_some, Option.bind_some, Nat.zero_add, Nat.reduceAdd, e0, e1, hB1.cell, hB2.cell]; rfl) ?_
  refine LD.qq rfl rfl (by simp only [ev_tmp, ev_const, ev_func, set_get, Nat.reduceEqDiff, reduceIte, qv_binOp, binv_mul, e0, e1, hB1.cell, hB2.cell]; (try simp (disch := omega) only [w64, w8, wu64]); rfl) ?_
  refine LD.qq rfl rfl (by simp only [ev_tmp, ev_const, ev_func, set_get, Nat.reduceEqDiff, reduceIte, qv_assign, e0, e1, hB1.cell, hB2.cell]; rfl) ?_
  refine LD.qq rfl rfl (by simp only [ev_tmp, ev_const, ev_func, set_get, Nat.reduceEqDiff, reduceIte, qv_assign, e0, e1, hB1.cell, hB2.cell]; rfl) ?_
  refine LD.nil ?_
  rintro _ rfl -
  refine WL.nil ?_
  refine th_norm ?_
  refine hx_ret ?_
  refine fin_ret [.tmp 4, .tmp 5] rfl rfl (by simp only [ev_tmp, ev_const, ev_func, set_get, Nat.reduceEqDiff, reduceIte, resv, e0, e1, hB1.cell, hB2.cell]; rfl) ?_  -- ret 0 r1
  exact ⟨rfl, ((hx1).trans (hx2))⟩
theorem c_fadd (a b c d : Int) (hf : IsFrac a b) (hg : IsFrac c d) {x y z : Int} (hs : fracM (a * d + c * b) (b * d) = ((x, y), z)) (h : Heap) :
    HCalls Try.prog 29 #[.agg #[.int .i64 a, .int .i64 b], .agg #[.int .i64 c, .int .i64 d]] h (Grow (.tuple #[.agg #[.int .i64 x, .int .i64 y], .int .i64 z]) h) := by
  have b1 := hf.bd
  have b2 := hg.bd
  have m1 := mul_bd hf.bn (b := d) (by omega)
  have m2 := mul_bd hg.bn (b := b) (by omega)
  have m3 := mul_bd (a := b) (by omega) (b := d) (by omega)
  have hnew : ∀ h, HCalls Try.prog 46 #[.int .i64 (a * d + c * b), .int .i64 (b * d)] h (Grow (.tuple #[.agg #[.int .i64 x, .int .i64 y], .int .i64 z]) h) := fun h => by
    have := c_fnew (a * d + c * b) (b * d) (by omega) (by omega) (by omega) (by omega) h
    unfold fracR at this
    rw [hs] at this
    exact this
  have hbin : ∀ h, HCalls Try.prog 50 #[.agg #[.int .i64 a, .int .i64 b], .agg #[.int .i64 c, .int .i64 d], .func (.func 51) #[] #[]] h (Grow (.tuple #[.agg #[.int .i64 x, .int .i64 y], .int .i64 z]) h) := by
    intro h
    refine hcalls2 Try.func50 rfl (by decide +kernel) (by simp only [Try.ntmps50]; exact of_decide_eq_true rfl) ?_
    intro e hin
    have e0 := hin 0 _ rfl
    have e1 := hin 1 _ rfl
    have e2 := hin 2 _ rfl
    have hE : Ext h h := Ext.refl h
    refine hx_seq ?_
    refine hx_region ?_
    refine WL.box2 (by simp only [ev_tmp, ev_const, ev_func, set_get, Nat.reduceEqDiff, reduceIte, Value.cells, e0, e1, e2]; rfl) ?_
    intro h1 B1 hx1 hlt1 hB1
    replace hE := hE.trans hx1
    refine WL.box2 (by simp only [ev_tmp, ev_const, ev_func, set_get, Nat.reduceEqDiff, reduceIte, Value.cells, e0, e1, e2, hB1.cell]; rfl) ?_
    intro h2 B2 hx2 hlt2 hB2
    replace hE := hE.trans hx2
    replace hB1 := hB1.ext hx2
    refine WL.alloc2 zr45 ?_
    intro h3 B3 hx3 hlt3 hB3
    have hne1_3 : B3 ≠ B1 := by have := (Array.getElem?_eq_some_iff.1 hB1).1; omega
    have hne2_3 : B3 ≠ B2 := by have := (Array.getElem?_eq_some_iff.1 hB2).1; omega
    have hb0_3 := Nat.le_trans hE.size hlt3
    have hB1_s3 := hB1
    have hB2_s3 := hB2
    replace hE := hE.trans hx3
    replace hB1 := hB1.ext hx3
    replace hB2 := hB2.ext hx3
    have hEo3 := hx3
    simp only [Value.cells] at hB3
    refine WL.qq (by simp only [ev_tmp, ev_const, ev_func, set_get, Nat.reduceEqDiff, reduceIte, qv_assign, e0, e1, e2, hB1.cell, hB2.cell, hB3.cell]; rfl) ?_
    refine WL.nil ?_
    refine th_norm ?_
    refine hx_seq ?_
    refine hx_seq ?_
    refine hx_region ?_
    refine WL.qq (by simp only [ev_tmp, ev_const, ev_func, set_get, Nat.reduceEqDiff, reduceIte, qv_load, ld45, readN, List.getElem?_toArray, List.getElem?_cons_zero, List.getElem?_cons_succ, List.map_toArray, List.map_cons, List.map_nil, Option.map_some, Option.bind_some, Nat.zero_add, Nat.reduceAdd, e0, e1, e2, hB1.cell, hB2.cell, hB3.cell]; rfl) ?_
    refine WL.qq (by simp only [ev_tmp, ev_const, ev_func, set_get, Nat.reduceEqDiff, reduceIte, qv_load, ld45, readN, List.getElem?_toArray, List.getElem?_cons_zero, List.getElem?_cons_succ, List.map_toArray, List.map_cons, List.map_nil, Option.map_some, Option.bind_some, Nat.zero_add, Nat.reduceAdd, e0, e1, e2, hB1.cell, hB2.cell, hB3.cell]; rfl) ?_
    refine WL.lit2 #[(.int .i64 0), (.int .i64 0), (.int .i64 0), (.int .i64 0)] Try.underlying90 sz45 zr45 (by decide) (by kernel_rfl) ⟨_, (by simp only [ev_tmp, ev_const, ev_func, set_get, Nat.reduceEqDiff, reduceIte, List.getElem?_toArray, List.getElem?_cons_zero, List.getElem?_cons_succ, List.map_toArray, List.map_cons, List.map_nil, Option.map_some, Option.bind_some, e0, e1, e2, hB1.cell, hB2.cell, hB3.cell]; simp [Instr.fill, Value.cells]; rfl), rfl⟩ ?_
    intro h4 B4 hx4 hlt4 hB4
    replace hE := hE.trans hx4
    replace hEo3 := hEo3.trans hx4
    replace hB1 := hB1.ext hx4
    replace hB2 := hB2.ext hx4
    replace hB3 := hB3.ext hx4
    refine WL.qq (by simp only [ev_tmp, ev_const, ev_func, set_get, Nat.reduceEqDiff, reduceIte, qv_len, ln90, List.getElem?_toArray, List.getElem?_cons_zero, List.getElem?_cons_succ, List.map_toArray, List.map_cons, List.map_nil, Option.map_some, Option.bind_some, e0, e1, e2, hB1.cell, hB2.cell, hB3.cell, hB4.cell]; rfl) ?_
    refine WL.qq (by simp only [ev_tmp, ev_const, ev_func, set_get, Nat.reduceEqDiff, reduceIte, qv_move, e0, e1, e2, hB1.cell, hB2.cell, hB3.cell, hB4.cell]; rfl) ?_
    refine WL.nil ?_
    refine th_norm ?_
    refine hx_block ?_
    refine hx_loopX [7, 9, 10, 15, 16, 17, 18, 19, 20, 21, 22, 23, 24, 25] (fun k e => ∃ (i : Nat), 2 - i = k ∧ (i ≤ 2) ∧ e 15 = .int .i64 i) _ ⟨0, rfl, ?_, ?_⟩ ?_
    · first | omega | assumption | (simp; done) | rfl
    · simp only [ev_tmp, ev_const, ev_func, set_get, Nat.reduceEqDiff, reduceIte, e0, e1, e2, hB1.cell, hB2.cell, hB3.cell, hB4.cell] <;> rfl
    ·
      rintro k e0L hL0 hX0 hfr0 ⟨i, rfl, hi, i15_0⟩
      replace hE := hE.trans hX0
      replace hEo3 := hEo3.trans hX0
      replace hB1 := hB1.ext hX0
      replace hB2 := hB2.ext hX0
      replace hB3 := hB3.ext hX0
      replace hB4 := hB4.ext hX0
      have hEL0 : Ext hL0 hL0 := Ext.refl _
      have k2_0 := hfr0 2 rfl; simp only [ev_tmp, ev_const, ev_func, set_get, Nat.reduceEqDiff, reduceIte, e0, e1, e2, hB1.cell, hB2.cell, hB3.cell, hB4.cell] at k2_0
      have k3_0 := hfr0 3 rfl; simp only [ev_tmp, ev_const, ev_func, set_get, Nat.reduceEqDiff, reduceIte, e0, e1, e2, hB1.cell, hB2.cell, hB3.cell, hB4.cell] at k3_0
      have k4_0 := hfr0 4 rfl; simp only [ev_tmp, ev_const, ev_func, set_get, Nat.reduceEqDiff, reduceIte, e0, e1, e2, hB1.cell, hB2.cell, hB3.cell, hB4.cell] at k4_0
      have k6_0 := hfr0 6 rfl; simp only [ev_tmp, ev_const, ev_func, set_get, Nat.reduceEqDiff, reduceIte, e0, e1, e2, hB1.cell, hB2.cell, hB3.cell, hB4.cell] at k6_0
      have k13_0 := hfr0 13 rfl; simp only [ev_tmp, ev_const, ev_func, set_get, Nat.reduceEqDiff, reduceIte, e0, e1, e2, hB1.cell, hB2.cell, hB3.cell, hB4.cell] at k13_0
      have k14_0 := hfr0 14 rfl; simp only [ev_tmp, ev_const, ev_func, set_get, Nat.reduceEqDiff, reduceIte, e0, e1, e2, hB1.cell, hB2.cell, hB3.cell, hB4.cell] at k14_0
      have hv : i < 2 → ∃ u v, IsFrac u v ∧ readN hL0 B4 (0 + i * 2) 2 = some [.int .i64 u, .int .i64 v] := fun hlt => by { have hi2 : i = 0 ∨ i = 1 := (by omega); rcases hi2 with rfl | rfl; exact ⟨a, b, hf, by simp [readN, hB4.cell]⟩; exact ⟨c, d, hg, by simp [readN, hB4.cell]⟩ }
      refine hx_seq ?_
      refine hx_region ?_
      refine WL.qq (by simp only [ev_tmp, ev_const, ev_func, set_get, Nat.reduceEqDiff, reduceIte, qv_binOp, binv_lss, k2_0, k3_0, k4_0, k6_0, k13_0, k14_0, i15_0, hB1.cell, hB2.cell, hB3.cell, hB4.cell]; rfl) ?_
      refine WL.nil ?_
      refine th_norm ?_
      refine hx_seq ?_
      refine hx_cond (by simp only [ev_tmp, ev_const, ev_func, set_get, Nat.reduceEqDiff, reduceIte, k2_0, k3_0, k4_0, k6_0, k13_0, k14_0, i15_0, hB1.cell, hB2.cell, hB3.cell, hB4.cell]; rfl) (fun hct16 => ?_) (fun hct16 => ?_)
      ·
        try simp only [decide_eq_true_eq, decide_eq_false_iff_not, Bool.and_eq_true, Bool.and_eq_false_iff, Bool.or_eq_true, Bool.or_eq_false_iff, Bool.not_eq_true', Bool.not_eq_false', Bool.not_eq_true, Bool.not_eq_false] at hct16
        obtain ⟨u, v, hfr, hrd⟩ := hv (by omega)
        refine hx_skip ?_
        refine th_norm ?_
        refine hx_seq ?_
        refine hx_block ?_
        refine hx_seq ?_
        refine hx_region ?_
        refine WL.qq (by simp only [ev_tmp, ev_const, ev_func, set_get, Nat.reduceEqDiff, reduceIte, qv_indexAddr, k2_0, k3_0, k4_0, k6_0, k13_0, k14_0, i15_0, hB1.cell, hB2.cell, hB3.cell, hB4.cell]; (try simp (disch := omega) only [ix90, Int.toNat_natCast]); rfl) ?_
        refine WL.qq (by simp only [ev_tmp, ev_const, ev_func, set_get, Nat.reduceEqDiff, reduceIte, k2_0, k3_0, k4_0, k6_0, k13_0, k14_0, i15_0, hB1.cell, hB2.cell, hB3.cell, hB4.cell, qv_load, ld45, hrd]; rfl) ?_
        refine WL.allocSt zr45 sz45 (fun u => by simp only [ev_tmp, ev_const, ev_func, set_get, Nat.reduceEqDiff, reduceIte, Value.cells, k2_0, k3_0, k4_0, k6_0, k13_0, k14_0, i15_0, hB1.cell, hB2.cell, hB3.cell, hB4.cell]; rfl) ⟨rfl, rfl⟩ (by simp [Value.oneCell']) ?_
        intro h5 B5 hx5 hlt5 hB5
        have hne3_5 : B5 ≠ B3 := by have := (Array.getElem?_eq_some_iff.1 hB3).1; omega
        replace hE := hE.trans hx5
        replace hEo3 := hEo3.trans hx5
        replace hEL0 := hEL0.trans hx5
        replace hB1 := hB1.ext hx5
        replace hB2 := hB2.ext hx5
        replace hB3 := hB3.ext hx5
        replace hB4 := hB4.ext hx5
        refine WL.nil ?_
        refine th_norm ?_
        refine hx_seq ?_
        refine hx_region ?_
        refine WL.qq (by simp only [ev_tmp, ev_const, ev_func, set_get, Nat.reduceEqDiff, reduceIte, qv_load, ld45, readN, List.getElem?_toArray, List.getElem?_cons_zero, List.getElem?_cons_succ, List.map_toArray, List.map_cons, List.map_nil, Option.map_some, Option.bind_some, Nat.zero_add, Nat.reduceAdd, k2_0, k3_0, k4_0, k6_0, k13_0, k14_0, i15_0, hB1.cell, hB2.cell, hB3.cell, hB4.cell, hB5.cell]; rfl) ?_
        refine WL.cg Try.call72 (by simp only [ev_tmp, ev_const, ev_func, set_get, Nat.reduceEqDiff, reduceIte, List.getElem?_toArray, List.getElem?_cons_zero, List.getElem?_cons_succ, List.map_toArray, List.map_cons, List.map_nil, Option.map_some, Option.bind_some, k2_0, k3_0, k4_0, k6_0, k13_0, k14_0, i15_0, hB1.cell, hB2.cell, hB3.cell, hB4.cell, hB5.cell]; exact c_check u v hfr _) ?_
        intro h6 hx6
        replace hE := hE.trans hx6
        replace hEo3 := hEo3.trans hx6
        replace hEL0 := hEL0.trans hx6
        replace hB1 := hB1.ext hx6
        replace hB2 := hB2.ext hx6
        replace hB3 := hB3.ext hx6
        replace hB4 := hB4.ext hx6
        replace hB5 := hB5.ext hx6
        refine WL.qq (by simp only [ev_tmp, ev_const, ev_func, set_get, Nat.reduceEqDiff, reduceIte, qv_assign, k2_0, k3_0, k4_0, k6_0, k13_0, k14_0, i15_0, hB1.cell, hB2.cell, hB3.cell, hB4.cell, hB5.cell]; rfl) ?_
        refine WL.nil ?_
        refine th_norm ?_
        refine hx_seq ?_
        refine hx_region ?_
        refine WL.qq (by simp only [ev_tmp, ev_const, ev_func, set_get, Nat.reduceEqDiff, reduceIte, qv_move, k2_0, k3_0, k4_0, k6_0, k13_0, k14_0, i15_0, hB1.cell, hB2.cell, hB3.cell, hB4.cell, hB5.cell]; rfl) ?_
        refine WL.qq (by simp only [ev_tmp, ev_const, ev_func, set_get, Nat.reduceEqDiff, reduceIte, qv_binOp, binv_neq, eq28, Option.map_some, k2_0, k3_0, k4_0, k6_0, k13_0, k14_0, i15_0, hB1.cell, hB2.cell, hB3.cell, hB4.cell, hB5.cell]; rfl) ?_
        refine WL.nil ?_
        refine th_norm ?_
        refine hx_cond (by simp only [ev_tmp, ev_const, ev_func, set_get, Nat.reduceEqDiff, reduceIte, k2_0, k3_0, k4_0, k6_0, k13_0, k14_0, i15_0, hB1.cell, hB2.cell, hB3.cell, hB4.cell, hB5.cell]; rfl) (fun hct22 => ?_) (fun hct22 => ?_)
        ·
          (simp at hct22)
        ·
          try simp only [decide_eq_true_eq, decide_eq_false_iff_not, Bool.and_eq_true, Bool.and_eq_false_iff, Bool.or_eq_true, Bool.or_eq_false_iff, Bool.not_eq_true', Bool.not_eq_false', Bool.not_eq_true, Bool.not_eq_false] at hct22
          refine hx_skip ?_
          refine bl_norm ?_
          refine th_norm ?_
          refine hx_region ?_
          refine WL.qq (by simp only [ev_tmp, ev_const, ev_func, set_get, Nat.reduceEqDiff, reduceIte, qv_binOp, binv_add, k2_0, k3_0, k4_0, k6_0, k13_0, k14_0, i15_0, hB1.cell, hB2.cell, hB3.cell, hB4.cell, hB5.cell]; (try simp (disch := omega) only [w64, w8, wu64]); rfl) ?_
          refine WL.qq (by simp only [ev_tmp, ev_const, ev_func, set_get, Nat.reduceEqDiff, reduceIte, qv_move, k2_0, k3_0, k4_0, k6_0, k13_0, k14_0, i15_0, hB1.cell, hB2.cell, hB3.cell, hB4.cell, hB5.cell]; rfl) ?_
          refine WL.nil ?_
          refine th_norm ?_
          refine ⟨rfl, ?_, ?_, _, ?_, i + 1, rfl, ?_, ?_⟩  -- again 0 of loop 0
          · exact hEL0
          · (repeat (first | exact Fr.refl _ _ | refine Fr.set rfl ?_ | refine Fr.put rfl ?_ | refine Fr.put0 ?_))
          · omega
          · first | omega | assumption | (simp; done) | rfl
          · simp only [ev_tmp, ev_const, ev_func, set_get, Nat.reduceEqDiff, reduceIte, k2_0, k3_0, k4_0, k6_0, k13_0, k14_0, i15_0, hB1.cell, hB2.cell, hB3.cell, hB4.cell, hB5.cell] <;> first | rfl | (congr 1; omega)
      ·
        try simp only [decide_eq_true_eq, decide_eq_false_iff_not, Bool.and_eq_true, Bool.and_eq_false_iff, Bool.or_eq_true, Bool.or_eq_false_iff, Bool.not_eq_true', Bool.not_eq_false', Bool.not_eq_true, Bool.not_eq_false] at hct16
        refine hx_exit ?_
        refine th_exit ?_
        refine th_exit ?_
        refine bl_hit ?_
        refine th_norm ?_
        refine hx_seq ?_
        refine hx_region ?_
        refine WL.qq (by simp only [ev_tmp, ev_const, ev_func, set_get, Nat.reduceEqDiff, reduceIte, qv_move, k2_0, k3_0, k4_0, k6_0, k13_0, k14_0, i15_0, hB1.cell, hB2.cell, hB3.cell, hB4.cell]; rfl) ?_
        refine WL.qq (by simp only [ev_tmp, ev_const, ev_func, set_get, Nat.reduceEqDiff, reduceIte, qv_load, ld45, readN, List.getElem?_toArray, List.getElem?_cons_zero, List.getElem?_cons_succ, List.map_toArray, List.map_cons, List.map_nil, Option.map_some, Option.bind_some, Nat.zero_add, Nat.reduceAdd, k2_0, k3_0, k4_0, k6_0, k13_0, k14_0, i15_0, hB1.cell, hB2.cell, hB3.cell, hB4.cell]; rfl) ?_
        refine WL.qq (by simp only [ev_tmp, ev_const, ev_func, set_get, Nat.reduceEqDiff, reduceIte, qv_load, ld45, readN, List.getElem?_toArray, List.getElem?_cons_zero, List.getElem?_cons_succ, List.map_toArray, List.map_cons, List.map_nil, Option.map_some, Option.bind_some, Nat.zero_add, Nat.reduceAdd, k2_0, k3_0, k4_0, k6_0, k13_0, k14_0, i15_0, hB1.cell, hB2.cell, hB3.cell, hB4.cell]; rfl) ?_
        refine WL.cf (f := 51) (first := #[]) (cap := #[]) (by simp only [ev_tmp, ev_const, ev_func, set_get, Nat.reduceEqDiff, reduceIte, k2_0, k3_0, k4_0, k6_0, k13_0, k14_0, i15_0, hB1.cell, hB2.cell, hB3.cell, hB4.cell]) Try.call51 (by simp only [ev_tmp, ev_const, ev_func, set_get, Nat.reduceEqDiff, reduceIte, k2_0, k3_0, k4_0, k6_0, k13_0, k14_0, i15_0, hB1.cell, hB2.cell, hB3.cell, hB4.cell, List.map_toArray, List.map_cons, List.map_nil]; exact c_addc a b c d hf hg _) ?_
        rintro _ h7 ⟨rfl, hx7⟩
        simp only [put_some]
        replace hE := hE.trans hx7
        replace hEo3 := hEo3.trans hx7
        replace hEL0 := hEL0.trans hx7
        replace hB1 := hB1.ext hx7
        replace hB2 := hB2.ext hx7
        replace hB3 := hB3.ext hx7
        replace hB4 := hB4.ext hx7
        refine WL.qq (by simp only [ev_tmp, ev_const, ev_func, set_get, Nat.reduceEqDiff, reduceIte, qv_extract, List.getElem?_toArray, List.getElem?_cons_zero, List.getElem?_cons_succ, List.map_toArray, List.map_cons, List.map_nil, Option.map_some, Option.bind_some, k2_0, k3_0, k4_0, k6_0, k13_0, k14_0, i15_0, hB1.cell, hB2.cell, hB3.cell, hB4.cell]; rfl) ?_
        refine WL.qq (by simp only [ev_tmp, ev_const, ev_func, set_get, Nat.reduceEqDiff, reduceIte, qv_extract, List.getElem?_toArray, List.getElem?_cons_zero, List.getElem?_cons_succ, List.map_toArray, List.map_cons, List.map_nil, Option.map_some, Option.bind_some, k2_0, k3_0, k4_0, k6_0, k13_0, k14_0, i15_0, hB1.cell, hB2.cell, hB3.cell, hB4.cell]; rfl) ?_
        refine WL.cg Try.call46 (by simp only [ev_tmp, ev_const, ev_func, set_get, Nat.reduceEqDiff, reduceIte, List.getElem?_toArray, List.getElem?_cons_zero, List.getElem?_cons_succ, List.map_toArray, List.map_cons, List.map_nil, Option.map_some, Option.bind_some, k2_0, k3_0, k4_0, k6_0, k13_0, k14_0, i15_0, hB1.cell, hB2.cell, hB3.cell, hB4.cell]; exact hnew _) ?_
        intro h8 hx8
        replace hE := hE.trans hx8
        replace hEo3 := hEo3.trans hx8
        replace hEL0 := hEL0.trans hx8
        replace hB1 := hB1.ext hx8
        replace hB2 := hB2.ext hx8
        replace hB3 := hB3.ext hx8
        replace hB4 := hB4.ext hx8
        refine WL.qq (by simp only [ev_tmp, ev_const, ev_func, set_get, Nat.reduceEqDiff, reduceIte, qv_extract, List.getElem?_toArray, List.getElem?_cons_zero, List.getElem?_cons_succ, List.map_toArray, List.map_cons, List.map_nil, Option.map_some, Option.bind_some, k2_0, k3_0, k4_0, k6_0, k13_0, k14_0, i15_0, hB1.cell, hB2.cell, hB3.cell, hB4.cell]; rfl) ?_
        refine WL.qq (by simp only [ev_tmp, ev_const, ev_func, set_get, Nat.reduceEqDiff, reduceIte, qv_extract, List.getElem?_toArray, List.getElem?_cons_zero, List.getElem?_cons_succ, List.map_toArray, List.map_cons, List.map_nil, Option.map_some, Option.bind_some, k2_0, k3_0, k4_0, k6_0, k13_0, k14_0, i15_0, hB1.cell, hB2.cell, hB3.cell, hB4.cell]; rfl) ?_
        refine WL.store (by simp only [ev_tmp, ev_const, ev_func, set_get, Nat.reduceEqDiff, reduceIte, k2_0, k3_0, k4_0, k6_0, k13_0, k14_0, i15_0, hB1.cell, hB2.cell, hB3.cell, hB4.cell] <;> rfl) sz45 (by simp only [ev_tmp, ev_const, ev_func, set_get, Nat.reduceEqDiff, reduceIte, Value.cells, k2_0, k3_0, k4_0, k6_0, k13_0, k14_0, i15_0, hB1.cell, hB2.cell, hB3.cell, hB4.cell] <;> rfl) rfl hB3 (by first | decide | (simp; done) | (simp; omega)) (by simp [Value.oneCell']) ?_
        intro h9 hw9
        replace hE := hw9.ext hE hb0_3
        replace hEo3 := hw9.ext hEo3 hlt3
        replace hB1 := hB1_s3.ext hEo3
        replace hB2 := hB2_s3.ext hEo3
        replace hB3 := hw9.at_
        try simp only [splc, List.take_succ_cons, List.take_zero, List.take_nil, List.drop_succ_cons, List.drop_zero, List.drop_nil, List.cons_append, List.nil_append, List.length_cons, List.length_nil, Nat.zero_add, Nat.add_zero, Nat.reduceAdd, List.append_nil] at hB3
        refine WL.qq (by simp only [ev_tmp, ev_const, ev_func, set_get, Nat.reduceEqDiff, reduceIte, qv_assign, k2_0, k3_0, k4_0, k6_0, k13_0, k14_0, i15_0, hB1.cell, hB2.cell, hB3.cell]; rfl) ?_
        refine WL.nil ?_
        refine th_norm ?_
        refine hx_ret ?_
        refine fin_ret [.cell 6 45, .tmp 7] rfl rfl (by simp only [ev_tmp, ev_const, ev_func, set_get, Nat.reduceEqDiff, reduceIte, resv, ld45, readN, List.getElem?_toArray, List.getElem?_cons_zero, List.getElem?_cons_succ, List.map_toArray, List.map_cons, List.map_nil, Option.map_some, Option.bind_some, Nat.zero_add, Nat.reduceAdd, k2_0, k3_0, k4_0, k6_0, k13_0, k14_0, i15_0, hB1.cell, hB2.cell, hB3.cell]; rfl) ?_  -- ret 0 r8
        exact ⟨rfl, hE⟩
  refine hcalls2 Try.func29 rfl (by decide +kernel) (by simp only [Try.ntmps29]; exact of_decide_eq_true rfl) ?_
  intro e hin
  have e0 := hin 0 _ rfl
  have e1 := hin 1 _ rfl
  have hE : Ext h h := Ext.refl h
  refine hx_seq ?_
  refine hx_region ?_
  refine WL.box2 (by simp only [ev_tmp, ev_const, ev_func, set_get, Nat.reduceEqDiff, reduceIte, Value.cells, e0, e1]; rfl) ?_
  intro h1 B1 hx1 hlt1 hB1
  replace hE := hE.trans hx1
  refine WL.box2 (by simp only [ev_tmp, ev_const, ev_func, set_get, Nat.reduceEqDiff, reduceIte, Value.cells, e0, e1, hB1.cell]; rfl) ?_
  intro h2 B2 hx2 hlt2 hB2
  replace hE := hE.trans hx2
  replace hB1 := hB1.ext hx2
  refine WL.alloc2 zr45 ?_
  intro h3 B3 hx3 hlt3 hB3
  have hne1_3 : B3 ≠ B1 := by have := (Array.getElem?_eq_some_iff.1 hB1).1; omega
  have hne2_3 : B3 ≠ B2 := by have := (Array.getElem?_eq_some_iff.1 hB2).1; omega
  have hb0_3 := Nat.le_trans hE.size hlt3
  have hB1_s3 := hB1
  have hB2_s3 := hB2
  replace hE := hE.trans hx3
  replace hB1 := hB1.ext hx3
  replace hB2 := hB2.ext hx3
  have hEo3 := hx3
  simp only [Value.cells] at hB3
  refine WL.qq (by simp only [ev_tmp, ev_const, ev_func, set_get, Nat.reduceEqDiff, reduceIte, qv_assign, e0, e1, hB1.cell, hB2.cell, hB3.cell]; rfl) ?_
  refine WL.nil ?_
  refine th_norm ?_
  refine hx_seq ?_
  refine hx_region ?_
  refine WL.qq (by simp only [ev_tmp, ev_const, ev_func, set_get, Nat.reduceEqDiff, reduceIte, qv_load, ld45, readN, List.getElem?_toArray, List.getElem?_cons_zero, List.getElem?_cons_succ, List.map_toArray, List.map_cons, List.map_nil, Option.map_some, Option.bind_some, Nat.zero_add, Nat.reduceAdd, e0, e1, hB1.cell, hB2.cell, hB3.cell]; rfl) ?_
  refine WL.qq (by simp only [ev_tmp, ev_const, ev_func, set_get, Nat.reduceEqDiff, reduceIte, qv_load, ld45, readN, List.getElem?_toArray, List.getElem?_cons_zero, List.getElem?_cons_succ, List.map_toArray, List.map_cons, List.map_nil, Option.map_some, Option.bind_some, Nat.zero_add, Nat.reduceAdd, e0, e1, hB1.cell, hB2.cell, hB3.cell]; rfl) ?_
  refine WL.cg Try.call50 (by simp only [ev_tmp, ev_const, ev_func, set_get, Nat.reduceEqDiff, reduceIte, List.getElem?_toArray, List.getElem?_cons_zero, List.getElem?_cons_succ, List.map_toArray, List.map_cons, List.map_nil, Option.map_some, Option.bind_some, e0, e1, hB1.cell, hB2.cell, hB3.cell]; exact hbin _) ?_
  intro h4 hx4
  replace hE := hE.trans hx4
  replace hEo3 := hEo3.trans hx4
  replace hB1 := hB1.ext hx4
  replace hB2 := hB2.ext hx4
  replace hB3 := hB3.ext hx4
  refine WL.qq (by simp only [ev_tmp, ev_const, ev_func, set_get, Nat.reduceEqDiff, reduceIte, qv_extract, List.getElem?_toArray, List.getElem?_cons_zero, List.getElem?_cons_succ, List.map_toArray, List.map_cons, List.map_nil, Option.map_some, Option.bind_some, e0, e1, hB1.cell, hB2.cell, hB3.cell]; rfl) ?_
  refine WL.qq (by simp only [ev_tmp, ev_const, ev_func, set_get, Nat.reduceEqDiff, reduceIte, qv_extract, List.getElem?_toArray, List.getElem?_cons_zero, List.getElem?_cons_succ, List.map_toArray, List.map_cons, List.map_nil, Option.map_some, Option.bind_some, e0, e1, hB1.cell, hB2.cell, hB3.cell]; rfl) ?_
  refine WL.store (by simp only [ev_tmp, ev_const, ev_func, set_get, Nat.reduceEqDiff, reduceIte, e0, e1, hB1.cell, hB2.cell, hB3.cell] <;> rfl) sz45 (by simp only [ev_tmp, ev_const, ev_func, set_get, Nat.reduceEqDiff, reduceIte, Value.cells, e0, e1, hB1.cell, hB2.cell, hB3.cell] <;> rfl) rfl hB3 (by first | decide | (simp; done) | (simp; omega)) (by simp [Value.oneCell']) ?_
  intro h5 hw5
  replace hE := hw5.ext hE hb0_3
  replace hEo3 := hw5.ext hEo3 hlt3
  replace hB1 := hB1_s3.ext hEo3
  replace hB2 := hB2_s3.ext hEo3
  replace hB3 := hw5.at_
  try simp only [splc, List.take_succ_cons, List.take_zero, List.take_nil, List.drop_succ_cons, List.drop_zero, List.drop_nil, List.cons_append, List.nil_append, List.length_cons, List.length_nil, Nat.zero_add, Nat.add_zero, Nat.reduceAdd, List.append_nil] at hB3
  refine WL.qq (by simp only [ev_tmp, ev_const, ev_func, set_get, Nat.reduceEqDiff, reduceIte, qv_assign, e0, e1, hB1.cell, hB2.cell, hB3.cell]; rfl) ?_
  refine WL.nil ?_
  refine th_norm ?_
  refine hx_ret ?_
  refine fin_ret [.cell 4 45, .tmp 5] rfl rfl (by simp only [ev_tmp, ev_const, ev_func, set_get, Nat.reduceEqDiff, reduceIte, resv, ld45, readN, List.getElem?_toArray, List.getElem?_cons_zero, List.getElem?_cons_succ, List.map_toArray, List.map_cons, List.map_nil, Option.map_some, Option.bind_some, Nat.zero_add, Nat.reduceAdd, e0, e1, hB1.cell, hB2.cell, hB3.cell]; rfl) ?_  -- ret 0 r1
  exact ⟨rfl, hE⟩
end GL


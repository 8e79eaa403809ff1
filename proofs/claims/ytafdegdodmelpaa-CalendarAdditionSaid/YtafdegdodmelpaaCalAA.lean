/- Calendar: the law on adding business days. -/
import Derived.Test.YtafdegdodmelpaaCalZ
set_option linter.unusedSimpArgs false
set_option linter.unusedVariables false
set_option linter.unnecessarySimpa false
namespace GL
open Go Go.Proofs
set_option maxRecDepth 8000
theorem cnt_add (bus : Int → Bool) : ∀ (p q : Nat) (d : Int), cntM bus (p + q) d = cntM bus p d + cntM bus q (d + p)
  | 0, q, d => by simp [cntM]
  | p + 1, q, d => by
    have h := cnt_add bus p q (d + 1)
    rw [show p + 1 + q = (p + q) + 1 from by omega]
    simp only [cntM, h]
    rw [show d + 1 + (p : Int) = d + ((p + 1 : Nat) : Int) from by omega]
    omega
theorem cnt_none (bus : Int → Bool) : ∀ (n : Nat) (d : Int), (∀ z, d ≤ z → z < d + n → bus z = false) → cntM bus n d = 0
  | 0, d, _ => rfl
  | n + 1, d, h => by
    simp only [cntM]
    rw [cnt_none bus n (d + 1) (fun z h1 h2 => h z (by omega) (by omega)), h d (by omega) (by omega)]
    rfl
theorem cnt_one (bus : Int → Bool) (d : Int) : cntM bus 1 d = if bus d = true then 1 else 0 := by simp [cntM]
theorem step_down {bus : Int → Bool} {m x y : Int} (h : stepM bus m (-1) = (x, y)) (hy : y = 0) : x < m ∧ bus x = true ∧ (∀ z, x < z → z < m → bus z = false) := by
  unfold stepM at h
  split at h
  · split at h
    · rename_i n hs
      cases h
      obtain ⟨h1, h2, h3⟩ := scan_dn bus _ _ _ hs
      exact ⟨by omega, h2, fun z h4 h5 => h3 z h4 (by omega)⟩
    · cases h; omega
  · cases h; omega
theorem iter_err {bus : Int → Bool} {s : Int} : ∀ {n : Nat} {d x y : Int}, iterM bus s n d = (x, y) → y ≠ 0 → x = 0
  | 0, d, x, y, h, hy => by simp [iterM] at h; omega
  | n + 1, d, x, y, h, hy => by
    simp only [iterM] at h
    split at h
    · exact iter_err h hy
    · cases h; rfl
theorem iter_add (bus : Int → Bool) (s : Int) (q : Nat) : ∀ (p : Nat) (d x y : Int), iterM bus s p d = (x, y) → iterM bus s (p + q) d = if y = 0 then iterM bus s q x else (x, y)
  | 0, d, x, y, h => by simp [iterM] at h; obtain ⟨rfl, rfl⟩ := h; simp
  | p + 1, d, x, y, h => by
    rw [show p + 1 + q = (p + q) + 1 from by omega]
    obtain ⟨x1, y1, s1⟩ : ∃ a b, stepM bus d s = (a, b) := ⟨_, _, rfl⟩
    simp only [iterM, s1] at h ⊢
    by_cases hy : y1 = 0
    · rw [if_pos hy] at h ⊢
      exact iter_add bus s q p _ _ _ h
    · rw [if_neg hy] at h ⊢
      cases h
      rw [if_neg hy]
theorem iter_up {bus : Int → Bool} : ∀ {n : Nat} {m x : Int}, iterM bus 1 n m = (x, 0) → m ≤ x ∧ cntM bus (x - m).toNat (m + 1) = n
  | 0, m, x, h => by simp [iterM] at h; subst h; simp [cntM]
  | n + 1, m, x, h => by
    simp only [iterM] at h
    obtain ⟨x1, y1, s1⟩ : ∃ a b, stepM bus m 1 = (a, b) := ⟨_, _, rfl⟩
    rw [s1] at h
    simp only at h
    split at h
    · rename_i hy
      obtain ⟨h1, h2, h3, _⟩ := step_up s1 hy
      obtain ⟨h4, h5⟩ := iter_up h
      refine ⟨by omega, ?_⟩
      rw [show (x - m).toNat = (x1 - 1 - m).toNat + (1 + (x - x1).toNat) from by omega, cnt_add, cnt_add, cnt_none bus _ (m + 1) (fun z h6 h7 => h3 z (by omega) (by omega)), cnt_one,
        show m + 1 + ((x1 - 1 - m).toNat : Int) = x1 from by omega, if_pos h2, show x1 + ((1 : Nat) : Int) = x1 + 1 from rfl, h5]
      omega
    · rename_i hy
      cases h
      exact absurd rfl hy
theorem iter_dn {bus : Int → Bool} : ∀ {n : Nat} {m x : Int}, iterM bus (-1) n m = (x, 0) → x ≤ m ∧ cntM bus (m - x).toNat x = n ∧ (n ≠ 0 → bus x = true)
  | 0, m, x, h => by simp [iterM] at h; subst h; simp [cntM]
  | n + 1, m, x, h => by
    simp only [iterM] at h
    obtain ⟨x1, y1, s1⟩ : ∃ a b, stepM bus m (-1) = (a, b) := ⟨_, _, rfl⟩
    rw [s1] at h
    simp only at h
    split at h
    · rename_i hy
      obtain ⟨h1, h2, h3⟩ := step_down s1 hy
      obtain ⟨h4, h5, h6⟩ := iter_dn h
      refine ⟨by omega, ?_, fun _ => ?_⟩
      · rw [show (m - x).toNat = (x1 - x).toNat + (1 + (m - x1 - 1).toNat) from by omega, cnt_add, cnt_add, h5, cnt_one, show x + ((x1 - x).toNat : Int) = x1 from by omega, if_pos h2,
          cnt_none bus _ (x1 + ((1 : Nat) : Int)) (fun z h7 h8 => h3 z (by omega) (by omega))]
        omega
      · by_cases hn : n = 0
        · subst hn
          simp [iterM] at h
          rw [← h]; exact h2
        · exact h6 hn
    · rename_i hy
      cases h
      exact absurd rfl hy
theorem iter_valid {bus : Int → Bool} {s : Int} : ∀ {n : Nat} {m x : Int}, 0 ≤ m ∧ m ≤ 73048 → iterM bus s n m = (x, 0) → 0 ≤ x ∧ x ≤ 73048
  | 0, m, x, hv, h => by simp [iterM] at h; omega
  | n + 1, m, x, hv, h => by
    simp only [iterM] at h
    obtain ⟨x1, y1, s1⟩ : ∃ a b, stepM bus m s = (a, b) := ⟨_, _, rfl⟩
    rw [s1] at h
    simp only at h
    split at h
    · rename_i hy
      exact iter_valid (step_ok s1 hy) h
    · rename_i hy
      cases h
      exact absurd rfl hy
def sg (b : Bool) (n : Int) : Int := if b = true then -n else n
theorem addI_iter (bus : Int → Bool) (m : Int) (b : Bool) (n : Nat) (hn : n ≤ 1000) (hv : validM m = true) : addI bus m (sg b n) = iterM bus (sg b 1) n m := by
  rw [add_eq]
  unfold addR
  rw [if_pos hv]
  cases b with
  | true =>
    simp only [sg, if_true]
    rw [if_neg (by omega)]
    by_cases h0 : n = 0
    · subst h0; simp [iterM]
    · rw [if_pos (by omega), show (-(n : Int)).natAbs = n from by omega]
  | false =>
    simp only [sg, Bool.false_eq_true, if_false]
    rw [if_neg (by omega), if_neg (by omega), show ((n : Int)).natAbs = n from by omega]
/-- What the law says of the three moves and the count. -/
theorem add_law (bus : Int → Bool) (m : Int) (b : Bool) (p q : Nat) (hp : p ≤ 200) (hq : q ≤ 200) {x1 y1 x2 y2 x3 y3 k i : Int} (s1 : addI bus m (sg b p) = (x1, y1)) (s2 : addI bus x1 (sg b q) = (x2, y2)) (s3 : addI bus m (sg b p + sg b q) = (x3, y3)) (s4 : betM bus m x3 = (k, i)) :
    ((y1 ≠ 0 ∨ y2 ≠ 0) → y3 ≠ 0 ∧ x3 = 0) ∧ (y1 = 0 → y2 = 0 → y3 = 0 ∧ x2 = x3 ∧ i = 0 ∧ (b = false → k = sg b p + sg b q) ∧ (b = true → bus m = true → k = sg b p + sg b q)) := by
  have e1 : sg b p + sg b q = sg b ((p + q : Nat) : Int) := by unfold sg; split <;> omega
  rw [e1] at s3 ⊢
  cases hv : validM m with
  | false =>
    have h1 : addI bus m (sg b p) = (0, 2) := by unfold addI; rw [if_neg (by simp [hv])]
    have h3 : addI bus m (sg b ((p + q : Nat) : Int)) = (0, 2) := by unfold addI; rw [if_neg (by simp [hv])]
    rw [h1] at s1; rw [h3] at s3
    cases s1; cases s3
    exact ⟨fun _ => ⟨by decide, rfl⟩, fun h => (by cases h)⟩
  | true =>
    have bv := valid_bd hv
    rw [addI_iter bus m b p (by omega) hv] at s1
    rw [addI_iter bus m b (p + q) (by omega) hv, iter_add bus _ q p m x1 y1 s1] at s3
    by_cases hy1 : y1 = 0
    · subst hy1
      rw [if_pos rfl] at s3
      have bx := iter_valid bv s1
      have hvx : validM x1 = true := by simp [validM]; omega
      rw [addI_iter bus x1 b q (by omega) hvx] at s2
      rw [s2] at s3
      cases s3
      refine ⟨fun h => ?_, fun _ hy2 => ?_⟩
      · have hne : y2 ≠ 0 := h.resolve_left (fun hh => hh rfl)
        exact ⟨hne, iter_err s2 hne⟩
      · subst hy2
        have bx2 := iter_valid bx s2
        have hvx2 : validM x2 = true := by simp [validM]; omega
        have htot : iterM bus (sg b 1) (p + q) m = (x2, 0) := by rw [iter_add bus _ q p m x1 0 s1, if_pos rfl]; exact s2
        unfold betM at s4
        rw [if_pos ⟨hv, hvx2⟩] at s4
        cases b with
        | false =>
          obtain ⟨g1, g2⟩ := iter_up (by simpa [sg] using htot)
          rw [if_neg (by omega), g2] at s4
          cases s4
          exact ⟨rfl, rfl, rfl, fun _ => (by simp [sg]), fun hh => (by cases hh)⟩
        | true =>
          obtain ⟨g1, g2, g3⟩ := iter_dn (by simpa [sg] using htot)
          refine ⟨rfl, rfl, (by split at s4 <;> cases s4 <;> rfl), fun hh => (by cases hh), fun _ hbm => ?_⟩
          by_cases hlt : x2 < m
          · rw [if_pos hlt] at s4
            have hn : p + q ≠ 0 := fun hh => by rw [hh] at htot; simp [iterM] at htot; omega
            have hb2 := g3 hn
            have c1 := cnt_add bus 1 (m - x2).toNat x2
            have c2 := cnt_add bus (m - x2).toNat 1 x2
            rw [Nat.add_comm 1, cnt_one, if_pos hb2] at c1
            rw [cnt_one, show x2 + ((m - x2).toNat : Int) = m from by omega, if_pos hbm, g2] at c2
            rw [c1] at c2
            rw [show x2 + ((1 : Nat) : Int) = x2 + 1 from rfl] at c2
            cases s4
            simp only [sg, if_true]
            omega
          · rw [if_neg hlt, show (x2 - m).toNat = 0 from by omega] at s4
            rw [show (m - x2).toNat = 0 from by omega] at g2
            simp only [cntM] at g2 s4
            cases s4
            simp only [sg, if_true]
            omega
    · rw [if_neg hy1] at s3
      cases s3
      exact ⟨fun _ => ⟨hy1, iter_err s1 hy1⟩, fun h => absurd h hy1⟩
theorem tmod_u8 {x : Int} (b : 0 ≤ x ∧ x ≤ 255) : IntKind.i64.wrap (x.tmod 200) = ((x % 200).toNat : Int) := by
  rw [Int.tmod_eq_emod_of_nonneg b.1, w64 (by omega) (by omega)]
  omega
theorem l_addition (wk hol : List Int) (a a' : Option Addr) (c c' : Nat) (m x y : Int) (bk : Bool) (bx : 0 ≤ x ∧ x ≤ 255) (bY : 0 ≤ y ∧ y ≤ 255) {h : Heap} (hw : SlI h a wk) (hh : SlI h a' hol) (lw : wk.length ≤ 9223372036854775807) (lh : hol.length ≤ 9223372036854775807) (cw : wk.length ≤ c) (ch : hol.length ≤ c') :
    HCalls Try.prog 6 #[.agg #[.slice a wk.length c, .slice a' hol.length c'], .int .i64 m, .int .u8 x, .int .u8 y, .bool bk] h (Grow (.bool true) h) := by
  by_cases hz : newM wk hol = 0
  · obtain ⟨p, hp⟩ : ∃ p, (x % 200).toNat = p := ⟨_, rfl⟩
    obtain ⟨q, hq⟩ : ∃ q, (y % 200).toNat = q := ⟨_, rfl⟩
    obtain ⟨x1, y1, s1⟩ : ∃ u v, addI (busM wk (srt hol)) m (sg bk p) = (u, v) := ⟨_, _, rfl⟩
    obtain ⟨x2, y2, s2⟩ : ∃ u v, addI (busM wk (srt hol)) x1 (sg bk q) = (u, v) := ⟨_, _, rfl⟩
    obtain ⟨x3, y3, s3⟩ : ∃ u v, addI (busM wk (srt hol)) m (sg bk p + sg bk q) = (u, v) := ⟨_, _, rfl⟩
    obtain ⟨kk, ii, s4⟩ : ∃ u v, betM (busM wk (srt hol)) m x3 = (u, v) := ⟨_, _, rfl⟩
    obtain ⟨bb, s5⟩ : ∃ u, busM wk (srt hol) m = u := ⟨_, rfl⟩
    have bp : p ≤ 199 := by omega
    have bq : q ≤ 199 := by omega
    obtain ⟨la, lb⟩ := add_law (busM wk (srt hol)) m bk p q (by omega) (by omega) s1 s2 s3 s4
    rw [s5] at lb
    have bsp : -199 ≤ sg bk p ∧ sg bk p ≤ 199 := by unfold sg; split <;> omega
    have bsq : -199 ≤ sg bk q ∧ sg bk q ≤ 199 := by unfold sg; split <;> omega
    refine hcalls2 Try.func6 rfl (by decide +kernel) (by simp only [Try.ntmps6]; exact of_decide_eq_true rfl) ?_
    intro e hin
    have e0 := hin 0 _ rfl
    have e1 := hin 1 _ rfl
    have e2 := hin 2 _ rfl
    have e3 := hin 3 _ rfl
    have e4 := hin 4 _ rfl
    refine hx_seq ?_
    refine hx_region ?_
    refine WL.box2 (by simp only [ev_tmp, ev_const, ev_func, set_get, Nat.reduceEqDiff, reduceIte, Value.cells, e0, e1, e2, e3, e4]; rfl) ?_
    intro h1 B1 hx1 hlt1 hB1
    replace hw := hw.ext hx1
    replace hh := hh.ext hx1
    refine WL.qq (by simp only [ev_tmp, ev_const, ev_func, set_get, Nat.reduceEqDiff, reduceIte, qv_assign, e0, e1, e2, e3, e4, hB1.cell]; rfl) ?_
    refine WL.nil ?_
    refine th_norm ?_
    refine hx_seq ?_
    refine hx_region ?_
    refine WL.qq (by simp only [ev_tmp, ev_const, ev_func, set_get, Nat.reduceEqDiff, reduceIte, qv_load, ld24, readN, List.getElem?_toArray, List.getElem?_cons_zero, List.getElem?_cons_succ, List.map_toArray, List.map_cons, List.map_nil, Option.map_some, Option.bind_some, Nat.zero_add, Nat.reduceAdd, e0, e1, e2, e3, e4, hB1.cell]; rfl) ?_
    refine WL.ce Try.call14 (by simp only [ev_tmp, ev_const, ev_func, set_get, Nat.reduceEqDiff, reduceIte, List.getElem?_toArray, List.getElem?_cons_zero, List.getElem?_cons_succ, List.map_toArray, List.map_cons, List.map_nil, Option.map_some, Option.bind_some, e0, e1, e2, e3, e4, hB1.cell]; exact c_of_ok hz c c' hw hh lw) ?_
    rintro _ h2 ⟨hx2, P, rfl, hc⟩
    replace hw := hw.ext hx2
    replace hh := hh.ext hx2
    replace hB1 := hB1.ext hx2
    simp only [put_some]
    refine WL.qq (by simp only [ev_tmp, ev_const, ev_func, set_get, Nat.reduceEqDiff, reduceIte, qv_move, e0, e1, e2, e3, e4, hB1.cell]; rfl) ?_
    refine WL.qq (by simp only [ev_tmp, ev_const, ev_func, set_get, Nat.reduceEqDiff, reduceIte, qv_extract, List.getElem?_toArray, List.getElem?_cons_zero, List.getElem?_cons_succ, List.map_toArray, List.map_cons, List.map_nil, Option.map_some, Option.bind_some, e0, e1, e2, e3, e4, hB1.cell]; rfl) ?_
    refine WL.qq (by simp only [ev_tmp, ev_const, ev_func, set_get, Nat.reduceEqDiff, reduceIte, qv_extract, List.getElem?_toArray, List.getElem?_cons_zero, List.getElem?_cons_succ, List.map_toArray, List.map_cons, List.map_nil, Option.map_some, Option.bind_some, e0, e1, e2, e3, e4, hB1.cell]; rfl) ?_
    refine WL.qq (by simp only [ev_tmp, ev_const, ev_func, set_get, Nat.reduceEqDiff, reduceIte, qv_assign, e0, e1, e2, e3, e4, hB1.cell]; rfl) ?_
    refine WL.qq (by simp only [ev_tmp, ev_const, ev_func, set_get, Nat.reduceEqDiff, reduceIte, qv_assign, e0, e1, e2, e3, e4, hB1.cell]; rfl) ?_
    refine WL.nil ?_
    refine th_norm ?_
    refine hx_seq ?_
    refine hx_seq ?_
    refine hx_region ?_
    refine WL.cg Try.call12 (by simp only [ev_tmp, ev_const, ev_func, set_get, Nat.reduceEqDiff, reduceIte, List.getElem?_toArray, List.getElem?_cons_zero, List.getElem?_cons_succ, List.map_toArray, List.map_cons, List.map_nil, Option.map_some, Option.bind_some, e0, e1, e2, e3, e4, hB1.cell]; exact c_known _) ?_
    intro h3 hx3
    replace hw := hw.ext hx3
    replace hh := hh.ext hx3
    replace hB1 := hB1.ext hx3
    replace hc := hc.ext hx3
    refine WL.qq (by simp only [ev_tmp, ev_const, ev_func, set_get, Nat.reduceEqDiff, reduceIte, qv_unOp, unv_not, e0, e1, e2, e3, e4, hB1.cell]; rfl) ?_
    refine WL.qq (by simp only [ev_tmp, ev_const, ev_func, set_get, Nat.reduceEqDiff, reduceIte, qv_move, e0, e1, e2, e3, e4, hB1.cell]; rfl) ?_
    refine WL.cq (gd_at (t := 30) rfl (by simp only [ev_tmp, ev_const, ev_func, set_get, Nat.reduceEqDiff, reduceIte, e0, e1, e2, e3, e4, hB1.cell]; rfl)) (fun hg2_3 => by simp only [ev_tmp, ev_const, ev_func, set_get, Nat.reduceEqDiff, reduceIte, qv_move, e0, e1, e2, e3, e4, hB1.cell, hg2_3, Bool.false_eq_true, Bool.true_eq_false, eq_self, if_true, if_false, true_and, and_true, false_and, and_false]; rfl) ?_
    refine WL.cq (gd_at (t := 30) rfl (by simp only [ev_tmp, ev_const, ev_func, set_get, Nat.reduceEqDiff, reduceIte, e0, e1, e2, e3, e4, hB1.cell]; rfl)) (fun hg2_4 => by simp only [ev_tmp, ev_const, ev_func, set_get, Nat.reduceEqDiff, reduceIte, qv_binOp, binv_neq, eq28, Option.map_some, e0, e1, e2, e3, e4, hB1.cell, hg2_4, Bool.false_eq_true, Bool.true_eq_false, eq_self, if_true, if_false, true_and, and_true, false_and, and_false]; rfl) ?_
    refine WL.qq (by simp only [ev_tmp, ev_const, ev_func, set_get, Nat.reduceEqDiff, reduceIte, qv_pick, pk_and, pk_or, Bool.false_eq_true, Bool.true_eq_false, eq_self, if_true, if_false, true_and, and_true, false_and, and_false, e0, e1, e2, e3, e4, hB1.cell]; rfl) ?_
    refine WL.qq (by simp only [ev_tmp, ev_const, ev_func, set_get, Nat.reduceEqDiff, reduceIte, qv_move, e0, e1, e2, e3, e4, hB1.cell]; rfl) ?_
    refine WL.cq (gd_at (t := 34) rfl (by simp only [ev_tmp, ev_const, ev_func, set_get, Nat.reduceEqDiff, reduceIte, e0, e1, e2, e3, e4, hB1.cell]; rfl)) (fun hg2_7 => by simp only [ev_tmp, ev_const, ev_func, set_get, Nat.reduceEqDiff, reduceIte, qv_fieldAddr, fa24_1, Nat.zero_add, Nat.reduceAdd, e0, e1, e2, e3, e4, hB1.cell, hg2_7, Bool.false_eq_true, Bool.true_eq_false, eq_self, if_true, if_false, true_and, and_true, false_and, and_false]; rfl) ?_
    refine WL.cq (gd_at (t := 34) rfl (by simp only [ev_tmp, ev_const, ev_func, set_get, Nat.reduceEqDiff, reduceIte, e0, e1, e2, e3, e4, hB1.cell]; rfl)) (fun hg2_8 => by simp only [ev_tmp, ev_const, ev_func, set_get, Nat.reduceEqDiff, reduceIte, qv_load, ld22, readN, List.getElem?_toArray, List.getElem?_cons_zero, List.getElem?_cons_succ, List.map_toArray, List.map_cons, List.map_nil, Option.map_some, Option.bind_some, Nat.zero_add, Nat.reduceAdd, e0, e1, e2, e3, e4, hB1.cell, hg2_8, Bool.false_eq_true, Bool.true_eq_false, eq_self, if_true, if_false, true_and, and_true, false_and, and_false]; rfl) ?_
    refine WL.cq (gd_at (t := 34) rfl (by simp only [ev_tmp, ev_const, ev_func, set_get, Nat.reduceEqDiff, reduceIte, e0, e1, e2, e3, e4, hB1.cell]; rfl)) (fun hg2_9 => by simp only [ev_tmp, ev_const, ev_func, set_get, Nat.reduceEqDiff, reduceIte, qv_len, ln22, List.getElem?_toArray, List.getElem?_cons_zero, List.getElem?_cons_succ, List.map_toArray, List.map_cons, List.map_nil, Option.map_some, Option.bind_some, e0, e1, e2, e3, e4, hB1.cell, hg2_9, Bool.false_eq_true, Bool.true_eq_false, eq_self, if_true, if_false, true_and, and_true, false_and, and_false]; rfl) ?_
    refine WL.cq (gd_at (t := 34) rfl (by simp only [ev_tmp, ev_const, ev_func, set_get, Nat.reduceEqDiff, reduceIte, e0, e1, e2, e3, e4, hB1.cell]; rfl)) (fun hg2_10 => by simp only [ev_tmp, ev_const, ev_func, set_get, Nat.reduceEqDiff, reduceIte, qv_binOp, binv_gtr, e0, e1, e2, e3, e4, hB1.cell, hg2_10, Bool.false_eq_true, Bool.true_eq_false, eq_self, if_true, if_false, true_and, and_true, false_and, and_false]; rfl) ?_
    refine WL.qq (by simp only [ev_tmp, ev_const, ev_func, set_get, Nat.reduceEqDiff, reduceIte, qv_pick, pk_and, pk_or, Bool.false_eq_true, Bool.true_eq_false, eq_self, if_true, if_false, true_and, and_true, false_and, and_false, e0, e1, e2, e3, e4, hB1.cell]; rfl) ?_
    refine WL.nil ?_
    refine th_norm ?_
    refine hx_cond (by simp only [ev_tmp, ev_const, ev_func, set_get, Nat.reduceEqDiff, reduceIte, e0, e1, e2, e3, e4, hB1.cell]; rfl) (fun hct39 => ?_) (fun hct39 => ?_)
    ·
      try simp only [decide_eq_true_eq, decide_eq_false_iff_not, Bool.and_eq_true, Bool.and_eq_false_iff, Bool.or_eq_true, Bool.or_eq_false_iff, Bool.not_eq_true', Bool.not_eq_false', Bool.not_eq_true, Bool.not_eq_false] at hct39
      refine hx_seq ?_
      refine hx_region ?_
      refine WL.cg Try.call12 (by simp only [ev_tmp, ev_const, ev_func, set_get, Nat.reduceEqDiff, reduceIte, List.getElem?_toArray, List.getElem?_cons_zero, List.getElem?_cons_succ, List.map_toArray, List.map_cons, List.map_nil, Option.map_some, Option.bind_some, e0, e1, e2, e3, e4, hB1.cell]; exact c_known _) ?_
      intro h4 hx4
      replace hw := hw.ext hx4
      replace hh := hh.ext hx4
      replace hB1 := hB1.ext hx4
      replace hc := hc.ext hx4
      refine WL.qq (by simp only [ev_tmp, ev_const, ev_func, set_get, Nat.reduceEqDiff, reduceIte, qv_assign, e0, e1, e2, e3, e4, hB1.cell]; rfl) ?_
      refine WL.nil ?_
      refine th_norm ?_
      refine hx_ret ?_
      refine th_ret ?_
      refine fin_ret [.tmp 10] rfl rfl (by simp only [ev_tmp, ev_const, ev_func, set_get, Nat.reduceEqDiff, reduceIte, resv, e0, e1, e2, e3, e4, hB1.cell]; rfl) ?_  -- ret 0 r3
      exact ⟨rfl, ((hx1).trans ((hx2).trans ((hx3).trans (hx4))))⟩
    ·
      try simp only [decide_eq_true_eq, decide_eq_false_iff_not, Bool.and_eq_true, Bool.and_eq_false_iff, Bool.or_eq_true, Bool.or_eq_false_iff, Bool.not_eq_true', Bool.not_eq_false', Bool.not_eq_true, Bool.not_eq_false] at hct39
      refine hx_skip ?_
      refine th_norm ?_
      refine hx_seq ?_
      refine hx_region ?_
      refine WL.qq (by simp only [ev_tmp, ev_const, ev_func, set_get, Nat.reduceEqDiff, reduceIte, qv_move, e0, e1, e2, e3, e4, hB1.cell]; rfl) ?_
      refine WL.qq (by simp only [ev_tmp, ev_const, ev_func, set_get, Nat.reduceEqDiff, reduceIte, e0, e1, e2, e3, e4, hB1.cell, qv_binOp]; rw [binv_rem (by decide)]) ?_
      refine WL.qq (by simp only [ev_tmp, ev_const, ev_func, set_get, Nat.reduceEqDiff, reduceIte, e0, e1, e2, e3, e4, hB1.cell, qv_convert, convv, Try.underlying5, Try.underlying3]; rw [tmod_u8 bx, hp]) ?_
      refine WL.qq (by simp only [ev_tmp, ev_const, ev_func, set_get, Nat.reduceEqDiff, reduceIte, qv_move, e0, e1, e2, e3, e4, hB1.cell]; rfl) ?_
      refine WL.qq (by simp only [ev_tmp, ev_const, ev_func, set_get, Nat.reduceEqDiff, reduceIte, e0, e1, e2, e3, e4, hB1.cell, qv_binOp]; rw [binv_rem (by decide)]) ?_
      refine WL.qq (by simp only [ev_tmp, ev_const, ev_func, set_get, Nat.reduceEqDiff, reduceIte, e0, e1, e2, e3, e4, hB1.cell, qv_convert, convv, Try.underlying5, Try.underlying3]; rw [tmod_u8 bY, hq]) ?_
      refine WL.qq (by simp only [ev_tmp, ev_const, ev_func, set_get, Nat.reduceEqDiff, reduceIte, qv_assign, e0, e1, e2, e3, e4, hB1.cell]; rfl) ?_
      refine WL.qq (by simp only [ev_tmp, ev_const, ev_func, set_get, Nat.reduceEqDiff, reduceIte, qv_assign, e0, e1, e2, e3, e4, hB1.cell]; rfl) ?_
      refine WL.nil ?_
      refine th_norm ?_
      refine hx_cutS [13, 14, 47, 48, 49, 50, 51] (fun e => e 13 = .int .i64 (sg bk p) ∧ e 14 = .int .i64 (sg bk q)) ?_ ?_
      ·
        refine hx_seq ?_
        refine hx_region ?_
        refine WL.qq (by simp only [ev_tmp, ev_const, ev_func, set_get, Nat.reduceEqDiff, reduceIte, qv_move, e0, e1, e2, e3, e4, hB1.cell]; rfl) ?_
        refine WL.nil ?_
        refine th_norm ?_
        refine hx_cond (by simp only [ev_tmp, ev_const, ev_func, set_get, Nat.reduceEqDiff, reduceIte, e0, e1, e2, e3, e4, hB1.cell]; rfl) (fun hct47 => ?_) (fun hct47 => ?_)
        ·
          try simp only [decide_eq_true_eq, decide_eq_false_iff_not, Bool.and_eq_true, Bool.and_eq_false_iff, Bool.or_eq_true, Bool.or_eq_false_iff, Bool.not_eq_true', Bool.not_eq_false', Bool.not_eq_true, Bool.not_eq_false] at hct47
          refine hx_region ?_
          refine WL.qq (by simp only [ev_tmp, ev_const, ev_func, set_get, Nat.reduceEqDiff, reduceIte, qv_move, e0, e1, e2, e3, e4, hB1.cell]; rfl) ?_
          refine WL.qq (by simp only [ev_tmp, ev_const, ev_func, set_get, Nat.reduceEqDiff, reduceIte, qv_unOp, unv_neg, e0, e1, e2, e3, e4, hB1.cell]; (try simp (disch := omega) only [w64]); rfl) ?_
          refine WL.qq (by simp only [ev_tmp, ev_const, ev_func, set_get, Nat.reduceEqDiff, reduceIte, qv_move, e0, e1, e2, e3, e4, hB1.cell]; rfl) ?_
          refine WL.qq (by simp only [ev_tmp, ev_const, ev_func, set_get, Nat.reduceEqDiff, reduceIte, qv_unOp, unv_neg, e0, e1, e2, e3, e4, hB1.cell]; (try simp (disch := omega) only [w64]); rfl) ?_
          refine WL.qq (by simp only [ev_tmp, ev_const, ev_func, set_get, Nat.reduceEqDiff, reduceIte, qv_assign, e0, e1, e2, e3, e4, hB1.cell]; rfl) ?_
          refine WL.qq (by simp only [ev_tmp, ev_const, ev_func, set_get, Nat.reduceEqDiff, reduceIte, qv_assign, e0, e1, e2, e3, e4, hB1.cell]; rfl) ?_
          refine WL.nil ?_
          refine th_norm ?_
          refine ⟨rfl, rfl, ?_, ?_, ?_⟩  -- meet 0 of cut 5
          · (repeat (first | exact Fr.refl _ _ | refine Fr.set rfl ?_ | refine Fr.put rfl ?_ | refine Fr.put0 ?_ | refine Fr.trans ?_ (Fr.of hfc5 rfl)))
          · simp only [ev_tmp, ev_const, ev_func, set_get, Nat.reduceEqDiff, reduceIte, e0, e1, e2, e3, e4, hB1.cell] <;> (simp only [sg, hct47, if_true, Bool.false_eq_true, if_false, Int.zero_sub])
          · simp only [ev_tmp, ev_const, ev_func, set_get, Nat.reduceEqDiff, reduceIte, e0, e1, e2, e3, e4, hB1.cell] <;> (simp only [sg, hct47, if_true, Bool.false_eq_true, if_false, Int.zero_sub])
        ·
          try simp only [decide_eq_true_eq, decide_eq_false_iff_not, Bool.and_eq_true, Bool.and_eq_false_iff, Bool.or_eq_true, Bool.or_eq_false_iff, Bool.not_eq_true', Bool.not_eq_false', Bool.not_eq_true, Bool.not_eq_false] at hct47
          refine hx_skip ?_
          refine th_norm ?_
          refine ⟨rfl, rfl, ?_, ?_, ?_⟩  -- meet 1 of cut 5
          · (repeat (first | exact Fr.refl _ _ | refine Fr.set rfl ?_ | refine Fr.put rfl ?_ | refine Fr.put0 ?_ | refine Fr.trans ?_ (Fr.of hfc5 rfl)))
          · simp only [ev_tmp, ev_const, ev_func, set_get, Nat.reduceEqDiff, reduceIte, e0, e1, e2, e3, e4, hB1.cell] <;> (simp only [sg, hct47, if_true, Bool.false_eq_true, if_false, Int.zero_sub])
          · simp only [ev_tmp, ev_const, ev_func, set_get, Nat.reduceEqDiff, reduceIte, e0, e1, e2, e3, e4, hB1.cell] <;> (simp only [sg, hct47, if_true, Bool.false_eq_true, if_false, Int.zero_sub])
      ·
        rintro ec5 hfc5 ⟨i13_c5, i14_c5⟩
        have k1_c5 := hfc5 1 rfl; simp only [ev_tmp, ev_const, ev_func, set_get, Nat.reduceEqDiff, reduceIte, e0, e1, e2, e3, e4, hB1.cell] at k1_c5
        have k4_c5 := hfc5 4 rfl; simp only [ev_tmp, ev_const, ev_func, set_get, Nat.reduceEqDiff, reduceIte, e0, e1, e2, e3, e4, hB1.cell] at k4_c5
        have k10_c5 := hfc5 10 rfl; simp only [ev_tmp, ev_const, ev_func, set_get, Nat.reduceEqDiff, reduceIte, e0, e1, e2, e3, e4, hB1.cell] at k10_c5
        have k11_c5 := hfc5 11 rfl; simp only [ev_tmp, ev_const, ev_func, set_get, Nat.reduceEqDiff, reduceIte, e0, e1, e2, e3, e4, hB1.cell] at k11_c5
        refine hx_seq ?_
        refine hx_region ?_
        refine WL.qq (by simp only [ev_tmp, ev_const, ev_func, set_get, Nat.reduceEqDiff, reduceIte, qv_move, k1_c5, k4_c5, k10_c5, k11_c5, i13_c5, i14_c5, hB1.cell]; rfl) ?_
        refine WL.qq (by simp only [ev_tmp, ev_const, ev_func, set_get, Nat.reduceEqDiff, reduceIte, qv_move, k1_c5, k4_c5, k10_c5, k11_c5, i13_c5, i14_c5, hB1.cell]; rfl) ?_
        refine WL.qq (by simp only [ev_tmp, ev_const, ev_func, set_get, Nat.reduceEqDiff, reduceIte, qv_move, k1_c5, k4_c5, k10_c5, k11_c5, i13_c5, i14_c5, hB1.cell]; rfl) ?_
        refine WL.cg Try.call15 (by simp only [ev_tmp, ev_const, ev_func, set_get, Nat.reduceEqDiff, reduceIte, List.getElem?_toArray, List.getElem?_cons_zero, List.getElem?_cons_succ, List.map_toArray, List.map_cons, List.map_nil, Option.map_some, Option.bind_some, k1_c5, k4_c5, k10_c5, k11_c5, i13_c5, i14_c5, hB1.cell]; exact pair_grow s1 (c_addBusiness P wk (srt hol) m (sg bk p) (by omega) hc)) ?_
        intro h5 hx5
        replace hw := hw.ext hx5
        replace hh := hh.ext hx5
        replace hB1 := hB1.ext hx5
        replace hc := hc.ext hx5
        refine WL.qq (by simp only [ev_tmp, ev_const, ev_func, set_get, Nat.reduceEqDiff, reduceIte, qv_move, k1_c5, k4_c5, k10_c5, k11_c5, i13_c5, i14_c5, hB1.cell]; rfl) ?_
        refine WL.qq (by simp only [ev_tmp, ev_const, ev_func, set_get, Nat.reduceEqDiff, reduceIte, qv_extract, List.getElem?_toArray, List.getElem?_cons_zero, List.getElem?_cons_succ, List.map_toArray, List.map_cons, List.map_nil, Option.map_some, Option.bind_some, k1_c5, k4_c5, k10_c5, k11_c5, i13_c5, i14_c5, hB1.cell]; rfl) ?_
        refine WL.qq (by simp only [ev_tmp, ev_const, ev_func, set_get, Nat.reduceEqDiff, reduceIte, qv_extract, List.getElem?_toArray, List.getElem?_cons_zero, List.getElem?_cons_succ, List.map_toArray, List.map_cons, List.map_nil, Option.map_some, Option.bind_some, k1_c5, k4_c5, k10_c5, k11_c5, i13_c5, i14_c5, hB1.cell]; rfl) ?_
        refine WL.qq (by simp only [ev_tmp, ev_const, ev_func, set_get, Nat.reduceEqDiff, reduceIte, qv_assign, k1_c5, k4_c5, k10_c5, k11_c5, i13_c5, i14_c5, hB1.cell]; rfl) ?_
        refine WL.qq (by simp only [ev_tmp, ev_const, ev_func, set_get, Nat.reduceEqDiff, reduceIte, qv_assign, k1_c5, k4_c5, k10_c5, k11_c5, i13_c5, i14_c5, hB1.cell]; rfl) ?_
        refine WL.nil ?_
        refine th_norm ?_
        refine hx_seq ?_
        refine hx_region ?_
        refine WL.qq (by simp only [ev_tmp, ev_const, ev_func, set_get, Nat.reduceEqDiff, reduceIte, qv_move, k1_c5, k4_c5, k10_c5, k11_c5, i13_c5, i14_c5, hB1.cell]; rfl) ?_
        refine WL.qq (by simp only [ev_tmp, ev_const, ev_func, set_get, Nat.reduceEqDiff, reduceIte, qv_move, k1_c5, k4_c5, k10_c5, k11_c5, i13_c5, i14_c5, hB1.cell]; rfl) ?_
        refine WL.qq (by simp only [ev_tmp, ev_const, ev_func, set_get, Nat.reduceEqDiff, reduceIte, qv_move, k1_c5, k4_c5, k10_c5, k11_c5, i13_c5, i14_c5, hB1.cell]; rfl) ?_
        refine WL.cg Try.call15 (by simp only [ev_tmp, ev_const, ev_func, set_get, Nat.reduceEqDiff, reduceIte, List.getElem?_toArray, List.getElem?_cons_zero, List.getElem?_cons_succ, List.map_toArray, List.map_cons, List.map_nil, Option.map_some, Option.bind_some, k1_c5, k4_c5, k10_c5, k11_c5, i13_c5, i14_c5, hB1.cell]; exact pair_grow s2 (c_addBusiness P wk (srt hol) x1 (sg bk q) (by omega) hc)) ?_
        intro h6 hx6
        replace hw := hw.ext hx6
        replace hh := hh.ext hx6
        replace hB1 := hB1.ext hx6
        replace hc := hc.ext hx6
        refine WL.qq (by simp only [ev_tmp, ev_const, ev_func, set_get, Nat.reduceEqDiff, reduceIte, qv_move, k1_c5, k4_c5, k10_c5, k11_c5, i13_c5, i14_c5, hB1.cell]; rfl) ?_
        refine WL.qq (by simp only [ev_tmp, ev_const, ev_func, set_get, Nat.reduceEqDiff, reduceIte, qv_extract, List.getElem?_toArray, List.getElem?_cons_zero, List.getElem?_cons_succ, List.map_toArray, List.map_cons, List.map_nil, Option.map_some, Option.bind_some, k1_c5, k4_c5, k10_c5, k11_c5, i13_c5, i14_c5, hB1.cell]; rfl) ?_
        refine WL.qq (by simp only [ev_tmp, ev_const, ev_func, set_get, Nat.reduceEqDiff, reduceIte, qv_extract, List.getElem?_toArray, List.getElem?_cons_zero, List.getElem?_cons_succ, List.map_toArray, List.map_cons, List.map_nil, Option.map_some, Option.bind_some, k1_c5, k4_c5, k10_c5, k11_c5, i13_c5, i14_c5, hB1.cell]; rfl) ?_
        refine WL.qq (by simp only [ev_tmp, ev_const, ev_func, set_get, Nat.reduceEqDiff, reduceIte, qv_assign, k1_c5, k4_c5, k10_c5, k11_c5, i13_c5, i14_c5, hB1.cell]; rfl) ?_
        refine WL.qq (by simp only [ev_tmp, ev_const, ev_func, set_get, Nat.reduceEqDiff, reduceIte, qv_assign, k1_c5, k4_c5, k10_c5, k11_c5, i13_c5, i14_c5, hB1.cell]; rfl) ?_
        refine WL.nil ?_
        refine th_norm ?_
        refine hx_seq ?_
        refine hx_region ?_
        refine WL.qq (by simp only [ev_tmp, ev_const, ev_func, set_get, Nat.reduceEqDiff, reduceIte, qv_move, k1_c5, k4_c5, k10_c5, k11_c5, i13_c5, i14_c5, hB1.cell]; rfl) ?_
        refine WL.qq (by simp only [ev_tmp, ev_const, ev_func, set_get, Nat.reduceEqDiff, reduceIte, qv_move, k1_c5, k4_c5, k10_c5, k11_c5, i13_c5, i14_c5, hB1.cell]; rfl) ?_
        refine WL.qq (by simp only [ev_tmp, ev_const, ev_func, set_get, Nat.reduceEqDiff, reduceIte, qv_move, k1_c5, k4_c5, k10_c5, k11_c5, i13_c5, i14_c5, hB1.cell]; rfl) ?_
        refine WL.qq (by simp only [ev_tmp, ev_const, ev_func, set_get, Nat.reduceEqDiff, reduceIte, qv_move, k1_c5, k4_c5, k10_c5, k11_c5, i13_c5, i14_c5, hB1.cell]; rfl) ?_
        refine WL.qq (by simp only [ev_tmp, ev_const, ev_func, set_get, Nat.reduceEqDiff, reduceIte, qv_binOp, binv_add, k1_c5, k4_c5, k10_c5, k11_c5, i13_c5, i14_c5, hB1.cell]; (try simp (disch := omega) only [w64, w8, wu64]); rfl) ?_
        refine WL.cg Try.call15 (by simp only [ev_tmp, ev_const, ev_func, set_get, Nat.reduceEqDiff, reduceIte, List.getElem?_toArray, List.getElem?_cons_zero, List.getElem?_cons_succ, List.map_toArray, List.map_cons, List.map_nil, Option.map_some, Option.bind_some, k1_c5, k4_c5, k10_c5, k11_c5, i13_c5, i14_c5, hB1.cell]; exact pair_grow s3 (c_addBusiness P wk (srt hol) m (sg bk p + sg bk q) (by omega) hc)) ?_
        intro h7 hx7
        replace hw := hw.ext hx7
        replace hh := hh.ext hx7
        replace hB1 := hB1.ext hx7
        replace hc := hc.ext hx7
        refine WL.qq (by simp only [ev_tmp, ev_const, ev_func, set_get, Nat.reduceEqDiff, reduceIte, qv_move, k1_c5, k4_c5, k10_c5, k11_c5, i13_c5, i14_c5, hB1.cell]; rfl) ?_
        refine WL.qq (by simp only [ev_tmp, ev_const, ev_func, set_get, Nat.reduceEqDiff, reduceIte, qv_extract, List.getElem?_toArray, List.getElem?_cons_zero, List.getElem?_cons_succ, List.map_toArray, List.map_cons, List.map_nil, Option.map_some, Option.bind_some, k1_c5, k4_c5, k10_c5, k11_c5, i13_c5, i14_c5, hB1.cell]; rfl) ?_
        refine WL.qq (by simp only [ev_tmp, ev_const, ev_func, set_get, Nat.reduceEqDiff, reduceIte, qv_extract, List.getElem?_toArray, List.getElem?_cons_zero, List.getElem?_cons_succ, List.map_toArray, List.map_cons, List.map_nil, Option.map_some, Option.bind_some, k1_c5, k4_c5, k10_c5, k11_c5, i13_c5, i14_c5, hB1.cell]; rfl) ?_
        refine WL.qq (by simp only [ev_tmp, ev_const, ev_func, set_get, Nat.reduceEqDiff, reduceIte, qv_assign, k1_c5, k4_c5, k10_c5, k11_c5, i13_c5, i14_c5, hB1.cell]; rfl) ?_
        refine WL.qq (by simp only [ev_tmp, ev_const, ev_func, set_get, Nat.reduceEqDiff, reduceIte, qv_assign, k1_c5, k4_c5, k10_c5, k11_c5, i13_c5, i14_c5, hB1.cell]; rfl) ?_
        refine WL.nil ?_
        refine th_norm ?_
        refine hx_seq ?_
        refine hx_seq ?_
        refine hx_region ?_
        refine WL.qq (by simp only [ev_tmp, ev_const, ev_func, set_get, Nat.reduceEqDiff, reduceIte, qv_move, k1_c5, k4_c5, k10_c5, k11_c5, i13_c5, i14_c5, hB1.cell]; rfl) ?_
        refine WL.qq (by simp only [ev_tmp, ev_const, ev_func, set_get, Nat.reduceEqDiff, reduceIte, qv_binOp, binv_neq, eq28, Option.map_some, k1_c5, k4_c5, k10_c5, k11_c5, i13_c5, i14_c5, hB1.cell]; rfl) ?_
        refine WL.qq (by simp only [ev_tmp, ev_const, ev_func, set_get, Nat.reduceEqDiff, reduceIte, qv_move, k1_c5, k4_c5, k10_c5, k11_c5, i13_c5, i14_c5, hB1.cell]; rfl) ?_
        refine WL.cq (gd_at (t := 77) rfl (by simp only [ev_tmp, ev_const, ev_func, set_get, Nat.reduceEqDiff, reduceIte, k1_c5, k4_c5, k10_c5, k11_c5, i13_c5, i14_c5, hB1.cell]; rfl)) (fun hg10_3 => by simp only [ev_tmp, ev_const, ev_func, set_get, Nat.reduceEqDiff, reduceIte, qv_move, k1_c5, k4_c5, k10_c5, k11_c5, i13_c5, i14_c5, hB1.cell, hg10_3, Bool.false_eq_true, Bool.true_eq_false, eq_self, if_true, if_false, true_and, and_true, false_and, and_false]; rfl) ?_
        refine WL.cq (gd_at (t := 77) rfl (by simp only [ev_tmp, ev_const, ev_func, set_get, Nat.reduceEqDiff, reduceIte, k1_c5, k4_c5, k10_c5, k11_c5, i13_c5, i14_c5, hB1.cell]; rfl)) (fun hg10_4 => by simp only [ev_tmp, ev_const, ev_func, set_get, Nat.reduceEqDiff, reduceIte, qv_binOp, binv_neq, eq28, Option.map_some, k1_c5, k4_c5, k10_c5, k11_c5, i13_c5, i14_c5, hB1.cell, hg10_4, Bool.false_eq_true, Bool.true_eq_false, eq_self, if_true, if_false, true_and, and_true, false_and, and_false]; rfl) ?_
        refine WL.qq (by simp only [ev_tmp, ev_const, ev_func, set_get, Nat.reduceEqDiff, reduceIte, qv_pick, pk_and, pk_or, Bool.false_eq_true, Bool.true_eq_false, eq_self, if_true, if_false, true_and, and_true, false_and, and_false, k1_c5, k4_c5, k10_c5, k11_c5, i13_c5, i14_c5, hB1.cell]; rfl) ?_
        refine WL.nil ?_
        refine th_norm ?_
        refine hx_cond (by simp only [ev_tmp, ev_const, ev_func, set_get, Nat.reduceEqDiff, reduceIte, k1_c5, k4_c5, k10_c5, k11_c5, i13_c5, i14_c5, hB1.cell]; rfl) (fun hct80 => ?_) (fun hct80 => ?_)
        ·
          try simp only [decide_eq_true_eq, decide_eq_false_iff_not, Bool.and_eq_true, Bool.and_eq_false_iff, Bool.or_eq_true, Bool.or_eq_false_iff, Bool.not_eq_true', Bool.not_eq_false', Bool.not_eq_true, Bool.not_eq_false] at hct80
          refine hx_seq ?_
          refine hx_region ?_
          refine WL.qq (by simp only [ev_tmp, ev_const, ev_func, set_get, Nat.reduceEqDiff, reduceIte, qv_move, k1_c5, k4_c5, k10_c5, k11_c5, i13_c5, i14_c5, hB1.cell]; rfl) ?_
          refine WL.qq (by simp only [ev_tmp, ev_const, ev_func, set_get, Nat.reduceEqDiff, reduceIte, qv_binOp, binv_neq, eq28, Option.map_some, k1_c5, k4_c5, k10_c5, k11_c5, i13_c5, i14_c5, hB1.cell]; rfl) ?_
          refine WL.qq (by simp only [ev_tmp, ev_const, ev_func, set_get, Nat.reduceEqDiff, reduceIte, qv_move, k1_c5, k4_c5, k10_c5, k11_c5, i13_c5, i14_c5, hB1.cell]; rfl) ?_
          refine WL.cq (gd_at (t := 83) rfl (by simp only [ev_tmp, ev_const, ev_func, set_get, Nat.reduceEqDiff, reduceIte, k1_c5, k4_c5, k10_c5, k11_c5, i13_c5, i14_c5, hB1.cell]; rfl)) (fun hg11_3 => by simp only [ev_tmp, ev_const, ev_func, set_get, Nat.reduceEqDiff, reduceIte, qv_move, k1_c5, k4_c5, k10_c5, k11_c5, i13_c5, i14_c5, hB1.cell, hg11_3, Bool.false_eq_true, Bool.true_eq_false, eq_self, if_true, if_false, true_and, and_true, false_and, and_false]; rfl) ?_
          refine WL.cq (gd_at (t := 83) rfl (by simp only [ev_tmp, ev_const, ev_func, set_get, Nat.reduceEqDiff, reduceIte, k1_c5, k4_c5, k10_c5, k11_c5, i13_c5, i14_c5, hB1.cell]; rfl)) (fun hg11_4 => by simp only [ev_tmp, ev_const, ev_func, set_get, Nat.reduceEqDiff, reduceIte, qv_binOp, binv_eql, eq3, Option.map_some, k1_c5, k4_c5, k10_c5, k11_c5, i13_c5, i14_c5, hB1.cell, hg11_4, Bool.false_eq_true, Bool.true_eq_false, eq_self, if_true, if_false, true_and, and_true, false_and, and_false]; rfl) ?_
          refine WL.qq (by simp only [ev_tmp, ev_const, ev_func, set_get, Nat.reduceEqDiff, reduceIte, qv_pick, pk_and, pk_or, Bool.false_eq_true, Bool.true_eq_false, eq_self, if_true, if_false, true_and, and_true, false_and, and_false, k1_c5, k4_c5, k10_c5, k11_c5, i13_c5, i14_c5, hB1.cell]; rfl) ?_
          refine WL.qq (by simp only [ev_tmp, ev_const, ev_func, set_get, Nat.reduceEqDiff, reduceIte, qv_assign, k1_c5, k4_c5, k10_c5, k11_c5, i13_c5, i14_c5, hB1.cell]; rfl) ?_
          refine WL.nil ?_
          refine th_norm ?_
          refine hx_ret ?_
          refine th_ret ?_
          refine fin_ret [.tmp 10] rfl rfl (by simp only [ev_tmp, ev_const, ev_func, set_get, Nat.reduceEqDiff, reduceIte, resv, k1_c5, k4_c5, k10_c5, k11_c5, i13_c5, i14_c5, hB1.cell]; rfl) ?_  -- ret 1 r11
          have hq1 := la hct80
          exact ⟨by simp [retOf, hq1.1, hq1.2], ((hx1).trans ((hx2).trans ((hx3).trans ((hx5).trans ((hx6).trans (hx7))))))⟩
        ·
          try simp only [decide_eq_true_eq, decide_eq_false_iff_not, Bool.and_eq_true, Bool.and_eq_false_iff, Bool.or_eq_true, Bool.or_eq_false_iff, Bool.not_eq_true', Bool.not_eq_false', Bool.not_eq_true, Bool.not_eq_false] at hct80
          have h12 : y1 = 0 ∧ y2 = 0 := by omega
          have hlb := lb h12.1 h12.2
          refine hx_skip ?_
          refine th_norm ?_
          refine hx_seq ?_
          refine hx_region ?_
          refine WL.qq (by simp only [ev_tmp, ev_const, ev_func, set_get, Nat.reduceEqDiff, reduceIte, qv_move, k1_c5, k4_c5, k10_c5, k11_c5, i13_c5, i14_c5, hB1.cell]; rfl) ?_
          refine WL.qq (by simp only [ev_tmp, ev_const, ev_func, set_get, Nat.reduceEqDiff, reduceIte, qv_move, k1_c5, k4_c5, k10_c5, k11_c5, i13_c5, i14_c5, hB1.cell]; rfl) ?_
          refine WL.qq (by simp only [ev_tmp, ev_const, ev_func, set_get, Nat.reduceEqDiff, reduceIte, qv_move, k1_c5, k4_c5, k10_c5, k11_c5, i13_c5, i14_c5, hB1.cell]; rfl) ?_
          refine WL.cg Try.call21 (by simp only [ev_tmp, ev_const, ev_func, set_get, Nat.reduceEqDiff, reduceIte, List.getElem?_toArray, List.getElem?_cons_zero, List.getElem?_cons_succ, List.map_toArray, List.map_cons, List.map_nil, Option.map_some, Option.bind_some, k1_c5, k4_c5, k10_c5, k11_c5, i13_c5, i14_c5, hB1.cell]; exact c_between P wk (srt hol) m x3 hc s4) ?_
          intro h8 hx8
          replace hw := hw.ext hx8
          replace hh := hh.ext hx8
          replace hB1 := hB1.ext hx8
          replace hc := hc.ext hx8
          refine WL.qq (by simp only [ev_tmp, ev_const, ev_func, set_get, Nat.reduceEqDiff, reduceIte, qv_move, k1_c5, k4_c5, k10_c5, k11_c5, i13_c5, i14_c5, hB1.cell]; rfl) ?_
          refine WL.qq (by simp only [ev_tmp, ev_const, ev_func, set_get, Nat.reduceEqDiff, reduceIte, qv_extract, List.getElem?_toArray, List.getElem?_cons_zero, List.getElem?_cons_succ, List.map_toArray, List.map_cons, List.map_nil, Option.map_some, Option.bind_some, k1_c5, k4_c5, k10_c5, k11_c5, i13_c5, i14_c5, hB1.cell]; rfl) ?_
          refine WL.qq (by simp only [ev_tmp, ev_const, ev_func, set_get, Nat.reduceEqDiff, reduceIte, qv_extract, List.getElem?_toArray, List.getElem?_cons_zero, List.getElem?_cons_succ, List.map_toArray, List.map_cons, List.map_nil, Option.map_some, Option.bind_some, k1_c5, k4_c5, k10_c5, k11_c5, i13_c5, i14_c5, hB1.cell]; rfl) ?_
          refine WL.qq (by simp only [ev_tmp, ev_const, ev_func, set_get, Nat.reduceEqDiff, reduceIte, qv_assign, k1_c5, k4_c5, k10_c5, k11_c5, i13_c5, i14_c5, hB1.cell]; rfl) ?_
          refine WL.qq (by simp only [ev_tmp, ev_const, ev_func, set_get, Nat.reduceEqDiff, reduceIte, qv_assign, k1_c5, k4_c5, k10_c5, k11_c5, i13_c5, i14_c5, hB1.cell]; rfl) ?_
          refine WL.nil ?_
          refine th_norm ?_
          refine hx_seq ?_
          refine hx_seq ?_
          refine hx_region ?_
          refine WL.qq (by simp only [ev_tmp, ev_const, ev_func, set_get, Nat.reduceEqDiff, reduceIte, qv_move, k1_c5, k4_c5, k10_c5, k11_c5, i13_c5, i14_c5, hB1.cell]; rfl) ?_
          refine WL.qq (by simp only [ev_tmp, ev_const, ev_func, set_get, Nat.reduceEqDiff, reduceIte, qv_binOp, binv_neq, eq28, Option.map_some, k1_c5, k4_c5, k10_c5, k11_c5, i13_c5, i14_c5, hB1.cell]; rfl) ?_
          refine WL.qq (by simp only [ev_tmp, ev_const, ev_func, set_get, Nat.reduceEqDiff, reduceIte, qv_move, k1_c5, k4_c5, k10_c5, k11_c5, i13_c5, i14_c5, hB1.cell]; rfl) ?_
          refine WL.cq (gd_at (t := 96) rfl (by simp only [ev_tmp, ev_const, ev_func, set_get, Nat.reduceEqDiff, reduceIte, k1_c5, k4_c5, k10_c5, k11_c5, i13_c5, i14_c5, hB1.cell]; rfl)) (fun hg13_3 => by simp only [ev_tmp, ev_const, ev_func, set_get, Nat.reduceEqDiff, reduceIte, qv_move, k1_c5, k4_c5, k10_c5, k11_c5, i13_c5, i14_c5, hB1.cell, hg13_3, Bool.false_eq_true, Bool.true_eq_false, eq_self, if_true, if_false, true_and, and_true, false_and, and_false]; rfl) ?_
          refine WL.cq (gd_at (t := 96) rfl (by simp only [ev_tmp, ev_const, ev_func, set_get, Nat.reduceEqDiff, reduceIte, k1_c5, k4_c5, k10_c5, k11_c5, i13_c5, i14_c5, hB1.cell]; rfl)) (fun hg13_4 => by simp only [ev_tmp, ev_const, ev_func, set_get, Nat.reduceEqDiff, reduceIte, qv_move, k1_c5, k4_c5, k10_c5, k11_c5, i13_c5, i14_c5, hB1.cell, hg13_4, Bool.false_eq_true, Bool.true_eq_false, eq_self, if_true, if_false, true_and, and_true, false_and, and_false]; rfl) ?_
          refine WL.cq (gd_at (t := 96) rfl (by simp only [ev_tmp, ev_const, ev_func, set_get, Nat.reduceEqDiff, reduceIte, k1_c5, k4_c5, k10_c5, k11_c5, i13_c5, i14_c5, hB1.cell]; rfl)) (fun hg13_5 => by simp only [ev_tmp, ev_const, ev_func, set_get, Nat.reduceEqDiff, reduceIte, qv_binOp, binv_neq, eq3, Option.map_some, k1_c5, k4_c5, k10_c5, k11_c5, i13_c5, i14_c5, hB1.cell, hg13_5, Bool.false_eq_true, Bool.true_eq_false, eq_self, if_true, if_false, true_and, and_true, false_and, and_false]; rfl) ?_
          refine WL.qq (by simp only [ev_tmp, ev_const, ev_func, set_get, Nat.reduceEqDiff, reduceIte, qv_pick, pk_and, pk_or, Bool.false_eq_true, Bool.true_eq_false, eq_self, if_true, if_false, true_and, and_true, false_and, and_false, k1_c5, k4_c5, k10_c5, k11_c5, i13_c5, i14_c5, hB1.cell]; rfl) ?_
          refine WL.qq (by simp only [ev_tmp, ev_const, ev_func, set_get, Nat.reduceEqDiff, reduceIte, qv_move, k1_c5, k4_c5, k10_c5, k11_c5, i13_c5, i14_c5, hB1.cell]; rfl) ?_
          refine WL.cq (gd_at (t := 101) rfl (by simp only [ev_tmp, ev_const, ev_func, set_get, Nat.reduceEqDiff, reduceIte, k1_c5, k4_c5, k10_c5, k11_c5, i13_c5, i14_c5, hB1.cell]; rfl)) (fun hg13_8 => by simp only [ev_tmp, ev_const, ev_func, set_get, Nat.reduceEqDiff, reduceIte, qv_move, k1_c5, k4_c5, k10_c5, k11_c5, i13_c5, i14_c5, hB1.cell, hg13_8, Bool.false_eq_true, Bool.true_eq_false, eq_self, if_true, if_false, true_and, and_true, false_and, and_false]; rfl) ?_
          refine WL.cq (gd_at (t := 101) rfl (by simp only [ev_tmp, ev_const, ev_func, set_get, Nat.reduceEqDiff, reduceIte, k1_c5, k4_c5, k10_c5, k11_c5, i13_c5, i14_c5, hB1.cell]; rfl)) (fun hg13_9 => by simp only [ev_tmp, ev_const, ev_func, set_get, Nat.reduceEqDiff, reduceIte, qv_binOp, binv_neq, eq28, Option.map_some, k1_c5, k4_c5, k10_c5, k11_c5, i13_c5, i14_c5, hB1.cell, hg13_9, Bool.false_eq_true, Bool.true_eq_false, eq_self, if_true, if_false, true_and, and_true, false_and, and_false]; rfl) ?_
          refine WL.qq (by simp only [ev_tmp, ev_const, ev_func, set_get, Nat.reduceEqDiff, reduceIte, qv_pick, pk_and, pk_or, Bool.false_eq_true, Bool.true_eq_false, eq_self, if_true, if_false, true_and, and_true, false_and, and_false, k1_c5, k4_c5, k10_c5, k11_c5, i13_c5, i14_c5, hB1.cell]; rfl) ?_
          refine WL.nil ?_
          refine th_norm ?_
          refine hx_cond (by simp only [ev_tmp, ev_const, ev_func, set_get, Nat.reduceEqDiff, reduceIte, k1_c5, k4_c5, k10_c5, k11_c5, i13_c5, i14_c5, hB1.cell]; rfl) (fun hct104 => ?_) (fun hct104 => ?_)
          ·
            (exfalso; simp [hlb.1, hlb.2.1, hlb.2.2.1] at hct104)
          ·
            try simp only [decide_eq_true_eq, decide_eq_false_iff_not, Bool.and_eq_true, Bool.and_eq_false_iff, Bool.or_eq_true, Bool.or_eq_false_iff, Bool.not_eq_true', Bool.not_eq_false', Bool.not_eq_true, Bool.not_eq_false] at hct104
            refine hx_skip ?_
            refine th_norm ?_
            refine hx_seq ?_
            refine hx_seq ?_
            refine hx_region ?_
            refine WL.qq (by simp only [ev_tmp, ev_const, ev_func, set_get, Nat.reduceEqDiff, reduceIte, qv_move, k1_c5, k4_c5, k10_c5, k11_c5, i13_c5, i14_c5, hB1.cell]; rfl) ?_
            refine WL.nil ?_
            refine th_norm ?_
            refine hx_cond (by simp only [ev_tmp, ev_const, ev_func, set_get, Nat.reduceEqDiff, reduceIte, k1_c5, k4_c5, k10_c5, k11_c5, i13_c5, i14_c5, hB1.cell]; rfl) (fun hct105 => ?_) (fun hct105 => ?_)
            ·
              try simp only [decide_eq_true_eq, decide_eq_false_iff_not, Bool.and_eq_true, Bool.and_eq_false_iff, Bool.or_eq_true, Bool.or_eq_false_iff, Bool.not_eq_true', Bool.not_eq_false', Bool.not_eq_true, Bool.not_eq_false] at hct105
              refine hx_seq ?_
              refine hx_region ?_
              refine WL.qq (by simp only [ev_tmp, ev_const, ev_func, set_get, Nat.reduceEqDiff, reduceIte, qv_move, k1_c5, k4_c5, k10_c5, k11_c5, i13_c5, i14_c5, hB1.cell]; rfl) ?_
              refine WL.qq (by simp only [ev_tmp, ev_const, ev_func, set_get, Nat.reduceEqDiff, reduceIte, qv_move, k1_c5, k4_c5, k10_c5, k11_c5, i13_c5, i14_c5, hB1.cell]; rfl) ?_
              refine WL.ck Try.call20 (by simp only [ev_tmp, ev_const, ev_func, set_get, Nat.reduceEqDiff, reduceIte, List.getElem?_toArray, List.getElem?_cons_zero, List.getElem?_cons_succ, List.map_toArray, List.map_cons, List.map_nil, Option.map_some, Option.bind_some, k1_c5, k4_c5, k10_c5, k11_c5, i13_c5, i14_c5, hB1.cell]; exact (s5 ▸ c_isBusiness P wk (srt hol) m hc)) ?_
              refine WL.qq (by simp only [ev_tmp, ev_const, ev_func, set_get, Nat.reduceEqDiff, reduceIte, qv_unOp, unv_not, k1_c5, k4_c5, k10_c5, k11_c5, i13_c5, i14_c5, hB1.cell]; rfl) ?_
              refine WL.qq (by simp only [ev_tmp, ev_const, ev_func, set_get, Nat.reduceEqDiff, reduceIte, qv_move, k1_c5, k4_c5, k10_c5, k11_c5, i13_c5, i14_c5, hB1.cell]; rfl) ?_
              refine WL.cq (gd_at (t := 110) rfl (by simp only [ev_tmp, ev_const, ev_func, set_get, Nat.reduceEqDiff, reduceIte, k1_c5, k4_c5, k10_c5, k11_c5, i13_c5, i14_c5, hB1.cell]; rfl)) (fun hg16_5 => by simp only [ev_tmp, ev_const, ev_func, set_get, Nat.reduceEqDiff, reduceIte, qv_move, k1_c5, k4_c5, k10_c5, k11_c5, i13_c5, i14_c5, hB1.cell, hg16_5, Bool.false_eq_true, Bool.true_eq_false, eq_self, if_true, if_false, true_and, and_true, false_and, and_false]; rfl) ?_
              refine WL.cq (gd_at (t := 110) rfl (by simp only [ev_tmp, ev_const, ev_func, set_get, Nat.reduceEqDiff, reduceIte, k1_c5, k4_c5, k10_c5, k11_c5, i13_c5, i14_c5, hB1.cell]; rfl)) (fun hg16_6 => by simp only [ev_tmp, ev_const, ev_func, set_get, Nat.reduceEqDiff, reduceIte, qv_move, k1_c5, k4_c5, k10_c5, k11_c5, i13_c5, i14_c5, hB1.cell, hg16_6, Bool.false_eq_true, Bool.true_eq_false, eq_self, if_true, if_false, true_and, and_true, false_and, and_false]; rfl) ?_
              refine WL.cq (gd_at (t := 110) rfl (by simp only [ev_tmp, ev_const, ev_func, set_get, Nat.reduceEqDiff, reduceIte, k1_c5, k4_c5, k10_c5, k11_c5, i13_c5, i14_c5, hB1.cell]; rfl)) (fun hg16_7 => by simp only [ev_tmp, ev_const, ev_func, set_get, Nat.reduceEqDiff, reduceIte, qv_move, k1_c5, k4_c5, k10_c5, k11_c5, i13_c5, i14_c5, hB1.cell, hg16_7, Bool.false_eq_true, Bool.true_eq_false, eq_self, if_true, if_false, true_and, and_true, false_and, and_false]; rfl) ?_
              refine WL.cq (gd_at (t := 110) rfl (by simp only [ev_tmp, ev_const, ev_func, set_get, Nat.reduceEqDiff, reduceIte, k1_c5, k4_c5, k10_c5, k11_c5, i13_c5, i14_c5, hB1.cell]; rfl)) (fun hg16_8 => by have hq0 := hg16_8; (try simp only [decide_eq_true_eq, decide_eq_false_iff_not, Bool.and_eq_true, Bool.and_eq_false_iff, Bool.or_eq_true, Bool.or_eq_false_iff, Bool.not_eq_true', Bool.not_eq_false', Bool.not_eq_true, Bool.not_eq_false] at hq0); simp only [ev_tmp, ev_const, ev_func, set_get, Nat.reduceEqDiff, reduceIte, qv_binOp, binv_add, k1_c5, k4_c5, k10_c5, k11_c5, i13_c5, i14_c5, hB1.cell, hg16_8, Bool.false_eq_true, Bool.true_eq_false, eq_self, if_true, if_false, true_and, and_true, false_and, and_false]; (try simp (disch := omega) only [w64, w8, wu64]); rfl) ?_
              refine WL.cq (gd_at (t := 110) rfl (by simp only [ev_tmp, ev_const, ev_func, set_get, Nat.reduceEqDiff, reduceIte, k1_c5, k4_c5, k10_c5, k11_c5, i13_c5, i14_c5, hB1.cell]; rfl)) (fun hg16_9 => by simp only [ev_tmp, ev_const, ev_func, set_get, Nat.reduceEqDiff, reduceIte, qv_binOp, binv_eql, eq3, Option.map_some, k1_c5, k4_c5, k10_c5, k11_c5, i13_c5, i14_c5, hB1.cell, hg16_9, Bool.false_eq_true, Bool.true_eq_false, eq_self, if_true, if_false, true_and, and_true, false_and, and_false]; rfl) ?_
              refine WL.qq (by simp only [ev_tmp, ev_const, ev_func, set_get, Nat.reduceEqDiff, reduceIte, qv_pick, pk_and, pk_or, Bool.false_eq_true, Bool.true_eq_false, eq_self, if_true, if_false, true_and, and_true, false_and, and_false, k1_c5, k4_c5, k10_c5, k11_c5, i13_c5, i14_c5, hB1.cell]; rfl) ?_
              refine WL.qq (by simp only [ev_tmp, ev_const, ev_func, set_get, Nat.reduceEqDiff, reduceIte, qv_assign, k1_c5, k4_c5, k10_c5, k11_c5, i13_c5, i14_c5, hB1.cell]; rfl) ?_
              refine WL.nil ?_
              refine th_norm ?_
              refine hx_ret ?_
              refine th_ret ?_
              refine fin_ret [.tmp 10] rfl rfl (by simp only [ev_tmp, ev_const, ev_func, set_get, Nat.reduceEqDiff, reduceIte, resv, k1_c5, k4_c5, k10_c5, k11_c5, i13_c5, i14_c5, hB1.cell]; rfl) ?_  -- ret 2 r16
              exact ⟨by cases bb with | false => (simp [retOf]) | true => (have := hlb.2.2.2.2 hct105 rfl; simp [retOf, this]), ((hx1).trans ((hx2).trans ((hx3).trans ((hx5).trans ((hx6).trans ((hx7).trans (hx8)))))))⟩
            ·
              try simp only [decide_eq_true_eq, decide_eq_false_iff_not, Bool.and_eq_true, Bool.and_eq_false_iff, Bool.or_eq_true, Bool.or_eq_false_iff, Bool.not_eq_true', Bool.not_eq_false', Bool.not_eq_true, Bool.not_eq_false] at hct105
              refine hx_skip ?_
              refine th_norm ?_
              refine hx_seq ?_
              refine hx_region ?_
              refine WL.qq (by simp only [ev_tmp, ev_const, ev_func, set_get, Nat.reduceEqDiff, reduceIte, qv_move, k1_c5, k4_c5, k10_c5, k11_c5, i13_c5, i14_c5, hB1.cell]; rfl) ?_
              refine WL.qq (by simp only [ev_tmp, ev_const, ev_func, set_get, Nat.reduceEqDiff, reduceIte, qv_move, k1_c5, k4_c5, k10_c5, k11_c5, i13_c5, i14_c5, hB1.cell]; rfl) ?_
              refine WL.qq (by simp only [ev_tmp, ev_const, ev_func, set_get, Nat.reduceEqDiff, reduceIte, qv_move, k1_c5, k4_c5, k10_c5, k11_c5, i13_c5, i14_c5, hB1.cell]; rfl) ?_
              refine WL.qq (by simp only [ev_tmp, ev_const, ev_func, set_get, Nat.reduceEqDiff, reduceIte, qv_binOp, binv_add, k1_c5, k4_c5, k10_c5, k11_c5, i13_c5, i14_c5, hB1.cell]; (try simp (disch := omega) only [w64, w8, wu64]); rfl) ?_
              refine WL.qq (by simp only [ev_tmp, ev_const, ev_func, set_get, Nat.reduceEqDiff, reduceIte, qv_binOp, binv_eql, eq3, Option.map_some, k1_c5, k4_c5, k10_c5, k11_c5, i13_c5, i14_c5, hB1.cell]; rfl) ?_
              refine WL.qq (by simp only [ev_tmp, ev_const, ev_func, set_get, Nat.reduceEqDiff, reduceIte, qv_assign, k1_c5, k4_c5, k10_c5, k11_c5, i13_c5, i14_c5, hB1.cell]; rfl) ?_
              refine WL.nil ?_
              refine th_norm ?_
              refine hx_ret ?_
              refine fin_ret [.tmp 10] rfl rfl (by simp only [ev_tmp, ev_const, ev_func, set_get, Nat.reduceEqDiff, reduceIte, resv, k1_c5, k4_c5, k10_c5, k11_c5, i13_c5, i14_c5, hB1.cell]; rfl) ?_  -- ret 3 r17
              exact ⟨by have := hlb.2.2.2.1 hct105; simp [retOf, this], ((hx1).trans ((hx2).trans ((hx3).trans ((hx5).trans ((hx6).trans ((hx7).trans (hx8)))))))⟩
  · obtain ⟨nn, hnn⟩ : ∃ nn, newM wk hol = nn := ⟨_, rfl⟩
    have hnz : nn ≠ 0 := by rw [← hnn]; exact hz
    refine hcalls2 Try.func6 rfl (by decide +kernel) (by simp only [Try.ntmps6]; exact of_decide_eq_true rfl) ?_
    intro e hin
    have e0 := hin 0 _ rfl
    have e1 := hin 1 _ rfl
    have e2 := hin 2 _ rfl
    have e3 := hin 3 _ rfl
    have e4 := hin 4 _ rfl
    refine hx_seq ?_
    refine hx_region ?_
    refine WL.box2 (by simp only [ev_tmp, ev_const, ev_func, set_get, Nat.reduceEqDiff, reduceIte, Value.cells, e0, e1, e2, e3, e4]; rfl) ?_
    intro h1 B1 hx1 hlt1 hB1
    replace hw := hw.ext hx1
    replace hh := hh.ext hx1
    refine WL.qq (by simp only [ev_tmp, ev_const, ev_func, set_get, Nat.reduceEqDiff, reduceIte, qv_assign, e0, e1, e2, e3, e4, hB1.cell]; rfl) ?_
    refine WL.nil ?_
    refine th_norm ?_
    refine hx_seq ?_
    refine hx_region ?_
    refine WL.qq (by simp only [ev_tmp, ev_const, ev_func, set_get, Nat.reduceEqDiff, reduceIte, qv_load, ld24, readN, List.getElem?_toArray, List.getElem?_cons_zero, List.getElem?_cons_succ, List.map_toArray, List.map_cons, List.map_nil, Option.map_some, Option.bind_some, Nat.zero_add, Nat.reduceAdd, e0, e1, e2, e3, e4, hB1.cell]; rfl) ?_
    refine WL.cg Try.call14 (by simp only [ev_tmp, ev_const, ev_func, set_get, Nat.reduceEqDiff, reduceIte, List.getElem?_toArray, List.getElem?_cons_zero, List.getElem?_cons_succ, List.map_toArray, List.map_cons, List.map_nil, Option.map_some, Option.bind_some, e0, e1, e2, e3, e4, hB1.cell]; exact c_of_no' hnn hnz c c' hw hh lw) ?_
    intro h2 hx2
    replace hw := hw.ext hx2
    replace hh := hh.ext hx2
    replace hB1 := hB1.ext hx2
    refine WL.qq (by simp only [ev_tmp, ev_const, ev_func, set_get, Nat.reduceEqDiff, reduceIte, qv_move, e0, e1, e2, e3, e4, hB1.cell]; rfl) ?_
    refine WL.qq (by simp only [ev_tmp, ev_const, ev_func, set_get, Nat.reduceEqDiff, reduceIte, qv_extract, List.getElem?_toArray, List.getElem?_cons_zero, List.getElem?_cons_succ, List.map_toArray, List.map_cons, List.map_nil, Option.map_some, Option.bind_some, e0, e1, e2, e3, e4, hB1.cell]; rfl) ?_
    refine WL.qq (by simp only [ev_tmp, ev_const, ev_func, set_get, Nat.reduceEqDiff, reduceIte, qv_extract, List.getElem?_toArray, List.getElem?_cons_zero, List.getElem?_cons_succ, List.map_toArray, List.map_cons, List.map_nil, Option.map_some, Option.bind_some, e0, e1, e2, e3, e4, hB1.cell]; rfl) ?_
    refine WL.qq (by simp only [ev_tmp, ev_const, ev_func, set_get, Nat.reduceEqDiff, reduceIte, qv_assign, e0, e1, e2, e3, e4, hB1.cell]; rfl) ?_
    refine WL.qq (by simp only [ev_tmp, ev_const, ev_func, set_get, Nat.reduceEqDiff, reduceIte, qv_assign, e0, e1, e2, e3, e4, hB1.cell]; rfl) ?_
    refine WL.nil ?_
    refine th_norm ?_
    refine hx_seq ?_
    refine hx_seq ?_
    refine hx_region ?_
    refine WL.cg Try.call12 (by simp only [ev_tmp, ev_const, ev_func, set_get, Nat.reduceEqDiff, reduceIte, List.getElem?_toArray, List.getElem?_cons_zero, List.getElem?_cons_succ, List.map_toArray, List.map_cons, List.map_nil, Option.map_some, Option.bind_some, e0, e1, e2, e3, e4, hB1.cell]; exact c_known _) ?_
    intro h3 hx3
    replace hw := hw.ext hx3
    replace hh := hh.ext hx3
    replace hB1 := hB1.ext hx3
    refine WL.qq (by simp only [ev_tmp, ev_const, ev_func, set_get, Nat.reduceEqDiff, reduceIte, qv_unOp, unv_not, e0, e1, e2, e3, e4, hB1.cell]; rfl) ?_
    refine WL.qq (by simp only [ev_tmp, ev_const, ev_func, set_get, Nat.reduceEqDiff, reduceIte, qv_move, e0, e1, e2, e3, e4, hB1.cell]; rfl) ?_
    refine WL.cq (gd_at (t := 30) rfl (by simp only [ev_tmp, ev_const, ev_func, set_get, Nat.reduceEqDiff, reduceIte, e0, e1, e2, e3, e4, hB1.cell]; rfl)) (fun hg2_3 => by simp only [ev_tmp, ev_const, ev_func, set_get, Nat.reduceEqDiff, reduceIte, qv_move, e0, e1, e2, e3, e4, hB1.cell, hg2_3, Bool.false_eq_true, Bool.true_eq_false, eq_self, if_true, if_false, true_and, and_true, false_and, and_false]; rfl) ?_
    refine WL.cq (gd_at (t := 30) rfl (by simp only [ev_tmp, ev_const, ev_func, set_get, Nat.reduceEqDiff, reduceIte, e0, e1, e2, e3, e4, hB1.cell]; rfl)) (fun hg2_4 => by simp only [ev_tmp, ev_const, ev_func, set_get, Nat.reduceEqDiff, reduceIte, qv_binOp, binv_neq, eq28, Option.map_some, e0, e1, e2, e3, e4, hB1.cell, hg2_4, Bool.false_eq_true, Bool.true_eq_false, eq_self, if_true, if_false, true_and, and_true, false_and, and_false]; rfl) ?_
    refine WL.qq (by simp only [ev_tmp, ev_const, ev_func, set_get, Nat.reduceEqDiff, reduceIte, qv_pick, pk_and, pk_or, Bool.false_eq_true, Bool.true_eq_false, eq_self, if_true, if_false, true_and, and_true, false_and, and_false, e0, e1, e2, e3, e4, hB1.cell]; rfl) ?_
    refine WL.qq (by simp only [ev_tmp, ev_const, ev_func, set_get, Nat.reduceEqDiff, reduceIte, qv_move, e0, e1, e2, e3, e4, hB1.cell]; rfl) ?_
    refine WL.cq (gd_at (t := 34) rfl (by simp only [ev_tmp, ev_const, ev_func, set_get, Nat.reduceEqDiff, reduceIte, e0, e1, e2, e3, e4, hB1.cell]; rfl)) (fun hg2_7 => by simp only [ev_tmp, ev_const, ev_func, set_get, Nat.reduceEqDiff, reduceIte, qv_fieldAddr, fa24_1, Nat.zero_add, Nat.reduceAdd, e0, e1, e2, e3, e4, hB1.cell, hg2_7, Bool.false_eq_true, Bool.true_eq_false, eq_self, if_true, if_false, true_and, and_true, false_and, and_false]; rfl) ?_
    refine WL.cq (gd_at (t := 34) rfl (by simp only [ev_tmp, ev_const, ev_func, set_get, Nat.reduceEqDiff, reduceIte, e0, e1, e2, e3, e4, hB1.cell]; rfl)) (fun hg2_8 => by simp only [ev_tmp, ev_const, ev_func, set_get, Nat.reduceEqDiff, reduceIte, qv_load, ld22, readN, List.getElem?_toArray, List.getElem?_cons_zero, List.getElem?_cons_succ, List.map_toArray, List.map_cons, List.map_nil, Option.map_some, Option.bind_some, Nat.zero_add, Nat.reduceAdd, e0, e1, e2, e3, e4, hB1.cell, hg2_8, Bool.false_eq_true, Bool.true_eq_false, eq_self, if_true, if_false, true_and, and_true, false_and, and_false]; rfl) ?_
    refine WL.cq (gd_at (t := 34) rfl (by simp only [ev_tmp, ev_const, ev_func, set_get, Nat.reduceEqDiff, reduceIte, e0, e1, e2, e3, e4, hB1.cell]; rfl)) (fun hg2_9 => by simp only [ev_tmp, ev_const, ev_func, set_get, Nat.reduceEqDiff, reduceIte, qv_len, ln22, List.getElem?_toArray, List.getElem?_cons_zero, List.getElem?_cons_succ, List.map_toArray, List.map_cons, List.map_nil, Option.map_some, Option.bind_some, e0, e1, e2, e3, e4, hB1.cell, hg2_9, Bool.false_eq_true, Bool.true_eq_false, eq_self, if_true, if_false, true_and, and_true, false_and, and_false]; rfl) ?_
    refine WL.cq (gd_at (t := 34) rfl (by simp only [ev_tmp, ev_const, ev_func, set_get, Nat.reduceEqDiff, reduceIte, e0, e1, e2, e3, e4, hB1.cell]; rfl)) (fun hg2_10 => by simp only [ev_tmp, ev_const, ev_func, set_get, Nat.reduceEqDiff, reduceIte, qv_binOp, binv_gtr, e0, e1, e2, e3, e4, hB1.cell, hg2_10, Bool.false_eq_true, Bool.true_eq_false, eq_self, if_true, if_false, true_and, and_true, false_and, and_false]; rfl) ?_
    refine WL.qq (by simp only [ev_tmp, ev_const, ev_func, set_get, Nat.reduceEqDiff, reduceIte, qv_pick, pk_and, pk_or, Bool.false_eq_true, Bool.true_eq_false, eq_self, if_true, if_false, true_and, and_true, false_and, and_false, e0, e1, e2, e3, e4, hB1.cell]; rfl) ?_
    refine WL.nil ?_
    refine th_norm ?_
    refine hx_cond (by simp only [ev_tmp, ev_const, ev_func, set_get, Nat.reduceEqDiff, reduceIte, e0, e1, e2, e3, e4, hB1.cell]; rfl) (fun hct39 => ?_) (fun hct39 => ?_)
    ·
      try simp only [decide_eq_true_eq, decide_eq_false_iff_not, Bool.and_eq_true, Bool.and_eq_false_iff, Bool.or_eq_true, Bool.or_eq_false_iff, Bool.not_eq_true', Bool.not_eq_false', Bool.not_eq_true, Bool.not_eq_false] at hct39
      refine hx_seq ?_
      refine hx_region ?_
      refine WL.cg Try.call12 (by simp only [ev_tmp, ev_const, ev_func, set_get, Nat.reduceEqDiff, reduceIte, List.getElem?_toArray, List.getElem?_cons_zero, List.getElem?_cons_succ, List.map_toArray, List.map_cons, List.map_nil, Option.map_some, Option.bind_some, e0, e1, e2, e3, e4, hB1.cell]; exact c_known _) ?_
      intro h4 hx4
      replace hw := hw.ext hx4
      replace hh := hh.ext hx4
      replace hB1 := hB1.ext hx4
      refine WL.qq (by simp only [ev_tmp, ev_const, ev_func, set_get, Nat.reduceEqDiff, reduceIte, qv_assign, e0, e1, e2, e3, e4, hB1.cell]; rfl) ?_
      refine WL.nil ?_
      refine th_norm ?_
      refine hx_ret ?_
      refine th_ret ?_
      refine fin_ret [.tmp 10] rfl rfl (by simp only [ev_tmp, ev_const, ev_func, set_get, Nat.reduceEqDiff, reduceIte, resv, e0, e1, e2, e3, e4, hB1.cell]; rfl) ?_  -- ret 0 r3
      exact ⟨rfl, ((hx1).trans ((hx2).trans ((hx3).trans (hx4))))⟩
    ·
      (exfalso; simp [hnz] at hct39)
end GL


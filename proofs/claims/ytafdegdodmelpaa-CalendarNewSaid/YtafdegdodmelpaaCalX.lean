/- Calendar: the last business day of a month; the law on the days between two days. -/
import Derived.Test.YtafdegdodmelpaaCalW
set_option linter.unusedSimpArgs false
set_option linter.unusedVariables false
set_option linter.unnecessarySimpa false
namespace GL
open Go Go.Proofs
set_option maxRecDepth 8000
/-- The last business day of the k days up to d. -/
def downM (bus : Int → Bool) : Nat → Int → Option Int
  | 0, _ => none
  | k + 1, d => if bus d = true then some d else downM bus k (d - 1)
theorem down_in (bus : Int → Bool) : ∀ (k : Nat) (d x : Int), downM bus k d = some x → d - k < x ∧ x ≤ d
  | 0, d, x, h => by simp [downM] at h
  | k + 1, d, x, h => by
    simp only [downM] at h
    split at h
    · cases h; omega
    · have := down_in bus k (d - 1) x h; omega
noncomputable def firstD (n : Int) : Int := n - (civM n).2.2 + 1
noncomputable def endD (n : Int) : Int := n - (civM n).2.2 + lenM (civM n).1 (civM n).2.1
noncomputable def lastM (bus : Int → Bool) (n : Int) : Int × Int := if validM n = true then ans (downM bus (endD n - firstD n + 1).toNat (endD n)) else (0, 2)
theorem month_bd (n : Int) (hv : 0 ≤ n ∧ n ≤ 73048) : 0 ≤ firstD n ∧ firstD n ≤ n ∧ n ≤ endD n ∧ endD n ≤ 73048 ∧ endD n ≤ firstD n + 30 := by
  have := month_in n hv
  unfold firstD endD
  omega
theorem sm_iff2 (n d : Int) (hv : 0 ≤ n ∧ n ≤ 73048) (hd : 0 ≤ d ∧ d ≤ 73048) : smM d n = true ↔ firstD n ≤ d ∧ d ≤ endD n := sm_iff n d hv hd
theorem sm_no {n d : Int} (bn : 0 ≤ n ∧ n ≤ 73048) (hd : d ≤ endD n) (h : validM d = false ∨ smM d n = false) : d < firstD n := by
  have hm := month_bd n bn
  rcases Int.lt_or_le d (firstD n) with h1 | h1
  · exact h1
  · exfalso
    have hb : 0 ≤ d ∧ d ≤ 73048 := by omega
    rcases h with q | q
    · rw [show validM d = true from by simp [validM, hb]] at q
      cases q
    · rw [(sm_iff2 n d bn hb).2 ⟨h1, hd⟩] at q
      cases q
theorem c_end (n : Int) (hv : 0 ≤ n ∧ n ≤ 73048) (h : Heap) : HCalls Try.prog 54 #[.int .i64 n] h (Grow (.tuple #[.int .i64 (endD n), .int .i64 0]) h) := by
  have hm := month_in n hv
  refine hcalls2 Try.func54 rfl (by decide +kernel) (by simp only [Try.ntmps54]; exact of_decide_eq_true rfl) ?_
  intro e hin
  have e0 := hin 0 _ rfl
  refine hx_seq ?_
  refine hx_region ?_
  refine WL.qq (by simp only [ev_tmp, ev_const, ev_func, set_get, Nat.reduceEqDiff, reduceIte, qv_assign, e0]; rfl) ?_
  refine WL.qq (by simp only [ev_tmp, ev_const, ev_func, set_get, Nat.reduceEqDiff, reduceIte, qv_assign, e0]; rfl) ?_
  refine WL.nil ?_
  refine th_norm ?_
  refine hx_seq ?_
  refine hx_region ?_
  refine WL.qq (by simp only [ev_tmp, ev_const, ev_func, set_get, Nat.reduceEqDiff, reduceIte, qv_move, e0]; rfl) ?_
  refine WL.cg Try.call67 (by simp only [ev_tmp, ev_const, ev_func, set_get, Nat.reduceEqDiff, reduceIte, List.getElem?_toArray, List.getElem?_cons_zero, List.getElem?_cons_succ, List.map_toArray, List.map_cons, List.map_nil, Option.map_some, Option.bind_some, e0]; exact (civA_ok hv ▸ c_toCivil n _)) ?_
  intro h1 hx1
  refine WL.qq (by simp only [ev_tmp, ev_const, ev_func, set_get, Nat.reduceEqDiff, reduceIte, qv_move, e0]; rfl) ?_
  refine WL.qq (by simp only [ev_tmp, ev_const, ev_func, set_get, Nat.reduceEqDiff, reduceIte, qv_extract, List.getElem?_toArray, List.getElem?_cons_zero, List.getElem?_cons_succ, List.map_toArray, List.map_cons, List.map_nil, Option.map_some, Option.bind_some, e0]; rfl) ?_
  refine WL.qq (by simp only [ev_tmp, ev_const, ev_func, set_get, Nat.reduceEqDiff, reduceIte, qv_extract, List.getElem?_toArray, List.getElem?_cons_zero, List.getElem?_cons_succ, List.map_toArray, List.map_cons, List.map_nil, Option.map_some, Option.bind_some, e0]; rfl) ?_
  refine WL.allocSt zr86 sz86 (fun u => by simp only [ev_tmp, ev_const, ev_func, set_get, Nat.reduceEqDiff, reduceIte, Value.cells, e0]; rfl) ⟨rfl, rfl⟩ (by simp [Value.oneCell']) ?_
  intro h2 B2 hx2 hlt2 hB2
  refine WL.qq (by simp only [ev_tmp, ev_const, ev_func, set_get, Nat.reduceEqDiff, reduceIte, qv_assign, e0, hB2.cell]; rfl) ?_
  refine WL.nil ?_
  refine th_norm ?_
  refine hx_seq ?_
  refine hx_seq ?_
  refine hx_region ?_
  refine WL.qq (by simp only [ev_tmp, ev_const, ev_func, set_get, Nat.reduceEqDiff, reduceIte, qv_move, e0, hB2.cell]; rfl) ?_
  refine WL.qq (by simp only [ev_tmp, ev_const, ev_func, set_get, Nat.reduceEqDiff, reduceIte, qv_binOp, binv_neq, eq28, Option.map_some, e0, hB2.cell]; rfl) ?_
  refine WL.nil ?_
  refine th_norm ?_
  refine hx_cond (by simp only [ev_tmp, ev_const, ev_func, set_get, Nat.reduceEqDiff, reduceIte, e0, hB2.cell]; rfl) (fun hct12 => ?_) (fun hct12 => ?_)
  ·
    simp at hct12
  ·
    try simp only [decide_eq_true_eq, decide_eq_false_iff_not, Bool.and_eq_true, Bool.and_eq_false_iff, Bool.or_eq_true, Bool.or_eq_false_iff, Bool.not_eq_true', Bool.not_eq_false', Bool.not_eq_true, Bool.not_eq_false] at hct12
    refine hx_skip ?_
    refine th_norm ?_
    refine hx_seq ?_
    apply hx_draw2 Rel.grows [] [5] [(5, Spec.is _)] rfl (by decide +kernel) rfl
    refine LD.qq rfl rfl (by simp only [ev_tmp, ev_const, ev_func, set_get, Nat.reduceEqDiff, reduceIte, qv_move, e0, hB2.cell]; rfl) ?_
    refine LD.qq rfl rfl (by simp only [ev_tmp, ev_const, ev_func, set_get, Nat.reduceEqDiff, reduceIte, qv_fieldAddr, fa86_0, Nat.zero_add, Nat.reduceAdd, e0, hB2.cell]; rfl) ?_
    refine LD.qq rfl rfl (by simp only [ev_tmp, ev_const, ev_func, set_get, Nat.reduceEqDiff, reduceIte, qv_load, ld3, readN, List.getElem?_toArray, List.getElem?_cons_zero, List.getElem?_cons_succ, List.map_toArray, List.map_cons, List.map_nil, Option.map_some, Option.bind_some, Nat.zero_add, Nat.reduceAdd, e0, hB2.cell]; rfl) ?_
    refine LD.qq rfl rfl (by simp only [ev_tmp, ev_const, ev_func, set_get, Nat.reduceEqDiff, reduceIte, qv_fieldAddr, fa86_1, Nat.zero_add, Nat.reduceAdd, e0, hB2.cell]; rfl) ?_
    refine LD.qq rfl rfl (by simp only [ev_tmp, ev_const, ev_func, set_get, Nat.reduceEqDiff, reduceIte, qv_load, ld3, readN, List.getElem?_toArray, List.getElem?_cons_zero, List.getElem?_cons_succ, List.map_toArray, List.map_cons, List.map_nil, Option.map_some, Option.bind_some, Nat.zero_add, Nat.reduceAdd, e0, hB2.cell]; rfl) ?_
    refine LD.ck rfl rfl Try.call73 (by intro hh hr; have hx : Ext _ _ := hr; have hB2 := hB2.ext hx; simp only [ev_tmp, ev_const, ev_func, set_get, Nat.reduceEqDiff, reduceIte, List.getElem?_toArray, List.getElem?_cons_zero, List.getElem?_cons_succ, List.map_toArray, List.map_cons, List.map_nil, Option.map_some, Option.bind_some, e0, hB2.cell]; exact c_dim _ _ _) ?_
    refine LD.qq rfl rfl (by simp only [ev_tmp, ev_const, ev_func, set_get, Nat.reduceEqDiff, reduceIte, qv_binOp, binv_add, e0, hB2.cell]; (try simp (disch := omega) only [w64, w8, wu64]); rfl) ?_
    refine LD.qq rfl rfl (by simp only [ev_tmp, ev_const, ev_func, set_get, Nat.reduceEqDiff, reduceIte, qv_fieldAddr, fa86_2, Nat.zero_add, Nat.reduceAdd, e0, hB2.cell]; rfl) ?_
    refine LD.qq rfl rfl (by simp only [ev_tmp, ev_const, ev_func, set_get, Nat.reduceEqDiff, reduceIte, qv_load, ld3, readN, List.getElem?_toArray, List.getElem?_cons_zero, List.getElem?_cons_succ, List.map_toArray, List.map_cons, List.map_nil, Option.map_some, Option.bind_some, Nat.zero_add, Nat.reduceAdd, e0, hB2.cell]; rfl) ?_
    refine LD.qq rfl rfl (by simp only [ev_tmp, ev_const, ev_func, set_get, Nat.reduceEqDiff, reduceIte, qv_binOp, binv_sub, e0, hB2.cell]; (try simp (disch := omega) only [w64, w8, wu64]); rfl) ?_
    refine LD.qq rfl rfl (by simp only [ev_tmp, ev_const, ev_func, set_get, Nat.reduceEqDiff, reduceIte, qv_assign, e0, hB2.cell]; rfl) ?_
    refine LD.qq rfl rfl (by simp only [ev_tmp, ev_const, ev_func, set_get, Nat.reduceEqDiff, reduceIte, qv_assign, e0, hB2.cell]; rfl) ?_
    refine LD.nil ?_
    rintro h3 hx3 -
    replace hx3 : Ext _ _ := hx3
    replace hB2 := hB2.ext hx3
    refine WL.nil ?_
    refine th_norm ?_
    refine hx_ret ?_
    refine fin_ret [.tmp 2, .tmp 3] rfl rfl (by simp only [ev_tmp, ev_const, ev_func, set_get, Nat.reduceEqDiff, reduceIte, resv, e0, hB2.cell]; rfl) ?_  -- ret 0 r4
    exact ⟨by simp only [retOf, endD]; rw [show n + lenM (civM n).1 (civM n).2.1 - (civM n).2.2 = n - (civM n).2.2 + lenM (civM n).1 (civM n).2.1 from by omega], ((hx1).trans ((hx2).trans (hx3)))⟩
theorem c_last (p : Nat) (wk hs : List Int) (n : Int) {h : Heap} (hc : IsCal h p wk hs) {u v : Int} (hu : lastM (busM wk hs) n = (u, v)) :
    HCalls Try.prog 33 #[.pointer (some ⟨p, 0, none⟩), .int .i64 n] h (Grow (.tuple #[.int .i64 u, .int .i64 v]) h) := by
  refine hcalls2 Try.func33 rfl (by decide +kernel) (by simp only [Try.ntmps33]; exact of_decide_eq_true rfl) ?_
  intro e hin
  have e0 := hin 0 _ rfl
  have e1 := hin 1 _ rfl
  refine hx_seq ?_
  refine hx_region ?_
  refine WL.qq (by simp only [ev_tmp, ev_const, ev_func, set_get, Nat.reduceEqDiff, reduceIte, qv_assign, e0, e1]; rfl) ?_
  refine WL.qq (by simp only [ev_tmp, ev_const, ev_func, set_get, Nat.reduceEqDiff, reduceIte, qv_assign, e0, e1]; rfl) ?_
  refine WL.nil ?_
  refine th_norm ?_
  refine hx_seq ?_
  refine hx_seq ?_
  refine hx_region ?_
  refine WL.qq (by simp only [ev_tmp, ev_const, ev_func, set_get, Nat.reduceEqDiff, reduceIte, qv_move, e0, e1]; rfl) ?_
  refine WL.qq (by simp only [ev_tmp, ev_const, ev_func, set_get, Nat.reduceEqDiff, reduceIte, qv_move, e0, e1]; rfl) ?_
  refine WL.lit2 #[(.int .i64 0)] Try.underlying22 sz3 zr3 (by decide) (by kernel_rfl) ⟨_, (by simp only [ev_tmp, ev_const, ev_func, set_get, Nat.reduceEqDiff, reduceIte, List.getElem?_toArray, List.getElem?_cons_zero, List.getElem?_cons_succ, List.map_toArray, List.map_cons, List.map_nil, Option.map_some, Option.bind_some, e0, e1]; simp [Instr.fill, Value.cells]; rfl), rfl⟩ ?_
  intro h1 B1 hx1 hlt1 hB1
  replace hc := hc.ext hx1
  refine WL.ck Try.call39 (by simp only [ev_tmp, ev_const, ev_func, set_get, Nat.reduceEqDiff, reduceIte, List.getElem?_toArray, List.getElem?_cons_zero, List.getElem?_cons_succ, List.map_toArray, List.map_cons, List.map_nil, Option.map_some, Option.bind_some, e0, e1, hB1.cell]; exact c_usable _ _ 1 [n] (SlI.one hB1) (by simp)) ?_
  refine WL.qq (by simp only [ev_tmp, ev_const, ev_func, set_get, Nat.reduceEqDiff, reduceIte, qv_assign, e0, e1, hB1.cell]; rfl) ?_
  refine WL.nil ?_
  refine th_norm ?_
  refine hx_seq ?_
  refine hx_region ?_
  refine WL.qq (by simp only [ev_tmp, ev_const, ev_func, set_get, Nat.reduceEqDiff, reduceIte, qv_move, e0, e1, hB1.cell]; rfl) ?_
  refine WL.qq (by simp only [ev_tmp, ev_const, ev_func, set_get, Nat.reduceEqDiff, reduceIte, qv_binOp, binv_neq, eq28, Option.map_some, e0, e1, hB1.cell]; rfl) ?_
  refine WL.nil ?_
  refine th_norm ?_
  refine hx_cond (by simp only [ev_tmp, ev_const, ev_func, set_get, Nat.reduceEqDiff, reduceIte, e0, e1, hB1.cell]; rfl) (fun hct15 => ?_) (fun hct15 => ?_)
  ·
    try simp only [decide_eq_true_eq, decide_eq_false_iff_not, Bool.and_eq_true, Bool.and_eq_false_iff, Bool.or_eq_true, Bool.or_eq_false_iff, Bool.not_eq_true', Bool.not_eq_false', Bool.not_eq_true, Bool.not_eq_false] at hct15
    have hv : validM n = false := by { rw [usableM_one] at hct15; cases hv : validM n <;> simp [hv] at hct15 ⊢ }
    refine hx_seq ?_
    refine hx_region ?_
    refine WL.qq (by simp only [ev_tmp, ev_const, ev_func, set_get, Nat.reduceEqDiff, reduceIte, qv_move, e0, e1, hB1.cell]; rfl) ?_
    refine WL.qq (by simp only [ev_tmp, ev_const, ev_func, set_get, Nat.reduceEqDiff, reduceIte, qv_assign, e0, e1, hB1.cell]; rfl) ?_
    refine WL.qq (by simp only [ev_tmp, ev_const, ev_func, set_get, Nat.reduceEqDiff, reduceIte, qv_assign, e0, e1, hB1.cell]; rfl) ?_
    refine WL.nil ?_
    refine th_norm ?_
    refine hx_ret ?_
    refine th_ret ?_
    refine fin_ret [.tmp 4, .tmp 5] rfl rfl (by simp only [ev_tmp, ev_const, ev_func, set_get, Nat.reduceEqDiff, reduceIte, resv, e0, e1, hB1.cell]; rfl) ?_  -- ret 0 r3
    unfold lastM at hu; rw [if_neg (by simp [hv])] at hu; cases hu; exact ⟨by rw [usableM_one, if_neg (by simp [hv])]; rfl, (hx1)⟩
  ·
    try simp only [decide_eq_true_eq, decide_eq_false_iff_not, Bool.and_eq_true, Bool.and_eq_false_iff, Bool.or_eq_true, Bool.or_eq_false_iff, Bool.not_eq_true', Bool.not_eq_false', Bool.not_eq_true, Bool.not_eq_false] at hct15
    have hv : validM n = true := by { rw [usableM_one] at hct15; cases hv : validM n <;> simp [hv] at hct15 ⊢ }
    have bn := valid_bd hv
    have hm := month_bd n bn
    unfold lastM at hu; rw [if_pos hv] at hu
    refine hx_skip ?_
    refine th_norm ?_
    refine hx_seq ?_
    refine hx_region ?_
    refine WL.qq (by simp only [ev_tmp, ev_const, ev_func, set_get, Nat.reduceEqDiff, reduceIte, qv_move, e0, e1, hB1.cell]; rfl) ?_
    refine WL.cg Try.call54 (by simp only [ev_tmp, ev_const, ev_func, set_get, Nat.reduceEqDiff, reduceIte, List.getElem?_toArray, List.getElem?_cons_zero, List.getElem?_cons_succ, List.map_toArray, List.map_cons, List.map_nil, Option.map_some, Option.bind_some, e0, e1, hB1.cell]; exact c_end n bn _) ?_
    intro h2 hx2
    replace hc := hc.ext hx2
    replace hB1 := hB1.ext hx2
    refine WL.qq (by simp only [ev_tmp, ev_const, ev_func, set_get, Nat.reduceEqDiff, reduceIte, qv_move, e0, e1, hB1.cell]; rfl) ?_
    refine WL.qq (by simp only [ev_tmp, ev_const, ev_func, set_get, Nat.reduceEqDiff, reduceIte, qv_extract, List.getElem?_toArray, List.getElem?_cons_zero, List.getElem?_cons_succ, List.map_toArray, List.map_cons, List.map_nil, Option.map_some, Option.bind_some, e0, e1, hB1.cell]; rfl) ?_
    refine WL.qq (by simp only [ev_tmp, ev_const, ev_func, set_get, Nat.reduceEqDiff, reduceIte, qv_extract, List.getElem?_toArray, List.getElem?_cons_zero, List.getElem?_cons_succ, List.map_toArray, List.map_cons, List.map_nil, Option.map_some, Option.bind_some, e0, e1, hB1.cell]; rfl) ?_
    refine WL.qq (by simp only [ev_tmp, ev_const, ev_func, set_get, Nat.reduceEqDiff, reduceIte, qv_assign, e0, e1, hB1.cell]; rfl) ?_
    refine WL.qq (by simp only [ev_tmp, ev_const, ev_func, set_get, Nat.reduceEqDiff, reduceIte, qv_assign, e0, e1, hB1.cell]; rfl) ?_
    refine WL.nil ?_
    refine th_norm ?_
    refine hx_seq ?_
    refine hx_seq ?_
    refine hx_region ?_
    refine WL.qq (by simp only [ev_tmp, ev_const, ev_func, set_get, Nat.reduceEqDiff, reduceIte, qv_move, e0, e1, hB1.cell]; rfl) ?_
    refine WL.qq (by simp only [ev_tmp, ev_const, ev_func, set_get, Nat.reduceEqDiff, reduceIte, qv_binOp, binv_neq, eq28, Option.map_some, e0, e1, hB1.cell]; rfl) ?_
    refine WL.nil ?_
    refine th_norm ?_
    refine hx_cond (by simp only [ev_tmp, ev_const, ev_func, set_get, Nat.reduceEqDiff, reduceIte, e0, e1, hB1.cell]; rfl) (fun hct23 => ?_) (fun hct23 => ?_)
    ·
      simp at hct23
    ·
      try simp only [decide_eq_true_eq, decide_eq_false_iff_not, Bool.and_eq_true, Bool.and_eq_false_iff, Bool.or_eq_true, Bool.or_eq_false_iff, Bool.not_eq_true', Bool.not_eq_false', Bool.not_eq_true, Bool.not_eq_false] at hct23
      refine hx_skip ?_
      refine th_norm ?_
      refine hx_seq ?_
      refine hx_seq ?_
      refine hx_region ?_
      refine WL.qq (by simp only [ev_tmp, ev_const, ev_func, set_get, Nat.reduceEqDiff, reduceIte, qv_move, e0, e1, hB1.cell]; rfl) ?_
      refine WL.qq (by simp only [ev_tmp, ev_const, ev_func, set_get, Nat.reduceEqDiff, reduceIte, qv_assign, e0, e1, hB1.cell]; rfl) ?_
      refine WL.nil ?_
      refine th_norm ?_
      refine hx_block ?_
      refine hx_loopX [4, 5, 9, 26, 27, 28, 29, 30, 31, 32, 33, 34, 35, 36, 37, 38] (fun k e => ∃ (j : Nat) (d : Int), j = k ∧ (d + 1 = firstD n + j ∧ d ≤ endD n) ∧ (downM (busM wk hs) j d = downM (busM wk hs) (endD n - firstD n + 1).toNat (endD n)) ∧ e 9 = .int .i64 d) _ ⟨(endD n - firstD n + 1).toNat, endD n, rfl, ?_, ?_, ?_⟩ ?_
      · omega
      · rfl
      · simp only [ev_tmp, ev_const, ev_func, set_get, Nat.reduceEqDiff, reduceIte, e0, e1, hB1.cell] <;> rfl
      ·
        rintro k e0L hL0 hX0 hfr0 ⟨j, d, rfl, hd, hdn, i9_0⟩
        replace hc := hc.ext hX0
        replace hB1 := hB1.ext hX0
        have k0_0 := hfr0 0 rfl; simp only [ev_tmp, ev_const, ev_func, set_get, Nat.reduceEqDiff, reduceIte, e0, e1, hB1.cell] at k0_0
        have k1_0 := hfr0 1 rfl; simp only [ev_tmp, ev_const, ev_func, set_get, Nat.reduceEqDiff, reduceIte, e0, e1, hB1.cell] at k1_0
        refine hx_seq ?_
        refine hx_seq ?_
        refine hx_region ?_
        refine WL.qq (by simp only [ev_tmp, ev_const, ev_func, set_get, Nat.reduceEqDiff, reduceIte, qv_move, k0_0, k1_0, i9_0, hB1.cell]; rfl) ?_
        refine WL.ck Try.call41 (by simp only [ev_tmp, ev_const, ev_func, set_get, Nat.reduceEqDiff, reduceIte, List.getElem?_toArray, List.getElem?_cons_zero, List.getElem?_cons_succ, List.map_toArray, List.map_cons, List.map_nil, Option.map_some, Option.bind_some, k0_0, k1_0, i9_0, hB1.cell]; exact c_valid _ _) ?_
        refine WL.qq (by simp only [ev_tmp, ev_const, ev_func, set_get, Nat.reduceEqDiff, reduceIte, qv_move, k0_0, k1_0, i9_0, hB1.cell]; rfl) ?_
        refine WL.cq (gd_at (t := 28) rfl (by simp only [ev_tmp, ev_const, ev_func, set_get, Nat.reduceEqDiff, reduceIte, k0_0, k1_0, i9_0, hB1.cell]; rfl)) (fun hg8_3 => by simp only [ev_tmp, ev_const, ev_func, set_get, Nat.reduceEqDiff, reduceIte, qv_move, k0_0, k1_0, i9_0, hB1.cell, hg8_3, Bool.false_eq_true, Bool.true_eq_false, eq_self, if_true, if_false, true_and, and_true, false_and, and_false]; rfl) ?_
        refine WL.cq (gd_at (t := 28) rfl (by simp only [ev_tmp, ev_const, ev_func, set_get, Nat.reduceEqDiff, reduceIte, k0_0, k1_0, i9_0, hB1.cell]; rfl)) (fun hg8_4 => by simp only [ev_tmp, ev_const, ev_func, set_get, Nat.reduceEqDiff, reduceIte, qv_move, k0_0, k1_0, i9_0, hB1.cell, hg8_4, Bool.false_eq_true, Bool.true_eq_false, eq_self, if_true, if_false, true_and, and_true, false_and, and_false]; rfl) ?_
        refine WL.ccg (gd_at (t := 28) rfl (by simp only [ev_tmp, ev_const, ev_func, set_get, Nat.reduceEqDiff, reduceIte, k0_0, k1_0, i9_0, hB1.cell]; rfl)) Try.call52 (fun hg8_5 => by simp only [ev_tmp, ev_const, ev_func, set_get, Nat.reduceEqDiff, reduceIte, List.getElem?_toArray, List.getElem?_cons_zero, List.getElem?_cons_succ, List.map_toArray, List.map_cons, List.map_nil, Option.map_some, Option.bind_some, k0_0, k1_0, i9_0, hB1.cell, hg8_5, Bool.false_eq_true, Bool.true_eq_false, eq_self, if_true, if_false, true_and, and_true, false_and, and_false]; exact c_sameMonth d n (valid_bd (by simpa using hg8_5)) bn _) ?_
        intro h3 hx3
        replace hc := hc.ext hx3
        replace hB1 := hB1.ext hx3
        refine WL.qq (by simp only [ev_tmp, ev_const, ev_func, set_get, Nat.reduceEqDiff, reduceIte, qv_pick, pk_and, pk_or, Bool.false_eq_true, Bool.true_eq_false, eq_self, if_true, if_false, true_and, and_true, false_and, and_false, k0_0, k1_0, i9_0, hB1.cell]; rfl) ?_
        refine WL.nil ?_
        refine th_norm ?_
        refine hx_cond (by simp only [ev_tmp, ev_const, ev_func, set_get, Nat.reduceEqDiff, reduceIte, k0_0, k1_0, i9_0, hB1.cell]; rfl) (fun hct32 => ?_) (fun hct32 => ?_)
        ·
          try simp only [decide_eq_true_eq, decide_eq_false_iff_not, Bool.and_eq_true, Bool.and_eq_false_iff, Bool.or_eq_true, Bool.or_eq_false_iff, Bool.not_eq_true', Bool.not_eq_false', Bool.not_eq_true, Bool.not_eq_false] at hct32
          have hbd := valid_bd hct32.1
          have hin := (sm_iff2 n d bn hbd).1 hct32.2
          obtain ⟨j, rfl⟩ : ∃ i, j = i + 1 := ⟨j - 1, by omega⟩
          simp only [downM] at hdn
          refine hx_skip ?_
          refine th_norm ?_
          refine hx_seq ?_
          refine hx_block ?_
          refine hx_seq ?_
          refine hx_region ?_
          refine WL.qq (by simp only [ev_tmp, ev_const, ev_func, set_get, Nat.reduceEqDiff, reduceIte, qv_move, k0_0, k1_0, i9_0, hB1.cell]; rfl) ?_
          refine WL.qq (by simp only [ev_tmp, ev_const, ev_func, set_get, Nat.reduceEqDiff, reduceIte, qv_move, k0_0, k1_0, i9_0, hB1.cell]; rfl) ?_
          refine WL.ck Try.call20 (by simp only [ev_tmp, ev_const, ev_func, set_get, Nat.reduceEqDiff, reduceIte, List.getElem?_toArray, List.getElem?_cons_zero, List.getElem?_cons_succ, List.map_toArray, List.map_cons, List.map_nil, Option.map_some, Option.bind_some, k0_0, k1_0, i9_0, hB1.cell]; exact c_isBusiness p wk hs d hc) ?_
          refine WL.nil ?_
          refine th_norm ?_
          refine hx_cond (by simp only [ev_tmp, ev_const, ev_func, set_get, Nat.reduceEqDiff, reduceIte, k0_0, k1_0, i9_0, hB1.cell]; rfl) (fun hct37 => ?_) (fun hct37 => ?_)
          ·
            try simp only [decide_eq_true_eq, decide_eq_false_iff_not, Bool.and_eq_true, Bool.and_eq_false_iff, Bool.or_eq_true, Bool.or_eq_false_iff, Bool.not_eq_true', Bool.not_eq_false', Bool.not_eq_true, Bool.not_eq_false] at hct37
            refine hx_seq ?_
            refine hx_region ?_
            refine WL.qq (by simp only [ev_tmp, ev_const, ev_func, set_get, Nat.reduceEqDiff, reduceIte, qv_move, k0_0, k1_0, i9_0, hB1.cell]; rfl) ?_
            refine WL.qq (by simp only [ev_tmp, ev_const, ev_func, set_get, Nat.reduceEqDiff, reduceIte, qv_assign, k0_0, k1_0, i9_0, hB1.cell]; rfl) ?_
            refine WL.qq (by simp only [ev_tmp, ev_const, ev_func, set_get, Nat.reduceEqDiff, reduceIte, qv_assign, k0_0, k1_0, i9_0, hB1.cell]; rfl) ?_
            refine WL.nil ?_
            refine th_norm ?_
            refine hx_ret ?_
            refine bl_ret ?_
            refine th_ret ?_
            refine th_ret ?_
            refine bl_ret ?_
            refine th_ret ?_
            refine fin_ret [.tmp 4, .tmp 5] rfl rfl (by simp only [ev_tmp, ev_const, ev_func, set_get, Nat.reduceEqDiff, reduceIte, resv, k0_0, k1_0, i9_0, hB1.cell]; rfl) ?_  -- ret 1 r11
            rw [if_pos hct37] at hdn; rw [← hdn] at hu; cases hu; exact ⟨rfl, ((hx1).trans ((hx2).trans ((hX0).trans (hx3))))⟩
          ·
            try simp only [decide_eq_true_eq, decide_eq_false_iff_not, Bool.and_eq_true, Bool.and_eq_false_iff, Bool.or_eq_true, Bool.or_eq_false_iff, Bool.not_eq_true', Bool.not_eq_false', Bool.not_eq_true, Bool.not_eq_false] at hct37
            refine hx_skip ?_
            refine bl_norm ?_
            refine th_norm ?_
            refine hx_region ?_
            refine WL.qq (by simp only [ev_tmp, ev_const, ev_func, set_get, Nat.reduceEqDiff, reduceIte, qv_move, k0_0, k1_0, i9_0, hB1.cell]; rfl) ?_
            refine WL.qq (by simp only [ev_tmp, ev_const, ev_func, set_get, Nat.reduceEqDiff, reduceIte, qv_binOp, binv_sub, k0_0, k1_0, i9_0, hB1.cell]; (try simp (disch := omega) only [w64, w8, wu64]); rfl) ?_
            refine WL.qq (by simp only [ev_tmp, ev_const, ev_func, set_get, Nat.reduceEqDiff, reduceIte, qv_assign, k0_0, k1_0, i9_0, hB1.cell]; rfl) ?_
            refine WL.nil ?_
            refine th_norm ?_
            refine ⟨rfl, ?_, ?_, _, ?_, j, d - 1, rfl, ?_, ?_, ?_⟩  -- again 0 of loop 0
            · exact hx3
            · (repeat (first | exact Fr.refl _ _ | refine Fr.set rfl ?_ | refine Fr.put rfl ?_ | refine Fr.put0 ?_))
            · omega
            · first | omega | (rw [if_neg (by simp [hct37])] at hdn; exact hdn)
            · first | omega | (rw [if_neg (by simp [hct37])] at hdn; exact hdn)
            · simp only [ev_tmp, ev_const, ev_func, set_get, Nat.reduceEqDiff, reduceIte, k0_0, k1_0, i9_0, hB1.cell] <;> first | rfl | (congr 1; omega)
        ·
          try simp only [decide_eq_true_eq, decide_eq_false_iff_not, Bool.and_eq_true, Bool.and_eq_false_iff, Bool.or_eq_true, Bool.or_eq_false_iff, Bool.not_eq_true', Bool.not_eq_false', Bool.not_eq_true, Bool.not_eq_false] at hct32
          have hk0 : j = 0 := by { have := sm_no bn hd.2 hct32; omega }
          refine hx_exit ?_
          refine th_exit ?_
          refine th_exit ?_
          refine bl_hit ?_
          refine th_norm ?_
          refine hx_seq ?_
          refine hx_region ?_
          refine WL.qq (by simp only [ev_tmp, ev_const, ev_func, set_get, Nat.reduceEqDiff, reduceIte, qv_assign, k0_0, k1_0, i9_0, hB1.cell]; rfl) ?_
          refine WL.qq (by simp only [ev_tmp, ev_const, ev_func, set_get, Nat.reduceEqDiff, reduceIte, qv_assign, k0_0, k1_0, i9_0, hB1.cell]; rfl) ?_
          refine WL.nil ?_
          refine th_norm ?_
          refine hx_ret ?_
          refine fin_ret [.tmp 4, .tmp 5] rfl rfl (by simp only [ev_tmp, ev_const, ev_func, set_get, Nat.reduceEqDiff, reduceIte, resv, k0_0, k1_0, i9_0, hB1.cell]; rfl) ?_  -- ret 2 r12
          subst hk0; simp only [downM] at hdn; rw [← hdn] at hu; cases hu; exact ⟨rfl, ((hx1).trans ((hx2).trans ((hX0).trans (hx3))))⟩
def valO (o : Option Int) : Int := match o with | some x => x | none => -1
noncomputable def seenM (bus : Int → Bool) (n d : Int) : Int := valO (downM bus ((if d ≤ endD n then d else endD n + 1) - firstD n).toNat ((if d ≤ endD n then d else endD n + 1) - 1))
theorem seen_0 (bus : Int → Bool) (n d : Int) (bn : 0 ≤ n ∧ n ≤ 73048) (hd : d ≤ firstD n) : seenM bus n d = -1 := by
  have hm := month_bd n bn
  unfold seenM
  rw [if_pos (by omega), show (d - firstD n).toNat = 0 from by omega]
  rfl
theorem seen_yes (bus : Int → Bool) (n d : Int) (h1 : firstD n ≤ d) (h2 : d ≤ endD n) (hb : bus d = true) : seenM bus n (d + 1) = d := by
  unfold seenM
  by_cases h3 : d + 1 ≤ endD n
  · rw [if_pos h3, show (d + 1 - firstD n).toNat = (d - firstD n).toNat + 1 from by omega, show d + 1 - 1 = d from by omega]
    simp [downM, hb, valO]
  · rw [if_neg h3, show endD n = d from by omega, show (d + 1 - firstD n).toNat = (d - firstD n).toNat + 1 from by omega, show d + 1 - 1 = d from by omega]
    simp [downM, hb, valO]
theorem seen_no (bus : Int → Bool) (n d : Int) (bn : 0 ≤ n ∧ n ≤ 73048) (h : (firstD n ≤ d ∧ d ≤ endD n) → bus d = false) : seenM bus n (d + 1) = seenM bus n d := by
  have hm := month_bd n bn
  by_cases h1 : d < firstD n
  · rw [seen_0 bus n d bn (by omega), seen_0 bus n (d + 1) bn (by omega)]
  · by_cases h2 : d ≤ endD n
    · have hb := h ⟨by omega, h2⟩
      unfold seenM
      rw [if_pos h2]
      by_cases h3 : d + 1 ≤ endD n
      · rw [if_pos h3, show (d + 1 - firstD n).toNat = (d - firstD n).toNat + 1 from by omega, show d + 1 - 1 = d from by omega]
        simp [downM, hb]
      · rw [if_neg h3, show endD n = d from by omega, show (d + 1 - firstD n).toNat = (d - firstD n).toNat + 1 from by omega, show d + 1 - 1 = d from by omega]
        simp [downM, hb]
    · unfold seenM
      rw [if_neg (by omega), if_neg (by omega)]
theorem seen_end (bus : Int → Bool) (n : Int) (d : Int) (hd : endD n < d) : seenM bus n d = valO (downM bus (endD n - firstD n + 1).toNat (endD n)) := by
  unfold seenM
  rw [if_neg (by omega), show endD n + 1 - firstD n = endD n - firstD n + 1 from by omega, show endD n + 1 - 1 = endD n from by omega]
theorem bus_valid {wk hol : List Int} {d : Int} (h : busM wk hol d = true) : 0 ≤ d ∧ d ≤ 73048 := by
  unfold busM at h
  simp only [Bool.and_eq_true] at h
  exact valid_bd h.1.1
theorem seen_le (bus : Int → Bool) (n d : Int) (bn : 0 ≤ n ∧ n ≤ 73048) : -1 ≤ seenM bus n d ∧ seenM bus n d ≤ 73048 := by
  have hm := month_bd n bn
  unfold seenM
  generalize hx : downM bus _ _ = o
  cases o with
  | none => simp [valO]
  | some x =>
    have := down_in bus _ _ _ hx
    simp only [valO]
    split at this <;> omega
theorem c_rlast (wk hol : List Int) (a a' : Option Addr) (c c' : Nat) (n : Int) {h : Heap} (hw : SlI h a wk) (hh : SlI h a' hol) (lw : wk.length ≤ 9223372036854775807) (lh : hol.length ≤ 9223372036854775807) {u v : Int} (hu : lastM (busM wk hol) n = (u, v)) :
    HCalls Try.prog 34 #[.agg #[.slice a wk.length c, .slice a' hol.length c'], .int .i64 n] h (Grow (.tuple #[.int .i64 u, .int .i64 v]) h) := by
  refine hcalls2 Try.func34 rfl (by decide +kernel) (by simp only [Try.ntmps34]; exact of_decide_eq_true rfl) ?_
  intro e hin
  have e0 := hin 0 _ rfl
  have e1 := hin 1 _ rfl
  refine hx_seq ?_
  refine hx_region ?_
  refine WL.box2 (by simp only [ev_tmp, ev_const, ev_func, set_get, Nat.reduceEqDiff, reduceIte, Value.cells, e0, e1]; rfl) ?_
  intro h1 B1 hx1 hlt1 hB1
  replace hw := hw.ext hx1
  replace hh := hh.ext hx1
  refine WL.qq (by simp only [ev_tmp, ev_const, ev_func, set_get, Nat.reduceEqDiff, reduceIte, qv_assign, e0, e1, hB1.cell]; rfl) ?_
  refine WL.qq (by simp only [ev_tmp, ev_const, ev_func, set_get, Nat.reduceEqDiff, reduceIte, qv_assign, e0, e1, hB1.cell]; rfl) ?_
  refine WL.nil ?_
  refine th_norm ?_
  refine hx_seq ?_
  refine hx_seq ?_
  refine hx_region ?_
  refine WL.qq (by simp only [ev_tmp, ev_const, ev_func, set_get, Nat.reduceEqDiff, reduceIte, qv_move, e0, e1, hB1.cell]; rfl) ?_
  refine WL.ck Try.call37 (by simp only [ev_tmp, ev_const, ev_func, set_get, Nat.reduceEqDiff, reduceIte, List.getElem?_toArray, List.getElem?_cons_zero, List.getElem?_cons_succ, List.map_toArray, List.map_cons, List.map_nil, Option.map_some, Option.bind_some, e0, e1, hB1.cell]; exact c_rvalid _ _) ?_
  refine WL.qq (by simp only [ev_tmp, ev_const, ev_func, set_get, Nat.reduceEqDiff, reduceIte, qv_unOp, unv_not, e0, e1, hB1.cell]; rfl) ?_
  refine WL.nil ?_
  refine th_norm ?_
  refine hx_cond (by simp only [ev_tmp, ev_const, ev_func, set_get, Nat.reduceEqDiff, reduceIte, e0, e1, hB1.cell]; rfl) (fun hct10 => ?_) (fun hct10 => ?_)
  ·
    try simp only [decide_eq_true_eq, decide_eq_false_iff_not, Bool.and_eq_true, Bool.and_eq_false_iff, Bool.or_eq_true, Bool.or_eq_false_iff, Bool.not_eq_true', Bool.not_eq_false', Bool.not_eq_true, Bool.not_eq_false] at hct10
    refine hx_seq ?_
    refine hx_region ?_
    refine WL.qq (by simp only [ev_tmp, ev_const, ev_func, set_get, Nat.reduceEqDiff, reduceIte, qv_assign, e0, e1, hB1.cell]; rfl) ?_
    refine WL.qq (by simp only [ev_tmp, ev_const, ev_func, set_get, Nat.reduceEqDiff, reduceIte, qv_assign, e0, e1, hB1.cell]; rfl) ?_
    refine WL.nil ?_
    refine th_norm ?_
    refine hx_ret ?_
    refine th_ret ?_
    refine fin_ret [.tmp 4, .tmp 5] rfl rfl (by simp only [ev_tmp, ev_const, ev_func, set_get, Nat.reduceEqDiff, reduceIte, resv, e0, e1, hB1.cell]; rfl) ?_  -- ret 0 r2
    unfold lastM at hu; rw [if_neg (by simp [hct10])] at hu; cases hu; exact ⟨rfl, (hx1)⟩
  ·
    try simp only [decide_eq_true_eq, decide_eq_false_iff_not, Bool.and_eq_true, Bool.and_eq_false_iff, Bool.or_eq_true, Bool.or_eq_false_iff, Bool.not_eq_true', Bool.not_eq_false', Bool.not_eq_true, Bool.not_eq_false] at hct10
    have bn := valid_bd hct10
    have hm := month_bd n bn
    unfold lastM at hu; rw [if_pos hct10] at hu
    refine hx_skip ?_
    refine th_norm ?_
    refine hx_seq ?_
    refine hx_region ?_
    refine WL.qq (by simp only [ev_tmp, ev_const, ev_func, set_get, Nat.reduceEqDiff, reduceIte, qv_assign, e0, e1, hB1.cell]; rfl) ?_
    refine WL.nil ?_
    refine th_norm ?_
    refine hx_seq ?_
    refine hx_seq ?_
    refine hx_region ?_
    refine WL.qq (by simp only [ev_tmp, ev_const, ev_func, set_get, Nat.reduceEqDiff, reduceIte, qv_move, e0, e1, hB1.cell]; rfl) ?_
    refine WL.qq (by simp only [ev_tmp, ev_const, ev_func, set_get, Nat.reduceEqDiff, reduceIte, qv_binOp, binv_sub, e0, e1, hB1.cell]; (try simp (disch := omega) only [w64, w8, wu64]); rfl) ?_
    refine WL.qq (by simp only [ev_tmp, ev_const, ev_func, set_get, Nat.reduceEqDiff, reduceIte, qv_assign, e0, e1, hB1.cell]; rfl) ?_
    refine WL.nil ?_
    refine th_norm ?_
    refine hx_block ?_
    refine hx_loopX [6, 7, 13, 14, 15, 16, 17, 18, 19, 20, 21, 22, 23, 24, 25, 26, 27] (fun k e => ∃ (d : Int), (n + 32 - d).toNat = k ∧ (n - 31 ≤ d ∧ d ≤ n + 32) ∧ e 7 = .int .i64 d ∧ e 6 = .int .i64 (seenM (busM wk hol) n d)) _ ⟨n - 31, rfl, ?_, ?_, ?_⟩ ?_
    · first | omega | assumption | (simp; done) | rfl
    · simp only [ev_tmp, ev_const, ev_func, set_get, Nat.reduceEqDiff, reduceIte, e0, e1, hB1.cell] <;> rfl
    · simp only [ev_tmp, ev_const, ev_func, set_get, Nat.reduceEqDiff, reduceIte, e0, e1, hB1.cell] <;> rw [seen_0 _ _ _ bn (by omega)]
    ·
      rintro k e0L hL0 hX0 hfr0 ⟨d, rfl, hd, i7_0, i6_0⟩
      replace hw := hw.ext hX0
      replace hh := hh.ext hX0
      replace hB1 := hB1.ext hX0
      have k1_0 := hfr0 1 rfl; simp only [ev_tmp, ev_const, ev_func, set_get, Nat.reduceEqDiff, reduceIte, e0, e1, hB1.cell] at k1_0
      have k2_0 := hfr0 2 rfl; simp only [ev_tmp, ev_const, ev_func, set_get, Nat.reduceEqDiff, reduceIte, e0, e1, hB1.cell] at k2_0
      have k4_0 := hfr0 4 rfl; simp only [ev_tmp, ev_const, ev_func, set_get, Nat.reduceEqDiff, reduceIte, e0, e1, hB1.cell] at k4_0
      have k5_0 := hfr0 5 rfl; simp only [ev_tmp, ev_const, ev_func, set_get, Nat.reduceEqDiff, reduceIte, e0, e1, hB1.cell] at k5_0
      refine hx_seq ?_
      refine hx_seq ?_
      refine hx_region ?_
      refine WL.qq (by simp only [ev_tmp, ev_const, ev_func, set_get, Nat.reduceEqDiff, reduceIte, qv_move, k1_0, k2_0, k4_0, k5_0, i7_0, i6_0, hB1.cell]; rfl) ?_
      refine WL.qq (by simp only [ev_tmp, ev_const, ev_func, set_get, Nat.reduceEqDiff, reduceIte, qv_move, k1_0, k2_0, k4_0, k5_0, i7_0, i6_0, hB1.cell]; rfl) ?_
      refine WL.qq (by simp only [ev_tmp, ev_const, ev_func, set_get, Nat.reduceEqDiff, reduceIte, qv_binOp, binv_add, k1_0, k2_0, k4_0, k5_0, i7_0, i6_0, hB1.cell]; (try simp (disch := omega) only [w64, w8, wu64]); rfl) ?_
      refine WL.qq (by simp only [ev_tmp, ev_const, ev_func, set_get, Nat.reduceEqDiff, reduceIte, qv_binOp, binv_leq, k1_0, k2_0, k4_0, k5_0, i7_0, i6_0, hB1.cell]; rfl) ?_
      refine WL.nil ?_
      refine th_norm ?_
      refine hx_cond (by simp only [ev_tmp, ev_const, ev_func, set_get, Nat.reduceEqDiff, reduceIte, k1_0, k2_0, k4_0, k5_0, i7_0, i6_0, hB1.cell]; rfl) (fun hct16 => ?_) (fun hct16 => ?_)
      ·
        try simp only [decide_eq_true_eq, decide_eq_false_iff_not, Bool.and_eq_true, Bool.and_eq_false_iff, Bool.or_eq_true, Bool.or_eq_false_iff, Bool.not_eq_true', Bool.not_eq_false', Bool.not_eq_true, Bool.not_eq_false] at hct16
        refine hx_skip ?_
        refine th_norm ?_
        refine hx_seq ?_
        refine hx_block ?_
        refine hx_seq ?_
        refine hx_region ?_
        refine WL.qq (by simp only [ev_tmp, ev_const, ev_func, set_get, Nat.reduceEqDiff, reduceIte, qv_load, ld24, readN, List.getElem?_toArray, List.getElem?_cons_zero, List.getElem?_cons_succ, List.map_toArray, List.map_cons, List.map_nil, Option.map_some, Option.bind_some, Nat.zero_add, Nat.reduceAdd, k1_0, k2_0, k4_0, k5_0, i7_0, i6_0, hB1.cell]; rfl) ?_
        refine WL.qq (by simp only [ev_tmp, ev_const, ev_func, set_get, Nat.reduceEqDiff, reduceIte, qv_move, k1_0, k2_0, k4_0, k5_0, i7_0, i6_0, hB1.cell]; rfl) ?_
        refine WL.cg Try.call22 (by simp only [ev_tmp, ev_const, ev_func, set_get, Nat.reduceEqDiff, reduceIte, List.getElem?_toArray, List.getElem?_cons_zero, List.getElem?_cons_succ, List.map_toArray, List.map_cons, List.map_nil, Option.map_some, Option.bind_some, k1_0, k2_0, k4_0, k5_0, i7_0, i6_0, hB1.cell]; exact c_ris wk hol _ _ _ _ d hw hh lw lh) ?_
        intro h2 hx2
        replace hw := hw.ext hx2
        replace hh := hh.ext hx2
        replace hB1 := hB1.ext hx2
        refine WL.qq (by simp only [ev_tmp, ev_const, ev_func, set_get, Nat.reduceEqDiff, reduceIte, qv_move, k1_0, k2_0, k4_0, k5_0, i7_0, i6_0, hB1.cell]; rfl) ?_
        refine WL.cq (gd_at (t := 22) rfl (by simp only [ev_tmp, ev_const, ev_func, set_get, Nat.reduceEqDiff, reduceIte, k1_0, k2_0, k4_0, k5_0, i7_0, i6_0, hB1.cell]; rfl)) (fun hg7_4 => by simp only [ev_tmp, ev_const, ev_func, set_get, Nat.reduceEqDiff, reduceIte, qv_move, k1_0, k2_0, k4_0, k5_0, i7_0, i6_0, hB1.cell, hg7_4, Bool.false_eq_true, Bool.true_eq_false, eq_self, if_true, if_false, true_and, and_true, false_and, and_false]; rfl) ?_
        refine WL.cq (gd_at (t := 22) rfl (by simp only [ev_tmp, ev_const, ev_func, set_get, Nat.reduceEqDiff, reduceIte, k1_0, k2_0, k4_0, k5_0, i7_0, i6_0, hB1.cell]; rfl)) (fun hg7_5 => by simp only [ev_tmp, ev_const, ev_func, set_get, Nat.reduceEqDiff, reduceIte, qv_move, k1_0, k2_0, k4_0, k5_0, i7_0, i6_0, hB1.cell, hg7_5, Bool.false_eq_true, Bool.true_eq_false, eq_self, if_true, if_false, true_and, and_true, false_and, and_false]; rfl) ?_
        refine WL.ccg (gd_at (t := 22) rfl (by simp only [ev_tmp, ev_const, ev_func, set_get, Nat.reduceEqDiff, reduceIte, k1_0, k2_0, k4_0, k5_0, i7_0, i6_0, hB1.cell]; rfl)) Try.call53 (fun hg7_6 => by simp only [ev_tmp, ev_const, ev_func, set_get, Nat.reduceEqDiff, reduceIte, List.getElem?_toArray, List.getElem?_cons_zero, List.getElem?_cons_succ, List.map_toArray, List.map_cons, List.map_nil, Option.map_some, Option.bind_some, k1_0, k2_0, k4_0, k5_0, i7_0, i6_0, hB1.cell, hg7_6, Bool.false_eq_true, Bool.true_eq_false, eq_self, if_true, if_false, true_and, and_true, false_and, and_false]; exact c_rsameMonth d n (bus_valid (by simpa using hg7_6)) bn _) ?_
        intro h3 hx3
        replace hw := hw.ext hx3
        replace hh := hh.ext hx3
        replace hB1 := hB1.ext hx3
        refine WL.qq (by simp only [ev_tmp, ev_const, ev_func, set_get, Nat.reduceEqDiff, reduceIte, qv_pick, pk_and, pk_or, Bool.false_eq_true, Bool.true_eq_false, eq_self, if_true, if_false, true_and, and_true, false_and, and_false, k1_0, k2_0, k4_0, k5_0, i7_0, i6_0, hB1.cell]; rfl) ?_
        refine WL.nil ?_
        refine th_norm ?_
        refine hx_cond (by simp only [ev_tmp, ev_const, ev_func, set_get, Nat.reduceEqDiff, reduceIte, k1_0, k2_0, k4_0, k5_0, i7_0, i6_0, hB1.cell]; rfl) (fun hct26 => ?_) (fun hct26 => ?_)
        ·
          try simp only [decide_eq_true_eq, decide_eq_false_iff_not, Bool.and_eq_true, Bool.and_eq_false_iff, Bool.or_eq_true, Bool.or_eq_false_iff, Bool.not_eq_true', Bool.not_eq_false', Bool.not_eq_true, Bool.not_eq_false] at hct26
          refine hx_region ?_
          refine WL.qq (by simp only [ev_tmp, ev_const, ev_func, set_get, Nat.reduceEqDiff, reduceIte, qv_move, k1_0, k2_0, k4_0, k5_0, i7_0, i6_0, hB1.cell]; rfl) ?_
          refine WL.qq (by simp only [ev_tmp, ev_const, ev_func, set_get, Nat.reduceEqDiff, reduceIte, qv_assign, k1_0, k2_0, k4_0, k5_0, i7_0, i6_0, hB1.cell]; rfl) ?_
          refine WL.nil ?_
          refine bl_norm ?_
          refine th_norm ?_
          refine hx_region ?_
          refine WL.qq (by simp only [ev_tmp, ev_const, ev_func, set_get, Nat.reduceEqDiff, reduceIte, qv_move, k1_0, k2_0, k4_0, k5_0, i7_0, i6_0, hB1.cell]; rfl) ?_
          refine WL.qq (by simp only [ev_tmp, ev_const, ev_func, set_get, Nat.reduceEqDiff, reduceIte, qv_binOp, binv_add, k1_0, k2_0, k4_0, k5_0, i7_0, i6_0, hB1.cell]; (try simp (disch := omega) only [w64, w8, wu64]); rfl) ?_
          refine WL.qq (by simp only [ev_tmp, ev_const, ev_func, set_get, Nat.reduceEqDiff, reduceIte, qv_assign, k1_0, k2_0, k4_0, k5_0, i7_0, i6_0, hB1.cell]; rfl) ?_
          refine WL.nil ?_
          refine th_norm ?_
          refine ⟨rfl, ?_, ?_, _, ?_, d + 1, rfl, ?_, ?_, ?_⟩  -- again 0 of loop 0
          · exact (hx2).trans (hx3)
          · (repeat (first | exact Fr.refl _ _ | refine Fr.set rfl ?_ | refine Fr.put rfl ?_ | refine Fr.put0 ?_))
          · omega
          · first | omega | assumption | (simp; done) | rfl
          · simp only [ev_tmp, ev_const, ev_func, set_get, Nat.reduceEqDiff, reduceIte, k1_0, k2_0, k4_0, k5_0, i7_0, i6_0, hB1.cell] <;> first | rfl | (congr 1; omega)
          · simp only [ev_tmp, ev_const, ev_func, set_get, Nat.reduceEqDiff, reduceIte, k1_0, k2_0, k4_0, k5_0, i7_0, i6_0, hB1.cell] <;> first | (rw [seen_no _ _ _ bn (fun hh1 => by first | (rcases hct26 with q | q; exact q; exfalso; rw [(sm_iff2 n d bn (by omega)).2 hh1] at q; cases q))]) | (have hq := (sm_iff2 n d bn (bus_valid hct26.1)).1 hct26.2; rw [seen_yes _ _ _ hq.1 hq.2 hct26.1])
        ·
          try simp only [decide_eq_true_eq, decide_eq_false_iff_not, Bool.and_eq_true, Bool.and_eq_false_iff, Bool.or_eq_true, Bool.or_eq_false_iff, Bool.not_eq_true', Bool.not_eq_false', Bool.not_eq_true, Bool.not_eq_false] at hct26
          refine hx_skip ?_
          refine bl_norm ?_
          refine th_norm ?_
          refine hx_region ?_
          refine WL.qq (by simp only [ev_tmp, ev_const, ev_func, set_get, Nat.reduceEqDiff, reduceIte, qv_move, k1_0, k2_0, k4_0, k5_0, i7_0, i6_0, hB1.cell]; rfl) ?_
          refine WL.qq (by simp only [ev_tmp, ev_const, ev_func, set_get, Nat.reduceEqDiff, reduceIte, qv_binOp, binv_add, k1_0, k2_0, k4_0, k5_0, i7_0, i6_0, hB1.cell]; (try simp (disch := omega) only [w64, w8, wu64]); rfl) ?_
          refine WL.qq (by simp only [ev_tmp, ev_const, ev_func, set_get, Nat.reduceEqDiff, reduceIte, qv_assign, k1_0, k2_0, k4_0, k5_0, i7_0, i6_0, hB1.cell]; rfl) ?_
          refine WL.nil ?_
          refine th_norm ?_
          refine ⟨rfl, ?_, ?_, _, ?_, d + 1, rfl, ?_, ?_, ?_⟩  -- again 1 of loop 0
          · exact (hx2).trans (hx3)
          · (repeat (first | exact Fr.refl _ _ | refine Fr.set rfl ?_ | refine Fr.put rfl ?_ | refine Fr.put0 ?_))
          · omega
          · first | omega | assumption | (simp; done) | rfl
          · simp only [ev_tmp, ev_const, ev_func, set_get, Nat.reduceEqDiff, reduceIte, k1_0, k2_0, k4_0, k5_0, i7_0, i6_0, hB1.cell] <;> first | rfl | (congr 1; omega)
          · simp only [ev_tmp, ev_const, ev_func, set_get, Nat.reduceEqDiff, reduceIte, k1_0, k2_0, k4_0, k5_0, i7_0, i6_0, hB1.cell] <;> first | (rw [seen_no _ _ _ bn (fun hh1 => by first | (rcases hct26 with q | q; exact q; exfalso; rw [(sm_iff2 n d bn (by omega)).2 hh1] at q; cases q))]) | (have hq := (sm_iff2 n d bn (bus_valid hct26.1)).1 hct26.2; rw [seen_yes _ _ _ hq.1 hq.2 hct26.1])
      ·
        try simp only [decide_eq_true_eq, decide_eq_false_iff_not, Bool.and_eq_true, Bool.and_eq_false_iff, Bool.or_eq_true, Bool.or_eq_false_iff, Bool.not_eq_true', Bool.not_eq_false', Bool.not_eq_true, Bool.not_eq_false] at hct16
        have he := seen_end (busM wk hol) n d (by omega)
        refine hx_exit ?_
        refine th_exit ?_
        refine th_exit ?_
        refine bl_hit ?_
        refine th_norm ?_
        refine hx_seq ?_
        refine hx_seq ?_
        refine hx_region ?_
        refine WL.qq (by simp only [ev_tmp, ev_const, ev_func, set_get, Nat.reduceEqDiff, reduceIte, qv_move, k1_0, k2_0, k4_0, k5_0, i7_0, i6_0, hB1.cell]; rfl) ?_
        refine WL.qq (by simp only [ev_tmp, ev_const, ev_func, set_get, Nat.reduceEqDiff, reduceIte, qv_binOp, binv_lss, k1_0, k2_0, k4_0, k5_0, i7_0, i6_0, hB1.cell]; rfl) ?_
        refine WL.nil ?_
        refine th_norm ?_
        refine hx_cond (by simp only [ev_tmp, ev_const, ev_func, set_get, Nat.reduceEqDiff, reduceIte, k1_0, k2_0, k4_0, k5_0, i7_0, i6_0, hB1.cell]; rfl) (fun hct29 => ?_) (fun hct29 => ?_)
        ·
          try simp only [decide_eq_true_eq, decide_eq_false_iff_not, Bool.and_eq_true, Bool.and_eq_false_iff, Bool.or_eq_true, Bool.or_eq_false_iff, Bool.not_eq_true', Bool.not_eq_false', Bool.not_eq_true, Bool.not_eq_false] at hct29
          refine hx_seq ?_
          refine hx_region ?_
          refine WL.qq (by simp only [ev_tmp, ev_const, ev_func, set_get, Nat.reduceEqDiff, reduceIte, qv_assign, k1_0, k2_0, k4_0, k5_0, i7_0, i6_0, hB1.cell]; rfl) ?_
          refine WL.qq (by simp only [ev_tmp, ev_const, ev_func, set_get, Nat.reduceEqDiff, reduceIte, qv_assign, k1_0, k2_0, k4_0, k5_0, i7_0, i6_0, hB1.cell]; rfl) ?_
          refine WL.nil ?_
          refine th_norm ?_
          refine hx_ret ?_
          refine th_ret ?_
          refine fin_ret [.tmp 4, .tmp 5] rfl rfl (by simp only [ev_tmp, ev_const, ev_func, set_get, Nat.reduceEqDiff, reduceIte, resv, k1_0, k2_0, k4_0, k5_0, i7_0, i6_0, hB1.cell]; rfl) ?_  -- ret 1 r10
          rw [he] at hct29; cases hx : downM (busM wk hol) (endD n - firstD n + 1).toNat (endD n) with | none => (rw [hx] at hu; cases hu; exact ⟨rfl, ((hx1).trans (hX0))⟩) | some x => (have := down_in _ _ _ _ hx; rw [hx] at hct29; simp only [valO] at hct29; omega)
        ·
          try simp only [decide_eq_true_eq, decide_eq_false_iff_not, Bool.and_eq_true, Bool.and_eq_false_iff, Bool.or_eq_true, Bool.or_eq_false_iff, Bool.not_eq_true', Bool.not_eq_false', Bool.not_eq_true, Bool.not_eq_false] at hct29
          refine hx_skip ?_
          refine th_norm ?_
          refine hx_seq ?_
          refine hx_region ?_
          refine WL.qq (by simp only [ev_tmp, ev_const, ev_func, set_get, Nat.reduceEqDiff, reduceIte, qv_move, k1_0, k2_0, k4_0, k5_0, i7_0, i6_0, hB1.cell]; rfl) ?_
          refine WL.qq (by simp only [ev_tmp, ev_const, ev_func, set_get, Nat.reduceEqDiff, reduceIte, qv_assign, k1_0, k2_0, k4_0, k5_0, i7_0, i6_0, hB1.cell]; rfl) ?_
          refine WL.qq (by simp only [ev_tmp, ev_const, ev_func, set_get, Nat.reduceEqDiff, reduceIte, qv_assign, k1_0, k2_0, k4_0, k5_0, i7_0, i6_0, hB1.cell]; rfl) ?_
          refine WL.nil ?_
          refine th_norm ?_
          refine hx_ret ?_
          refine fin_ret [.tmp 4, .tmp 5] rfl rfl (by simp only [ev_tmp, ev_const, ev_func, set_get, Nat.reduceEqDiff, reduceIte, resv, k1_0, k2_0, k4_0, k5_0, i7_0, i6_0, hB1.cell]; rfl) ?_  -- ret 2 r11
          rw [he] at hct29 ⊢; cases hx : downM (busM wk hol) (endD n - firstD n + 1).toNat (endD n) with | none => (rw [hx] at hct29; simp only [valO] at hct29; omega) | some x => (rw [hx] at hu; cases hu; exact ⟨rfl, ((hx1).trans (hX0))⟩)
end GL


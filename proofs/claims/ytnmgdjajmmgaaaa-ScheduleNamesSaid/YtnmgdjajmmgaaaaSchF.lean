/- Schedule: Changes. -/
import Derived.Test.YtnmgdjajmmgaaaaSchE
import Derived.Test.YtnmgdjajmmgaaaaGl21
set_option linter.unusedSimpArgs false
set_option linter.unusedVariables false
set_option linter.unnecessarySimpa false
namespace GL
open Go Go.Proofs
set_option maxRecDepth 8000
theorem c_beginnings (s0 s1 s2 s3 s4 s5 d m : Int) (q : Option Addr) (h : Heap) :
    HCalls Try.prog 43 #[sch s0 s1 s2 s3 s4 s5, .agg #[.int .i64 d, .int .i64 m], .pointer q] h fun v h' => Ext h h' ∧ ∃ Ba Bc Bs, v = .func (.func 55) #[] #[.pointer (some ⟨Ba, 0, none⟩), .pointer (some ⟨Bc, 0, none⟩), .pointer (some ⟨Bs, 0, none⟩)] ∧
      Has h' Ba (.cells #[.int .i64 d, .int .i64 m] 29) ∧ Has h' Bc (.cells #[.pointer q] 30) ∧ Has h' Bs (.cells #[.int .i64 s0, .int .i64 s1, .int .i64 s2, .int .i64 s3, .int .i64 s4, .int .i64 s5] 24) ∧ h.size ≤ Ba ∧ h.size ≤ Bc ∧ h.size ≤ Bs := by
  refine hcalls2 Try.func43 rfl (by decide +kernel) (by simp only [Try.ntmps43]; exact of_decide_eq_true rfl) ?_
  intro e hin
  have e0 := hin 0 _ rfl
  have e1 := hin 1 _ rfl
  have e2 := hin 2 _ rfl
  refine hx_seq ?_
  refine hx_region ?_
  refine WL.box2 (by simp only [ev_tmp, ev_const, ev_func, set_get, Nat.reduceEqDiff, reduceIte, Value.cells, e0, e1, e2]; rfl) ?_
  intro h1 B1 hx1 hlt1 hB1
  refine WL.box2 (by simp only [ev_tmp, ev_const, ev_func, set_get, Nat.reduceEqDiff, reduceIte, Value.cells, e0, e1, e2, hB1.cell]; rfl) ?_
  intro h2 B2 hx2 hlt2 hB2
  replace hB1 := hB1.ext hx2
  refine WL.box2 (by simp only [ev_tmp, ev_const, ev_func, set_get, Nat.reduceEqDiff, reduceIte, Value.cells, e0, e1, e2, hB1.cell, hB2.cell]; rfl) ?_
  intro h3 B3 hx3 hlt3 hB3
  replace hB1 := hB1.ext hx3
  replace hB2 := hB2.ext hx3
  refine WL.qq (by simp only [ev_tmp, ev_const, ev_func, set_get, Nat.reduceEqDiff, reduceIte, qv_assign, e0, e1, e2, hB1.cell, hB2.cell, hB3.cell]; rfl) ?_
  refine WL.nil ?_
  refine th_norm ?_
  refine hx_seq ?_
  refine hx_region ?_
  refine WL.qq (by simp only [ev_tmp, ev_const, ev_func, set_get, Nat.reduceEqDiff, reduceIte, qv_makeFunc, List.getElem?_toArray, List.getElem?_cons_zero, List.getElem?_cons_succ, List.map_toArray, List.map_cons, List.map_nil, Option.map_some, Option.bind_some, e0, e1, e2, hB1.cell, hB2.cell, hB3.cell]; rfl) ?_
  refine WL.qq (by simp only [ev_tmp, ev_const, ev_func, set_get, Nat.reduceEqDiff, reduceIte, qv_assign, e0, e1, e2, hB1.cell, hB2.cell, hB3.cell]; rfl) ?_
  refine WL.nil ?_
  refine th_norm ?_
  refine hx_ret ?_
  refine fin_ret [.tmp 6] rfl rfl (by simp only [ev_tmp, ev_const, ev_func, set_get, Nat.reduceEqDiff, reduceIte, resv, e0, e1, e2, hB1.cell, hB2.cell, hB3.cell]; rfl) ?_  -- ret 0 r1
  exact ⟨((hx1).trans ((hx2).trans (hx3))), B2, B3, B1, rfl, hB2, hB3, hB1, by have := hx1.size; omega, by have := hx1.size; have := hx2.size; omega, by omega⟩
abbrev chgL (c : Chg) : List Value := [.int .i64 c.1, .int .i64 c.2.1, .int .i64 c.2.2]
def leC (u : Int × Int) (c : Chg) : Bool := !decide (0 < cmpC (c.1, c.2.1) u)
def chgM (s : List Int) (q : Option Addr) (bus : Int → Bool) (a u : Int × Int) : List Chg × Int :=
  if valM s q [a, u] ≠ 0 then ([], valM s q [a, u]) else if 400 < u.1 - a.1 then ([], 8) else ((begs bus s a).takeWhile (leC u), 0)
theorem tw_all {α : Type} {p : α → Bool} {L : List α} {i : Nat} {x : α} (h : ∀ c ∈ L.take i, p c = true) (hi : L[i]? = some x) (hx : p x = false) : L.takeWhile p = L.take i := by
  induction L generalizing i with
  | nil => simp at hi
  | cons a L ih =>
    cases i with
    | zero => simp at hi; subst hi; simp [List.takeWhile, hx]
    | succ i =>
      have ha := h a (by simp)
      simp only [List.takeWhile_cons, ha, if_true, List.take_succ_cons, List.cons.injEq, true_and]
      exact ih (fun c hc => h c (by simp [hc])) (by simpa using hi)
theorem tw_full {α : Type} {p : α → Bool} {L : List α} (h : ∀ c ∈ L, p c = true) : L.takeWhile p = L := by
  induction L with
  | nil => rfl
  | cons a L ih => simp only [List.takeWhile_cons, h a (by simp), if_true, ih fun c hc => h c (by simp [hc])]
theorem allF_len (bus : Int → Bool) (s : List Int) : ∀ (n : Nat) (d : Int), (allF bus s d n).length ≤ 6 * n
  | 0, d => by simp [allF]
  | n + 1, d => by
    have := allF_len bus s n (d + 1)
    simp only [allF, List.length_append]
    split <;> simp [day6] <;> omega
theorem begs_len (bus : Int → Bool) (s : List Int) (a : Int × Int) (ha : 0 ≤ a.1) : (begs bus s a).length ≤ 500000 := by
  have h1 := allF_len bus s (73049 - a.1).toNat a.1
  have h2 : (begs bus s a).length ≤ (allF bus s a.1 (73049 - a.1).toNat).length := List.length_filter_le _ _
  omega
theorem val_two {s : List Int} {q : Option Addr} {a u : Int × Int} (h : valM s q [a, u] = 0) : (0 ≤ a.1 ∧ a.1 ≤ 73048 ∧ 0 ≤ a.2 ∧ a.2 ≤ 1439) ∧ (0 ≤ u.1 ∧ u.1 ≤ 73048 ∧ 0 ≤ u.2 ∧ u.2 ≤ 1439) ∧ chkGo (-1) s = 0 := by
  unfold valM at h
  by_cases hc : chkGo (-1) s = 0
  · rw [if_neg (fun hh => hh hc)] at h
    split at h
    · cases h
    · split at h
      · rename_i h2
        simp only [List.all_cons, List.all_nil, Bool.and_true, Bool.and_eq_true, clockOk, validM, decide_eq_true_eq] at h2
        exact ⟨by omega, by omega, hc⟩
      · cases h
  · rw [if_pos hc] at h; exact absurd h hc
theorem val_one {s : List Int} {q : Option Addr} {a : Int × Int} (h : valM s q [a] = 0) : (0 ≤ a.1 ∧ a.1 ≤ 73048 ∧ 0 ≤ a.2 ∧ a.2 ≤ 1439) ∧ chkGo (-1) s = 0 := by
  have h2 : valM s q [a, a] = 0 := by
    unfold valM at h ⊢
    simpa [List.all_cons] using h
  exact ⟨(val_two h2).1, (val_two h2).2.2⟩
theorem c_changes (s0 s1 s2 s3 s4 s5 d m d' m' : Int) (q : Option Addr) (wk hs : List Int) {M : List Chg} {ce : Int} (hM : chgM [s0, s1, s2, s3, s4, s5] q (busM wk hs) (d, m) (d', m') = (M, ce)) {h : Heap} (hq : QCal h q wk hs) :
    HCalls Try.prog 25 #[sch s0 s1 s2 s3 s4 s5, .agg #[.int .i64 d, .int .i64 m], .agg #[.int .i64 d', .int .i64 m'], .pointer q] h
      fun v h' => Ext h h' ∧ ∃ u, v = .tuple #[u, .int .i64 ce] ∧ Own h' h.size 61 3 u M.length (M.flatMap chgL) := by
  refine hcalls2 Try.func25 rfl (by decide +kernel) (by simp only [Try.ntmps25]; exact of_decide_eq_true rfl) ?_
  intro e hin
  have e0 := hin 0 _ rfl
  have e1 := hin 1 _ rfl
  have e2 := hin 2 _ rfl
  have e3 := hin 3 _ rfl
  have hE : Ext h h := Ext.refl h
  obtain ⟨er, he⟩ : ∃ e, valM [s0, s1, s2, s3, s4, s5] q [(d, m), (d', m')] = e := ⟨_, rfl⟩
  have hq0 := hq
  simp only [chgM, he] at hM
  refine hx_seq ?_
  refine hx_region ?_
  refine WL.box2 (by simp only [ev_tmp, ev_const, ev_func, set_get, Nat.reduceEqDiff, reduceIte, Value.cells, e0, e1, e2, e3]; rfl) ?_
  intro h1 B1 hx1 hlt1 hB1
  replace hE := hE.trans hx1
  replace hq := hq.ext hx1
  refine WL.box2 (by simp only [ev_tmp, ev_const, ev_func, set_get, Nat.reduceEqDiff, reduceIte, Value.cells, e0, e1, e2, e3, hB1.cell]; rfl) ?_
  intro h2 B2 hx2 hlt2 hB2
  replace hE := hE.trans hx2
  replace hq := hq.ext hx2
  replace hB1 := hB1.ext hx2
  refine WL.box2 (by simp only [ev_tmp, ev_const, ev_func, set_get, Nat.reduceEqDiff, reduceIte, Value.cells, e0, e1, e2, e3, hB1.cell, hB2.cell]; rfl) ?_
  intro h3 B3 hx3 hlt3 hB3
  replace hE := hE.trans hx3
  replace hq := hq.ext hx3
  replace hB1 := hB1.ext hx3
  replace hB2 := hB2.ext hx3
  refine WL.qq (by simp only [ev_tmp, ev_const, ev_func, set_get, Nat.reduceEqDiff, reduceIte, qv_assign, e0, e1, e2, e3, hB1.cell, hB2.cell, hB3.cell]; rfl) ?_
  refine WL.qq (by simp only [ev_tmp, ev_const, ev_func, set_get, Nat.reduceEqDiff, reduceIte, qv_assign, e0, e1, e2, e3, hB1.cell, hB2.cell, hB3.cell]; rfl) ?_
  refine WL.nil ?_
  refine th_norm ?_
  refine hx_seq ?_
  refine hx_seq ?_
  refine hx_region ?_
  refine WL.qq (by simp only [ev_tmp, ev_const, ev_func, set_get, Nat.reduceEqDiff, reduceIte, qv_load, ld24, readN, List.getElem?_toArray, List.getElem?_cons_zero, List.getElem?_cons_succ, List.map_toArray, List.map_cons, List.map_nil, Option.map_some, Option.bind_some, Nat.zero_add, Nat.reduceAdd, e0, e1, e2, e3, hB1.cell, hB2.cell, hB3.cell]; rfl) ?_
  refine WL.qq (by simp only [ev_tmp, ev_const, ev_func, set_get, Nat.reduceEqDiff, reduceIte, qv_move, e0, e1, e2, e3, hB1.cell, hB2.cell, hB3.cell]; rfl) ?_
  refine WL.qq (by simp only [ev_tmp, ev_const, ev_func, set_get, Nat.reduceEqDiff, reduceIte, qv_load, ld29, readN, List.getElem?_toArray, List.getElem?_cons_zero, List.getElem?_cons_succ, List.map_toArray, List.map_cons, List.map_nil, Option.map_some, Option.bind_some, Nat.zero_add, Nat.reduceAdd, e0, e1, e2, e3, hB1.cell, hB2.cell, hB3.cell]; rfl) ?_
  refine WL.qq (by simp only [ev_tmp, ev_const, ev_func, set_get, Nat.reduceEqDiff, reduceIte, qv_load, ld29, readN, List.getElem?_toArray, List.getElem?_cons_zero, List.getElem?_cons_succ, List.map_toArray, List.map_cons, List.map_nil, Option.map_some, Option.bind_some, Nat.zero_add, Nat.reduceAdd, e0, e1, e2, e3, hB1.cell, hB2.cell, hB3.cell]; rfl) ?_
  refine WL.lit2 #[(.int .i64 0), (.int .i64 0), (.int .i64 0), (.int .i64 0)] Try.underlying84 sz29 zr29 (by decide) (by kernel_rfl) ⟨_, (by simp only [ev_tmp, ev_const, ev_func, set_get, Nat.reduceEqDiff, reduceIte, List.getElem?_toArray, List.getElem?_cons_zero, List.getElem?_cons_succ, List.map_toArray, List.map_cons, List.map_nil, Option.map_some, Option.bind_some, e0, e1, e2, e3, hB1.cell, hB2.cell, hB3.cell]; simp [Instr.fill, Value.cells]; rfl), rfl⟩ ?_
  intro h4 B4 hx4 hlt4 hB4
  replace hE := hE.trans hx4
  replace hq := hq.ext hx4
  replace hB1 := hB1.ext hx4
  replace hB2 := hB2.ext hx4
  replace hB3 := hB3.ext hx4
  refine WL.cg Try.call37 (by simp only [ev_tmp, ev_const, ev_func, set_get, Nat.reduceEqDiff, reduceIte, List.getElem?_toArray, List.getElem?_cons_zero, List.getElem?_cons_succ, List.map_toArray, List.map_cons, List.map_nil, Option.map_some, Option.bind_some, e0, e1, e2, e3, hB1.cell, hB2.cell, hB3.cell, hB4.cell]; exact HCalls.gv (by rw [he]) (c_validate s0 s1 s2 s3 s4 s5 q _ [(d, m), (d', m')] 2 (by simp) (SlC.two hB4))) ?_
  intro h5 hx5
  replace hE := hE.trans hx5
  replace hq := hq.ext hx5
  replace hB1 := hB1.ext hx5
  replace hB2 := hB2.ext hx5
  replace hB3 := hB3.ext hx5
  replace hB4 := hB4.ext hx5
  refine WL.qq (by simp only [ev_tmp, ev_const, ev_func, set_get, Nat.reduceEqDiff, reduceIte, qv_assign, e0, e1, e2, e3, hB1.cell, hB2.cell, hB3.cell, hB4.cell]; rfl) ?_
  refine WL.nil ?_
  refine th_norm ?_
  refine hx_seq ?_
  refine hx_region ?_
  refine WL.qq (by simp only [ev_tmp, ev_const, ev_func, set_get, Nat.reduceEqDiff, reduceIte, qv_move, e0, e1, e2, e3, hB1.cell, hB2.cell, hB3.cell, hB4.cell]; rfl) ?_
  refine WL.qq (by simp only [ev_tmp, ev_const, ev_func, set_get, Nat.reduceEqDiff, reduceIte, qv_binOp, binv_neq, eq34, Option.map_some, e0, e1, e2, e3, hB1.cell, hB2.cell, hB3.cell, hB4.cell]; rfl) ?_
  refine WL.nil ?_
  refine th_norm ?_
  refine hx_cond (by simp only [ev_tmp, ev_const, ev_func, set_get, Nat.reduceEqDiff, reduceIte, e0, e1, e2, e3, hB1.cell, hB2.cell, hB3.cell, hB4.cell]; rfl) (fun hct20 => ?_) (fun hct20 => ?_)
  ·
    try simp only [decide_eq_true_eq, decide_eq_false_iff_not, Bool.and_eq_true, Bool.and_eq_false_iff, Bool.or_eq_true, Bool.or_eq_false_iff, Bool.not_eq_true', Bool.not_eq_false', Bool.not_eq_true, Bool.not_eq_false] at hct20
    refine hx_seq ?_
    refine hx_region ?_
    refine WL.qq (by simp only [ev_tmp, ev_const, ev_func, set_get, Nat.reduceEqDiff, reduceIte, qv_move, e0, e1, e2, e3, hB1.cell, hB2.cell, hB3.cell, hB4.cell]; rfl) ?_
    refine WL.qq (by simp only [ev_tmp, ev_const, ev_func, set_get, Nat.reduceEqDiff, reduceIte, qv_assign, e0, e1, e2, e3, hB1.cell, hB2.cell, hB3.cell, hB4.cell]; rfl) ?_
    refine WL.qq (by simp only [ev_tmp, ev_const, ev_func, set_get, Nat.reduceEqDiff, reduceIte, qv_assign, e0, e1, e2, e3, hB1.cell, hB2.cell, hB3.cell, hB4.cell]; rfl) ?_
    refine WL.nil ?_
    refine th_norm ?_
    refine hx_ret ?_
    refine th_ret ?_
    refine fin_ret [.tmp 8, .tmp 9] rfl rfl (by simp only [ev_tmp, ev_const, ev_func, set_get, Nat.reduceEqDiff, reduceIte, resv, e0, e1, e2, e3, hB1.cell, hB2.cell, hB3.cell, hB4.cell]; rfl) ?_  -- ret 0 r3
    rw [if_pos hct20] at hM
    cases hM
    exact ⟨hE, _, rfl, Own.nil⟩
  ·
    try simp only [decide_eq_true_eq, decide_eq_false_iff_not, Bool.and_eq_true, Bool.and_eq_false_iff, Bool.or_eq_true, Bool.or_eq_false_iff, Bool.not_eq_true', Bool.not_eq_false', Bool.not_eq_true, Bool.not_eq_false] at hct20
    rw [if_neg (fun hh => hh hct20)] at hM
    obtain ⟨p, rfl, hc0⟩ := hq0.get (he.trans hct20)
    have hvv := val_two (he.trans hct20); simp only at hvv
    refine hx_skip ?_
    refine th_norm ?_
    refine hx_seq ?_
    refine hx_seq ?_
    refine hx_region ?_
    refine WL.qq (by simp only [ev_tmp, ev_const, ev_func, set_get, Nat.reduceEqDiff, reduceIte, qv_fieldAddr, fa29_0, Nat.zero_add, Nat.reduceAdd, e0, e1, e2, e3, hB1.cell, hB2.cell, hB3.cell, hB4.cell]; rfl) ?_
    refine WL.qq (by simp only [ev_tmp, ev_const, ev_func, set_get, Nat.reduceEqDiff, reduceIte, qv_load, ld3, readN, List.getElem?_toArray, List.getElem?_cons_zero, List.getElem?_cons_succ, List.map_toArray, List.map_cons, List.map_nil, Option.map_some, Option.bind_some, Nat.zero_add, Nat.reduceAdd, e0, e1, e2, e3, hB1.cell, hB2.cell, hB3.cell, hB4.cell]; rfl) ?_
    refine WL.qq (by simp only [ev_tmp, ev_const, ev_func, set_get, Nat.reduceEqDiff, reduceIte, qv_fieldAddr, fa29_0, Nat.zero_add, Nat.reduceAdd, e0, e1, e2, e3, hB1.cell, hB2.cell, hB3.cell, hB4.cell]; rfl) ?_
    refine WL.qq (by simp only [ev_tmp, ev_const, ev_func, set_get, Nat.reduceEqDiff, reduceIte, qv_load, ld3, readN, List.getElem?_toArray, List.getElem?_cons_zero, List.getElem?_cons_succ, List.map_toArray, List.map_cons, List.map_nil, Option.map_some, Option.bind_some, Nat.zero_add, Nat.reduceAdd, e0, e1, e2, e3, hB1.cell, hB2.cell, hB3.cell, hB4.cell]; rfl) ?_
    refine WL.qq (by simp only [ev_tmp, ev_const, ev_func, set_get, Nat.reduceEqDiff, reduceIte, qv_binOp, binv_sub, e0, e1, e2, e3, hB1.cell, hB2.cell, hB3.cell, hB4.cell]; (try simp (disch := omega) only [w64, w8, wu64]); rfl) ?_
    refine WL.qq (by simp only [ev_tmp, ev_const, ev_func, set_get, Nat.reduceEqDiff, reduceIte, qv_binOp, binv_gtr, e0, e1, e2, e3, hB1.cell, hB2.cell, hB3.cell, hB4.cell]; rfl) ?_
    refine WL.nil ?_
    refine th_norm ?_
    refine hx_cond (by simp only [ev_tmp, ev_const, ev_func, set_get, Nat.reduceEqDiff, reduceIte, e0, e1, e2, e3, hB1.cell, hB2.cell, hB3.cell, hB4.cell]; rfl) (fun hct27 => ?_) (fun hct27 => ?_)
    ·
      try simp only [decide_eq_true_eq, decide_eq_false_iff_not, Bool.and_eq_true, Bool.and_eq_false_iff, Bool.or_eq_true, Bool.or_eq_false_iff, Bool.not_eq_true', Bool.not_eq_false', Bool.not_eq_true, Bool.not_eq_false] at hct27
      rw [if_pos (by omega)] at hM; cases hM
      refine hx_seq ?_
      refine hx_region ?_
      refine WL.qq (by simp only [ev_tmp, ev_const, ev_func, set_get, Nat.reduceEqDiff, reduceIte, qv_assign, e0, e1, e2, e3, hB1.cell, hB2.cell, hB3.cell, hB4.cell]; rfl) ?_
      refine WL.qq (by simp only [ev_tmp, ev_const, ev_func, set_get, Nat.reduceEqDiff, reduceIte, qv_assign, e0, e1, e2, e3, hB1.cell, hB2.cell, hB3.cell, hB4.cell]; rfl) ?_
      refine WL.nil ?_
      refine th_norm ?_
      refine hx_ret ?_
      refine th_ret ?_
      refine fin_ret [.tmp 8, .tmp 9] rfl rfl (by simp only [ev_tmp, ev_const, ev_func, set_get, Nat.reduceEqDiff, reduceIte, resv, e0, e1, e2, e3, hB1.cell, hB2.cell, hB3.cell, hB4.cell]; rfl) ?_  -- ret 1 r5
      exact ⟨hE, _, rfl, Own.nil⟩
    ·
      try simp only [decide_eq_true_eq, decide_eq_false_iff_not, Bool.and_eq_true, Bool.and_eq_false_iff, Bool.or_eq_true, Bool.or_eq_false_iff, Bool.not_eq_true', Bool.not_eq_false', Bool.not_eq_true, Bool.not_eq_false] at hct27
      rw [if_neg (by omega)] at hM; cases hM
      obtain ⟨L, hL⟩ : ∃ L, L = begs (busM wk hs) [s0, s1, s2, s3, s4, s5] (d, m) := ⟨_, rfl⟩
      have hLl : L.length ≤ 500000 := by rw [hL]; exact begs_len _ _ _ hvv.1.1
      rw [← hL]
      refine hx_skip ?_
      refine th_norm ?_
      refine hx_seq ?_
      refine hx_region ?_
      refine WL.alloc2 zr55 ?_
      intro h6 B6 hx6 hlt6 hB6
      have hne1_6 : B6 ≠ B1 := by have := (Array.getElem?_eq_some_iff.1 hB1).1; omega
      have hne2_6 : B6 ≠ B2 := by have := (Array.getElem?_eq_some_iff.1 hB2).1; omega
      have hne3_6 : B6 ≠ B3 := by have := (Array.getElem?_eq_some_iff.1 hB3).1; omega
      have hb0_6 := Nat.le_trans hE.size hlt6
      have hq_s6 := hq
      have hB1_s6 := hB1
      have hB2_s6 := hB2
      have hB3_s6 := hB3
      have hB4_s6 := hB4
      replace hE := hE.trans hx6
      replace hq := hq.ext hx6
      replace hB1 := hB1.ext hx6
      replace hB2 := hB2.ext hx6
      replace hB3 := hB3.ext hx6
      replace hB4 := hB4.ext hx6
      have hEo6 := hx6
      simp only [Value.cells] at hB6
      refine WL.nil ?_
      refine th_norm ?_
      refine hx_seq ?_
      refine hx_seq ?_
      refine hx_region ?_
      have hlt6 : B6 < h6.size := (Array.getElem?_eq_some_iff.1 hB6).1
      refine WL.qq (by simp only [ev_tmp, ev_const, ev_func, set_get, Nat.reduceEqDiff, reduceIte, qv_load, ld24, readN, List.getElem?_toArray, List.getElem?_cons_zero, List.getElem?_cons_succ, List.map_toArray, List.map_cons, List.map_nil, Option.map_some, Option.bind_some, Nat.zero_add, Nat.reduceAdd, e0, e1, e2, e3, hB1.cell, hB2.cell, hB3.cell, hB4.cell, hB6.cell]; rfl) ?_
      refine WL.qq (by simp only [ev_tmp, ev_const, ev_func, set_get, Nat.reduceEqDiff, reduceIte, qv_load, ld29, readN, List.getElem?_toArray, List.getElem?_cons_zero, List.getElem?_cons_succ, List.map_toArray, List.map_cons, List.map_nil, Option.map_some, Option.bind_some, Nat.zero_add, Nat.reduceAdd, e0, e1, e2, e3, hB1.cell, hB2.cell, hB3.cell, hB4.cell, hB6.cell]; rfl) ?_
      refine WL.qq (by simp only [ev_tmp, ev_const, ev_func, set_get, Nat.reduceEqDiff, reduceIte, qv_move, e0, e1, e2, e3, hB1.cell, hB2.cell, hB3.cell, hB4.cell, hB6.cell]; rfl) ?_
      refine WL.ce Try.call43 (by simp only [ev_tmp, ev_const, ev_func, set_get, Nat.reduceEqDiff, reduceIte, List.getElem?_toArray, List.getElem?_cons_zero, List.getElem?_cons_succ, List.map_toArray, List.map_cons, List.map_nil, Option.map_some, Option.bind_some, e0, e1, e2, e3, hB1.cell, hB2.cell, hB3.cell, hB4.cell, hB6.cell]; exact c_beginnings s0 s1 s2 s3 s4 s5 d m _ _) ?_
      rintro _ h7 ⟨hx7, Ba, Bc, Bs, rfl, hba, hbc, hbs, la, lc, ls⟩
      replace hE := hE.trans hx7
      replace hEo6 := hEo6.trans hx7
      replace hq := hq.ext hx7
      replace hB1 := hB1.ext hx7
      replace hB2 := hB2.ext hx7
      replace hB3 := hB3.ext hx7
      replace hB4 := hB4.ext hx7
      replace hB6 := hB6.ext hx7
      simp only [put_some]
      refine WL.nil ?_
      refine th_norm ?_
      refine hx_block ?_
      refine hx_range (by simp only [ev_tmp, ev_const, ev_func, set_get, Nat.reduceEqDiff, reduceIte, e0, e1, e2, e3, hB1.cell, hB2.cell, hB3.cell, hB4.cell, hB6.cell]; rfl) Try.call55 ?_
      intro fnR0 hR0 hxR0 hsR0 hdR0 hrR0
      generalize hrec : recOf _ _ _ _ _ _ _ = rec at hrR0
      refine (c_begYield Ba Bc Bs p (h7.size + 1) s0 s1 s2 s3 s4 s5 d m wk hs ⟨hvv.1.1, hvv.1.2.1⟩ (fun i hx => ∃ v, RC h h7 B6 55 61 3 rec v i ((L.take i).flatMap chgL) hx ∧ ∀ c ∈ L.take i, leC (d', m') c = true)
        (fun hx => ∃ i v, RC h h7 B6 55 61 3 { rec with state := .done, pending := some (.exit 0) } v i ((L.take i).flatMap chgL) hx ∧ L.takeWhile (leC (d', m')) = L.take i ∧ i ≤ L.length) L hL ?_ ?_ ?_ ?_).mono ?_
      · rintro i h1 h2 ⟨v, hC, hle⟩ he'; exact ⟨v, hC.ext he', hle⟩
      · rintro i hx ⟨v, hC, hle⟩; have hlt6' := hlt6; exact ⟨hba.gr hC.gr (by intro hh; cases hh; omega), hbc.gr hC.gr (by intro hh; cases hh; omega), hbs.gr hC.gr (by intro hh; cases hh; omega), hc0.ext hC.ex⟩
      rotate_left
      · exact ⟨.slice none 0 0, RC.start hB6 hxR0 hsR0 hdR0 hrR0 hE hb0_6, by simp⟩
      rotate_left
      ·
        rintro i y hx hyi ⟨v, hC, hle⟩
        subst hrec
        refine hy_body (vs := [chgV y]) (ps := [32]) hC.rc rfl rfl rfl (by decide) rfl rfl ?_
        simp only [pars, List.zip_cons_cons, List.zip_nil_left, List.foldl_cons, List.foldl_nil]
        have hsx := hC.size
        refine hx_region ?_
        refine WL.allocSt zr61 sz61 (fun u => by simp only [ev_tmp, ev_const, ev_func, set_get, Nat.reduceEqDiff, reduceIte, Value.cells, e0, e1, e2, e3, hB1.cell, hB2.cell, hB3.cell, hB4.cell, hB6.cell, hC.out.cell]; rfl) ⟨rfl, rfl⟩ (by simp [Value.oneCell']) ?_
        intro h8 B8 hx8 hlt8 hB8
        replace hC := hC.ext hx8
        refine WL.nil ?_
        refine th_norm ?_
        refine ⟨_, hC.rc, rfl, ?_⟩
        intro h20 hw20
        replace hB8 := hB8.wr hw20 (by omega)
        replace hC := hC.turn hw20
        have hU := hB3.gr hC.gr (by intro hh; cases hh; exact hne3_6 rfl)
        refine hx_block ?_
        refine hx_seq ?_
        refine hx_seq ?_
        refine hx_region ?_
        refine WL.qq (by simp only [ev_tmp, ev_const, ev_func, set_get, Nat.reduceEqDiff, reduceIte, qv_fieldAddr, fa61_0, Nat.zero_add, Nat.reduceAdd, e0, e1, e2, e3, hB1.cell, hB2.cell, hB3.cell, hB4.cell, hB6.cell, hC.out.cell, hB8.cell]; rfl) ?_
        refine WL.qq (by simp only [ev_tmp, ev_const, ev_func, set_get, Nat.reduceEqDiff, reduceIte, qv_load, ld29, readN, List.getElem?_toArray, List.getElem?_cons_zero, List.getElem?_cons_succ, List.map_toArray, List.map_cons, List.map_nil, Option.map_some, Option.bind_some, Nat.zero_add, Nat.reduceAdd, e0, e1, e2, e3, hB1.cell, hB2.cell, hB3.cell, hB4.cell, hB6.cell, hC.out.cell, hB8.cell]; rfl) ?_
        refine WL.qq (by simp only [ev_tmp, ev_const, ev_func, set_get, Nat.reduceEqDiff, reduceIte, qv_load, ld29, readN, List.getElem?_toArray, List.getElem?_cons_zero, List.getElem?_cons_succ, List.map_toArray, List.map_cons, List.map_nil, Option.map_some, Option.bind_some, Nat.zero_add, Nat.reduceAdd, e0, e1, e2, e3, hB1.cell, hB2.cell, hB3.cell, hB4.cell, hB6.cell, hC.out.cell, hB8.cell, hU.cell]; rfl) ?_
        refine WL.cg Try.call44 (by simp only [ev_tmp, ev_const, ev_func, set_get, Nat.reduceEqDiff, reduceIte, List.getElem?_toArray, List.getElem?_cons_zero, List.getElem?_cons_succ, List.map_toArray, List.map_cons, List.map_nil, Option.map_some, Option.bind_some, e0, e1, e2, e3, hB1.cell, hB2.cell, hB3.cell, hB4.cell, hB6.cell, hC.out.cell, hB8.cell]; exact c_cmp y.1 y.2.1 d' m' _) ?_
        intro h9 hx9
        replace hC := hC.ext hx9
        replace hB8 := hB8.ext hx9
        refine WL.qq (by simp only [ev_tmp, ev_const, ev_func, set_get, Nat.reduceEqDiff, reduceIte, qv_binOp, binv_gtr, e0, e1, e2, e3, hB1.cell, hB2.cell, hB3.cell, hB4.cell, hB6.cell, hC.out.cell, hB8.cell]; rfl) ?_
        refine WL.nil ?_
        refine th_norm ?_
        refine hx_cond (by simp only [ev_tmp, ev_const, ev_func, set_get, Nat.reduceEqDiff, reduceIte, e0, e1, e2, e3, hB1.cell, hB2.cell, hB3.cell, hB4.cell, hB6.cell, hC.out.cell, hB8.cell]; rfl) (fun hct37 => ?_) (fun hct37 => ?_)
        ·
          try simp only [decide_eq_true_eq, decide_eq_false_iff_not, Bool.and_eq_true, Bool.and_eq_false_iff, Bool.or_eq_true, Bool.or_eq_false_iff, Bool.not_eq_true', Bool.not_eq_false', Bool.not_eq_true, Bool.not_eq_false] at hct37
          refine hx_exit ?_
          refine th_exit ?_
          refine bl_miss rfl ?_
          refine ⟨_, hC.rc, ?_⟩
          intro h30 hw30
          exact ⟨false, rfl, fun hh => (by cases hh), fun _ => ⟨i, v, hC.turn hw30, tw_all hle hyi (by simp [leC, hct37]), Nat.le_of_lt (List.getElem?_eq_some_iff.1 hyi).1⟩⟩
        ·
          try simp only [decide_eq_true_eq, decide_eq_false_iff_not, Bool.and_eq_true, Bool.and_eq_false_iff, Bool.or_eq_true, Bool.or_eq_false_iff, Bool.not_eq_true', Bool.not_eq_false', Bool.not_eq_true, Bool.not_eq_false] at hct37
          refine hx_skip ?_
          refine th_norm ?_
          refine hx_region ?_
          refine WL.qq (by simp only [ev_tmp, ev_const, ev_func, set_get, Nat.reduceEqDiff, reduceIte, qv_load, ld55, readN, List.getElem?_toArray, List.getElem?_cons_zero, List.getElem?_cons_succ, List.map_toArray, List.map_cons, List.map_nil, Option.map_some, Option.bind_some, Nat.zero_add, Nat.reduceAdd, e0, e1, e2, e3, hB1.cell, hB2.cell, hB3.cell, hB4.cell, hB6.cell, hC.out.cell, hB8.cell]; rfl) ?_
          refine WL.qq (by simp only [ev_tmp, ev_const, ev_func, set_get, Nat.reduceEqDiff, reduceIte, qv_load, ld61, readN, List.getElem?_toArray, List.getElem?_cons_zero, List.getElem?_cons_succ, List.map_toArray, List.map_cons, List.map_nil, Option.map_some, Option.bind_some, Nat.zero_add, Nat.reduceAdd, e0, e1, e2, e3, hB1.cell, hB2.cell, hB3.cell, hB4.cell, hB6.cell, hC.out.cell, hB8.cell]; rfl) ?_
          have hil : i < L.length := (List.getElem?_eq_some_iff.1 hyi).1
          refine WL.push (bytes := 24) Try.underlying55 (inf_of Try.type61) rfl rfl rfl rfl (by decide) (by decide) sz61 zr61 (fun u => by simp only [ev_tmp, ev_const, ev_func, set_get, Nat.reduceEqDiff, reduceIte, e0, e1, e2, e3, hB1.cell, hB2.cell, hB3.cell, hB4.cell, hB6.cell, hC.out.cell, hB8.cell]) hC.own (by simp only [ev_tmp, ev_const, ev_func, set_get, Nat.reduceEqDiff, reduceIte, e0, e1, e2, e3, hB1.cell, hB2.cell, hB3.cell, hB4.cell, hB6.cell, hC.out.cell, hB8.cell, Value.cells]; rfl) rfl (by simp [Value.oneCell']) (by simp only [maxLen]; omega) (by omega) (by have := hC.size; omega) ?_
          intro h40 v40 B40 ho40 hg40 hp40 hn40
          skip
          have hB6' := hC.out.gr hg40 (by intro hh; have h9 := (hC.own.block _ hh).1; have h8 := hC.hi; omega)
          refine WL.store (b := B6) (off := 0) (by simp only [ev_tmp, ev_const, ev_func, set_get, Nat.reduceEqDiff, reduceIte, e0, e1, e2, e3, hB1.cell, hB2.cell, hB3.cell, hB4.cell, hB6.cell, hC.out.cell, hB8.cell]) sz55 (by simp only [ev_tmp, ev_const, ev_func, set_get, Nat.reduceEqDiff, reduceIte, e0, e1, e2, e3, hB1.cell, hB2.cell, hB3.cell, hB4.cell, hB6.cell, hC.out.cell, hB8.cell]; exact ho40.cells) rfl hB6' (by simp) (by simpa using ho40.one) ?_
          intro h50 hw50
          refine WL.nil ?_
          refine bl_norm ?_
          replace hC := hC.app ho40 hg40 hw50 rfl
          refine ⟨_, hC.rc, ?_⟩
          intro h30 hw30
          have e1 : (L.take (i + 1)) = L.take i ++ [y] := by rw [List.take_add_one, hyi]; rfl
          refine ⟨true, rfl, fun _ => ⟨v40, ?_, ?_⟩, fun hh => by cases hh⟩
          · rw [e1, List.flatMap_append]; simp only [List.flatMap_cons, List.flatMap_nil, List.append_nil]; exact hC.turn hw30
          · rw [e1]; intro c hc; rcases List.mem_append.1 hc with hc | hc; (exact hle c hc); (rw [List.mem_singleton] at hc; subst hc; simp [leC, hct37])
      ·
        rintro v0 h3 hor
        replace hor : ∃ i v rec', RC h h7 B6 55 61 3 rec' v i ((L.take i).flatMap chgL) h3 ∧ (rec'.state == .busy) = false ∧ (rec'.pending = none ∨ rec'.pending = some (.exit 0)) ∧ L.takeWhile (leC (d', m')) = L.take i ∧ i ≤ L.length := by
          rcases hor with ⟨v, hC, hle⟩ | ⟨i, v, hC, h1, h2⟩
          · exact ⟨L.length, v, rec, hC, by subst hrec; rfl, .inl (by subst hrec; rfl), by rw [List.take_length] at hle ⊢; exact tw_full hle, Nat.le_refl _⟩
          · exact ⟨i, v, _, hC, rfl, .inr rfl, h1, h2⟩
        obtain ⟨i, v, rec', hC, hst, hpe, htw, hil⟩ := hor
        refine after_brk hC.rc hst hpe ?_
        intro h31 o31 hw31
        replace hC : Has h31 B6 (.cells #[v] 55) ∧ Own h31 h.size 61 3 v i ((L.take i).flatMap chgL) ∧ Ext h h31 ∧ h31[h7.size]? = some (.deferred (some [])) := ⟨hC.out.wr hw31 (by have := hC.hi; omega), (hC.own.keep (fun c hc => hw31.same c (by have := (hC.own.block c hc).1; omega))).base (by have := hC.base; omega), hw31.ext hC.ex (by have := hC.base; omega), by rw [hw31.same _ (by omega)]; exact hC.df⟩
        obtain ⟨hO, hOwn, hEx, hDf⟩ := hC
        refine bl_norm ?_
        refine th_norm ?_
        refine hx_seq ?_
        refine hx_region ?_
        refine WL.qq (by simp only [ev_tmp, ev_const, ev_func, set_get, Nat.reduceEqDiff, reduceIte, qv_load, ld55, readN, List.getElem?_toArray, List.getElem?_cons_zero, List.getElem?_cons_succ, List.map_toArray, List.map_cons, List.map_nil, Option.map_some, Option.bind_some, Nat.zero_add, Nat.reduceAdd, e0, e1, e2, e3, hB1.cell, hB2.cell, hB3.cell, hB4.cell, hB6.cell, hO.cell]; rfl) ?_
        refine WL.qq (by simp only [ev_tmp, ev_const, ev_func, set_get, Nat.reduceEqDiff, reduceIte, qv_assign, e0, e1, e2, e3, hB1.cell, hB2.cell, hB3.cell, hB4.cell, hB6.cell, hO.cell]; rfl) ?_
        refine WL.qq (by simp only [ev_tmp, ev_const, ev_func, set_get, Nat.reduceEqDiff, reduceIte, qv_assign, e0, e1, e2, e3, hB1.cell, hB2.cell, hB3.cell, hB4.cell, hB6.cell, hO.cell]; rfl) ?_
        refine WL.nil ?_
        refine th_norm ?_
        refine hx_ret ?_
        refine fin_mark (.inr rfl) [.tmp 8, .tmp 9] rfl rfl hDf ?_
        intro h5 hw5
        refine ⟨[v, .int .i64 0], by simp only [resv, ev_tmp, ev_const, ev_func, set_get, Nat.reduceEqDiff, reduceIte, e0, e1, e2, e3, hB1.cell, hB2.cell, hB3.cell, hB4.cell, hB6.cell, hO.cell], ?_, _, rfl, ?_⟩
        · exact hw5.ext hEx (by have := hx7.size; have := hE.size; omega)
        · have e2 : (L.takeWhile (leC (d', m'))).length = i := by rw [htw, List.length_take]; omega
          rw [e2, htw]
          exact hOwn.keep (fun c hc => hw5.same c (by have := (hOwn.block c hc).2; have := hw31.size; intro hh; subst hh; obtain ⟨g, cap, cur, hv, hb, hg9, _⟩ | ⟨hv, _⟩ := hOwn.2.symm; (rw [hv] at hc; cases hc; have h9 : some (Obj.deferred (some [])) = some (.cells cur 61 (0, 0)) := hDf.symm.trans hg9; cases h9); (rw [hv] at hc; cases hc)))
end GL


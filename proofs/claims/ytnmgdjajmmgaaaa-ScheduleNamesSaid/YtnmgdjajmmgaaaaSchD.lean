/- Schedule: Phase and Begin, and the reference's Phase. -/
import Derived.Test.YtnmgdjajmmgaaaaSchC
set_option linter.unusedSimpArgs false
set_option linter.unusedVariables false
set_option linter.unnecessarySimpa false
namespace GL
open Go Go.Proofs
set_option maxRecDepth 8000
theorem HCalls.gv {P : Program} {f : FuncId} {args : Array Value} {h : Heap} {v v' : Value} (hv : v = v') (hc : HCalls P f args h (Grow v h)) : HCalls P f args h (Grow v' h) := hv ▸ hc
/-- A calendar, or none. -/
def QCal (h : Heap) (q : Option Addr) (wk hs : List Int) : Prop := ∀ a, q = some a → ∃ p, a = ⟨p, 0, none⟩ ∧ IsCal h p wk hs
theorem QCal.ext {h h' : Heap} {q : Option Addr} {wk hs : List Int} (hq : QCal h q wk hs) (hx : Ext h h') : QCal h' q wk hs := fun a ha => by
  obtain ⟨p, h1, h2⟩ := hq a ha
  exact ⟨p, h1, h2.ext hx⟩
theorem QCal.no {h : Heap} {wk hs : List Int} : QCal h none wk hs := fun a ha => by cases ha
theorem QCal.some {h : Heap} {p : Nat} {wk hs : List Int} (hc : IsCal h p wk hs) : QCal h (some ⟨p, 0, none⟩) wk hs := fun a ha => by cases ha; exact ⟨p, rfl, hc⟩
theorem valM_q {s : List Int} {q : Option Addr} {cs : List (Int × Int)} (hv : valM s q cs = 0) : ∃ a, q = some a := by
  cases q with
  | none =>
    simp only [valM] at hv
    by_cases hc : chkGo (-1) s = 0
    · rw [if_neg (fun hh => hh hc)] at hv; simp at hv
    · rw [if_pos hc] at hv; exact absurd hv hc
  | some a => exact ⟨a, rfl⟩
theorem QCal.get {h : Heap} {q : Option Addr} {wk hs : List Int} (hq : QCal h q wk hs) {s : List Int} {cs : List (Int × Int)} (hv : valM s q cs = 0) : ∃ p, q = Option.some ⟨p, 0, none⟩ ∧ IsCal h p wk hs := by
  obtain ⟨a, rfl⟩ := valM_q hv
  obtain ⟨p, rfl, hc⟩ := hq a rfl
  exact ⟨p, rfl, hc⟩
theorem SlC.one {h : Heap} {B : Nat} {d m : Int} {t : TypeId} {f : Nat × Nat} (hB : Has h B (.cells #[.int .i64 d, .int .i64 m] t f)) : SlC h (some ⟨B, 0, none⟩) [(d, m)] := fun i d' m' hi => by
  have : i = 0 := by
    have := (List.getElem?_eq_some_iff.1 hi).1
    simpa using this
  subst this
  simp at hi
  obtain ⟨rfl, rfl⟩ := hi
  exact ⟨B, 0, rfl, by simp [readN, hB.cell]⟩
theorem SlC.two {h : Heap} {B : Nat} {d m d2 m2 : Int} {t : TypeId} {f : Nat × Nat} (hB : Has h B (.cells #[.int .i64 d, .int .i64 m, .int .i64 d2, .int .i64 m2] t f)) : SlC h (some ⟨B, 0, none⟩) [(d, m), (d2, m2)] := fun i d' m' hi => by
  have hl := (List.getElem?_eq_some_iff.1 hi).1
  simp only [List.length_cons, List.length_nil] at hl
  rcases (by omega : i = 0 ∨ i = 1) with rfl | rfl
  · simp at hi
    obtain ⟨rfl, rfl⟩ := hi
    exact ⟨B, 0, rfl, by simp [readN, hB.cell]⟩
  · simp at hi
    obtain ⟨rfl, rfl⟩ := hi
    exact ⟨B, 0, rfl, by simp [readN, hB.cell]⟩
theorem SlC.three {h : Heap} {B : Nat} {d m d2 m2 d3 m3 : Int} {t : TypeId} {f : Nat × Nat} (hB : Has h B (.cells #[.int .i64 d, .int .i64 m, .int .i64 d2, .int .i64 m2, .int .i64 d3, .int .i64 m3] t f)) : SlC h (some ⟨B, 0, none⟩) [(d, m), (d2, m2), (d3, m3)] := fun i d' m' hi => by
  have hl := (List.getElem?_eq_some_iff.1 hi).1
  simp only [List.length_cons, List.length_nil] at hl
  rcases (by omega : i = 0 ∨ i = 1 ∨ i = 2) with rfl | rfl | rfl
  · simp at hi
    obtain ⟨rfl, rfl⟩ := hi
    exact ⟨B, 0, rfl, by simp [readN, hB.cell]⟩
  · simp at hi
    obtain ⟨rfl, rfl⟩ := hi
    exact ⟨B, 0, rfl, by simp [readN, hB.cell]⟩
  · simp at hi
    obtain ⟨rfl, rfl⟩ := hi
    exact ⟨B, 0, rfl, by simp [readN, hB.cell]⟩
/-- The phase at a minute: the last one of the first i that has begun. -/
def phN (s : List Int) (m : Int) : Nat → Int
  | 0 => 0
  | i + 1 => if s.getD i 0 ≤ m then (i : Int) + 1 else phN s m i
theorem phN_pos {s : List Int} {m x : Int} {i : Nat} (h : s[i]? = some x) (hx : x ≤ m) : phN s m (i + 1) = (i : Int) + 1 := by simp [phN, List.getD, h, hx]
theorem phN_neg {s : List Int} {m x : Int} {i : Nat} (h : s[i]? = some x) (hx : ¬ x ≤ m) : phN s m (i + 1) = phN s m i := by simp [phN, List.getD, h, hx]
def phaseM (s : List Int) (q : Option Addr) (bus : Int → Bool) (d m : Int) : Int × Int :=
  if valM s q [(d, m)] = 0 then (if bus d = true then phN s m 6 else 0, 0) else (0, valM s q [(d, m)])
theorem c_phase (s0 s1 s2 s3 s4 s5 d m : Int) (q : Option Addr) (wk hs : List Int) {h : Heap} (hq : QCal h q wk hs) :
    HCalls Try.prog 14 #[sch s0 s1 s2 s3 s4 s5, .agg #[.int .i64 d, .int .i64 m], .pointer q] h
      (Grow (.tuple #[.int .i64 (phaseM [s0, s1, s2, s3, s4, s5] q (busM wk hs) d m).1, .int .i64 (phaseM [s0, s1, s2, s3, s4, s5] q (busM wk hs) d m).2]) h) := by
  refine hcalls2 Try.func14 rfl (by decide +kernel) (by simp only [Try.ntmps14]; exact of_decide_eq_true rfl) ?_
  intro e hin
  have e0 := hin 0 _ rfl
  have e1 := hin 1 _ rfl
  have e2 := hin 2 _ rfl
  obtain ⟨er, he⟩ : ∃ e, valM [s0, s1, s2, s3, s4, s5] q [(d, m)] = e := ⟨_, rfl⟩
  refine hx_seq ?_
  refine hx_region ?_
  refine WL.box2 (by simp only [ev_tmp, ev_const, ev_func, set_get, Nat.reduceEqDiff, reduceIte, Value.cells, e0, e1, e2]; rfl) ?_
  intro h1 B1 hx1 hlt1 hB1
  replace hq := hq.ext hx1
  refine WL.box2 (by simp only [ev_tmp, ev_const, ev_func, set_get, Nat.reduceEqDiff, reduceIte, Value.cells, e0, e1, e2, hB1.cell]; rfl) ?_
  intro h2 B2 hx2 hlt2 hB2
  replace hq := hq.ext hx2
  replace hB1 := hB1.ext hx2
  refine WL.qq (by simp only [ev_tmp, ev_const, ev_func, set_get, Nat.reduceEqDiff, reduceIte, qv_assign, e0, e1, e2, hB1.cell, hB2.cell]; rfl) ?_
  refine WL.qq (by simp only [ev_tmp, ev_const, ev_func, set_get, Nat.reduceEqDiff, reduceIte, qv_assign, e0, e1, e2, hB1.cell, hB2.cell]; rfl) ?_
  refine WL.nil ?_
  refine th_norm ?_
  refine hx_seq ?_
  refine hx_seq ?_
  refine hx_region ?_
  refine WL.qq (by simp only [ev_tmp, ev_const, ev_func, set_get, Nat.reduceEqDiff, reduceIte, qv_load, ld24, readN, List.getElem?_toArray, List.getElem?_cons_zero, List.getElem?_cons_succ, List.map_toArray, List.map_cons, List.map_nil, Option.map_some, Option.bind_some, Nat.zero_add, Nat.reduceAdd, e0, e1, e2, hB1.cell, hB2.cell]; rfl) ?_
  refine WL.qq (by simp only [ev_tmp, ev_const, ev_func, set_get, Nat.reduceEqDiff, reduceIte, qv_move, e0, e1, e2, hB1.cell, hB2.cell]; rfl) ?_
  refine WL.qq (by simp only [ev_tmp, ev_const, ev_func, set_get, Nat.reduceEqDiff, reduceIte, qv_load, ld29, readN, List.getElem?_toArray, List.getElem?_cons_zero, List.getElem?_cons_succ, List.map_toArray, List.map_cons, List.map_nil, Option.map_some, Option.bind_some, Nat.zero_add, Nat.reduceAdd, e0, e1, e2, hB1.cell, hB2.cell]; rfl) ?_
  refine WL.lit2 #[(.int .i64 0), (.int .i64 0)] Try.underlying84 sz29 zr29 (by decide) (by kernel_rfl) ⟨_, (by simp only [ev_tmp, ev_const, ev_func, set_get, Nat.reduceEqDiff, reduceIte, List.getElem?_toArray, List.getElem?_cons_zero, List.getElem?_cons_succ, List.map_toArray, List.map_cons, List.map_nil, Option.map_some, Option.bind_some, e0, e1, e2, hB1.cell, hB2.cell]; simp [Instr.fill, Value.cells]; rfl), rfl⟩ ?_
  intro h3 B3 hx3 hlt3 hB3
  replace hq := hq.ext hx3
  replace hB1 := hB1.ext hx3
  replace hB2 := hB2.ext hx3
  refine WL.cg Try.call37 (by simp only [ev_tmp, ev_const, ev_func, set_get, Nat.reduceEqDiff, reduceIte, List.getElem?_toArray, List.getElem?_cons_zero, List.getElem?_cons_succ, List.map_toArray, List.map_cons, List.map_nil, Option.map_some, Option.bind_some, e0, e1, e2, hB1.cell, hB2.cell, hB3.cell]; exact HCalls.gv (by rw [he]) (c_validate s0 s1 s2 s3 s4 s5 q _ [(d, m)] 1 (by simp) (SlC.one hB3))) ?_
  intro h4 hx4
  replace hq := hq.ext hx4
  replace hB1 := hB1.ext hx4
  replace hB2 := hB2.ext hx4
  replace hB3 := hB3.ext hx4
  refine WL.qq (by simp only [ev_tmp, ev_const, ev_func, set_get, Nat.reduceEqDiff, reduceIte, qv_assign, e0, e1, e2, hB1.cell, hB2.cell, hB3.cell]; rfl) ?_
  refine WL.nil ?_
  refine th_norm ?_
  refine hx_seq ?_
  refine hx_region ?_
  refine WL.qq (by simp only [ev_tmp, ev_const, ev_func, set_get, Nat.reduceEqDiff, reduceIte, qv_move, e0, e1, e2, hB1.cell, hB2.cell, hB3.cell]; rfl) ?_
  refine WL.qq (by simp only [ev_tmp, ev_const, ev_func, set_get, Nat.reduceEqDiff, reduceIte, qv_binOp, binv_neq, eq34, Option.map_some, e0, e1, e2, hB1.cell, hB2.cell, hB3.cell]; rfl) ?_
  refine WL.nil ?_
  refine th_norm ?_
  refine hx_cond (by simp only [ev_tmp, ev_const, ev_func, set_get, Nat.reduceEqDiff, reduceIte, e0, e1, e2, hB1.cell, hB2.cell, hB3.cell]; rfl) (fun hct18 => ?_) (fun hct18 => ?_)
  ·
    try simp only [decide_eq_true_eq, decide_eq_false_iff_not, Bool.and_eq_true, Bool.and_eq_false_iff, Bool.or_eq_true, Bool.or_eq_false_iff, Bool.not_eq_true', Bool.not_eq_false', Bool.not_eq_true, Bool.not_eq_false] at hct18
    refine hx_seq ?_
    refine hx_region ?_
    refine WL.qq (by simp only [ev_tmp, ev_const, ev_func, set_get, Nat.reduceEqDiff, reduceIte, qv_move, e0, e1, e2, hB1.cell, hB2.cell, hB3.cell]; rfl) ?_
    refine WL.qq (by simp only [ev_tmp, ev_const, ev_func, set_get, Nat.reduceEqDiff, reduceIte, qv_assign, e0, e1, e2, hB1.cell, hB2.cell, hB3.cell]; rfl) ?_
    refine WL.qq (by simp only [ev_tmp, ev_const, ev_func, set_get, Nat.reduceEqDiff, reduceIte, qv_assign, e0, e1, e2, hB1.cell, hB2.cell, hB3.cell]; rfl) ?_
    refine WL.nil ?_
    refine th_norm ?_
    refine hx_ret ?_
    refine th_ret ?_
    refine fin_ret [.tmp 6, .tmp 7] rfl rfl (by simp only [ev_tmp, ev_const, ev_func, set_get, Nat.reduceEqDiff, reduceIte, resv, e0, e1, e2, hB1.cell, hB2.cell, hB3.cell]; rfl) ?_  -- ret 0 r3
    exact ⟨by simp only [phaseM, he]; rw [if_neg hct18]; rfl, ((hx1).trans ((hx2).trans ((hx3).trans (hx4))))⟩
  ·
    try simp only [decide_eq_true_eq, decide_eq_false_iff_not, Bool.and_eq_true, Bool.and_eq_false_iff, Bool.or_eq_true, Bool.or_eq_false_iff, Bool.not_eq_true', Bool.not_eq_false', Bool.not_eq_true, Bool.not_eq_false] at hct18
    obtain ⟨p, rfl, hc⟩ := hq.get (he.trans hct18)
    refine hx_skip ?_
    refine th_norm ?_
    refine hx_seq ?_
    refine hx_region ?_
    refine WL.qq (by simp only [ev_tmp, ev_const, ev_func, set_get, Nat.reduceEqDiff, reduceIte, qv_assign, e0, e1, e2, hB1.cell, hB2.cell, hB3.cell]; rfl) ?_
    refine WL.nil ?_
    refine th_norm ?_
    refine hx_seq ?_
    refine hx_seq ?_
    refine hx_region ?_
    refine WL.qq (by simp only [ev_tmp, ev_const, ev_func, set_get, Nat.reduceEqDiff, reduceIte, qv_move, e0, e1, e2, hB1.cell, hB2.cell, hB3.cell]; rfl) ?_
    refine WL.qq (by simp only [ev_tmp, ev_const, ev_func, set_get, Nat.reduceEqDiff, reduceIte, qv_fieldAddr, fa29_0, Nat.zero_add, Nat.reduceAdd, e0, e1, e2, hB1.cell, hB2.cell, hB3.cell]; rfl) ?_
    refine WL.qq (by simp only [ev_tmp, ev_const, ev_func, set_get, Nat.reduceEqDiff, reduceIte, qv_load, ld3, readN, List.getElem?_toArray, List.getElem?_cons_zero, List.getElem?_cons_succ, List.map_toArray, List.map_cons, List.map_nil, Option.map_some, Option.bind_some, Nat.zero_add, Nat.reduceAdd, e0, e1, e2, hB1.cell, hB2.cell, hB3.cell]; rfl) ?_
    refine WL.ck Try.call38 (by simp only [ev_tmp, ev_const, ev_func, set_get, Nat.reduceEqDiff, reduceIte, List.getElem?_toArray, List.getElem?_cons_zero, List.getElem?_cons_succ, List.map_toArray, List.map_cons, List.map_nil, Option.map_some, Option.bind_some, e0, e1, e2, hB1.cell, hB2.cell, hB3.cell]; exact c_isBusiness p wk hs d hc) ?_
    refine WL.nil ?_
    refine th_norm ?_
    refine hx_cond (by simp only [ev_tmp, ev_const, ev_func, set_get, Nat.reduceEqDiff, reduceIte, e0, e1, e2, hB1.cell, hB2.cell, hB3.cell]; rfl) (fun hct23 => ?_) (fun hct23 => ?_)
    ·
      try simp only [decide_eq_true_eq, decide_eq_false_iff_not, Bool.and_eq_true, Bool.and_eq_false_iff, Bool.or_eq_true, Bool.or_eq_false_iff, Bool.not_eq_true', Bool.not_eq_false', Bool.not_eq_true, Bool.not_eq_false] at hct23
      refine hx_seq ?_
      refine hx_region ?_
      refine WL.qq (by simp only [ev_tmp, ev_const, ev_func, set_get, Nat.reduceEqDiff, reduceIte, qv_fieldAddr, fa24_0, Nat.zero_add, Nat.reduceAdd, e0, e1, e2, hB1.cell, hB2.cell, hB3.cell]; rfl) ?_
      refine WL.qq (by simp only [ev_tmp, ev_const, ev_func, set_get, Nat.reduceEqDiff, reduceIte, qv_load, ld22, readN, List.getElem?_toArray, List.getElem?_cons_zero, List.getElem?_cons_succ, List.map_toArray, List.map_cons, List.map_nil, Option.map_some, Option.bind_some, Nat.zero_add, Nat.reduceAdd, e0, e1, e2, hB1.cell, hB2.cell, hB3.cell]; rfl) ?_
      refine WL.qq (by simp only [ev_tmp, ev_const, ev_func, set_get, Nat.reduceEqDiff, reduceIte, qv_move, e0, e1, e2, hB1.cell, hB2.cell, hB3.cell]; rfl) ?_
      refine WL.nil ?_
      refine th_norm ?_
      refine hx_block ?_
      refine hx_loopS [9, 10, 11, 26, 27, 28, 29, 30, 31, 32, 33, 34, 35, 36] (fun k e => ∃ (i : Nat), 6 - i = k ∧ (i ≤ 6) ∧ e 26 = .int .i64 i ∧ e 9 = .int .i64 (phN [s0, s1, s2, s3, s4, s5] m i)) _ ⟨0, rfl, ?_, ?_, ?_⟩ ?_
      · omega
      · simp only [ev_tmp, ev_const, ev_func, set_get, Nat.reduceEqDiff, reduceIte, e0, e1, e2, hB1.cell, hB2.cell, hB3.cell] <;> rfl
      · simp only [ev_tmp, ev_const, ev_func, set_get, Nat.reduceEqDiff, reduceIte, e0, e1, e2, hB1.cell, hB2.cell, hB3.cell] <;> rfl
      ·
        rintro k e0L hfr0 ⟨i, rfl, hi, i26_0, i9_0⟩
        have k4_0 := hfr0 4 rfl; simp only [ev_tmp, ev_const, ev_func, set_get, Nat.reduceEqDiff, reduceIte, e0, e1, e2, hB1.cell, hB2.cell, hB3.cell] at k4_0
        have k6_0 := hfr0 6 rfl; simp only [ev_tmp, ev_const, ev_func, set_get, Nat.reduceEqDiff, reduceIte, e0, e1, e2, hB1.cell, hB2.cell, hB3.cell] at k6_0
        have k7_0 := hfr0 7 rfl; simp only [ev_tmp, ev_const, ev_func, set_get, Nat.reduceEqDiff, reduceIte, e0, e1, e2, hB1.cell, hB2.cell, hB3.cell] at k7_0
        have k25_0 := hfr0 25 rfl; simp only [ev_tmp, ev_const, ev_func, set_get, Nat.reduceEqDiff, reduceIte, e0, e1, e2, hB1.cell, hB2.cell, hB3.cell] at k25_0
        refine hx_seq ?_
        refine hx_region ?_
        refine WL.qq (by simp only [ev_tmp, ev_const, ev_func, set_get, Nat.reduceEqDiff, reduceIte, qv_binOp, binv_lss, k4_0, k6_0, k7_0, k25_0, i26_0, i9_0, hB1.cell, hB2.cell, hB3.cell]; rfl) ?_
        refine WL.nil ?_
        refine th_norm ?_
        refine hx_seq ?_
        refine hx_cond (by simp only [ev_tmp, ev_const, ev_func, set_get, Nat.reduceEqDiff, reduceIte, k4_0, k6_0, k7_0, k25_0, i26_0, i9_0, hB1.cell, hB2.cell, hB3.cell]; rfl) (fun hct27 => ?_) (fun hct27 => ?_)
        ·
          try simp only [decide_eq_true_eq, decide_eq_false_iff_not, Bool.and_eq_true, Bool.and_eq_false_iff, Bool.or_eq_true, Bool.or_eq_false_iff, Bool.not_eq_true', Bool.not_eq_false', Bool.not_eq_true, Bool.not_eq_false] at hct27
          obtain ⟨x, hm⟩ : ∃ m, [s0, s1, s2, s3, s4, s5][i]? = some m := ⟨[s0, s1, s2, s3, s4, s5][i]'(by simp; omega), by simp⟩
          refine hx_skip ?_
          refine th_norm ?_
          refine hx_seq ?_
          refine hx_block ?_
          refine hx_seq ?_
          refine hx_region ?_
          refine WL.qq (by simp only [ev_tmp, ev_const, ev_func, set_get, Nat.reduceEqDiff, reduceIte, qv_move, k4_0, k6_0, k7_0, k25_0, i26_0, i9_0, hB1.cell, hB2.cell, hB3.cell]; rfl) ?_
          refine WL.qq (by simp only [ev_tmp, ev_const, ev_func, set_get, Nat.reduceEqDiff, reduceIte, k4_0, k6_0, k7_0, k25_0, i26_0, i9_0, hB1.cell, hB2.cell, hB3.cell, qv_index]; rw [el22 _ _ _ (by omega) (by omega), Int.toNat_natCast]; exact (pt3 _ _).trans (at6 hm)) ?_
          refine WL.qq (by simp only [ev_tmp, ev_const, ev_func, set_get, Nat.reduceEqDiff, reduceIte, qv_assign, k4_0, k6_0, k7_0, k25_0, i26_0, i9_0, hB1.cell, hB2.cell, hB3.cell]; rfl) ?_
          refine WL.qq (by simp only [ev_tmp, ev_const, ev_func, set_get, Nat.reduceEqDiff, reduceIte, qv_assign, k4_0, k6_0, k7_0, k25_0, i26_0, i9_0, hB1.cell, hB2.cell, hB3.cell]; rfl) ?_
          refine WL.nil ?_
          refine th_norm ?_
          refine hx_seq ?_
          refine hx_region ?_
          refine WL.qq (by simp only [ev_tmp, ev_const, ev_func, set_get, Nat.reduceEqDiff, reduceIte, qv_move, k4_0, k6_0, k7_0, k25_0, i26_0, i9_0, hB1.cell, hB2.cell, hB3.cell]; rfl) ?_
          refine WL.qq (by simp only [ev_tmp, ev_const, ev_func, set_get, Nat.reduceEqDiff, reduceIte, qv_fieldAddr, fa29_1, Nat.zero_add, Nat.reduceAdd, k4_0, k6_0, k7_0, k25_0, i26_0, i9_0, hB1.cell, hB2.cell, hB3.cell]; rfl) ?_
          refine WL.qq (by simp only [ev_tmp, ev_const, ev_func, set_get, Nat.reduceEqDiff, reduceIte, qv_load, ld3, readN, List.getElem?_toArray, List.getElem?_cons_zero, List.getElem?_cons_succ, List.map_toArray, List.map_cons, List.map_nil, Option.map_some, Option.bind_some, Nat.zero_add, Nat.reduceAdd, k4_0, k6_0, k7_0, k25_0, i26_0, i9_0, hB1.cell, hB2.cell, hB3.cell]; rfl) ?_
          refine WL.qq (by simp only [ev_tmp, ev_const, ev_func, set_get, Nat.reduceEqDiff, reduceIte, qv_binOp, binv_leq, k4_0, k6_0, k7_0, k25_0, i26_0, i9_0, hB1.cell, hB2.cell, hB3.cell]; rfl) ?_
          refine WL.nil ?_
          refine th_norm ?_
          refine hx_cond (by simp only [ev_tmp, ev_const, ev_func, set_get, Nat.reduceEqDiff, reduceIte, k4_0, k6_0, k7_0, k25_0, i26_0, i9_0, hB1.cell, hB2.cell, hB3.cell]; rfl) (fun hct33 => ?_) (fun hct33 => ?_)
          ·
            try simp only [decide_eq_true_eq, decide_eq_false_iff_not, Bool.and_eq_true, Bool.and_eq_false_iff, Bool.or_eq_true, Bool.or_eq_false_iff, Bool.not_eq_true', Bool.not_eq_false', Bool.not_eq_true, Bool.not_eq_false] at hct33
            refine hx_region ?_
            refine WL.qq (by simp only [ev_tmp, ev_const, ev_func, set_get, Nat.reduceEqDiff, reduceIte, qv_move, k4_0, k6_0, k7_0, k25_0, i26_0, i9_0, hB1.cell, hB2.cell, hB3.cell]; rfl) ?_
            refine WL.qq (by simp only [ev_tmp, ev_const, ev_func, set_get, Nat.reduceEqDiff, reduceIte, qv_binOp, binv_add, k4_0, k6_0, k7_0, k25_0, i26_0, i9_0, hB1.cell, hB2.cell, hB3.cell]; (try simp (disch := omega) only [w64, w8, wu64]); rfl) ?_
            refine WL.qq (by simp only [ev_tmp, ev_const, ev_func, set_get, Nat.reduceEqDiff, reduceIte, qv_assign, k4_0, k6_0, k7_0, k25_0, i26_0, i9_0, hB1.cell, hB2.cell, hB3.cell]; rfl) ?_
            refine WL.nil ?_
            refine bl_norm ?_
            refine th_norm ?_
            refine hx_region ?_
            refine WL.qq (by simp only [ev_tmp, ev_const, ev_func, set_get, Nat.reduceEqDiff, reduceIte, qv_binOp, binv_add, k4_0, k6_0, k7_0, k25_0, i26_0, i9_0, hB1.cell, hB2.cell, hB3.cell]; (try simp (disch := omega) only [w64, w8, wu64]); rfl) ?_
            refine WL.qq (by simp only [ev_tmp, ev_const, ev_func, set_get, Nat.reduceEqDiff, reduceIte, qv_move, k4_0, k6_0, k7_0, k25_0, i26_0, i9_0, hB1.cell, hB2.cell, hB3.cell]; rfl) ?_
            refine WL.nil ?_
            refine th_norm ?_
            refine ⟨rfl, rfl, ?_, _, ?_, i + 1, rfl, ?_, ?_, ?_⟩  -- again 0 of loop 0
            · (repeat (first | exact Fr.refl _ _ | refine Fr.set rfl ?_ | refine Fr.put rfl ?_ | refine Fr.put0 ?_))
            · omega
            · omega
            · simp only [ev_tmp, ev_const, ev_func, set_get, Nat.reduceEqDiff, reduceIte, k4_0, k6_0, k7_0, k25_0, i26_0, i9_0, hB1.cell, hB2.cell, hB3.cell] <;> first | rfl | (congr 1; omega)
            · simp only [ev_tmp, ev_const, ev_func, set_get, Nat.reduceEqDiff, reduceIte, k4_0, k6_0, k7_0, k25_0, i26_0, i9_0, hB1.cell, hB2.cell, hB3.cell] <;> first | rw [phN_pos hm hct33] | rw [phN_neg hm hct33]
          ·
            try simp only [decide_eq_true_eq, decide_eq_false_iff_not, Bool.and_eq_true, Bool.and_eq_false_iff, Bool.or_eq_true, Bool.or_eq_false_iff, Bool.not_eq_true', Bool.not_eq_false', Bool.not_eq_true, Bool.not_eq_false] at hct33
            refine hx_skip ?_
            refine bl_norm ?_
            refine th_norm ?_
            refine hx_region ?_
            refine WL.qq (by simp only [ev_tmp, ev_const, ev_func, set_get, Nat.reduceEqDiff, reduceIte, qv_binOp, binv_add, k4_0, k6_0, k7_0, k25_0, i26_0, i9_0, hB1.cell, hB2.cell, hB3.cell]; (try simp (disch := omega) only [w64, w8, wu64]); rfl) ?_
            refine WL.qq (by simp only [ev_tmp, ev_const, ev_func, set_get, Nat.reduceEqDiff, reduceIte, qv_move, k4_0, k6_0, k7_0, k25_0, i26_0, i9_0, hB1.cell, hB2.cell, hB3.cell]; rfl) ?_
            refine WL.nil ?_
            refine th_norm ?_
            refine ⟨rfl, rfl, ?_, _, ?_, i + 1, rfl, ?_, ?_, ?_⟩  -- again 1 of loop 0
            · (repeat (first | exact Fr.refl _ _ | refine Fr.set rfl ?_ | refine Fr.put rfl ?_ | refine Fr.put0 ?_))
            · omega
            · omega
            · simp only [ev_tmp, ev_const, ev_func, set_get, Nat.reduceEqDiff, reduceIte, k4_0, k6_0, k7_0, k25_0, i26_0, i9_0, hB1.cell, hB2.cell, hB3.cell] <;> first | rfl | (congr 1; omega)
            · simp only [ev_tmp, ev_const, ev_func, set_get, Nat.reduceEqDiff, reduceIte, k4_0, k6_0, k7_0, k25_0, i26_0, i9_0, hB1.cell, hB2.cell, hB3.cell] <;> first | rw [phN_pos hm hct33] | rw [phN_neg hm hct33]
        ·
          try simp only [decide_eq_true_eq, decide_eq_false_iff_not, Bool.and_eq_true, Bool.and_eq_false_iff, Bool.or_eq_true, Bool.or_eq_false_iff, Bool.not_eq_true', Bool.not_eq_false', Bool.not_eq_true, Bool.not_eq_false] at hct27
          refine hx_exit ?_
          refine th_exit ?_
          refine th_exit ?_
          refine bl_hit ?_
          refine th_norm ?_
          refine hx_seq ?_
          refine hx_region ?_
          refine WL.qq (by simp only [ev_tmp, ev_const, ev_func, set_get, Nat.reduceEqDiff, reduceIte, qv_move, k4_0, k6_0, k7_0, k25_0, i26_0, i9_0, hB1.cell, hB2.cell, hB3.cell]; rfl) ?_
          refine WL.qq (by simp only [ev_tmp, ev_const, ev_func, set_get, Nat.reduceEqDiff, reduceIte, qv_assign, k4_0, k6_0, k7_0, k25_0, i26_0, i9_0, hB1.cell, hB2.cell, hB3.cell]; rfl) ?_
          refine WL.qq (by simp only [ev_tmp, ev_const, ev_func, set_get, Nat.reduceEqDiff, reduceIte, qv_assign, k4_0, k6_0, k7_0, k25_0, i26_0, i9_0, hB1.cell, hB2.cell, hB3.cell]; rfl) ?_
          refine WL.nil ?_
          refine th_norm ?_
          refine hx_ret ?_
          refine fin_ret [.tmp 6, .tmp 7] rfl rfl (by simp only [ev_tmp, ev_const, ev_func, set_get, Nat.reduceEqDiff, reduceIte, resv, k4_0, k6_0, k7_0, k25_0, i26_0, i9_0, hB1.cell, hB2.cell, hB3.cell]; rfl) ?_  -- ret 1 r12
          have h6 : i = 6 := (by omega)
          subst h6
          exact ⟨by simp only [phaseM, he, hct18, hct23, if_true]; rfl, ((hx1).trans ((hx2).trans ((hx3).trans (hx4))))⟩
    ·
      try simp only [decide_eq_true_eq, decide_eq_false_iff_not, Bool.and_eq_true, Bool.and_eq_false_iff, Bool.or_eq_true, Bool.or_eq_false_iff, Bool.not_eq_true', Bool.not_eq_false', Bool.not_eq_true, Bool.not_eq_false] at hct23
      refine hx_skip ?_
      refine th_norm ?_
      refine hx_seq ?_
      refine hx_region ?_
      refine WL.qq (by simp only [ev_tmp, ev_const, ev_func, set_get, Nat.reduceEqDiff, reduceIte, qv_move, e0, e1, e2, hB1.cell, hB2.cell, hB3.cell]; rfl) ?_
      refine WL.qq (by simp only [ev_tmp, ev_const, ev_func, set_get, Nat.reduceEqDiff, reduceIte, qv_assign, e0, e1, e2, hB1.cell, hB2.cell, hB3.cell]; rfl) ?_
      refine WL.qq (by simp only [ev_tmp, ev_const, ev_func, set_get, Nat.reduceEqDiff, reduceIte, qv_assign, e0, e1, e2, hB1.cell, hB2.cell, hB3.cell]; rfl) ?_
      refine WL.nil ?_
      refine th_norm ?_
      refine hx_ret ?_
      refine fin_ret [.tmp 6, .tmp 7] rfl rfl (by simp only [ev_tmp, ev_const, ev_func, set_get, Nat.reduceEqDiff, reduceIte, resv, e0, e1, e2, hB1.cell, hB2.cell, hB3.cell]; rfl) ?_  -- ret 2 r12
      exact ⟨by simp only [phaseM, he, hct18, hct23, if_true]; rfl, ((hx1).trans ((hx2).trans ((hx3).trans (hx4))))⟩
def begM (s : List Int) (q : Option Addr) (bus : Int → Bool) (d k : Int) : (Int × Int) × Int :=
  if valM s q [(d, 0)] ≠ 0 then ((0, 0), valM s q [(d, 0)]) else if k < 1 ∨ 6 < k then ((0, 0), 11) else if bus d = true then ((d, s.getD (k - 1).toNat 0), 0) else ((0, 0), 28)
theorem c_begin (s0 s1 s2 s3 s4 s5 d k : Int) (q : Option Addr) (wk hs : List Int) {bt : Int × Int} {be : Int} (hb : begM [s0, s1, s2, s3, s4, s5] q (busM wk hs) d k = (bt, be)) {h : Heap} (hq : QCal h q wk hs) :
    HCalls Try.prog 20 #[sch s0 s1 s2 s3 s4 s5, .int .i64 d, .int .i64 k, .pointer q] h
      (Grow (.tuple #[.agg #[.int .i64 bt.1, .int .i64 bt.2], .int .i64 be]) h) := by
  refine hcalls2 Try.func20 rfl (by decide +kernel) (by simp only [Try.ntmps20]; exact of_decide_eq_true rfl) ?_
  intro e hin
  have e0 := hin 0 _ rfl
  have e1 := hin 1 _ rfl
  have e2 := hin 2 _ rfl
  have e3 := hin 3 _ rfl
  have hE : Ext h h := Ext.refl h
  obtain ⟨er, he⟩ : ∃ e, valM [s0, s1, s2, s3, s4, s5] q [(d, 0)] = e := ⟨_, rfl⟩
  simp only [begM, he] at hb
  refine hx_seq ?_
  refine hx_region ?_
  refine WL.box2 (by simp only [ev_tmp, ev_const, ev_func, set_get, Nat.reduceEqDiff, reduceIte, Value.cells, e0, e1, e2, e3]; rfl) ?_
  intro h1 B1 hx1 hlt1 hB1
  replace hE := hE.trans hx1
  replace hq := hq.ext hx1
  refine WL.alloc2 zr29 ?_
  intro h2 B2 hx2 hlt2 hB2
  have hne1_2 : B2 ≠ B1 := by have := (Array.getElem?_eq_some_iff.1 hB1).1; omega
  have hb0_2 := Nat.le_trans hE.size hlt2
  have hq_s2 := hq
  have hB1_s2 := hB1
  replace hE := hE.trans hx2
  replace hq := hq.ext hx2
  replace hB1 := hB1.ext hx2
  have hEo2 := hx2
  simp only [Value.cells] at hB2
  refine WL.qq (by simp only [ev_tmp, ev_const, ev_func, set_get, Nat.reduceEqDiff, reduceIte, qv_assign, e0, e1, e2, e3, hB1.cell, hB2.cell]; rfl) ?_
  refine WL.nil ?_
  refine th_norm ?_
  refine hx_seq ?_
  refine hx_seq ?_
  refine hx_region ?_
  refine WL.qq (by simp only [ev_tmp, ev_const, ev_func, set_get, Nat.reduceEqDiff, reduceIte, qv_load, ld24, readN, List.getElem?_toArray, List.getElem?_cons_zero, List.getElem?_cons_succ, List.map_toArray, List.map_cons, List.map_nil, Option.map_some, Option.bind_some, Nat.zero_add, Nat.reduceAdd, e0, e1, e2, e3, hB1.cell, hB2.cell]; rfl) ?_
  refine WL.qq (by simp only [ev_tmp, ev_const, ev_func, set_get, Nat.reduceEqDiff, reduceIte, qv_move, e0, e1, e2, e3, hB1.cell, hB2.cell]; rfl) ?_
  refine WL.qq (by simp only [ev_tmp, ev_const, ev_func, set_get, Nat.reduceEqDiff, reduceIte, qv_move, e0, e1, e2, e3, hB1.cell, hB2.cell]; rfl) ?_
  refine WL.qq (by refine qv_bld (by simp only [ev_tmp, ev_const, ev_func, set_get, Nat.reduceEqDiff, reduceIte, List.getElem?_toArray, List.getElem?_cons_zero, List.getElem?_cons_succ, List.map_toArray, List.map_cons, List.map_nil, Option.map_some, Option.bind_some, e0, e1, e2, e3, hB1.cell, hB2.cell] <;> rfl) (by rw [bl29]; simp [Instr.fill, Value.cells]; rfl)) ?_
  refine WL.lit2 #[(.int .i64 0), (.int .i64 0)] Try.underlying84 sz29 zr29 (by decide) (by kernel_rfl) ⟨_, (by simp only [ev_tmp, ev_const, ev_func, set_get, Nat.reduceEqDiff, reduceIte, List.getElem?_toArray, List.getElem?_cons_zero, List.getElem?_cons_succ, List.map_toArray, List.map_cons, List.map_nil, Option.map_some, Option.bind_some, e0, e1, e2, e3, hB1.cell, hB2.cell]; simp [Instr.fill, Value.cells]; rfl), rfl⟩ ?_
  intro h3 B3 hx3 hlt3 hB3
  replace hE := hE.trans hx3
  replace hEo2 := hEo2.trans hx3
  replace hq := hq.ext hx3
  replace hB1 := hB1.ext hx3
  replace hB2 := hB2.ext hx3
  refine WL.cg Try.call37 (by simp only [ev_tmp, ev_const, ev_func, set_get, Nat.reduceEqDiff, reduceIte, List.getElem?_toArray, List.getElem?_cons_zero, List.getElem?_cons_succ, List.map_toArray, List.map_cons, List.map_nil, Option.map_some, Option.bind_some, e0, e1, e2, e3, hB1.cell, hB2.cell, hB3.cell]; exact HCalls.gv (by rw [he]) (c_validate s0 s1 s2 s3 s4 s5 q _ [(d, 0)] 1 (by simp) (SlC.one hB3))) ?_
  intro h4 hx4
  replace hE := hE.trans hx4
  replace hEo2 := hEo2.trans hx4
  replace hq := hq.ext hx4
  replace hB1 := hB1.ext hx4
  replace hB2 := hB2.ext hx4
  replace hB3 := hB3.ext hx4
  refine WL.qq (by simp only [ev_tmp, ev_const, ev_func, set_get, Nat.reduceEqDiff, reduceIte, qv_assign, e0, e1, e2, e3, hB1.cell, hB2.cell, hB3.cell]; rfl) ?_
  refine WL.nil ?_
  refine th_norm ?_
  refine hx_seq ?_
  refine hx_region ?_
  refine WL.qq (by simp only [ev_tmp, ev_const, ev_func, set_get, Nat.reduceEqDiff, reduceIte, qv_move, e0, e1, e2, e3, hB1.cell, hB2.cell, hB3.cell]; rfl) ?_
  refine WL.qq (by simp only [ev_tmp, ev_const, ev_func, set_get, Nat.reduceEqDiff, reduceIte, qv_binOp, binv_neq, eq34, Option.map_some, e0, e1, e2, e3, hB1.cell, hB2.cell, hB3.cell]; rfl) ?_
  refine WL.nil ?_
  refine th_norm ?_
  refine hx_cond (by simp only [ev_tmp, ev_const, ev_func, set_get, Nat.reduceEqDiff, reduceIte, e0, e1, e2, e3, hB1.cell, hB2.cell, hB3.cell]; rfl) (fun hct18 => ?_) (fun hct18 => ?_)
  ·
    try simp only [decide_eq_true_eq, decide_eq_false_iff_not, Bool.and_eq_true, Bool.and_eq_false_iff, Bool.or_eq_true, Bool.or_eq_false_iff, Bool.not_eq_true', Bool.not_eq_false', Bool.not_eq_true, Bool.not_eq_false] at hct18
    refine hx_seq ?_
    refine hx_region ?_
    refine WL.qq (by refine qv_bld (by simp only [ev_tmp, ev_const, ev_func, set_get, Nat.reduceEqDiff, reduceIte, List.getElem?_toArray, List.getElem?_cons_zero, List.getElem?_cons_succ, List.map_toArray, List.map_cons, List.map_nil, Option.map_some, Option.bind_some, e0, e1, e2, e3, hB1.cell, hB2.cell, hB3.cell] <;> rfl) (by rw [bl29]; simp [Instr.fill, Value.cells]; rfl)) ?_
    refine WL.qq (by simp only [ev_tmp, ev_const, ev_func, set_get, Nat.reduceEqDiff, reduceIte, qv_move, e0, e1, e2, e3, hB1.cell, hB2.cell, hB3.cell]; rfl) ?_
    refine WL.store (by simp only [ev_tmp, ev_const, ev_func, set_get, Nat.reduceEqDiff, reduceIte, e0, e1, e2, e3, hB1.cell, hB2.cell, hB3.cell] <;> rfl) sz29 (by simp only [ev_tmp, ev_const, ev_func, set_get, Nat.reduceEqDiff, reduceIte, Value.cells, e0, e1, e2, e3, hB1.cell, hB2.cell, hB3.cell] <;> rfl) rfl hB2 (by first | decide | (simp; done) | (simp; omega)) (by simp [Value.oneCell']) ?_
    intro h5 hw5
    replace hE := hw5.ext hE hb0_2
    replace hEo2 := hw5.ext hEo2 hlt2
    replace hq := hq_s2.ext hEo2
    replace hB1 := hB1_s2.ext hEo2
    replace hB2 := hw5.at_
    try simp only [splc, List.take_succ_cons, List.take_zero, List.take_nil, List.drop_succ_cons, List.drop_zero, List.drop_nil, List.cons_append, List.nil_append, List.length_cons, List.length_nil, Nat.zero_add, Nat.add_zero, Nat.reduceAdd, List.append_nil] at hB2
    refine WL.qq (by simp only [ev_tmp, ev_const, ev_func, set_get, Nat.reduceEqDiff, reduceIte, qv_assign, e0, e1, e2, e3, hB1.cell, hB2.cell]; rfl) ?_
    refine WL.nil ?_
    refine th_norm ?_
    refine hx_ret ?_
    refine th_ret ?_
    refine fin_ret [.cell 8 29, .tmp 9] rfl rfl (by simp only [ev_tmp, ev_const, ev_func, set_get, Nat.reduceEqDiff, reduceIte, resv, ld29, readN, List.getElem?_toArray, List.getElem?_cons_zero, List.getElem?_cons_succ, List.map_toArray, List.map_cons, List.map_nil, Option.map_some, Option.bind_some, Nat.zero_add, Nat.reduceAdd, e0, e1, e2, e3, hB1.cell, hB2.cell]; rfl) ?_  -- ret 0 r3
    rw [if_pos hct18] at hb
    cases hb
    exact ⟨rfl, hE⟩
  ·
    try simp only [decide_eq_true_eq, decide_eq_false_iff_not, Bool.and_eq_true, Bool.and_eq_false_iff, Bool.or_eq_true, Bool.or_eq_false_iff, Bool.not_eq_true', Bool.not_eq_false', Bool.not_eq_true, Bool.not_eq_false] at hct18
    rw [if_neg (fun hh => hh hct18)] at hb
    obtain ⟨p, rfl, hc⟩ := hq.get (he.trans hct18)
    refine hx_skip ?_
    refine th_norm ?_
    refine hx_seq ?_
    refine hx_seq ?_
    refine hx_region ?_
    refine WL.qq (by simp only [ev_tmp, ev_const, ev_func, set_get, Nat.reduceEqDiff, reduceIte, qv_move, e0, e1, e2, e3, hB1.cell, hB2.cell, hB3.cell]; rfl) ?_
    refine WL.qq (by simp only [ev_tmp, ev_const, ev_func, set_get, Nat.reduceEqDiff, reduceIte, qv_binOp, binv_lss, e0, e1, e2, e3, hB1.cell, hB2.cell, hB3.cell]; rfl) ?_
    refine WL.qq (by simp only [ev_tmp, ev_const, ev_func, set_get, Nat.reduceEqDiff, reduceIte, qv_move, e0, e1, e2, e3, hB1.cell, hB2.cell, hB3.cell]; rfl) ?_
    refine WL.cq (gd_at (t := 23) rfl (by simp only [ev_tmp, ev_const, ev_func, set_get, Nat.reduceEqDiff, reduceIte, e0, e1, e2, e3, hB1.cell, hB2.cell, hB3.cell]; rfl)) (fun hg4_3 => by simp only [ev_tmp, ev_const, ev_func, set_get, Nat.reduceEqDiff, reduceIte, qv_move, e0, e1, e2, e3, hB1.cell, hB2.cell, hB3.cell, hg4_3, Bool.false_eq_true, Bool.true_eq_false, eq_self, if_true, if_false, true_and, and_true, false_and, and_false]; rfl) ?_
    refine WL.cq (gd_at (t := 23) rfl (by simp only [ev_tmp, ev_const, ev_func, set_get, Nat.reduceEqDiff, reduceIte, e0, e1, e2, e3, hB1.cell, hB2.cell, hB3.cell]; rfl)) (fun hg4_4 => by simp only [ev_tmp, ev_const, ev_func, set_get, Nat.reduceEqDiff, reduceIte, qv_binOp, binv_gtr, e0, e1, e2, e3, hB1.cell, hB2.cell, hB3.cell, hg4_4, Bool.false_eq_true, Bool.true_eq_false, eq_self, if_true, if_false, true_and, and_true, false_and, and_false]; rfl) ?_
    refine WL.qq (by simp only [ev_tmp, ev_const, ev_func, set_get, Nat.reduceEqDiff, reduceIte, qv_pick, pk_and, pk_or, Bool.false_eq_true, Bool.true_eq_false, eq_self, if_true, if_false, true_and, and_true, false_and, and_false, e0, e1, e2, e3, hB1.cell, hB2.cell, hB3.cell]; rfl) ?_
    refine WL.nil ?_
    refine th_norm ?_
    refine hx_cond (by simp only [ev_tmp, ev_const, ev_func, set_get, Nat.reduceEqDiff, reduceIte, e0, e1, e2, e3, hB1.cell, hB2.cell, hB3.cell]; rfl) (fun hct26 => ?_) (fun hct26 => ?_)
    ·
      try simp only [decide_eq_true_eq, decide_eq_false_iff_not, Bool.and_eq_true, Bool.and_eq_false_iff, Bool.or_eq_true, Bool.or_eq_false_iff, Bool.not_eq_true', Bool.not_eq_false', Bool.not_eq_true, Bool.not_eq_false] at hct26
      refine hx_seq ?_
      refine hx_region ?_
      refine WL.qq (by refine qv_bld (by simp only [ev_tmp, ev_const, ev_func, set_get, Nat.reduceEqDiff, reduceIte, List.getElem?_toArray, List.getElem?_cons_zero, List.getElem?_cons_succ, List.map_toArray, List.map_cons, List.map_nil, Option.map_some, Option.bind_some, e0, e1, e2, e3, hB1.cell, hB2.cell, hB3.cell] <;> rfl) (by rw [bl29]; simp [Instr.fill, Value.cells]; rfl)) ?_
      refine WL.store (by simp only [ev_tmp, ev_const, ev_func, set_get, Nat.reduceEqDiff, reduceIte, e0, e1, e2, e3, hB1.cell, hB2.cell, hB3.cell] <;> rfl) sz29 (by simp only [ev_tmp, ev_const, ev_func, set_get, Nat.reduceEqDiff, reduceIte, Value.cells, e0, e1, e2, e3, hB1.cell, hB2.cell, hB3.cell] <;> rfl) rfl hB2 (by first | decide | (simp; done) | (simp; omega)) (by simp [Value.oneCell']) ?_
      intro h6 hw6
      replace hE := hw6.ext hE hb0_2
      replace hEo2 := hw6.ext hEo2 hlt2
      replace hq := hq_s2.ext hEo2
      replace hB1 := hB1_s2.ext hEo2
      replace hB2 := hw6.at_
      try simp only [splc, List.take_succ_cons, List.take_zero, List.take_nil, List.drop_succ_cons, List.drop_zero, List.drop_nil, List.cons_append, List.nil_append, List.length_cons, List.length_nil, Nat.zero_add, Nat.add_zero, Nat.reduceAdd, List.append_nil] at hB2
      refine WL.qq (by simp only [ev_tmp, ev_const, ev_func, set_get, Nat.reduceEqDiff, reduceIte, qv_assign, e0, e1, e2, e3, hB1.cell, hB2.cell]; rfl) ?_
      refine WL.nil ?_
      refine th_norm ?_
      refine hx_ret ?_
      refine th_ret ?_
      refine fin_ret [.cell 8 29, .tmp 9] rfl rfl (by simp only [ev_tmp, ev_const, ev_func, set_get, Nat.reduceEqDiff, reduceIte, resv, ld29, readN, List.getElem?_toArray, List.getElem?_cons_zero, List.getElem?_cons_succ, List.map_toArray, List.map_cons, List.map_nil, Option.map_some, Option.bind_some, Nat.zero_add, Nat.reduceAdd, e0, e1, e2, e3, hB1.cell, hB2.cell]; rfl) ?_  -- ret 1 r5
      rw [if_pos hct26] at hb
      cases hb
      exact ⟨rfl, hE⟩
    ·
      try simp only [decide_eq_true_eq, decide_eq_false_iff_not, Bool.and_eq_true, Bool.and_eq_false_iff, Bool.or_eq_true, Bool.or_eq_false_iff, Bool.not_eq_true', Bool.not_eq_false', Bool.not_eq_true, Bool.not_eq_false] at hct26
      rw [if_neg (by omega)] at hb
      refine hx_skip ?_
      refine th_norm ?_
      refine hx_seq ?_
      refine hx_seq ?_
      refine hx_region ?_
      refine WL.qq (by simp only [ev_tmp, ev_const, ev_func, set_get, Nat.reduceEqDiff, reduceIte, qv_move, e0, e1, e2, e3, hB1.cell, hB2.cell, hB3.cell]; rfl) ?_
      refine WL.qq (by simp only [ev_tmp, ev_const, ev_func, set_get, Nat.reduceEqDiff, reduceIte, qv_move, e0, e1, e2, e3, hB1.cell, hB2.cell, hB3.cell]; rfl) ?_
      refine WL.ck Try.call38 (by simp only [ev_tmp, ev_const, ev_func, set_get, Nat.reduceEqDiff, reduceIte, List.getElem?_toArray, List.getElem?_cons_zero, List.getElem?_cons_succ, List.map_toArray, List.map_cons, List.map_nil, Option.map_some, Option.bind_some, e0, e1, e2, e3, hB1.cell, hB2.cell, hB3.cell]; exact c_isBusiness p wk hs d hc) ?_
      refine WL.qq (by simp only [ev_tmp, ev_const, ev_func, set_get, Nat.reduceEqDiff, reduceIte, qv_unOp, unv_not, e0, e1, e2, e3, hB1.cell, hB2.cell, hB3.cell]; rfl) ?_
      refine WL.nil ?_
      refine th_norm ?_
      refine hx_cond (by simp only [ev_tmp, ev_const, ev_func, set_get, Nat.reduceEqDiff, reduceIte, e0, e1, e2, e3, hB1.cell, hB2.cell, hB3.cell]; rfl) (fun hct31 => ?_) (fun hct31 => ?_)
      ·
        try simp only [decide_eq_true_eq, decide_eq_false_iff_not, Bool.and_eq_true, Bool.and_eq_false_iff, Bool.or_eq_true, Bool.or_eq_false_iff, Bool.not_eq_true', Bool.not_eq_false', Bool.not_eq_true, Bool.not_eq_false] at hct31
        refine hx_seq ?_
        refine hx_region ?_
        refine WL.qq (by refine qv_bld (by simp only [ev_tmp, ev_const, ev_func, set_get, Nat.reduceEqDiff, reduceIte, List.getElem?_toArray, List.getElem?_cons_zero, List.getElem?_cons_succ, List.map_toArray, List.map_cons, List.map_nil, Option.map_some, Option.bind_some, e0, e1, e2, e3, hB1.cell, hB2.cell, hB3.cell] <;> rfl) (by rw [bl29]; simp [Instr.fill, Value.cells]; rfl)) ?_
        refine WL.store (by simp only [ev_tmp, ev_const, ev_func, set_get, Nat.reduceEqDiff, reduceIte, e0, e1, e2, e3, hB1.cell, hB2.cell, hB3.cell] <;> rfl) sz29 (by simp only [ev_tmp, ev_const, ev_func, set_get, Nat.reduceEqDiff, reduceIte, Value.cells, e0, e1, e2, e3, hB1.cell, hB2.cell, hB3.cell] <;> rfl) rfl hB2 (by first | decide | (simp; done) | (simp; omega)) (by simp [Value.oneCell']) ?_
        intro h7 hw7
        replace hE := hw7.ext hE hb0_2
        replace hEo2 := hw7.ext hEo2 hlt2
        replace hq := hq_s2.ext hEo2
        replace hB1 := hB1_s2.ext hEo2
        replace hB2 := hw7.at_
        try simp only [splc, List.take_succ_cons, List.take_zero, List.take_nil, List.drop_succ_cons, List.drop_zero, List.drop_nil, List.cons_append, List.nil_append, List.length_cons, List.length_nil, Nat.zero_add, Nat.add_zero, Nat.reduceAdd, List.append_nil] at hB2
        refine WL.qq (by simp only [ev_tmp, ev_const, ev_func, set_get, Nat.reduceEqDiff, reduceIte, qv_assign, e0, e1, e2, e3, hB1.cell, hB2.cell]; rfl) ?_
        refine WL.nil ?_
        refine th_norm ?_
        refine hx_ret ?_
        refine th_ret ?_
        refine fin_ret [.cell 8 29, .tmp 9] rfl rfl (by simp only [ev_tmp, ev_const, ev_func, set_get, Nat.reduceEqDiff, reduceIte, resv, ld29, readN, List.getElem?_toArray, List.getElem?_cons_zero, List.getElem?_cons_succ, List.map_toArray, List.map_cons, List.map_nil, Option.map_some, Option.bind_some, Nat.zero_add, Nat.reduceAdd, e0, e1, e2, e3, hB1.cell, hB2.cell]; rfl) ?_  -- ret 2 r7
        rw [if_neg (by simp [hct31])] at hb
        cases hb
        exact ⟨rfl, hE⟩
      ·
        try simp only [decide_eq_true_eq, decide_eq_false_iff_not, Bool.and_eq_true, Bool.and_eq_false_iff, Bool.or_eq_true, Bool.or_eq_false_iff, Bool.not_eq_true', Bool.not_eq_false', Bool.not_eq_true, Bool.not_eq_false] at hct31
        obtain ⟨x, hm⟩ : ∃ m, [s0, s1, s2, s3, s4, s5][(k - 1).toNat]? = some m := ⟨[s0, s1, s2, s3, s4, s5][(k - 1).toNat]'(by simp; omega), by simp⟩
        refine hx_skip ?_
        refine th_norm ?_
        refine hx_seq ?_
        refine hx_region ?_
        refine WL.qq (by simp only [ev_tmp, ev_const, ev_func, set_get, Nat.reduceEqDiff, reduceIte, qv_move, e0, e1, e2, e3, hB1.cell, hB2.cell, hB3.cell]; rfl) ?_
        refine WL.qq (by simp only [ev_tmp, ev_const, ev_func, set_get, Nat.reduceEqDiff, reduceIte, qv_move, e0, e1, e2, e3, hB1.cell, hB2.cell, hB3.cell]; rfl) ?_
        refine WL.qq (by simp only [ev_tmp, ev_const, ev_func, set_get, Nat.reduceEqDiff, reduceIte, qv_binOp, binv_sub, e0, e1, e2, e3, hB1.cell, hB2.cell, hB3.cell]; (try simp (disch := omega) only [w64, w8, wu64]); rfl) ?_
        refine WL.qq (by simp only [ev_tmp, ev_const, ev_func, set_get, Nat.reduceEqDiff, reduceIte, qv_fieldAddr, fa24_0, Nat.zero_add, Nat.reduceAdd, e0, e1, e2, e3, hB1.cell, hB2.cell, hB3.cell]; rfl) ?_
        refine WL.qq (by simp only [ev_tmp, ev_const, ev_func, set_get, Nat.reduceEqDiff, reduceIte, e0, e1, e2, e3, hB1.cell, hB2.cell, hB3.cell, qv_indexAddr]; exact ix22 _ _ _ _ (by omega) (by omega)) ?_
        refine WL.qq (by simp only [ev_tmp, ev_const, ev_func, set_get, Nat.reduceEqDiff, reduceIte, e0, e1, e2, e3, hB1.cell, hB2.cell, hB3.cell, qv_load, ld3, Nat.zero_add, at6 hm]; rfl) ?_
        refine WL.qq (by refine qv_bld (by simp only [ev_tmp, ev_const, ev_func, set_get, Nat.reduceEqDiff, reduceIte, List.getElem?_toArray, List.getElem?_cons_zero, List.getElem?_cons_succ, List.map_toArray, List.map_cons, List.map_nil, Option.map_some, Option.bind_some, e0, e1, e2, e3, hB1.cell, hB2.cell, hB3.cell] <;> rfl) (by rw [bl29]; simp [Instr.fill, Value.cells]; rfl)) ?_
        refine WL.store (by simp only [ev_tmp, ev_const, ev_func, set_get, Nat.reduceEqDiff, reduceIte, e0, e1, e2, e3, hB1.cell, hB2.cell, hB3.cell] <;> rfl) sz29 (by simp only [ev_tmp, ev_const, ev_func, set_get, Nat.reduceEqDiff, reduceIte, Value.cells, e0, e1, e2, e3, hB1.cell, hB2.cell, hB3.cell] <;> rfl) rfl hB2 (by first | decide | (simp; done) | (simp; omega)) (by simp [Value.oneCell']) ?_
        intro h8 hw8
        replace hE := hw8.ext hE hb0_2
        replace hEo2 := hw8.ext hEo2 hlt2
        replace hq := hq_s2.ext hEo2
        replace hB1 := hB1_s2.ext hEo2
        replace hB2 := hw8.at_
        try simp only [splc, List.take_succ_cons, List.take_zero, List.take_nil, List.drop_succ_cons, List.drop_zero, List.drop_nil, List.cons_append, List.nil_append, List.length_cons, List.length_nil, Nat.zero_add, Nat.add_zero, Nat.reduceAdd, List.append_nil] at hB2
        refine WL.qq (by simp only [ev_tmp, ev_const, ev_func, set_get, Nat.reduceEqDiff, reduceIte, qv_assign, e0, e1, e2, e3, hB1.cell, hB2.cell]; rfl) ?_
        refine WL.nil ?_
        refine th_norm ?_
        refine hx_ret ?_
        refine fin_ret [.cell 8 29, .tmp 9] rfl rfl (by simp only [ev_tmp, ev_const, ev_func, set_get, Nat.reduceEqDiff, reduceIte, resv, ld29, readN, List.getElem?_toArray, List.getElem?_cons_zero, List.getElem?_cons_succ, List.map_toArray, List.map_cons, List.map_nil, Option.map_some, Option.bind_some, Nat.zero_add, Nat.reduceAdd, e0, e1, e2, e3, hB1.cell, hB2.cell]; rfl) ?_  -- ret 3 r8
        rw [if_pos hct31] at hb
        have hg : [s0, s1, s2, s3, s4, s5].getD (k - 1).toNat 0 = x := (by simp only [List.getD, hm, Option.getD_some])
        rw [hg] at hb
        cases hb
        exact ⟨rfl, hE⟩
theorem c_rphase (s0 s1 s2 s3 s4 s5 d m : Int) (wk hol : List Int) (a a' : Option Addr) (c c' : Nat) {h : Heap} (hw : SlI h a wk) (hh : SlI h a' hol) (lw : wk.length ≤ 9223372036854775807) (lh : hol.length ≤ 9223372036854775807) :
    HCalls Try.prog 18 #[sch s0 s1 s2 s3 s4 s5, .agg #[.int .i64 d, .int .i64 m], .agg #[.slice a wk.length c, .slice a' hol.length c']] h
      (Grow (.int .i64 (if busM wk hol d = true then phN [s0, s1, s2, s3, s4, s5] m 6 else 0)) h) := by
  refine hcalls2 Try.func18 rfl (by decide +kernel) (by simp only [Try.ntmps18]; exact of_decide_eq_true rfl) ?_
  intro e hin
  have e0 := hin 0 _ rfl
  have e1 := hin 1 _ rfl
  have e2 := hin 2 _ rfl
  refine hx_seq ?_
  refine hx_region ?_
  refine WL.box2 (by simp only [ev_tmp, ev_const, ev_func, set_get, Nat.reduceEqDiff, reduceIte, Value.cells, e0, e1, e2]; rfl) ?_
  intro h1 B1 hx1 hlt1 hB1
  replace hw := hw.ext hx1
  replace hh := hh.ext hx1
  refine WL.box2 (by simp only [ev_tmp, ev_const, ev_func, set_get, Nat.reduceEqDiff, reduceIte, Value.cells, e0, e1, e2, hB1.cell]; rfl) ?_
  intro h2 B2 hx2 hlt2 hB2
  replace hw := hw.ext hx2
  replace hh := hh.ext hx2
  replace hB1 := hB1.ext hx2
  refine WL.box2 (by simp only [ev_tmp, ev_const, ev_func, set_get, Nat.reduceEqDiff, reduceIte, Value.cells, e0, e1, e2, hB1.cell, hB2.cell]; rfl) ?_
  intro h3 B3 hx3 hlt3 hB3
  replace hw := hw.ext hx3
  replace hh := hh.ext hx3
  replace hB1 := hB1.ext hx3
  replace hB2 := hB2.ext hx3
  refine WL.qq (by simp only [ev_tmp, ev_const, ev_func, set_get, Nat.reduceEqDiff, reduceIte, qv_assign, e0, e1, e2, hB1.cell, hB2.cell, hB3.cell]; rfl) ?_
  refine WL.nil ?_
  refine th_norm ?_
  refine hx_seq ?_
  refine hx_seq ?_
  refine hx_region ?_
  refine WL.qq (by simp only [ev_tmp, ev_const, ev_func, set_get, Nat.reduceEqDiff, reduceIte, qv_load, ld27, readN, List.getElem?_toArray, List.getElem?_cons_zero, List.getElem?_cons_succ, List.map_toArray, List.map_cons, List.map_nil, Option.map_some, Option.bind_some, Nat.zero_add, Nat.reduceAdd, e0, e1, e2, hB1.cell, hB2.cell, hB3.cell]; rfl) ?_
  refine WL.qq (by simp only [ev_tmp, ev_const, ev_func, set_get, Nat.reduceEqDiff, reduceIte, qv_fieldAddr, fa41_0, Nat.zero_add, Nat.reduceAdd, e0, e1, e2, hB1.cell, hB2.cell, hB3.cell]; rfl) ?_
  refine WL.qq (by simp only [ev_tmp, ev_const, ev_func, set_get, Nat.reduceEqDiff, reduceIte, qv_load, ld3, readN, List.getElem?_toArray, List.getElem?_cons_zero, List.getElem?_cons_succ, List.map_toArray, List.map_cons, List.map_nil, Option.map_some, Option.bind_some, Nat.zero_add, Nat.reduceAdd, e0, e1, e2, hB1.cell, hB2.cell, hB3.cell]; rfl) ?_
  refine WL.cg Try.call21 (by simp only [ev_tmp, ev_const, ev_func, set_get, Nat.reduceEqDiff, reduceIte, List.getElem?_toArray, List.getElem?_cons_zero, List.getElem?_cons_succ, List.map_toArray, List.map_cons, List.map_nil, Option.map_some, Option.bind_some, e0, e1, e2, hB1.cell, hB2.cell, hB3.cell]; exact c_ris wk hol _ _ _ _ d hw hh lw lh) ?_
  intro h4 hx4
  replace hw := hw.ext hx4
  replace hh := hh.ext hx4
  replace hB1 := hB1.ext hx4
  replace hB2 := hB2.ext hx4
  replace hB3 := hB3.ext hx4
  refine WL.qq (by simp only [ev_tmp, ev_const, ev_func, set_get, Nat.reduceEqDiff, reduceIte, qv_unOp, unv_not, e0, e1, e2, hB1.cell, hB2.cell, hB3.cell]; rfl) ?_
  refine WL.nil ?_
  refine th_norm ?_
  refine hx_cond (by simp only [ev_tmp, ev_const, ev_func, set_get, Nat.reduceEqDiff, reduceIte, e0, e1, e2, hB1.cell, hB2.cell, hB3.cell]; rfl) (fun hct13 => ?_) (fun hct13 => ?_)
  ·
    try simp only [decide_eq_true_eq, decide_eq_false_iff_not, Bool.and_eq_true, Bool.and_eq_false_iff, Bool.or_eq_true, Bool.or_eq_false_iff, Bool.not_eq_true', Bool.not_eq_false', Bool.not_eq_true, Bool.not_eq_false] at hct13
    refine hx_seq ?_
    refine hx_region ?_
    refine WL.qq (by simp only [ev_tmp, ev_const, ev_func, set_get, Nat.reduceEqDiff, reduceIte, qv_assign, e0, e1, e2, hB1.cell, hB2.cell, hB3.cell]; rfl) ?_
    refine WL.nil ?_
    refine th_norm ?_
    refine hx_ret ?_
    refine th_ret ?_
    refine fin_ret [.tmp 6] rfl rfl (by simp only [ev_tmp, ev_const, ev_func, set_get, Nat.reduceEqDiff, reduceIte, resv, e0, e1, e2, hB1.cell, hB2.cell, hB3.cell]; rfl) ?_  -- ret 0 r2
    exact ⟨by rw [if_neg (by simp [hct13])]; rfl, ((hx1).trans ((hx2).trans ((hx3).trans (hx4))))⟩
  ·
    try simp only [decide_eq_true_eq, decide_eq_false_iff_not, Bool.and_eq_true, Bool.and_eq_false_iff, Bool.or_eq_true, Bool.or_eq_false_iff, Bool.not_eq_true', Bool.not_eq_false', Bool.not_eq_true, Bool.not_eq_false] at hct13
    refine hx_skip ?_
    refine th_norm ?_
    refine hx_seq ?_
    refine hx_region ?_
    refine WL.qq (by simp only [ev_tmp, ev_const, ev_func, set_get, Nat.reduceEqDiff, reduceIte, qv_assign, e0, e1, e2, hB1.cell, hB2.cell, hB3.cell]; rfl) ?_
    refine WL.nil ?_
    refine th_norm ?_
    refine hx_seq ?_
    refine hx_seq ?_
    refine hx_region ?_
    refine WL.qq (by simp only [ev_tmp, ev_const, ev_func, set_get, Nat.reduceEqDiff, reduceIte, qv_assign, e0, e1, e2, hB1.cell, hB2.cell, hB3.cell]; rfl) ?_
    refine WL.nil ?_
    refine th_norm ?_
    refine hx_block ?_
    refine hx_loopS [7, 8, 14, 15, 16, 17, 18, 19, 20, 21, 22, 23, 24, 25] (fun k e => ∃ (i : Nat), 6 - i = k ∧ (i ≤ 6) ∧ e 8 = .int .i64 i ∧ e 7 = .int .i64 (phN [s0, s1, s2, s3, s4, s5] m i)) _ ⟨0, rfl, ?_, ?_, ?_⟩ ?_
    · omega
    · simp only [ev_tmp, ev_const, ev_func, set_get, Nat.reduceEqDiff, reduceIte, e0, e1, e2, hB1.cell, hB2.cell, hB3.cell] <;> rfl
    · simp only [ev_tmp, ev_const, ev_func, set_get, Nat.reduceEqDiff, reduceIte, e0, e1, e2, hB1.cell, hB2.cell, hB3.cell] <;> rfl
    ·
      rintro k e0L hfr0 ⟨i, rfl, hi, i8_0, i7_0⟩
      have k3_0 := hfr0 3 rfl; simp only [ev_tmp, ev_const, ev_func, set_get, Nat.reduceEqDiff, reduceIte, e0, e1, e2, hB1.cell, hB2.cell, hB3.cell] at k3_0
      have k4_0 := hfr0 4 rfl; simp only [ev_tmp, ev_const, ev_func, set_get, Nat.reduceEqDiff, reduceIte, e0, e1, e2, hB1.cell, hB2.cell, hB3.cell] at k4_0
      have k6_0 := hfr0 6 rfl; simp only [ev_tmp, ev_const, ev_func, set_get, Nat.reduceEqDiff, reduceIte, e0, e1, e2, hB1.cell, hB2.cell, hB3.cell] at k6_0
      refine hx_seq ?_
      refine hx_seq ?_
      refine hx_region ?_
      refine WL.qq (by simp only [ev_tmp, ev_const, ev_func, set_get, Nat.reduceEqDiff, reduceIte, qv_move, k3_0, k4_0, k6_0, i8_0, i7_0, hB1.cell, hB2.cell, hB3.cell]; rfl) ?_
      refine WL.qq (by simp only [ev_tmp, ev_const, ev_func, set_get, Nat.reduceEqDiff, reduceIte, qv_binOp, binv_lss, k3_0, k4_0, k6_0, i8_0, i7_0, hB1.cell, hB2.cell, hB3.cell]; rfl) ?_
      refine WL.nil ?_
      refine th_norm ?_
      refine hx_cond (by simp only [ev_tmp, ev_const, ev_func, set_get, Nat.reduceEqDiff, reduceIte, k3_0, k4_0, k6_0, i8_0, i7_0, hB1.cell, hB2.cell, hB3.cell]; rfl) (fun hct15 => ?_) (fun hct15 => ?_)
      ·
        try simp only [decide_eq_true_eq, decide_eq_false_iff_not, Bool.and_eq_true, Bool.and_eq_false_iff, Bool.or_eq_true, Bool.or_eq_false_iff, Bool.not_eq_true', Bool.not_eq_false', Bool.not_eq_true, Bool.not_eq_false] at hct15
        obtain ⟨x, hm⟩ : ∃ m, [s0, s1, s2, s3, s4, s5][i]? = some m := ⟨[s0, s1, s2, s3, s4, s5][i]'(by simp; omega), by simp⟩
        refine hx_skip ?_
        refine th_norm ?_
        refine hx_seq ?_
        refine hx_block ?_
        refine hx_seq ?_
        apply hx_draw2 Rel.same [] [] [] rfl (by decide +kernel) rfl
        refine LD.qq rfl rfl (by simp only [ev_tmp, ev_const, ev_func, set_get, Nat.reduceEqDiff, reduceIte, qv_move, k3_0, k4_0, k6_0, i8_0, i7_0, hB1.cell, hB2.cell, hB3.cell]; rfl) ?_
        refine LD.qq rfl rfl (by simp only [ev_tmp, ev_const, ev_func, set_get, Nat.reduceEqDiff, reduceIte, k3_0, k4_0, k6_0, i8_0, i7_0, hB1.cell, hB2.cell, hB3.cell, qv_indexAddr]; exact ix86 _ _ _ _ (by omega) (by omega)) ?_
        refine LD.qq rfl rfl (by simp only [ev_tmp, ev_const, ev_func, set_get, Nat.reduceEqDiff, reduceIte, k3_0, k4_0, k6_0, i8_0, i7_0, hB1.cell, hB2.cell, hB3.cell, qv_load, ld3, Int.toNat_natCast, Nat.zero_add, at6 hm]; rfl) ?_
        refine LD.qq rfl rfl (by simp only [ev_tmp, ev_const, ev_func, set_get, Nat.reduceEqDiff, reduceIte, qv_fieldAddr, fa41_1, Nat.zero_add, Nat.reduceAdd, k3_0, k4_0, k6_0, i8_0, i7_0, hB1.cell, hB2.cell, hB3.cell]; rfl) ?_
        refine LD.qq rfl rfl (by simp only [ev_tmp, ev_const, ev_func, set_get, Nat.reduceEqDiff, reduceIte, qv_load, ld3, readN, List.getElem?_toArray, List.getElem?_cons_zero, List.getElem?_cons_succ, List.map_toArray, List.map_cons, List.map_nil, Option.map_some, Option.bind_some, Nat.zero_add, Nat.reduceAdd, k3_0, k4_0, k6_0, i8_0, i7_0, hB1.cell, hB2.cell, hB3.cell]; rfl) ?_
        refine LD.qq rfl rfl (by simp only [ev_tmp, ev_const, ev_func, set_get, Nat.reduceEqDiff, reduceIte, qv_binOp, binv_leq, k3_0, k4_0, k6_0, i8_0, i7_0, hB1.cell, hB2.cell, hB3.cell]; rfl) ?_
        refine LD.nil ?_
        rintro _ rfl -
        refine WL.nil ?_
        refine th_norm ?_
        refine hx_cond (by simp only [ev_tmp, ev_const, ev_func, set_get, Nat.reduceEqDiff, reduceIte, k3_0, k4_0, k6_0, i8_0, i7_0, hB1.cell, hB2.cell, hB3.cell]; rfl) (fun hct23 => ?_) (fun hct23 => ?_)
        ·
          try simp only [decide_eq_true_eq, decide_eq_false_iff_not, Bool.and_eq_true, Bool.and_eq_false_iff, Bool.or_eq_true, Bool.or_eq_false_iff, Bool.not_eq_true', Bool.not_eq_false', Bool.not_eq_true, Bool.not_eq_false] at hct23
          refine hx_region ?_
          refine WL.qq (by simp only [ev_tmp, ev_const, ev_func, set_get, Nat.reduceEqDiff, reduceIte, qv_move, k3_0, k4_0, k6_0, i8_0, i7_0, hB1.cell, hB2.cell, hB3.cell]; rfl) ?_
          refine WL.qq (by simp only [ev_tmp, ev_const, ev_func, set_get, Nat.reduceEqDiff, reduceIte, qv_binOp, binv_add, k3_0, k4_0, k6_0, i8_0, i7_0, hB1.cell, hB2.cell, hB3.cell]; (try simp (disch := omega) only [w64, w8, wu64]); rfl) ?_
          refine WL.qq (by simp only [ev_tmp, ev_const, ev_func, set_get, Nat.reduceEqDiff, reduceIte, qv_assign, k3_0, k4_0, k6_0, i8_0, i7_0, hB1.cell, hB2.cell, hB3.cell]; rfl) ?_
          refine WL.nil ?_
          refine bl_norm ?_
          refine th_norm ?_
          refine hx_region ?_
          refine WL.qq (by simp only [ev_tmp, ev_const, ev_func, set_get, Nat.reduceEqDiff, reduceIte, qv_move, k3_0, k4_0, k6_0, i8_0, i7_0, hB1.cell, hB2.cell, hB3.cell]; rfl) ?_
          refine WL.qq (by simp only [ev_tmp, ev_const, ev_func, set_get, Nat.reduceEqDiff, reduceIte, qv_binOp, binv_add, k3_0, k4_0, k6_0, i8_0, i7_0, hB1.cell, hB2.cell, hB3.cell]; (try simp (disch := omega) only [w64, w8, wu64]); rfl) ?_
          refine WL.qq (by simp only [ev_tmp, ev_const, ev_func, set_get, Nat.reduceEqDiff, reduceIte, qv_assign, k3_0, k4_0, k6_0, i8_0, i7_0, hB1.cell, hB2.cell, hB3.cell]; rfl) ?_
          refine WL.nil ?_
          refine th_norm ?_
          refine ⟨rfl, rfl, ?_, _, ?_, i + 1, rfl, ?_, ?_, ?_⟩  -- again 0 of loop 0
          · (repeat (first | exact Fr.refl _ _ | refine Fr.set rfl ?_ | refine Fr.put rfl ?_ | refine Fr.put0 ?_))
          · omega
          · omega
          · simp only [ev_tmp, ev_const, ev_func, set_get, Nat.reduceEqDiff, reduceIte, k3_0, k4_0, k6_0, i8_0, i7_0, hB1.cell, hB2.cell, hB3.cell] <;> first | rfl | (congr 1; omega)
          · simp only [ev_tmp, ev_const, ev_func, set_get, Nat.reduceEqDiff, reduceIte, k3_0, k4_0, k6_0, i8_0, i7_0, hB1.cell, hB2.cell, hB3.cell] <;> first | rw [phN_pos hm hct23] | rw [phN_neg hm hct23]
        ·
          try simp only [decide_eq_true_eq, decide_eq_false_iff_not, Bool.and_eq_true, Bool.and_eq_false_iff, Bool.or_eq_true, Bool.or_eq_false_iff, Bool.not_eq_true', Bool.not_eq_false', Bool.not_eq_true, Bool.not_eq_false] at hct23
          refine hx_skip ?_
          refine bl_norm ?_
          refine th_norm ?_
          refine hx_region ?_
          refine WL.qq (by simp only [ev_tmp, ev_const, ev_func, set_get, Nat.reduceEqDiff, reduceIte, qv_move, k3_0, k4_0, k6_0, i8_0, i7_0, hB1.cell, hB2.cell, hB3.cell]; rfl) ?_
          refine WL.qq (by simp only [ev_tmp, ev_const, ev_func, set_get, Nat.reduceEqDiff, reduceIte, qv_binOp, binv_add, k3_0, k4_0, k6_0, i8_0, i7_0, hB1.cell, hB2.cell, hB3.cell]; (try simp (disch := omega) only [w64, w8, wu64]); rfl) ?_
          refine WL.qq (by simp only [ev_tmp, ev_const, ev_func, set_get, Nat.reduceEqDiff, reduceIte, qv_assign, k3_0, k4_0, k6_0, i8_0, i7_0, hB1.cell, hB2.cell, hB3.cell]; rfl) ?_
          refine WL.nil ?_
          refine th_norm ?_
          refine ⟨rfl, rfl, ?_, _, ?_, i + 1, rfl, ?_, ?_, ?_⟩  -- again 1 of loop 0
          · (repeat (first | exact Fr.refl _ _ | refine Fr.set rfl ?_ | refine Fr.put rfl ?_ | refine Fr.put0 ?_))
          · omega
          · omega
          · simp only [ev_tmp, ev_const, ev_func, set_get, Nat.reduceEqDiff, reduceIte, k3_0, k4_0, k6_0, i8_0, i7_0, hB1.cell, hB2.cell, hB3.cell] <;> first | rfl | (congr 1; omega)
          · simp only [ev_tmp, ev_const, ev_func, set_get, Nat.reduceEqDiff, reduceIte, k3_0, k4_0, k6_0, i8_0, i7_0, hB1.cell, hB2.cell, hB3.cell] <;> first | rw [phN_pos hm hct23] | rw [phN_neg hm hct23]
      ·
        try simp only [decide_eq_true_eq, decide_eq_false_iff_not, Bool.and_eq_true, Bool.and_eq_false_iff, Bool.or_eq_true, Bool.or_eq_false_iff, Bool.not_eq_true', Bool.not_eq_false', Bool.not_eq_true, Bool.not_eq_false] at hct15
        refine hx_exit ?_
        refine th_exit ?_
        refine th_exit ?_
        refine bl_hit ?_
        refine th_norm ?_
        refine hx_seq ?_
        refine hx_region ?_
        refine WL.qq (by simp only [ev_tmp, ev_const, ev_func, set_get, Nat.reduceEqDiff, reduceIte, qv_move, k3_0, k4_0, k6_0, i8_0, i7_0, hB1.cell, hB2.cell, hB3.cell]; rfl) ?_
        refine WL.qq (by simp only [ev_tmp, ev_const, ev_func, set_get, Nat.reduceEqDiff, reduceIte, qv_assign, k3_0, k4_0, k6_0, i8_0, i7_0, hB1.cell, hB2.cell, hB3.cell]; rfl) ?_
        refine WL.nil ?_
        refine th_norm ?_
        refine hx_ret ?_
        refine fin_ret [.tmp 6] rfl rfl (by simp only [ev_tmp, ev_const, ev_func, set_get, Nat.reduceEqDiff, reduceIte, resv, k3_0, k4_0, k6_0, i8_0, i7_0, hB1.cell, hB2.cell, hB3.cell]; rfl) ?_  -- ret 1 r9
        have h6 : i = 6 := (by omega)
        subst h6
        exact ⟨by rw [if_pos (by simpa using hct13)]; rfl, ((hx1).trans ((hx2).trans ((hx3).trans (hx4))))⟩
theorem c_to (d m : Int) (h : Heap) : HCalls Try.prog 19 #[.agg #[.int .i64 d, .int .i64 m]] h (Grow (.agg #[.int .i64 d, .int .i64 m]) h) := by
  refine hcalls2 Try.func19 rfl (by decide +kernel) (by simp only [Try.ntmps19]; exact of_decide_eq_true rfl) ?_
  intro e hin
  have e0 := hin 0 _ rfl
  have hE : Ext h h := Ext.refl h
  refine hx_seq ?_
  refine hx_region ?_
  refine WL.box2 (by simp only [ev_tmp, ev_const, ev_func, set_get, Nat.reduceEqDiff, reduceIte, Value.cells, e0]; rfl) ?_
  intro h1 B1 hx1 hlt1 hB1
  replace hE := hE.trans hx1
  refine WL.alloc2 zr41 ?_
  intro h2 B2 hx2 hlt2 hB2
  have hne1_2 : B2 ≠ B1 := by have := (Array.getElem?_eq_some_iff.1 hB1).1; omega
  have hb0_2 := Nat.le_trans hE.size hlt2
  have hB1_s2 := hB1
  replace hE := hE.trans hx2
  replace hB1 := hB1.ext hx2
  have hEo2 := hx2
  simp only [Value.cells] at hB2
  refine WL.nil ?_
  refine th_norm ?_
  refine hx_seq ?_
  refine hx_region ?_
  refine WL.qq (by simp only [ev_tmp, ev_const, ev_func, set_get, Nat.reduceEqDiff, reduceIte, qv_fieldAddr, fa29_0, Nat.zero_add, Nat.reduceAdd, e0, hB1.cell, hB2.cell]; rfl) ?_
  refine WL.qq (by simp only [ev_tmp, ev_const, ev_func, set_get, Nat.reduceEqDiff, reduceIte, qv_load, ld3, readN, List.getElem?_toArray, List.getElem?_cons_zero, List.getElem?_cons_succ, List.map_toArray, List.map_cons, List.map_nil, Option.map_some, Option.bind_some, Nat.zero_add, Nat.reduceAdd, e0, hB1.cell, hB2.cell]; rfl) ?_
  refine WL.qq (by simp only [ev_tmp, ev_const, ev_func, set_get, Nat.reduceEqDiff, reduceIte, qv_fieldAddr, fa29_1, Nat.zero_add, Nat.reduceAdd, e0, hB1.cell, hB2.cell]; rfl) ?_
  refine WL.qq (by simp only [ev_tmp, ev_const, ev_func, set_get, Nat.reduceEqDiff, reduceIte, qv_load, ld3, readN, List.getElem?_toArray, List.getElem?_cons_zero, List.getElem?_cons_succ, List.map_toArray, List.map_cons, List.map_nil, Option.map_some, Option.bind_some, Nat.zero_add, Nat.reduceAdd, e0, hB1.cell, hB2.cell]; rfl) ?_
  refine WL.qq (by refine qv_bld (by simp only [ev_tmp, ev_const, ev_func, set_get, Nat.reduceEqDiff, reduceIte, List.getElem?_toArray, List.getElem?_cons_zero, List.getElem?_cons_succ, List.map_toArray, List.map_cons, List.map_nil, Option.map_some, Option.bind_some, e0, hB1.cell, hB2.cell] <;> rfl) (by rw [bl41]; simp [Instr.fill, Value.cells]; rfl)) ?_
  refine WL.store (by simp only [ev_tmp, ev_const, ev_func, set_get, Nat.reduceEqDiff, reduceIte, e0, hB1.cell, hB2.cell] <;> rfl) sz41 (by simp only [ev_tmp, ev_const, ev_func, set_get, Nat.reduceEqDiff, reduceIte, Value.cells, e0, hB1.cell, hB2.cell] <;> rfl) rfl hB2 (by first | decide | (simp; done) | (simp; omega)) (by simp [Value.oneCell']) ?_
  intro h3 hw3
  replace hE := hw3.ext hE hb0_2
  replace hEo2 := hw3.ext hEo2 hlt2
  replace hB1 := hB1_s2.ext hEo2
  replace hB2 := hw3.at_
  try simp only [splc, List.take_succ_cons, List.take_zero, List.take_nil, List.drop_succ_cons, List.drop_zero, List.drop_nil, List.cons_append, List.nil_append, List.length_cons, List.length_nil, Nat.zero_add, Nat.add_zero, Nat.reduceAdd, List.append_nil] at hB2
  refine WL.nil ?_
  refine th_norm ?_
  refine hx_ret ?_
  refine fin_ret [.cell 2 41] rfl rfl (by simp only [ev_tmp, ev_const, ev_func, set_get, Nat.reduceEqDiff, reduceIte, resv, ld41, readN, List.getElem?_toArray, List.getElem?_cons_zero, List.getElem?_cons_succ, List.map_toArray, List.map_cons, List.map_nil, Option.map_some, Option.bind_some, Nat.zero_add, Nat.reduceAdd, e0, hB1.cell, hB2.cell]; rfl) ?_  -- ret 0 r1
  exact ⟨rfl, hE⟩
end GL


/- Schedule: what all methods ask first. -/
import Derived.Test.YtnmgdjajmmgaaaaSchA
set_option linter.unusedSimpArgs false
set_option linter.unusedVariables false
set_option linter.unnecessarySimpa false
namespace GL
open Go Go.Proofs
set_option maxRecDepth 8000
def clockOk (c : Int × Int) : Bool := validM c.1 && (decide (0 ≤ c.2) && decide (c.2 ≤ 1439))
/-- A slice of points in time. -/
def SlC (h : Heap) (a : Option Addr) (cs : List (Int × Int)) : Prop := ∀ i d m, cs[i]? = some (d, m) → ∃ b off, a = some ⟨b, off, none⟩ ∧ readN h b (off + i * 2) 2 = some [.int .i64 d, .int .i64 m]
theorem readN_ext {h h' : Heap} (hx : Ext h h') {b : Nat} : ∀ {n off : Nat} {l : List Value}, readN h b off n = some l → readN h' b off n = some l
  | 0, off, l, hl => by simpa [readN] using hl
  | n + 1, off, l, hl => by
    simp only [readN] at hl ⊢
    cases hc : GL.cell h b off with
    | none => rw [hc] at hl; simp at hl
    | some v =>
      rw [hc] at hl
      rw [hx.cell hc]
      cases hr : readN h b (off + 1) n with
      | none => rw [hr] at hl; simp at hl
      | some l2 =>
        rw [hr] at hl
        rw [readN_ext hx hr]
        exact hl
theorem SlC.ext {h h' : Heap} {a : Option Addr} {cs : List (Int × Int)} (hs : SlC h a cs) (hx : Ext h h') : SlC h' a cs := fun i d m hi => by
  obtain ⟨b, off, ha, hr⟩ := hs i d m hi
  exact ⟨b, off, ha, readN_ext hx hr⟩
def valM (s : List Int) (q : Option Addr) (cs : List (Int × Int)) : Int :=
  if chkGo (-1) s ≠ 0 then chkGo (-1) s else if q = none then 1 else if cs.all clockOk = true then 0 else 2
theorem eqq (q : Option Addr) : eqw Try.prog 30 (.pointer q) (.pointer none) = some (decide (q = none)) := by
  cases q
  · simpa using eqz30
  · simpa using eqn30 _
theorem c_validate (s0 s1 s2 s3 s4 s5 : Int) (q a : Option Addr) (cs : List (Int × Int)) (cap : Nat) {h : Heap} (hlen : cs.length ≤ 4611686018427387904) (hs : SlC h a cs) :
    HCalls Try.prog 37 #[sch s0 s1 s2 s3 s4 s5, .pointer q, .slice a cs.length cap] h (Grow (.int .i64 (valM [s0, s1, s2, s3, s4, s5] q cs)) h) := by
  refine hcalls2 Try.func37 rfl (by decide +kernel) (by simp only [Try.ntmps37]; exact of_decide_eq_true rfl) ?_
  intro e hin
  have e0 := hin 0 _ rfl
  have e1 := hin 1 _ rfl
  have e2 := hin 2 _ rfl
  generalize hck : chkGo (-1) [s0, s1, s2, s3, s4, s5] = ck
  refine hx_seq ?_
  refine hx_region ?_
  refine WL.box2 (by simp only [ev_tmp, ev_const, ev_func, set_get, Nat.reduceEqDiff, reduceIte, Value.cells, e0, e1, e2]; rfl) ?_
  intro h1 B1 hx1 hlt1 hB1
  replace hs := hs.ext hx1
  refine WL.qq (by simp only [ev_tmp, ev_const, ev_func, set_get, Nat.reduceEqDiff, reduceIte, qv_assign, e0, e1, e2, hB1.cell]; rfl) ?_
  refine WL.nil ?_
  refine th_norm ?_
  refine hx_seq ?_
  refine hx_seq ?_
  refine hx_region ?_
  refine WL.qq (by simp only [ev_tmp, ev_const, ev_func, set_get, Nat.reduceEqDiff, reduceIte, qv_load, ld24, readN, List.getElem?_toArray, List.getElem?_cons_zero, List.getElem?_cons_succ, List.map_toArray, List.map_cons, List.map_nil, Option.map_some, Option.bind_some, Nat.zero_add, Nat.reduceAdd, e0, e1, e2, hB1.cell]; rfl) ?_
  refine WL.cg Try.call16 (by simp only [ev_tmp, ev_const, ev_func, set_get, Nat.reduceEqDiff, reduceIte, List.getElem?_toArray, List.getElem?_cons_zero, List.getElem?_cons_succ, List.map_toArray, List.map_cons, List.map_nil, Option.map_some, Option.bind_some, e0, e1, e2, hB1.cell]; exact hck ▸ c_check s0 s1 s2 s3 s4 s5 _) ?_
  intro h2 hx2
  replace hs := hs.ext hx2
  replace hB1 := hB1.ext hx2
  refine WL.qq (by simp only [ev_tmp, ev_const, ev_func, set_get, Nat.reduceEqDiff, reduceIte, qv_assign, e0, e1, e2, hB1.cell]; rfl) ?_
  refine WL.nil ?_
  refine th_norm ?_
  refine hx_seq ?_
  refine hx_region ?_
  refine WL.qq (by simp only [ev_tmp, ev_const, ev_func, set_get, Nat.reduceEqDiff, reduceIte, qv_move, e0, e1, e2, hB1.cell]; rfl) ?_
  refine WL.qq (by simp only [ev_tmp, ev_const, ev_func, set_get, Nat.reduceEqDiff, reduceIte, qv_binOp, binv_neq, eq34, Option.map_some, e0, e1, e2, hB1.cell]; rfl) ?_
  refine WL.nil ?_
  refine th_norm ?_
  refine hx_cond (by simp only [ev_tmp, ev_const, ev_func, set_get, Nat.reduceEqDiff, reduceIte, e0, e1, e2, hB1.cell]; rfl) (fun hct13 => ?_) (fun hct13 => ?_)
  ·
    try simp only [decide_eq_true_eq, decide_eq_false_iff_not, Bool.and_eq_true, Bool.and_eq_false_iff, Bool.or_eq_true, Bool.or_eq_false_iff, Bool.not_eq_true', Bool.not_eq_false', Bool.not_eq_true, Bool.not_eq_false] at hct13
    refine hx_seq ?_
    refine hx_region ?_
    refine WL.qq (by simp only [ev_tmp, ev_const, ev_func, set_get, Nat.reduceEqDiff, reduceIte, qv_move, e0, e1, e2, hB1.cell]; rfl) ?_
    refine WL.qq (by simp only [ev_tmp, ev_const, ev_func, set_get, Nat.reduceEqDiff, reduceIte, qv_assign, e0, e1, e2, hB1.cell]; rfl) ?_
    refine WL.nil ?_
    refine th_norm ?_
    refine hx_ret ?_
    refine th_ret ?_
    refine fin_ret [.tmp 6] rfl rfl (by simp only [ev_tmp, ev_const, ev_func, set_get, Nat.reduceEqDiff, reduceIte, resv, e0, e1, e2, hB1.cell]; rfl) ?_  -- ret 0 r3
    exact ⟨by simp only [valM, hck]; rw [if_pos (by omega)]; rfl, ((hx1).trans (hx2))⟩
  ·
    try simp only [decide_eq_true_eq, decide_eq_false_iff_not, Bool.and_eq_true, Bool.and_eq_false_iff, Bool.or_eq_true, Bool.or_eq_false_iff, Bool.not_eq_true', Bool.not_eq_false', Bool.not_eq_true, Bool.not_eq_false] at hct13
    refine hx_skip ?_
    refine th_norm ?_
    refine hx_seq ?_
    refine hx_seq ?_
    refine hx_region ?_
    refine WL.qq (by simp only [ev_tmp, ev_const, ev_func, set_get, Nat.reduceEqDiff, reduceIte, qv_move, e0, e1, e2, hB1.cell]; rfl) ?_
    refine WL.qq (by simp only [ev_tmp, ev_const, ev_func, set_get, Nat.reduceEqDiff, reduceIte, e0, e1, e2, hB1.cell, qv_binOp, binv_eql, eqq, Option.map_some]; rfl) ?_
    refine WL.nil ?_
    refine th_norm ?_
    refine hx_cond (by simp only [ev_tmp, ev_const, ev_func, set_get, Nat.reduceEqDiff, reduceIte, e0, e1, e2, hB1.cell]; rfl) (fun hct16 => ?_) (fun hct16 => ?_)
    ·
      try simp only [decide_eq_true_eq, decide_eq_false_iff_not, Bool.and_eq_true, Bool.and_eq_false_iff, Bool.or_eq_true, Bool.or_eq_false_iff, Bool.not_eq_true', Bool.not_eq_false', Bool.not_eq_true, Bool.not_eq_false] at hct16
      refine hx_seq ?_
      refine hx_region ?_
      refine WL.qq (by simp only [ev_tmp, ev_const, ev_func, set_get, Nat.reduceEqDiff, reduceIte, qv_assign, e0, e1, e2, hB1.cell]; rfl) ?_
      refine WL.nil ?_
      refine th_norm ?_
      refine hx_ret ?_
      refine th_ret ?_
      refine fin_ret [.tmp 6] rfl rfl (by simp only [ev_tmp, ev_const, ev_func, set_get, Nat.reduceEqDiff, reduceIte, resv, e0, e1, e2, hB1.cell]; rfl) ?_  -- ret 1 r5
      exact ⟨by simp only [valM, hck]; rw [if_neg (by omega), if_pos hct16]; rfl, ((hx1).trans (hx2))⟩
    ·
      try simp only [decide_eq_true_eq, decide_eq_false_iff_not, Bool.and_eq_true, Bool.and_eq_false_iff, Bool.or_eq_true, Bool.or_eq_false_iff, Bool.not_eq_true', Bool.not_eq_false', Bool.not_eq_true, Bool.not_eq_false] at hct16
      refine hx_skip ?_
      refine th_norm ?_
      refine hx_seq ?_
      refine hx_seq ?_
      refine hx_region ?_
      refine WL.qq (by simp only [ev_tmp, ev_const, ev_func, set_get, Nat.reduceEqDiff, reduceIte, qv_move, e0, e1, e2, hB1.cell]; rfl) ?_
      refine WL.qq (by simp only [ev_tmp, ev_const, ev_func, set_get, Nat.reduceEqDiff, reduceIte, qv_len, ln84, List.getElem?_toArray, List.getElem?_cons_zero, List.getElem?_cons_succ, List.map_toArray, List.map_cons, List.map_nil, Option.map_some, Option.bind_some, e0, e1, e2, hB1.cell]; rfl) ?_
      refine WL.qq (by simp only [ev_tmp, ev_const, ev_func, set_get, Nat.reduceEqDiff, reduceIte, qv_move, e0, e1, e2, hB1.cell]; rfl) ?_
      refine WL.nil ?_
      refine th_norm ?_
      refine hx_block ?_
      refine hx_loopX [6, 9, 19, 20, 21, 22, 23, 24, 25, 26, 27, 28, 29, 30, 31, 32, 33, 34, 35, 36, 37] (fun k e => ∃ (i : Nat), cs.length - i = k ∧ (i ≤ cs.length) ∧ ((cs.take i).all clockOk = true) ∧ e 19 = .int .i64 i) _ ⟨0, rfl, ?_, ?_, ?_⟩ ?_
      · omega
      · simp
      · simp only [ev_tmp, ev_const, ev_func, set_get, Nat.reduceEqDiff, reduceIte, e0, e1, e2, hB1.cell] <;> rfl
      ·
        rintro k e0L hL0 hX0 hfr0 ⟨i, rfl, hi, hal, i19_0⟩
        replace hs := hs.ext hX0
        replace hB1 := hB1.ext hX0
        have k17_0 := hfr0 17 rfl; simp only [ev_tmp, ev_const, ev_func, set_get, Nat.reduceEqDiff, reduceIte, e0, e1, e2, hB1.cell] at k17_0
        have k18_0 := hfr0 18 rfl; simp only [ev_tmp, ev_const, ev_func, set_get, Nat.reduceEqDiff, reduceIte, e0, e1, e2, hB1.cell] at k18_0
        refine hx_seq ?_
        refine hx_region ?_
        refine WL.qq (by simp only [ev_tmp, ev_const, ev_func, set_get, Nat.reduceEqDiff, reduceIte, qv_binOp, binv_lss, k17_0, k18_0, i19_0, hB1.cell]; rfl) ?_
        refine WL.nil ?_
        refine th_norm ?_
        refine hx_seq ?_
        refine hx_cond (by simp only [ev_tmp, ev_const, ev_func, set_get, Nat.reduceEqDiff, reduceIte, k17_0, k18_0, i19_0, hB1.cell]; rfl) (fun hct20 => ?_) (fun hct20 => ?_)
        ·
          try simp only [decide_eq_true_eq, decide_eq_false_iff_not, Bool.and_eq_true, Bool.and_eq_false_iff, Bool.or_eq_true, Bool.or_eq_false_iff, Bool.not_eq_true', Bool.not_eq_false', Bool.not_eq_true, Bool.not_eq_false] at hct20
          obtain ⟨c, hc⟩ : ∃ c, cs[i]? = some c := ⟨cs[i]'(by omega), by simp⟩
          obtain ⟨d, m⟩ := c
          obtain ⟨b, off, rfl, hrd⟩ := hs i d m hc
          refine hx_skip ?_
          refine th_norm ?_
          refine hx_seq ?_
          refine hx_block ?_
          refine hx_seq ?_
          refine hx_region ?_
          refine WL.qq (by simp only [ev_tmp, ev_const, ev_func, set_get, Nat.reduceEqDiff, reduceIte, qv_indexAddr, k17_0, k18_0, i19_0, hB1.cell]; (try simp (disch := omega) only [ix84, Int.toNat_natCast]); rfl) ?_
          refine WL.qq (by simp only [ev_tmp, ev_const, ev_func, set_get, Nat.reduceEqDiff, reduceIte, k17_0, k18_0, i19_0, hB1.cell, qv_load, ld29, Int.toNat_natCast, hrd]; rfl) ?_
          refine WL.allocSt zr29 sz29 (fun u => by simp only [ev_tmp, ev_const, ev_func, set_get, Nat.reduceEqDiff, reduceIte, Value.cells, k17_0, k18_0, i19_0, hB1.cell]; rfl) ⟨rfl, rfl⟩ (by simp [Value.oneCell']) ?_
          intro h3 B3 hx3 hlt3 hB3
          replace hs := hs.ext hx3
          replace hB1 := hB1.ext hx3
          refine WL.nil ?_
          refine th_norm ?_
          refine hx_seq ?_
          refine hx_region ?_
          refine WL.qq (by simp only [ev_tmp, ev_const, ev_func, set_get, Nat.reduceEqDiff, reduceIte, qv_fieldAddr, fa29_0, Nat.zero_add, Nat.reduceAdd, k17_0, k18_0, i19_0, hB1.cell, hB3.cell]; rfl) ?_
          refine WL.qq (by simp only [ev_tmp, ev_const, ev_func, set_get, Nat.reduceEqDiff, reduceIte, qv_load, ld3, readN, List.getElem?_toArray, List.getElem?_cons_zero, List.getElem?_cons_succ, List.map_toArray, List.map_cons, List.map_nil, Option.map_some, Option.bind_some, Nat.zero_add, Nat.reduceAdd, k17_0, k18_0, i19_0, hB1.cell, hB3.cell]; rfl) ?_
          refine WL.ck Try.call48 (by simp only [ev_tmp, ev_const, ev_func, set_get, Nat.reduceEqDiff, reduceIte, List.getElem?_toArray, List.getElem?_cons_zero, List.getElem?_cons_succ, List.map_toArray, List.map_cons, List.map_nil, Option.map_some, Option.bind_some, k17_0, k18_0, i19_0, hB1.cell, hB3.cell]; exact c_valid _ _) ?_
          refine WL.qq (by simp only [ev_tmp, ev_const, ev_func, set_get, Nat.reduceEqDiff, reduceIte, qv_unOp, unv_not, k17_0, k18_0, i19_0, hB1.cell, hB3.cell]; rfl) ?_
          refine WL.qq (by simp only [ev_tmp, ev_const, ev_func, set_get, Nat.reduceEqDiff, reduceIte, qv_move, k17_0, k18_0, i19_0, hB1.cell, hB3.cell]; rfl) ?_
          refine WL.cq (gd_at (t := 27) rfl (by simp only [ev_tmp, ev_const, ev_func, set_get, Nat.reduceEqDiff, reduceIte, k17_0, k18_0, i19_0, hB1.cell, hB3.cell]; rfl)) (fun hg9_5 => by simp only [ev_tmp, ev_const, ev_func, set_get, Nat.reduceEqDiff, reduceIte, qv_fieldAddr, fa29_1, Nat.zero_add, Nat.reduceAdd, k17_0, k18_0, i19_0, hB1.cell, hB3.cell, hg9_5, Bool.false_eq_true, Bool.true_eq_false, eq_self, if_true, if_false, true_and, and_true, false_and, and_false]; rfl) ?_
          refine WL.cq (gd_at (t := 27) rfl (by simp only [ev_tmp, ev_const, ev_func, set_get, Nat.reduceEqDiff, reduceIte, k17_0, k18_0, i19_0, hB1.cell, hB3.cell]; rfl)) (fun hg9_6 => by simp only [ev_tmp, ev_const, ev_func, set_get, Nat.reduceEqDiff, reduceIte, qv_load, ld3, readN, List.getElem?_toArray, List.getElem?_cons_zero, List.getElem?_cons_succ, List.map_toArray, List.map_cons, List.map_nil, Option.map_some, Option.bind_some, Nat.zero_add, Nat.reduceAdd, k17_0, k18_0, i19_0, hB1.cell, hB3.cell, hg9_6, Bool.false_eq_true, Bool.true_eq_false, eq_self, if_true, if_false, true_and, and_true, false_and, and_false]; rfl) ?_
          refine WL.cq (gd_at (t := 27) rfl (by simp only [ev_tmp, ev_const, ev_func, set_get, Nat.reduceEqDiff, reduceIte, k17_0, k18_0, i19_0, hB1.cell, hB3.cell]; rfl)) (fun hg9_7 => by simp only [ev_tmp, ev_const, ev_func, set_get, Nat.reduceEqDiff, reduceIte, qv_binOp, binv_lss, k17_0, k18_0, i19_0, hB1.cell, hB3.cell, hg9_7, Bool.false_eq_true, Bool.true_eq_false, eq_self, if_true, if_false, true_and, and_true, false_and, and_false]; rfl) ?_
          refine WL.qq (by simp only [ev_tmp, ev_const, ev_func, set_get, Nat.reduceEqDiff, reduceIte, qv_pick, pk_and, pk_or, Bool.false_eq_true, Bool.true_eq_false, eq_self, if_true, if_false, true_and, and_true, false_and, and_false, k17_0, k18_0, i19_0, hB1.cell, hB3.cell]; rfl) ?_
          refine WL.qq (by simp only [ev_tmp, ev_const, ev_func, set_get, Nat.reduceEqDiff, reduceIte, qv_move, k17_0, k18_0, i19_0, hB1.cell, hB3.cell]; rfl) ?_
          refine WL.cq (gd_at (t := 32) rfl (by simp only [ev_tmp, ev_const, ev_func, set_get, Nat.reduceEqDiff, reduceIte, k17_0, k18_0, i19_0, hB1.cell, hB3.cell]; rfl)) (fun hg9_10 => by simp only [ev_tmp, ev_const, ev_func, set_get, Nat.reduceEqDiff, reduceIte, qv_fieldAddr, fa29_1, Nat.zero_add, Nat.reduceAdd, k17_0, k18_0, i19_0, hB1.cell, hB3.cell, hg9_10, Bool.false_eq_true, Bool.true_eq_false, eq_self, if_true, if_false, true_and, and_true, false_and, and_false]; rfl) ?_
          refine WL.cq (gd_at (t := 32) rfl (by simp only [ev_tmp, ev_const, ev_func, set_get, Nat.reduceEqDiff, reduceIte, k17_0, k18_0, i19_0, hB1.cell, hB3.cell]; rfl)) (fun hg9_11 => by simp only [ev_tmp, ev_const, ev_func, set_get, Nat.reduceEqDiff, reduceIte, qv_load, ld3, readN, List.getElem?_toArray, List.getElem?_cons_zero, List.getElem?_cons_succ, List.map_toArray, List.map_cons, List.map_nil, Option.map_some, Option.bind_some, Nat.zero_add, Nat.reduceAdd, k17_0, k18_0, i19_0, hB1.cell, hB3.cell, hg9_11, Bool.false_eq_true, Bool.true_eq_false, eq_self, if_true, if_false, true_and, and_true, false_and, and_false]; rfl) ?_
          refine WL.cq (gd_at (t := 32) rfl (by simp only [ev_tmp, ev_const, ev_func, set_get, Nat.reduceEqDiff, reduceIte, k17_0, k18_0, i19_0, hB1.cell, hB3.cell]; rfl)) (fun hg9_12 => by simp only [ev_tmp, ev_const, ev_func, set_get, Nat.reduceEqDiff, reduceIte, qv_binOp, binv_gtr, k17_0, k18_0, i19_0, hB1.cell, hB3.cell, hg9_12, Bool.false_eq_true, Bool.true_eq_false, eq_self, if_true, if_false, true_and, and_true, false_and, and_false]; rfl) ?_
          refine WL.qq (by simp only [ev_tmp, ev_const, ev_func, set_get, Nat.reduceEqDiff, reduceIte, qv_pick, pk_and, pk_or, Bool.false_eq_true, Bool.true_eq_false, eq_self, if_true, if_false, true_and, and_true, false_and, and_false, k17_0, k18_0, i19_0, hB1.cell, hB3.cell]; rfl) ?_
          refine WL.nil ?_
          refine th_norm ?_
          refine hx_cond (by simp only [ev_tmp, ev_const, ev_func, set_get, Nat.reduceEqDiff, reduceIte, k17_0, k18_0, i19_0, hB1.cell, hB3.cell]; rfl) (fun hct36 => ?_) (fun hct36 => ?_)
          ·
            try simp only [decide_eq_true_eq, decide_eq_false_iff_not, Bool.and_eq_true, Bool.and_eq_false_iff, Bool.or_eq_true, Bool.or_eq_false_iff, Bool.not_eq_true', Bool.not_eq_false', Bool.not_eq_true, Bool.not_eq_false] at hct36
            refine hx_seq ?_
            refine hx_region ?_
            refine WL.qq (by simp only [ev_tmp, ev_const, ev_func, set_get, Nat.reduceEqDiff, reduceIte, qv_assign, k17_0, k18_0, i19_0, hB1.cell, hB3.cell]; rfl) ?_
            refine WL.nil ?_
            refine th_norm ?_
            refine hx_ret ?_
            refine bl_ret ?_
            refine th_ret ?_
            refine th_ret ?_
            refine bl_ret ?_
            refine th_ret ?_
            refine fin_ret [.tmp 6] rfl rfl (by simp only [ev_tmp, ev_const, ev_func, set_get, Nat.reduceEqDiff, reduceIte, resv, k17_0, k18_0, i19_0, hB1.cell, hB3.cell]; rfl) ?_  -- ret 2 r10
            have hbad : clockOk (d, m) = false := (by simp only [clockOk]; rcases hct36 with (q | q) | q; (simp [q]); (simp [show ¬ 0 ≤ m by omega]); (simp [show ¬ m ≤ 1439 by omega]))
            have hno : cs.all clockOk ≠ true := fun hh => by { have := List.all_eq_true.1 hh (d, m) (List.mem_of_getElem? hc); rw [hbad] at this; cases this }
            exact ⟨by simp only [valM, hck]; rw [if_neg (by omega), if_neg hct16, if_neg hno]; rfl, ((hx1).trans ((hx2).trans ((hX0).trans (hx3))))⟩
          ·
            try simp only [decide_eq_true_eq, decide_eq_false_iff_not, Bool.and_eq_true, Bool.and_eq_false_iff, Bool.or_eq_true, Bool.or_eq_false_iff, Bool.not_eq_true', Bool.not_eq_false', Bool.not_eq_true, Bool.not_eq_false] at hct36
            refine hx_skip ?_
            refine bl_norm ?_
            refine th_norm ?_
            refine hx_region ?_
            refine WL.qq (by simp only [ev_tmp, ev_const, ev_func, set_get, Nat.reduceEqDiff, reduceIte, qv_binOp, binv_add, k17_0, k18_0, i19_0, hB1.cell, hB3.cell]; (try simp (disch := omega) only [w64, w8, wu64]); rfl) ?_
            refine WL.qq (by simp only [ev_tmp, ev_const, ev_func, set_get, Nat.reduceEqDiff, reduceIte, qv_move, k17_0, k18_0, i19_0, hB1.cell, hB3.cell]; rfl) ?_
            refine WL.nil ?_
            refine th_norm ?_
            refine ⟨rfl, ?_, ?_, _, ?_, i + 1, rfl, ?_, ?_, ?_⟩  -- again 0 of loop 0
            · exact hx3
            · (repeat (first | exact Fr.refl _ _ | refine Fr.set rfl ?_ | refine Fr.put rfl ?_ | refine Fr.put0 ?_))
            · omega
            · omega
            · have hk : clockOk (d, m) = true := (by simp only [clockOk, Bool.and_eq_true, decide_eq_true_eq]; exact ⟨hct36.1.1, by omega, by omega⟩); rw [List.take_add_one, hc, List.all_append, hal]; simp [hk]
            · simp only [ev_tmp, ev_const, ev_func, set_get, Nat.reduceEqDiff, reduceIte, k17_0, k18_0, i19_0, hB1.cell, hB3.cell] <;> first | rfl | (congr 1; omega)
        ·
          try simp only [decide_eq_true_eq, decide_eq_false_iff_not, Bool.and_eq_true, Bool.and_eq_false_iff, Bool.or_eq_true, Bool.or_eq_false_iff, Bool.not_eq_true', Bool.not_eq_false', Bool.not_eq_true, Bool.not_eq_false] at hct20
          refine hx_exit ?_
          refine th_exit ?_
          refine th_exit ?_
          refine bl_hit ?_
          refine th_norm ?_
          refine hx_seq ?_
          refine hx_region ?_
          refine WL.qq (by simp only [ev_tmp, ev_const, ev_func, set_get, Nat.reduceEqDiff, reduceIte, qv_assign, k17_0, k18_0, i19_0, hB1.cell]; rfl) ?_
          refine WL.nil ?_
          refine th_norm ?_
          refine hx_ret ?_
          refine fin_ret [.tmp 6] rfl rfl (by simp only [ev_tmp, ev_const, ev_func, set_get, Nat.reduceEqDiff, reduceIte, resv, k17_0, k18_0, i19_0, hB1.cell]; rfl) ?_  -- ret 3 r12
          have hil : i = cs.length := (by omega)
          rw [hil, List.take_length] at hal
          exact ⟨by simp only [valM, hck]; rw [if_neg (by omega), if_neg hct16, if_pos hal]; rfl, ((hx1).trans ((hx2).trans (hX0)))⟩
end GL


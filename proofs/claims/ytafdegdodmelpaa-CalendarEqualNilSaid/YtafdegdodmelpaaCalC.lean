/- Calendar: the reference's check of a calendar. -/
import Derived.Test.YtafdegdodmelpaaCalB
set_option linter.unusedSimpArgs false
set_option linter.unusedVariables false
set_option linter.unnecessarySimpa false
namespace GL
open Go Go.Proofs
set_option maxRecDepth 8000
theorem SlI.take {h : Heap} {a : Option Addr} {l : List Int} (hs : SlI h a l) (i : Nat) : SlI h a (l.take i) := fun j x hj => hs j x (by
  rw [List.getElem?_take] at hj
  split at hj
  · exact hj
  · cases hj)
theorem c_has_take (a : Option Addr) (cap : Nat) (l : List Int) (x : Int) (i : Nat) (hi : i ≤ l.length) {h : Heap} (hs : SlI h a l) (hlen : l.length ≤ 9223372036854775807) :
    HCalls Try.prog 38 #[.slice a i cap, .int .i64 x] h (Pure (.bool ((l.take i).contains x)) h) := by
  have := c_has a cap (l.take i) x (hs.take i) (by rw [List.length_take]; omega)
  rwa [List.length_take_of_le hi] at this
theorem all_take (p : Int → Bool) (l : List Int) (i : Nat) (y : Int) (hy : l[i]? = some y) : (l.take (i + 1)).all p = ((l.take i).all p && p y) := by
  rw [List.take_add_one, hy]
  simp [Option.toList]
theorem all_out (p : Int → Bool) (l : List Int) (i : Nat) (y : Int) (hy : l[i]? = some y) (hp : p y = false) : l.all p = false := by
  rw [Bool.eq_false_iff]
  intro h
  rw [List.all_eq_true] at h
  have := h y (List.mem_of_getElem? hy)
  rw [hp] at this
  cases this
theorem nodup_take (l : List Int) (i : Nat) (y : Int) (hy : l[i]? = some y) (hd : (l.take i).Nodup) (hc : (l.take i).contains y = false) : (l.take (i + 1)).Nodup := by
  rw [List.take_add_one, hy]
  simp only [Option.toList, List.nodup_append]
  refine ⟨hd, by simp, ?_⟩
  intro a ha b hb
  simp only [List.mem_singleton] at hb
  subst hb
  intro hab
  subst hab
  have : (l.take i).contains a = true := by simpa using ha
  rw [this] at hc
  cases hc
theorem nodup_out (l : List Int) (i : Nat) (y : Int) (hy : l[i]? = some y) (hc : (l.take i).contains y = true) : ¬ l.Nodup := by
  intro hd
  have h1 : l = l.take i ++ l.drop i := (List.take_append_drop i l).symm
  rw [h1, List.nodup_append] at hd
  have hy1 : y ∈ l.take i := by simpa using hc
  have hy2 : y ∈ l.drop i := by
    have : (l.drop i)[0]? = some y := by rw [List.getElem?_drop]; simpa using hy
    exact List.mem_of_getElem? this
  exact hd.2.2 y hy1 y hy2 rfl
def wOk (x : Int) : Bool := decide (0 ≤ x) && decide (x ≤ 6)
open Classical in
noncomputable def newM (wk hol : List Int) : Int :=
  if 4096 < hol.length then 8 else if wk.all wOk = false then 2 else if hol.all validM = false then 2 else if ¬ wk.Nodup then 7 else if ¬ hol.Nodup then 7 else if 6 < wk.length then 8 else 0
theorem c_rnew (wk hol : List Int) (a a' : Option Addr) (c c' : Nat) {h : Heap} (hw : SlI h a wk) (hh : SlI h a' hol) (lw : wk.length ≤ 9223372036854775807) (lh : hol.length ≤ 9223372036854775807) (cw : wk.length ≤ c) (ch : hol.length ≤ c') :
    HCalls Try.prog 13 #[.agg #[.slice a wk.length c, .slice a' hol.length c']] h (Grow (.int .i64 (newM wk hol)) h) := by
  refine hcalls2 Try.func13 rfl (by decide +kernel) (by simp only [Try.ntmps13]; exact of_decide_eq_true rfl) ?_
  intro e hin
  have e0 := hin 0 _ rfl
  refine hx_seq ?_
  refine hx_region ?_
  refine WL.box2 (by simp only [ev_tmp, ev_const, ev_func, set_get, Nat.reduceEqDiff, reduceIte, Value.cells, e0]; rfl) ?_
  intro h1 B1 hx1 hlt1 hB1
  replace hw := hw.ext hx1
  replace hh := hh.ext hx1
  refine WL.qq (by simp only [ev_tmp, ev_const, ev_func, set_get, Nat.reduceEqDiff, reduceIte, qv_assign, e0, hB1.cell]; rfl) ?_
  refine WL.nil ?_
  refine th_norm ?_
  refine hx_seq ?_
  refine hx_seq ?_
  refine hx_region ?_
  refine WL.qq (by simp only [ev_tmp, ev_const, ev_func, set_get, Nat.reduceEqDiff, reduceIte, qv_fieldAddr, fa24_1, Nat.zero_add, Nat.reduceAdd, e0, hB1.cell]; rfl) ?_
  refine WL.qq (by simp only [ev_tmp, ev_const, ev_func, set_get, Nat.reduceEqDiff, reduceIte, qv_load, ld22, readN, List.getElem?_toArray, List.getElem?_cons_zero, List.getElem?_cons_succ, List.map_toArray, List.map_cons, List.map_nil, Option.map_some, Option.bind_some, Nat.zero_add, Nat.reduceAdd, e0, hB1.cell]; rfl) ?_
  refine WL.qq (by simp only [ev_tmp, ev_const, ev_func, set_get, Nat.reduceEqDiff, reduceIte, qv_len, ln22, List.getElem?_toArray, List.getElem?_cons_zero, List.getElem?_cons_succ, List.map_toArray, List.map_cons, List.map_nil, Option.map_some, Option.bind_some, e0, hB1.cell]; rfl) ?_
  refine WL.qq (by simp only [ev_tmp, ev_const, ev_func, set_get, Nat.reduceEqDiff, reduceIte, qv_binOp, binv_gtr, e0, hB1.cell]; rfl) ?_
  refine WL.nil ?_
  refine th_norm ?_
  refine hx_cond (by simp only [ev_tmp, ev_const, ev_func, set_get, Nat.reduceEqDiff, reduceIte, e0, hB1.cell]; rfl) (fun hct10 => ?_) (fun hct10 => ?_)
  ·
    try simp only [decide_eq_true_eq, decide_eq_false_iff_not, Bool.and_eq_true, Bool.and_eq_false_iff, Bool.or_eq_true, Bool.or_eq_false_iff, Bool.not_eq_true', Bool.not_eq_false', Bool.not_eq_true, Bool.not_eq_false] at hct10
    refine hx_seq ?_
    refine hx_region ?_
    refine WL.qq (by simp only [ev_tmp, ev_const, ev_func, set_get, Nat.reduceEqDiff, reduceIte, qv_assign, e0, hB1.cell]; rfl) ?_
    refine WL.nil ?_
    refine th_norm ?_
    refine hx_ret ?_
    refine th_ret ?_
    refine fin_ret [.tmp 2] rfl rfl (by simp only [ev_tmp, ev_const, ev_func, set_get, Nat.reduceEqDiff, reduceIte, resv, e0, hB1.cell]; rfl) ?_  -- ret 0 r2
    exact ⟨by simp only [newM, retOf]; rw [if_pos (by omega)], hx1⟩
  ·
    try simp only [decide_eq_true_eq, decide_eq_false_iff_not, Bool.and_eq_true, Bool.and_eq_false_iff, Bool.or_eq_true, Bool.or_eq_false_iff, Bool.not_eq_true', Bool.not_eq_false', Bool.not_eq_true, Bool.not_eq_false] at hct10
    refine hx_skip ?_
    refine th_norm ?_
    refine hx_seq ?_
    refine hx_seq ?_
    refine hx_region ?_
    refine WL.qq (by simp only [ev_tmp, ev_const, ev_func, set_get, Nat.reduceEqDiff, reduceIte, qv_assign, e0, hB1.cell]; rfl) ?_
    refine WL.nil ?_
    refine th_norm ?_
    refine hx_block ?_
    refine hx_loop (fun k e ds hx => ∃ i : Nat, k = wk.length - i ∧ i ≤ wk.length ∧ (wk.take i).all wOk = true ∧ ds = [] ∧ h1 = hx ∧ e 3 = .int .i64 i ∧ e 1 = .pointer (some ⟨B1, 0, none⟩)) (wk.length) ?_ ?_
    ·
      refine ⟨0, by omega, by omega, by simp, rfl, rfl, ?_, ?_⟩ <;> simp only [set_get, Nat.reduceEqDiff, reduceIte] <;> rfl
    ·
      rintro k e ds hx ⟨i, rfl, hi, hn0, rfl, rfl, i3, i1⟩
      refine hx_seq ?_
      refine hx_seq ?_
      refine hx_region ?_
      refine WL.qq (by simp only [ev_tmp, ev_const, ev_func, set_get, Nat.reduceEqDiff, reduceIte, qv_move, e0, hB1.cell, i3, i1]; rfl) ?_
      refine WL.qq (by simp only [ev_tmp, ev_const, ev_func, set_get, Nat.reduceEqDiff, reduceIte, qv_fieldAddr, fa24_0, Nat.zero_add, Nat.reduceAdd, e0, hB1.cell, i3, i1]; rfl) ?_
      refine WL.qq (by simp only [ev_tmp, ev_const, ev_func, set_get, Nat.reduceEqDiff, reduceIte, qv_load, ld22, readN, List.getElem?_toArray, List.getElem?_cons_zero, List.getElem?_cons_succ, List.map_toArray, List.map_cons, List.map_nil, Option.map_some, Option.bind_some, Nat.zero_add, Nat.reduceAdd, e0, hB1.cell, i3, i1]; rfl) ?_
      refine WL.qq (by simp only [ev_tmp, ev_const, ev_func, set_get, Nat.reduceEqDiff, reduceIte, qv_len, ln22, List.getElem?_toArray, List.getElem?_cons_zero, List.getElem?_cons_succ, List.map_toArray, List.map_cons, List.map_nil, Option.map_some, Option.bind_some, e0, hB1.cell, i3, i1]; rfl) ?_
      refine WL.qq (by simp only [ev_tmp, ev_const, ev_func, set_get, Nat.reduceEqDiff, reduceIte, qv_binOp, binv_lss, e0, hB1.cell, i3, i1]; rfl) ?_
      refine WL.nil ?_
      refine th_norm ?_
      refine hx_cond (by simp only [ev_tmp, ev_const, ev_func, set_get, Nat.reduceEqDiff, reduceIte, e0, hB1.cell, i3, i1]; rfl) (fun hct15 => ?_) (fun hct15 => ?_)
      ·
        try simp only [decide_eq_true_eq, decide_eq_false_iff_not, Bool.and_eq_true, Bool.and_eq_false_iff, Bool.or_eq_true, Bool.or_eq_false_iff, Bool.not_eq_true', Bool.not_eq_false', Bool.not_eq_true, Bool.not_eq_false] at hct15
        obtain ⟨y, hy⟩ : ∃ y, wk[i]? = some y := ⟨wk[i]'(by omega), by simp⟩
        obtain ⟨b, off, rfl, hcell⟩ := hw i y hy
        refine hx_skip ?_
        refine th_norm ?_
        refine hx_seq ?_
        refine hx_block ?_
        refine hx_seq ?_
        refine hx_region ?_
        refine WL.qq (by simp only [ev_tmp, ev_const, ev_func, set_get, Nat.reduceEqDiff, reduceIte, qv_fieldAddr, fa24_0, Nat.zero_add, Nat.reduceAdd, e0, hB1.cell, i3, i1]; rfl) ?_
        refine WL.qq (by simp only [ev_tmp, ev_const, ev_func, set_get, Nat.reduceEqDiff, reduceIte, qv_load, ld22, readN, List.getElem?_toArray, List.getElem?_cons_zero, List.getElem?_cons_succ, List.map_toArray, List.map_cons, List.map_nil, Option.map_some, Option.bind_some, Nat.zero_add, Nat.reduceAdd, e0, hB1.cell, i3, i1]; rfl) ?_
        refine WL.qq (by simp only [ev_tmp, ev_const, ev_func, set_get, Nat.reduceEqDiff, reduceIte, qv_move, e0, hB1.cell, i3, i1]; rfl) ?_
        refine WL.qq (by simp only [ev_tmp, ev_const, ev_func, set_get, Nat.reduceEqDiff, reduceIte, qv_indexAddr, e0, hB1.cell, i3, i1]; (try simp (disch := omega) only [ix22, Int.toNat_natCast]); rfl) ?_
        refine WL.qq (by simp only [ev_tmp, ev_const, ev_func, set_get, Nat.reduceEqDiff, reduceIte, qv_load, ld3, readN, List.getElem?_toArray, List.getElem?_cons_zero, List.getElem?_cons_succ, List.map_toArray, List.map_cons, List.map_nil, Option.map_some, Option.bind_some, Nat.zero_add, Nat.reduceAdd, e0, hB1.cell, i3, i1, hcell]; rfl) ?_
        refine WL.qq (by simp only [ev_tmp, ev_const, ev_func, set_get, Nat.reduceEqDiff, reduceIte, qv_binOp, binv_lss, e0, hB1.cell, i3, i1]; rfl) ?_
        refine WL.qq (by simp only [ev_tmp, ev_const, ev_func, set_get, Nat.reduceEqDiff, reduceIte, qv_move, e0, hB1.cell, i3, i1]; rfl) ?_
        refine WL.cq (gd_at (t := 24) rfl (by simp only [ev_tmp, ev_const, ev_func, set_get, Nat.reduceEqDiff, reduceIte, e0, hB1.cell, i3, i1]; rfl)) (fun hg6_7 => by simp only [ev_tmp, ev_const, ev_func, set_get, Nat.reduceEqDiff, reduceIte, qv_fieldAddr, fa24_0, Nat.zero_add, Nat.reduceAdd, e0, hB1.cell, i3, i1, hg6_7, Bool.false_eq_true, Bool.true_eq_false, eq_self, if_true, if_false, true_and, and_true, false_and, and_false]; rfl) ?_
        refine WL.cq (gd_at (t := 24) rfl (by simp only [ev_tmp, ev_const, ev_func, set_get, Nat.reduceEqDiff, reduceIte, e0, hB1.cell, i3, i1]; rfl)) (fun hg6_8 => by simp only [ev_tmp, ev_const, ev_func, set_get, Nat.reduceEqDiff, reduceIte, qv_load, ld22, readN, List.getElem?_toArray, List.getElem?_cons_zero, List.getElem?_cons_succ, List.map_toArray, List.map_cons, List.map_nil, Option.map_some, Option.bind_some, Nat.zero_add, Nat.reduceAdd, e0, hB1.cell, i3, i1, hg6_8, Bool.false_eq_true, Bool.true_eq_false, eq_self, if_true, if_false, true_and, and_true, false_and, and_false]; rfl) ?_
        refine WL.cq (gd_at (t := 24) rfl (by simp only [ev_tmp, ev_const, ev_func, set_get, Nat.reduceEqDiff, reduceIte, e0, hB1.cell, i3, i1]; rfl)) (fun hg6_9 => by simp only [ev_tmp, ev_const, ev_func, set_get, Nat.reduceEqDiff, reduceIte, qv_move, e0, hB1.cell, i3, i1, hg6_9, Bool.false_eq_true, Bool.true_eq_false, eq_self, if_true, if_false, true_and, and_true, false_and, and_false]; rfl) ?_
        refine WL.cq (gd_at (t := 24) rfl (by simp only [ev_tmp, ev_const, ev_func, set_get, Nat.reduceEqDiff, reduceIte, e0, hB1.cell, i3, i1]; rfl)) (fun hg6_10 => by have hq0 := hg6_10; (try simp only [decide_eq_true_eq, decide_eq_false_iff_not, Bool.and_eq_true, Bool.and_eq_false_iff, Bool.or_eq_true, Bool.or_eq_false_iff, Bool.not_eq_true', Bool.not_eq_false', Bool.not_eq_true, Bool.not_eq_false] at hq0); simp only [ev_tmp, ev_const, ev_func, set_get, Nat.reduceEqDiff, reduceIte, qv_indexAddr, e0, hB1.cell, i3, i1, hg6_10, Bool.false_eq_true, Bool.true_eq_false, eq_self, if_true, if_false, true_and, and_true, false_and, and_false]; (try simp (disch := omega) only [ix22, Int.toNat_natCast]); rfl) ?_
        refine WL.cq (gd_at (t := 24) rfl (by simp only [ev_tmp, ev_const, ev_func, set_get, Nat.reduceEqDiff, reduceIte, e0, hB1.cell, i3, i1]; rfl)) (fun hg6_11 => by simp only [ev_tmp, ev_const, ev_func, set_get, Nat.reduceEqDiff, reduceIte, qv_load, ld3, readN, List.getElem?_toArray, List.getElem?_cons_zero, List.getElem?_cons_succ, List.map_toArray, List.map_cons, List.map_nil, Option.map_some, Option.bind_some, Nat.zero_add, Nat.reduceAdd, e0, hB1.cell, i3, i1, hcell, hg6_11, Bool.false_eq_true, Bool.true_eq_false, eq_self, if_true, if_false, true_and, and_true, false_and, and_false]; rfl) ?_
        refine WL.cq (gd_at (t := 24) rfl (by simp only [ev_tmp, ev_const, ev_func, set_get, Nat.reduceEqDiff, reduceIte, e0, hB1.cell, i3, i1]; rfl)) (fun hg6_12 => by simp only [ev_tmp, ev_const, ev_func, set_get, Nat.reduceEqDiff, reduceIte, qv_binOp, binv_gtr, e0, hB1.cell, i3, i1, hg6_12, Bool.false_eq_true, Bool.true_eq_false, eq_self, if_true, if_false, true_and, and_true, false_and, and_false]; rfl) ?_
        refine WL.qq (by simp only [ev_tmp, ev_const, ev_func, set_get, Nat.reduceEqDiff, reduceIte, qv_pick, pk_and, pk_or, Bool.false_eq_true, Bool.true_eq_false, eq_self, if_true, if_false, true_and, and_true, false_and, and_false, e0, hB1.cell, i3, i1]; rfl) ?_
        refine WL.nil ?_
        refine th_norm ?_
        refine hx_cond (by simp only [ev_tmp, ev_const, ev_func, set_get, Nat.reduceEqDiff, reduceIte, e0, hB1.cell, i3, i1]; rfl) (fun hct31 => ?_) (fun hct31 => ?_)
        ·
          try simp only [decide_eq_true_eq, decide_eq_false_iff_not, Bool.and_eq_true, Bool.and_eq_false_iff, Bool.or_eq_true, Bool.or_eq_false_iff, Bool.not_eq_true', Bool.not_eq_false', Bool.not_eq_true, Bool.not_eq_false] at hct31
          refine hx_seq ?_
          refine hx_region ?_
          refine WL.qq (by simp only [ev_tmp, ev_const, ev_func, set_get, Nat.reduceEqDiff, reduceIte, qv_assign, e0, hB1.cell, i3, i1]; rfl) ?_
          refine WL.nil ?_
          refine th_norm ?_
          refine hx_ret ?_
          refine bl_ret ?_
          refine th_ret ?_
          refine th_ret ?_
          refine bl_ret ?_
          refine th_ret ?_
          refine fin_ret [.tmp 2] rfl rfl (by simp only [ev_tmp, ev_const, ev_func, set_get, Nat.reduceEqDiff, reduceIte, resv, e0, hB1.cell, i3, i1]; rfl) ?_  -- ret 1 r7
          have h6 : wk.all wOk = false := all_out wOk wk i y hy (by rw [Bool.eq_false_iff]; simp only [wOk, ne_eq, Bool.and_eq_true, decide_eq_true_eq]; omega)
          exact ⟨by simp only [newM, retOf]; rw [if_neg (by omega), if_pos h6], hx1⟩
        ·
          try simp only [decide_eq_true_eq, decide_eq_false_iff_not, Bool.and_eq_true, Bool.and_eq_false_iff, Bool.or_eq_true, Bool.or_eq_false_iff, Bool.not_eq_true', Bool.not_eq_false', Bool.not_eq_true, Bool.not_eq_false] at hct31
          refine hx_skip ?_
          refine bl_norm ?_
          refine th_norm ?_
          refine hx_region ?_
          refine WL.qq (by simp only [ev_tmp, ev_const, ev_func, set_get, Nat.reduceEqDiff, reduceIte, qv_move, e0, hB1.cell, i3, i1]; rfl) ?_
          refine WL.qq (by simp only [ev_tmp, ev_const, ev_func, set_get, Nat.reduceEqDiff, reduceIte, qv_binOp, binv_add, e0, hB1.cell, i3, i1]; (try simp (disch := omega) only [w64, w8, wu64]); rfl) ?_
          refine WL.qq (by simp only [ev_tmp, ev_const, ev_func, set_get, Nat.reduceEqDiff, reduceIte, qv_assign, e0, hB1.cell, i3, i1]; rfl) ?_
          refine WL.nil ?_
          refine th_norm ?_
          refine ⟨wk.length - (i + 1), by omega, i + 1, rfl, by omega, ?_, rfl, rfl, ?_, ?_⟩ <;> first | (rw [all_take wOk wk i y hy, hn0]; simp only [wOk, Bool.true_and, Bool.and_eq_true, decide_eq_true_eq]; omega) | (simp only [set_get, Nat.reduceEqDiff, reduceIte, i3, i1] <;> rfl)
      ·
        try simp only [decide_eq_true_eq, decide_eq_false_iff_not, Bool.and_eq_true, Bool.and_eq_false_iff, Bool.or_eq_true, Bool.or_eq_false_iff, Bool.not_eq_true', Bool.not_eq_false', Bool.not_eq_true, Bool.not_eq_false] at hct15
        have hA : wk.all wOk = true := by { rw [List.take_of_length_le (by omega)] at hn0; exact hn0 }
        refine hx_exit ?_
        refine th_exit ?_
        refine th_exit ?_
        refine bl_hit ?_
        refine th_norm ?_
        refine hx_seq ?_
        refine hx_seq ?_
        refine hx_region ?_
        refine WL.qq (by simp only [ev_tmp, ev_const, ev_func, set_get, Nat.reduceEqDiff, reduceIte, qv_assign, e0, hB1.cell, i3, i1]; rfl) ?_
        refine WL.nil ?_
        refine th_norm ?_
        refine hx_block ?_
        refine hx_loop (fun k e ds hx => ∃ i : Nat, k = hol.length - i ∧ i ≤ hol.length ∧ (hol.take i).all validM = true ∧ ds = [] ∧ h1 = hx ∧ e 4 = .int .i64 i ∧ e 1 = .pointer (some ⟨B1, 0, none⟩)) (hol.length) ?_ ?_
        ·
          refine ⟨0, by omega, by omega, by simp, rfl, rfl, ?_, ?_⟩ <;> simp only [set_get, Nat.reduceEqDiff, reduceIte, i1] <;> rfl
        ·
          rintro k e ds hx ⟨i, rfl, hi, hn1, rfl, rfl, i4, i1⟩
          refine hx_seq ?_
          refine hx_seq ?_
          refine hx_region ?_
          refine WL.qq (by simp only [ev_tmp, ev_const, ev_func, set_get, Nat.reduceEqDiff, reduceIte, qv_move, e0, hB1.cell, i3, i1, i4, i1]; rfl) ?_
          refine WL.qq (by simp only [ev_tmp, ev_const, ev_func, set_get, Nat.reduceEqDiff, reduceIte, qv_fieldAddr, fa24_1, Nat.zero_add, Nat.reduceAdd, e0, hB1.cell, i3, i1, i4, i1]; rfl) ?_
          refine WL.qq (by simp only [ev_tmp, ev_const, ev_func, set_get, Nat.reduceEqDiff, reduceIte, qv_load, ld22, readN, List.getElem?_toArray, List.getElem?_cons_zero, List.getElem?_cons_succ, List.map_toArray, List.map_cons, List.map_nil, Option.map_some, Option.bind_some, Nat.zero_add, Nat.reduceAdd, e0, hB1.cell, i3, i1, i4, i1]; rfl) ?_
          refine WL.qq (by simp only [ev_tmp, ev_const, ev_func, set_get, Nat.reduceEqDiff, reduceIte, qv_len, ln22, List.getElem?_toArray, List.getElem?_cons_zero, List.getElem?_cons_succ, List.map_toArray, List.map_cons, List.map_nil, Option.map_some, Option.bind_some, e0, hB1.cell, i3, i1, i4, i1]; rfl) ?_
          refine WL.qq (by simp only [ev_tmp, ev_const, ev_func, set_get, Nat.reduceEqDiff, reduceIte, qv_binOp, binv_lss, e0, hB1.cell, i3, i1, i4, i1]; rfl) ?_
          refine WL.nil ?_
          refine th_norm ?_
          refine hx_cond (by simp only [ev_tmp, ev_const, ev_func, set_get, Nat.reduceEqDiff, reduceIte, e0, hB1.cell, i3, i1, i4, i1]; rfl) (fun hct36 => ?_) (fun hct36 => ?_)
          ·
            try simp only [decide_eq_true_eq, decide_eq_false_iff_not, Bool.and_eq_true, Bool.and_eq_false_iff, Bool.or_eq_true, Bool.or_eq_false_iff, Bool.not_eq_true', Bool.not_eq_false', Bool.not_eq_true, Bool.not_eq_false] at hct36
            obtain ⟨y, hy⟩ : ∃ y, hol[i]? = some y := ⟨hol[i]'(by omega), by simp⟩
            obtain ⟨b, off, rfl, hcell⟩ := hh i y hy
            refine hx_skip ?_
            refine th_norm ?_
            refine hx_seq ?_
            refine hx_block ?_
            refine hx_seq ?_
            refine hx_region ?_
            refine WL.qq (by simp only [ev_tmp, ev_const, ev_func, set_get, Nat.reduceEqDiff, reduceIte, qv_fieldAddr, fa24_1, Nat.zero_add, Nat.reduceAdd, e0, hB1.cell, i3, i1, i4, i1]; rfl) ?_
            refine WL.qq (by simp only [ev_tmp, ev_const, ev_func, set_get, Nat.reduceEqDiff, reduceIte, qv_load, ld22, readN, List.getElem?_toArray, List.getElem?_cons_zero, List.getElem?_cons_succ, List.map_toArray, List.map_cons, List.map_nil, Option.map_some, Option.bind_some, Nat.zero_add, Nat.reduceAdd, e0, hB1.cell, i3, i1, i4, i1]; rfl) ?_
            refine WL.qq (by simp only [ev_tmp, ev_const, ev_func, set_get, Nat.reduceEqDiff, reduceIte, qv_move, e0, hB1.cell, i3, i1, i4, i1]; rfl) ?_
            refine WL.qq (by simp only [ev_tmp, ev_const, ev_func, set_get, Nat.reduceEqDiff, reduceIte, qv_indexAddr, e0, hB1.cell, i3, i1, i4, i1]; (try simp (disch := omega) only [ix22, Int.toNat_natCast]); rfl) ?_
            refine WL.qq (by simp only [ev_tmp, ev_const, ev_func, set_get, Nat.reduceEqDiff, reduceIte, qv_load, ld3, readN, List.getElem?_toArray, List.getElem?_cons_zero, List.getElem?_cons_succ, List.map_toArray, List.map_cons, List.map_nil, Option.map_some, Option.bind_some, Nat.zero_add, Nat.reduceAdd, e0, hB1.cell, i3, i1, i4, i1, hcell]; rfl) ?_
            refine WL.ck Try.call37 (by simp only [ev_tmp, ev_const, ev_func, set_get, Nat.reduceEqDiff, reduceIte, List.getElem?_toArray, List.getElem?_cons_zero, List.getElem?_cons_succ, List.map_toArray, List.map_cons, List.map_nil, Option.map_some, Option.bind_some, e0, hB1.cell, i3, i1, i4, i1]; exact c_rvalid _ _) ?_
            refine WL.qq (by simp only [ev_tmp, ev_const, ev_func, set_get, Nat.reduceEqDiff, reduceIte, qv_unOp, unv_not, e0, hB1.cell, i3, i1, i4, i1]; rfl) ?_
            refine WL.nil ?_
            refine th_norm ?_
            refine hx_cond (by simp only [ev_tmp, ev_const, ev_func, set_get, Nat.reduceEqDiff, reduceIte, e0, hB1.cell, i3, i1, i4, i1]; rfl) (fun hct45 => ?_) (fun hct45 => ?_)
            ·
              try simp only [decide_eq_true_eq, decide_eq_false_iff_not, Bool.and_eq_true, Bool.and_eq_false_iff, Bool.or_eq_true, Bool.or_eq_false_iff, Bool.not_eq_true', Bool.not_eq_false', Bool.not_eq_true, Bool.not_eq_false] at hct45
              refine hx_seq ?_
              refine hx_region ?_
              refine WL.qq (by simp only [ev_tmp, ev_const, ev_func, set_get, Nat.reduceEqDiff, reduceIte, qv_assign, e0, hB1.cell, i3, i1, i4, i1]; rfl) ?_
              refine WL.nil ?_
              refine th_norm ?_
              refine hx_ret ?_
              refine bl_ret ?_
              refine th_ret ?_
              refine th_ret ?_
              refine bl_ret ?_
              refine th_ret ?_
              refine fin_ret [.tmp 2] rfl rfl (by simp only [ev_tmp, ev_const, ev_func, set_get, Nat.reduceEqDiff, reduceIte, resv, e0, hB1.cell, i3, i1, i4, i1]; rfl) ?_  -- ret 2 r12
              have h6 : hol.all validM = false := all_out validM hol i y hy hct45
              exact ⟨by simp only [newM, retOf]; rw [if_neg (by omega), if_neg (by simp [hA]), if_pos h6], hx1⟩
            ·
              try simp only [decide_eq_true_eq, decide_eq_false_iff_not, Bool.and_eq_true, Bool.and_eq_false_iff, Bool.or_eq_true, Bool.or_eq_false_iff, Bool.not_eq_true', Bool.not_eq_false', Bool.not_eq_true, Bool.not_eq_false] at hct45
              refine hx_skip ?_
              refine bl_norm ?_
              refine th_norm ?_
              refine hx_region ?_
              refine WL.qq (by simp only [ev_tmp, ev_const, ev_func, set_get, Nat.reduceEqDiff, reduceIte, qv_move, e0, hB1.cell, i3, i1, i4, i1]; rfl) ?_
              refine WL.qq (by simp only [ev_tmp, ev_const, ev_func, set_get, Nat.reduceEqDiff, reduceIte, qv_binOp, binv_add, e0, hB1.cell, i3, i1, i4, i1]; (try simp (disch := omega) only [w64, w8, wu64]); rfl) ?_
              refine WL.qq (by simp only [ev_tmp, ev_const, ev_func, set_get, Nat.reduceEqDiff, reduceIte, qv_assign, e0, hB1.cell, i3, i1, i4, i1]; rfl) ?_
              refine WL.nil ?_
              refine th_norm ?_
              refine ⟨hol.length - (i + 1), by omega, i + 1, rfl, by omega, ?_, rfl, rfl, ?_, ?_⟩ <;> first | (rw [all_take validM hol i y hy, hn1, hct45]; rfl) | (simp only [set_get, Nat.reduceEqDiff, reduceIte, i4, i1] <;> rfl)
          ·
            try simp only [decide_eq_true_eq, decide_eq_false_iff_not, Bool.and_eq_true, Bool.and_eq_false_iff, Bool.or_eq_true, Bool.or_eq_false_iff, Bool.not_eq_true', Bool.not_eq_false', Bool.not_eq_true, Bool.not_eq_false] at hct36
            have hB : hol.all validM = true := by { rw [List.take_of_length_le (by omega)] at hn1; exact hn1 }
            refine hx_exit ?_
            refine th_exit ?_
            refine th_exit ?_
            refine bl_hit ?_
            refine th_norm ?_
            refine hx_seq ?_
            refine hx_seq ?_
            refine hx_region ?_
            refine WL.qq (by simp only [ev_tmp, ev_const, ev_func, set_get, Nat.reduceEqDiff, reduceIte, qv_assign, e0, hB1.cell, i3, i1, i4, i1]; rfl) ?_
            refine WL.nil ?_
            refine th_norm ?_
            refine hx_block ?_
            refine hx_loop (fun k e ds hx => ∃ i : Nat, k = wk.length - i ∧ i ≤ wk.length ∧ (wk.take i).Nodup ∧ ds = [] ∧ h1 = hx ∧ e 5 = .int .i64 i ∧ e 1 = .pointer (some ⟨B1, 0, none⟩)) (wk.length) ?_ ?_
            ·
              refine ⟨0, by omega, by omega, by simp, rfl, rfl, ?_, ?_⟩ <;> simp only [set_get, Nat.reduceEqDiff, reduceIte, i1] <;> rfl
            ·
              rintro k e ds hx ⟨i, rfl, hi, hn2, rfl, rfl, i5, i1⟩
              refine hx_seq ?_
              refine hx_seq ?_
              refine hx_region ?_
              refine WL.qq (by simp only [ev_tmp, ev_const, ev_func, set_get, Nat.reduceEqDiff, reduceIte, qv_move, e0, hB1.cell, i3, i1, i4, i1, i5, i1]; rfl) ?_
              refine WL.qq (by simp only [ev_tmp, ev_const, ev_func, set_get, Nat.reduceEqDiff, reduceIte, qv_fieldAddr, fa24_0, Nat.zero_add, Nat.reduceAdd, e0, hB1.cell, i3, i1, i4, i1, i5, i1]; rfl) ?_
              refine WL.qq (by simp only [ev_tmp, ev_const, ev_func, set_get, Nat.reduceEqDiff, reduceIte, qv_load, ld22, readN, List.getElem?_toArray, List.getElem?_cons_zero, List.getElem?_cons_succ, List.map_toArray, List.map_cons, List.map_nil, Option.map_some, Option.bind_some, Nat.zero_add, Nat.reduceAdd, e0, hB1.cell, i3, i1, i4, i1, i5, i1]; rfl) ?_
              refine WL.qq (by simp only [ev_tmp, ev_const, ev_func, set_get, Nat.reduceEqDiff, reduceIte, qv_len, ln22, List.getElem?_toArray, List.getElem?_cons_zero, List.getElem?_cons_succ, List.map_toArray, List.map_cons, List.map_nil, Option.map_some, Option.bind_some, e0, hB1.cell, i3, i1, i4, i1, i5, i1]; rfl) ?_
              refine WL.qq (by simp only [ev_tmp, ev_const, ev_func, set_get, Nat.reduceEqDiff, reduceIte, qv_binOp, binv_lss, e0, hB1.cell, i3, i1, i4, i1, i5, i1]; rfl) ?_
              refine WL.nil ?_
              refine th_norm ?_
              refine hx_cond (by simp only [ev_tmp, ev_const, ev_func, set_get, Nat.reduceEqDiff, reduceIte, e0, hB1.cell, i3, i1, i4, i1, i5, i1]; rfl) (fun hct50 => ?_) (fun hct50 => ?_)
              ·
                try simp only [decide_eq_true_eq, decide_eq_false_iff_not, Bool.and_eq_true, Bool.and_eq_false_iff, Bool.or_eq_true, Bool.or_eq_false_iff, Bool.not_eq_true', Bool.not_eq_false', Bool.not_eq_true, Bool.not_eq_false] at hct50
                obtain ⟨y, hy⟩ : ∃ y, wk[i]? = some y := ⟨wk[i]'(by omega), by simp⟩
                obtain ⟨b, off, rfl, hcell⟩ := hw i y hy
                refine hx_skip ?_
                refine th_norm ?_
                refine hx_seq ?_
                refine hx_block ?_
                refine hx_seq ?_
                apply hx_draw2 Rel.same [] [9] [(9, Spec.is _)] rfl (by decide +kernel) rfl
                refine LD.qq rfl rfl (by simp only [ev_tmp, ev_const, ev_func, set_get, Nat.reduceEqDiff, reduceIte, qv_fieldAddr, fa24_0, Nat.zero_add, Nat.reduceAdd, e0, hB1.cell, i3, i1, i4, i1, i5, i1]; rfl) ?_
                refine LD.qq rfl rfl (by simp only [ev_tmp, ev_const, ev_func, set_get, Nat.reduceEqDiff, reduceIte, qv_load, ld22, readN, List.getElem?_toArray, List.getElem?_cons_zero, List.getElem?_cons_succ, List.map_toArray, List.map_cons, List.map_nil, Option.map_some, Option.bind_some, Nat.zero_add, Nat.reduceAdd, e0, hB1.cell, i3, i1, i4, i1, i5, i1]; rfl) ?_
                refine LD.qq rfl rfl (by simp only [ev_tmp, ev_const, ev_func, set_get, Nat.reduceEqDiff, reduceIte, qv_move, e0, hB1.cell, i3, i1, i4, i1, i5, i1]; rfl) ?_
                refine LD.qq rfl rfl (by simp only [ev_tmp, ev_const, ev_func, set_get, Nat.reduceEqDiff, reduceIte, qv_slice, Option.map_some, Option.map_none, e0, hB1.cell, i3, i1, i4, i1, i5, i1]; (try simp (disch := omega) only [sh22, Int.toNat_natCast]); rfl) ?_
                refine LD.qq rfl rfl (by simp only [ev_tmp, ev_const, ev_func, set_get, Nat.reduceEqDiff, reduceIte, qv_fieldAddr, fa24_0, Nat.zero_add, Nat.reduceAdd, e0, hB1.cell, i3, i1, i4, i1, i5, i1]; rfl) ?_
                refine LD.qq rfl rfl (by simp only [ev_tmp, ev_const, ev_func, set_get, Nat.reduceEqDiff, reduceIte, qv_load, ld22, readN, List.getElem?_toArray, List.getElem?_cons_zero, List.getElem?_cons_succ, List.map_toArray, List.map_cons, List.map_nil, Option.map_some, Option.bind_some, Nat.zero_add, Nat.reduceAdd, e0, hB1.cell, i3, i1, i4, i1, i5, i1]; rfl) ?_
                refine LD.qq rfl rfl (by simp only [ev_tmp, ev_const, ev_func, set_get, Nat.reduceEqDiff, reduceIte, qv_move, e0, hB1.cell, i3, i1, i4, i1, i5, i1]; rfl) ?_
                refine LD.qq rfl rfl (by simp only [ev_tmp, ev_const, ev_func, set_get, Nat.reduceEqDiff, reduceIte, qv_indexAddr, e0, hB1.cell, i3, i1, i4, i1, i5, i1]; (try simp (disch := omega) only [ix22, Int.toNat_natCast]); rfl) ?_
                refine LD.qq rfl rfl (by simp only [ev_tmp, ev_const, ev_func, set_get, Nat.reduceEqDiff, reduceIte, qv_load, ld3, readN, List.getElem?_toArray, List.getElem?_cons_zero, List.getElem?_cons_succ, List.map_toArray, List.map_cons, List.map_nil, Option.map_some, Option.bind_some, Nat.zero_add, Nat.reduceAdd, e0, hB1.cell, i3, i1, i4, i1, i5, i1, hcell]; rfl) ?_
                refine LD.ck rfl rfl Try.call38 (by intro hh hr; obtain rfl : hh = _ := hr; simp only [ev_tmp, ev_const, ev_func, set_get, Nat.reduceEqDiff, reduceIte, List.getElem?_toArray, List.getElem?_cons_zero, List.getElem?_cons_succ, List.map_toArray, List.map_cons, List.map_nil, Option.map_some, Option.bind_some, e0, hB1.cell, i3, i1, i4, i1, i5, i1]; exact c_has_take _ _ wk _ i hi hw lw) ?_
                refine LD.nil ?_
                rintro _ rfl -
                refine WL.nil ?_
                refine th_norm ?_
                refine hx_cond (by simp only [ev_tmp, ev_const, ev_func, set_get, Nat.reduceEqDiff, reduceIte, e0, hB1.cell, i3, i1, i4, i1, i5, i1]; rfl) (fun hct62 => ?_) (fun hct62 => ?_)
                ·
                  try simp only [decide_eq_true_eq, decide_eq_false_iff_not, Bool.and_eq_true, Bool.and_eq_false_iff, Bool.or_eq_true, Bool.or_eq_false_iff, Bool.not_eq_true', Bool.not_eq_false', Bool.not_eq_true, Bool.not_eq_false] at hct62
                  refine hx_seq ?_
                  refine hx_region ?_
                  refine WL.qq (by simp only [ev_tmp, ev_const, ev_func, set_get, Nat.reduceEqDiff, reduceIte, qv_assign, e0, hB1.cell, i3, i1, i4, i1, i5, i1]; rfl) ?_
                  refine WL.nil ?_
                  refine th_norm ?_
                  refine hx_ret ?_
                  refine bl_ret ?_
                  refine th_ret ?_
                  refine th_ret ?_
                  refine bl_ret ?_
                  refine th_ret ?_
                  refine fin_ret [.tmp 2] rfl rfl (by simp only [ev_tmp, ev_const, ev_func, set_get, Nat.reduceEqDiff, reduceIte, resv, e0, hB1.cell, i3, i1, i4, i1, i5, i1]; rfl) ?_  -- ret 3 r17
                  exact ⟨by simp only [newM, retOf]; rw [if_neg (by omega), if_neg (by simp [hA]), if_neg (by simp [hB]), if_pos (nodup_out wk i y hy hct62)], hx1⟩
                ·
                  try simp only [decide_eq_true_eq, decide_eq_false_iff_not, Bool.and_eq_true, Bool.and_eq_false_iff, Bool.or_eq_true, Bool.or_eq_false_iff, Bool.not_eq_true', Bool.not_eq_false', Bool.not_eq_true, Bool.not_eq_false] at hct62
                  refine hx_skip ?_
                  refine bl_norm ?_
                  refine th_norm ?_
                  refine hx_region ?_
                  refine WL.qq (by simp only [ev_tmp, ev_const, ev_func, set_get, Nat.reduceEqDiff, reduceIte, qv_move, e0, hB1.cell, i3, i1, i4, i1, i5, i1]; rfl) ?_
                  refine WL.qq (by simp only [ev_tmp, ev_const, ev_func, set_get, Nat.reduceEqDiff, reduceIte, qv_binOp, binv_add, e0, hB1.cell, i3, i1, i4, i1, i5, i1]; (try simp (disch := omega) only [w64, w8, wu64]); rfl) ?_
                  refine WL.qq (by simp only [ev_tmp, ev_const, ev_func, set_get, Nat.reduceEqDiff, reduceIte, qv_assign, e0, hB1.cell, i3, i1, i4, i1, i5, i1]; rfl) ?_
                  refine WL.nil ?_
                  refine th_norm ?_
                  refine ⟨wk.length - (i + 1), by omega, i + 1, rfl, by omega, ?_, rfl, rfl, ?_, ?_⟩ <;> first | exact nodup_take wk i y hy hn2 hct62 | (simp only [set_get, Nat.reduceEqDiff, reduceIte, i5, i1] <;> rfl)
              ·
                try simp only [decide_eq_true_eq, decide_eq_false_iff_not, Bool.and_eq_true, Bool.and_eq_false_iff, Bool.or_eq_true, Bool.or_eq_false_iff, Bool.not_eq_true', Bool.not_eq_false', Bool.not_eq_true, Bool.not_eq_false] at hct50
                have hC : wk.Nodup := by { rw [List.take_of_length_le (by omega)] at hn2; exact hn2 }
                refine hx_exit ?_
                refine th_exit ?_
                refine th_exit ?_
                refine bl_hit ?_
                refine th_norm ?_
                refine hx_seq ?_
                refine hx_seq ?_
                refine hx_region ?_
                refine WL.qq (by simp only [ev_tmp, ev_const, ev_func, set_get, Nat.reduceEqDiff, reduceIte, qv_assign, e0, hB1.cell, i3, i1, i4, i1, i5, i1]; rfl) ?_
                refine WL.nil ?_
                refine th_norm ?_
                refine hx_block ?_
                refine hx_loop (fun k e ds hx => ∃ i : Nat, k = hol.length - i ∧ i ≤ hol.length ∧ (hol.take i).Nodup ∧ ds = [] ∧ h1 = hx ∧ e 6 = .int .i64 i ∧ e 1 = .pointer (some ⟨B1, 0, none⟩)) (hol.length) ?_ ?_
                ·
                  refine ⟨0, by omega, by omega, by simp, rfl, rfl, ?_, ?_⟩ <;> simp only [set_get, Nat.reduceEqDiff, reduceIte, i1] <;> rfl
                ·
                  rintro k e ds hx ⟨i, rfl, hi, hn3, rfl, rfl, i6, i1⟩
                  refine hx_seq ?_
                  refine hx_seq ?_
                  refine hx_region ?_
                  refine WL.qq (by simp only [ev_tmp, ev_const, ev_func, set_get, Nat.reduceEqDiff, reduceIte, qv_move, e0, hB1.cell, i3, i1, i4, i1, i5, i1, i6, i1]; rfl) ?_
                  refine WL.qq (by simp only [ev_tmp, ev_const, ev_func, set_get, Nat.reduceEqDiff, reduceIte, qv_fieldAddr, fa24_1, Nat.zero_add, Nat.reduceAdd, e0, hB1.cell, i3, i1, i4, i1, i5, i1, i6, i1]; rfl) ?_
                  refine WL.qq (by simp only [ev_tmp, ev_const, ev_func, set_get, Nat.reduceEqDiff, reduceIte, qv_load, ld22, readN, List.getElem?_toArray, List.getElem?_cons_zero, List.getElem?_cons_succ, List.map_toArray, List.map_cons, List.map_nil, Option.map_some, Option.bind_some, Nat.zero_add, Nat.reduceAdd, e0, hB1.cell, i3, i1, i4, i1, i5, i1, i6, i1]; rfl) ?_
                  refine WL.qq (by simp only [ev_tmp, ev_const, ev_func, set_get, Nat.reduceEqDiff, reduceIte, qv_len, ln22, List.getElem?_toArray, List.getElem?_cons_zero, List.getElem?_cons_succ, List.map_toArray, List.map_cons, List.map_nil, Option.map_some, Option.bind_some, e0, hB1.cell, i3, i1, i4, i1, i5, i1, i6, i1]; rfl) ?_
                  refine WL.qq (by simp only [ev_tmp, ev_const, ev_func, set_get, Nat.reduceEqDiff, reduceIte, qv_binOp, binv_lss, e0, hB1.cell, i3, i1, i4, i1, i5, i1, i6, i1]; rfl) ?_
                  refine WL.nil ?_
                  refine th_norm ?_
                  refine hx_cond (by simp only [ev_tmp, ev_const, ev_func, set_get, Nat.reduceEqDiff, reduceIte, e0, hB1.cell, i3, i1, i4, i1, i5, i1, i6, i1]; rfl) (fun hct67 => ?_) (fun hct67 => ?_)
                  ·
                    try simp only [decide_eq_true_eq, decide_eq_false_iff_not, Bool.and_eq_true, Bool.and_eq_false_iff, Bool.or_eq_true, Bool.or_eq_false_iff, Bool.not_eq_true', Bool.not_eq_false', Bool.not_eq_true, Bool.not_eq_false] at hct67
                    obtain ⟨y, hy⟩ : ∃ y, hol[i]? = some y := ⟨hol[i]'(by omega), by simp⟩
                    obtain ⟨b, off, rfl, hcell⟩ := hh i y hy
                    refine hx_skip ?_
                    refine th_norm ?_
                    refine hx_seq ?_
                    refine hx_block ?_
                    refine hx_seq ?_
                    apply hx_draw2 Rel.same [] [9] [(9, Spec.is _)] rfl (by decide +kernel) rfl
                    refine LD.qq rfl rfl (by simp only [ev_tmp, ev_const, ev_func, set_get, Nat.reduceEqDiff, reduceIte, qv_fieldAddr, fa24_1, Nat.zero_add, Nat.reduceAdd, e0, hB1.cell, i3, i1, i4, i1, i5, i1, i6, i1]; rfl) ?_
                    refine LD.qq rfl rfl (by simp only [ev_tmp, ev_const, ev_func, set_get, Nat.reduceEqDiff, reduceIte, qv_load, ld22, readN, List.getElem?_toArray, List.getElem?_cons_zero, List.getElem?_cons_succ, List.map_toArray, List.map_cons, List.map_nil, Option.map_some, Option.bind_some, Nat.zero_add, Nat.reduceAdd, e0, hB1.cell, i3, i1, i4, i1, i5, i1, i6, i1]; rfl) ?_
                    refine LD.qq rfl rfl (by simp only [ev_tmp, ev_const, ev_func, set_get, Nat.reduceEqDiff, reduceIte, qv_move, e0, hB1.cell, i3, i1, i4, i1, i5, i1, i6, i1]; rfl) ?_
                    refine LD.qq rfl rfl (by simp only [ev_tmp, ev_const, ev_func, set_get, Nat.reduceEqDiff, reduceIte, qv_slice, Option.map_some, Option.map_none, e0, hB1.cell, i3, i1, i4, i1, i5, i1, i6, i1]; (try simp (disch := omega) only [sh22, Int.toNat_natCast]); rfl) ?_
                    refine LD.qq rfl rfl (by simp only [ev_tmp, ev_const, ev_func, set_get, Nat.reduceEqDiff, reduceIte, qv_fieldAddr, fa24_1, Nat.zero_add, Nat.reduceAdd, e0, hB1.cell, i3, i1, i4, i1, i5, i1, i6, i1]; rfl) ?_
                    refine LD.qq rfl rfl (by simp only [ev_tmp, ev_const, ev_func, set_get, Nat.reduceEqDiff, reduceIte, qv_load, ld22, readN, List.getElem?_toArray, List.getElem?_cons_zero, List.getElem?_cons_succ, List.map_toArray, List.map_cons, List.map_nil, Option.map_some, Option.bind_some, Nat.zero_add, Nat.reduceAdd, e0, hB1.cell, i3, i1, i4, i1, i5, i1, i6, i1]; rfl) ?_
                    refine LD.qq rfl rfl (by simp only [ev_tmp, ev_const, ev_func, set_get, Nat.reduceEqDiff, reduceIte, qv_move, e0, hB1.cell, i3, i1, i4, i1, i5, i1, i6, i1]; rfl) ?_
                    refine LD.qq rfl rfl (by simp only [ev_tmp, ev_const, ev_func, set_get, Nat.reduceEqDiff, reduceIte, qv_indexAddr, e0, hB1.cell, i3, i1, i4, i1, i5, i1, i6, i1]; (try simp (disch := omega) only [ix22, Int.toNat_natCast]); rfl) ?_
                    refine LD.qq rfl rfl (by simp only [ev_tmp, ev_const, ev_func, set_get, Nat.reduceEqDiff, reduceIte, qv_load, ld3, readN, List.getElem?_toArray, List.getElem?_cons_zero, List.getElem?_cons_succ, List.map_toArray, List.map_cons, List.map_nil, Option.map_some, Option.bind_some, Nat.zero_add, Nat.reduceAdd, e0, hB1.cell, i3, i1, i4, i1, i5, i1, i6, i1, hcell]; rfl) ?_
                    refine LD.ck rfl rfl Try.call38 (by intro hh hr; obtain rfl : hh = _ := hr; simp only [ev_tmp, ev_const, ev_func, set_get, Nat.reduceEqDiff, reduceIte, List.getElem?_toArray, List.getElem?_cons_zero, List.getElem?_cons_succ, List.map_toArray, List.map_cons, List.map_nil, Option.map_some, Option.bind_some, e0, hB1.cell, i3, i1, i4, i1, i5, i1, i6, i1]; exact c_has_take _ _ hol _ i hi hh lh) ?_
                    refine LD.nil ?_
                    rintro _ rfl -
                    refine WL.nil ?_
                    refine th_norm ?_
                    refine hx_cond (by simp only [ev_tmp, ev_const, ev_func, set_get, Nat.reduceEqDiff, reduceIte, e0, hB1.cell, i3, i1, i4, i1, i5, i1, i6, i1]; rfl) (fun hct79 => ?_) (fun hct79 => ?_)
                    ·
                      try simp only [decide_eq_true_eq, decide_eq_false_iff_not, Bool.and_eq_true, Bool.and_eq_false_iff, Bool.or_eq_true, Bool.or_eq_false_iff, Bool.not_eq_true', Bool.not_eq_false', Bool.not_eq_true, Bool.not_eq_false] at hct79
                      refine hx_seq ?_
                      refine hx_region ?_
                      refine WL.qq (by simp only [ev_tmp, ev_const, ev_func, set_get, Nat.reduceEqDiff, reduceIte, qv_assign, e0, hB1.cell, i3, i1, i4, i1, i5, i1, i6, i1]; rfl) ?_
                      refine WL.nil ?_
                      refine th_norm ?_
                      refine hx_ret ?_
                      refine bl_ret ?_
                      refine th_ret ?_
                      refine th_ret ?_
                      refine bl_ret ?_
                      refine th_ret ?_
                      refine fin_ret [.tmp 2] rfl rfl (by simp only [ev_tmp, ev_const, ev_func, set_get, Nat.reduceEqDiff, reduceIte, resv, e0, hB1.cell, i3, i1, i4, i1, i5, i1, i6, i1]; rfl) ?_  -- ret 4 r22
                      exact ⟨by simp only [newM, retOf]; rw [if_neg (by omega), if_neg (by simp [hA]), if_neg (by simp [hB]), if_neg (by simpa using hC), if_pos (nodup_out hol i y hy hct79)], hx1⟩
                    ·
                      try simp only [decide_eq_true_eq, decide_eq_false_iff_not, Bool.and_eq_true, Bool.and_eq_false_iff, Bool.or_eq_true, Bool.or_eq_false_iff, Bool.not_eq_true', Bool.not_eq_false', Bool.not_eq_true, Bool.not_eq_false] at hct79
                      refine hx_skip ?_
                      refine bl_norm ?_
                      refine th_norm ?_
                      refine hx_region ?_
                      refine WL.qq (by simp only [ev_tmp, ev_const, ev_func, set_get, Nat.reduceEqDiff, reduceIte, qv_move, e0, hB1.cell, i3, i1, i4, i1, i5, i1, i6, i1]; rfl) ?_
                      refine WL.qq (by simp only [ev_tmp, ev_const, ev_func, set_get, Nat.reduceEqDiff, reduceIte, qv_binOp, binv_add, e0, hB1.cell, i3, i1, i4, i1, i5, i1, i6, i1]; (try simp (disch := omega) only [w64, w8, wu64]); rfl) ?_
                      refine WL.qq (by simp only [ev_tmp, ev_const, ev_func, set_get, Nat.reduceEqDiff, reduceIte, qv_assign, e0, hB1.cell, i3, i1, i4, i1, i5, i1, i6, i1]; rfl) ?_
                      refine WL.nil ?_
                      refine th_norm ?_
                      refine ⟨hol.length - (i + 1), by omega, i + 1, rfl, by omega, ?_, rfl, rfl, ?_, ?_⟩ <;> first | exact nodup_take hol i y hy hn3 hct79 | (simp only [set_get, Nat.reduceEqDiff, reduceIte, i6, i1] <;> rfl)
                  ·
                    try simp only [decide_eq_true_eq, decide_eq_false_iff_not, Bool.and_eq_true, Bool.and_eq_false_iff, Bool.or_eq_true, Bool.or_eq_false_iff, Bool.not_eq_true', Bool.not_eq_false', Bool.not_eq_true, Bool.not_eq_false] at hct67
                    have hD : hol.Nodup := by { rw [List.take_of_length_le (by omega)] at hn3; exact hn3 }
                    refine hx_exit ?_
                    refine th_exit ?_
                    refine th_exit ?_
                    refine bl_hit ?_
                    refine th_norm ?_
                    refine hx_seq ?_
                    refine hx_seq ?_
                    refine hx_region ?_
                    refine WL.qq (by simp only [ev_tmp, ev_const, ev_func, set_get, Nat.reduceEqDiff, reduceIte, qv_fieldAddr, fa24_0, Nat.zero_add, Nat.reduceAdd, e0, hB1.cell, i3, i1, i4, i1, i5, i1, i6, i1]; rfl) ?_
                    refine WL.qq (by simp only [ev_tmp, ev_const, ev_func, set_get, Nat.reduceEqDiff, reduceIte, qv_load, ld22, readN, List.getElem?_toArray, List.getElem?_cons_zero, List.getElem?_cons_succ, List.map_toArray, List.map_cons, List.map_nil, Option.map_some, Option.bind_some, Nat.zero_add, Nat.reduceAdd, e0, hB1.cell, i3, i1, i4, i1, i5, i1, i6, i1]; rfl) ?_
                    refine WL.qq (by simp only [ev_tmp, ev_const, ev_func, set_get, Nat.reduceEqDiff, reduceIte, qv_len, ln22, List.getElem?_toArray, List.getElem?_cons_zero, List.getElem?_cons_succ, List.map_toArray, List.map_cons, List.map_nil, Option.map_some, Option.bind_some, e0, hB1.cell, i3, i1, i4, i1, i5, i1, i6, i1]; rfl) ?_
                    refine WL.qq (by simp only [ev_tmp, ev_const, ev_func, set_get, Nat.reduceEqDiff, reduceIte, qv_binOp, binv_gtr, e0, hB1.cell, i3, i1, i4, i1, i5, i1, i6, i1]; rfl) ?_
                    refine WL.nil ?_
                    refine th_norm ?_
                    refine hx_cond (by simp only [ev_tmp, ev_const, ev_func, set_get, Nat.reduceEqDiff, reduceIte, e0, hB1.cell, i3, i1, i4, i1, i5, i1, i6, i1]; rfl) (fun hct83 => ?_) (fun hct83 => ?_)
                    ·
                      try simp only [decide_eq_true_eq, decide_eq_false_iff_not, Bool.and_eq_true, Bool.and_eq_false_iff, Bool.or_eq_true, Bool.or_eq_false_iff, Bool.not_eq_true', Bool.not_eq_false', Bool.not_eq_true, Bool.not_eq_false] at hct83
                      refine hx_seq ?_
                      refine hx_region ?_
                      refine WL.qq (by simp only [ev_tmp, ev_const, ev_func, set_get, Nat.reduceEqDiff, reduceIte, qv_assign, e0, hB1.cell, i3, i1, i4, i1, i5, i1, i6, i1]; rfl) ?_
                      refine WL.nil ?_
                      refine th_norm ?_
                      refine hx_ret ?_
                      refine th_ret ?_
                      refine fin_ret [.tmp 2] rfl rfl (by simp only [ev_tmp, ev_const, ev_func, set_get, Nat.reduceEqDiff, reduceIte, resv, e0, hB1.cell, i3, i1, i4, i1, i5, i1, i6, i1]; rfl) ?_  -- ret 5 r24
                      exact ⟨by simp only [newM, retOf]; rw [if_neg (by omega), if_neg (by simp [hA]), if_neg (by simp [hB]), if_neg (by simpa using hC), if_neg (by simpa using hD), if_pos (by omega)], hx1⟩
                    ·
                      try simp only [decide_eq_true_eq, decide_eq_false_iff_not, Bool.and_eq_true, Bool.and_eq_false_iff, Bool.or_eq_true, Bool.or_eq_false_iff, Bool.not_eq_true', Bool.not_eq_false', Bool.not_eq_true, Bool.not_eq_false] at hct83
                      refine hx_skip ?_
                      refine th_norm ?_
                      refine hx_seq ?_
                      refine hx_region ?_
                      refine WL.qq (by simp only [ev_tmp, ev_const, ev_func, set_get, Nat.reduceEqDiff, reduceIte, qv_assign, e0, hB1.cell, i3, i1, i4, i1, i5, i1, i6, i1]; rfl) ?_
                      refine WL.nil ?_
                      refine th_norm ?_
                      refine hx_ret ?_
                      refine fin_ret [.tmp 2] rfl rfl (by simp only [ev_tmp, ev_const, ev_func, set_get, Nat.reduceEqDiff, reduceIte, resv, e0, hB1.cell, i3, i1, i4, i1, i5, i1, i6, i1]; rfl) ?_  -- ret 6 r25
                      exact ⟨by simp only [newM, retOf]; rw [if_neg (by omega), if_neg (by simp [hA]), if_neg (by simp [hB]), if_neg (by simpa using hC), if_neg (by simpa using hD), if_neg (by omega)], hx1⟩
end GL


/- Calendar: Weekend, Holidays, Rising. -/
import Derived.Test.YtafdegdodmelpaaCalQ
import Derived.Test.YtafdegdodmelpaaCalJ
import Derived.Test.YtafdegdodmelpaaGl17
set_option linter.unusedSimpArgs false
set_option linter.unusedVariables false
set_option linter.unnecessarySimpa false
namespace GL
open Go Go.Proofs
set_option maxRecDepth 8000
/-- The days of the week that a calendar has free. -/
def wkList (wk : List Int) (n : Nat) : List Int := ((List.range n).map fun i : Nat => (i : Int)).filter fun d => wk.contains d
theorem wkList_succ (wk : List Int) (n : Nat) : wkList wk (n + 1) = wkList wk n ++ (if wk.contains (n : Int) then [(n : Int)] else []) := by
  unfold wkList
  rw [List.range_succ, List.map_append, List.filter_append]
  congr 1
  simp only [List.map_cons, List.map_nil, List.filter_cons, List.filter_nil]
theorem wkList_len (wk : List Int) (n : Nat) : (wkList wk n).length ≤ n := by
  unfold wkList
  exact Nat.le_trans (List.length_filter_le _ _) (by simp)
theorem wk_at (wk : List Int) (i : Nat) (h : i < 7) :
    (#[.bool (wk.contains 0), .bool (wk.contains 1), .bool (wk.contains 2), .bool (wk.contains 3), .bool (wk.contains 4), .bool (wk.contains 5), .bool (wk.contains 6)] : Array Value)[i]? = some (.bool (wk.contains (i : Int))) := by
  have : i = 0 ∨ i = 1 ∨ i = 2 ∨ i = 3 ∨ i = 4 ∨ i = 5 ∨ i = 6 := by omega
  rcases this with rfl | rfl | rfl | rfl | rfl | rfl | rfl <;> rfl
theorem c_weekend (p : Nat) (wk hs : List Int) {h : Heap} (hc : IsCal h p wk hs) :
    HCalls Try.prog 24 #[.pointer (some ⟨p, 0, none⟩)] h fun v h' => Ext h h' ∧ Own h' h.size 3 1 v (wkList wk 7).length ((wkList wk 7).map (Value.int .i64)) := by
  obtain ⟨⟨a, c, hp, hsl, hcap⟩, ho, hsm⟩ := hc
  refine hcalls2 Try.func24 rfl (by decide +kernel) (by simp only [Try.ntmps24]; exact of_decide_eq_true rfl) ?_
  intro e hin
  have e0 := hin 0 _ rfl
  refine hx_seq ?_
  refine hx_region ?_
  refine WL.qq (by simp only [ev_tmp, ev_const, ev_func, set_get, Nat.reduceEqDiff, reduceIte, qv_assign, e0, hp.cell]; rfl) ?_
  refine WL.nil ?_
  refine th_norm ?_
  refine hx_seq ?_
  refine hx_seq ?_
  refine hx_region ?_
  refine WL.qq (by simp only [ev_tmp, ev_const, ev_func, set_get, Nat.reduceEqDiff, reduceIte, qv_move, e0, hp.cell]; rfl) ?_
  refine WL.qq (by simp only [ev_tmp, ev_const, ev_func, set_get, Nat.reduceEqDiff, reduceIte, qv_binOp, binv_eql, eqz27, eqn27, eqm27, Option.map_some, e0, hp.cell]; rfl) ?_
  refine WL.nil ?_
  refine th_norm ?_
  refine hx_cond (by simp only [ev_tmp, ev_const, ev_func, set_get, Nat.reduceEqDiff, reduceIte, e0, hp.cell]; rfl) (fun hct7 => ?_) (fun hct7 => ?_)
  ·
    cases hct7
  ·
    try simp only [decide_eq_true_eq, decide_eq_false_iff_not, Bool.and_eq_true, Bool.and_eq_false_iff, Bool.or_eq_true, Bool.or_eq_false_iff, Bool.not_eq_true', Bool.not_eq_false', Bool.not_eq_true, Bool.not_eq_false] at hct7
    refine hx_skip ?_
    refine th_norm ?_
    refine hx_seq ?_
    refine hx_region ?_
    refine WL.qq (by simp only [ev_tmp, ev_const, ev_func, set_get, Nat.reduceEqDiff, reduceIte, qv_assign, e0, hp.cell]; rfl) ?_
    refine WL.nil ?_
    refine th_norm ?_
    refine hx_seq ?_
    refine hx_seq ?_
    refine hx_region ?_
    refine WL.qq (by simp only [ev_tmp, ev_const, ev_func, set_get, Nat.reduceEqDiff, reduceIte, qv_move, e0, hp.cell]; rfl) ?_
    refine WL.qq (by simp only [ev_tmp, ev_const, ev_func, set_get, Nat.reduceEqDiff, reduceIte, qv_nilCheck, e0, hp.cell]; rfl) ?_
    refine WL.qq (by simp only [ev_tmp, ev_const, ev_func, set_get, Nat.reduceEqDiff, reduceIte, qv_fieldAddr, fa62_0, Nat.zero_add, Nat.reduceAdd, e0, hp.cell]; rfl) ?_
    refine WL.qq (by simp only [ev_tmp, ev_const, ev_func, set_get, Nat.reduceEqDiff, reduceIte, e0, hp.cell, qv_load, ld60, readN, hp.cell, List.getElem?_toArray, List.getElem?_cons_zero, List.getElem?_cons_succ, Nat.zero_add, Nat.reduceAdd]; rfl) ?_
    refine WL.qq (by simp only [ev_tmp, ev_const, ev_func, set_get, Nat.reduceEqDiff, reduceIte, qv_move, e0, hp.cell]; rfl) ?_
    refine WL.nil ?_
    refine th_norm ?_
    refine hx_block ?_
    refine hx_loopG [3, 4, 5, 12, 13, 14, 15, 16, 17, 18, 19, 20, 21] (fun k e hL0 => ∃ (i : Nat) (v : Value), 7 - i = k ∧ (i ≤ 7) ∧ (Ext h hL0) ∧ (Own hL0 h.size 3 1 v (wkList wk i).length ((wkList wk i).map (Value.int .i64))) ∧ e 12 = .int .i64 i ∧ e 3 = v) _ ⟨0, .slice none 0 0, rfl, ?_, ?_, ?_, ?_, ?_⟩ ?_
    · omega
    · exact Ext.refl _
    · exact (Own.nil : Own h h.size 3 1 (.slice none 0 0) 0 [])
    · simp only [ev_tmp, ev_const, ev_func, set_get, Nat.reduceEqDiff, reduceIte, e0, hp.cell] <;> rfl
    · simp only [ev_tmp, ev_const, ev_func, set_get, Nat.reduceEqDiff, reduceIte, e0, hp.cell] <;> rfl
    ·
      rintro k e0L hL0 hfr0 ⟨i, v, rfl, hi, hEv, hv, i12_0, i3_0⟩
      have k2_0 := hfr0 2 rfl; simp only [ev_tmp, ev_const, ev_func, set_get, Nat.reduceEqDiff, reduceIte, e0, hp.cell] at k2_0
      have k11_0 := hfr0 11 rfl; simp only [ev_tmp, ev_const, ev_func, set_get, Nat.reduceEqDiff, reduceIte, e0, hp.cell] at k11_0
      refine hx_seq ?_
      refine hx_region ?_
      refine WL.qq (by simp only [ev_tmp, ev_const, ev_func, set_get, Nat.reduceEqDiff, reduceIte, qv_binOp, binv_lss, k2_0, k11_0, i12_0, i3_0, hp.cell]; rfl) ?_
      refine WL.nil ?_
      refine th_norm ?_
      refine hx_seq ?_
      refine hx_cond (by simp only [ev_tmp, ev_const, ev_func, set_get, Nat.reduceEqDiff, reduceIte, k2_0, k11_0, i12_0, i3_0, hp.cell]; rfl) (fun hct13 => ?_) (fun hct13 => ?_)
      ·
        try simp only [decide_eq_true_eq, decide_eq_false_iff_not, Bool.and_eq_true, Bool.and_eq_false_iff, Bool.or_eq_true, Bool.or_eq_false_iff, Bool.not_eq_true', Bool.not_eq_false', Bool.not_eq_true, Bool.not_eq_false] at hct13
        refine hx_skip ?_
        refine th_norm ?_
        refine hx_seq ?_
        refine hx_block ?_
        refine hx_seq ?_
        refine hx_region ?_
        refine WL.qq (by simp only [ev_tmp, ev_const, ev_func, set_get, Nat.reduceEqDiff, reduceIte, qv_move, k2_0, k11_0, i12_0, i3_0, hp.cell]; rfl) ?_
        refine WL.qq (by simp only [ev_tmp, ev_const, ev_func, set_get, Nat.reduceEqDiff, reduceIte, k2_0, k11_0, i12_0, i3_0, hp.cell, qv_index]; rw [el60 _ _ _ (by omega) (by omega), Int.toNat_natCast]; exact (pt4 _ _).trans (wk_at wk i (by omega))) ?_
        refine WL.qq (by simp only [ev_tmp, ev_const, ev_func, set_get, Nat.reduceEqDiff, reduceIte, qv_assign, k2_0, k11_0, i12_0, i3_0, hp.cell]; rfl) ?_
        refine WL.qq (by simp only [ev_tmp, ev_const, ev_func, set_get, Nat.reduceEqDiff, reduceIte, qv_assign, k2_0, k11_0, i12_0, i3_0, hp.cell]; rfl) ?_
        refine WL.nil ?_
        refine th_norm ?_
        refine hx_seq ?_
        refine hx_region ?_
        refine WL.qq (by simp only [ev_tmp, ev_const, ev_func, set_get, Nat.reduceEqDiff, reduceIte, qv_move, k2_0, k11_0, i12_0, i3_0, hp.cell]; rfl) ?_
        refine WL.nil ?_
        refine th_norm ?_
        refine hx_cond (by simp only [ev_tmp, ev_const, ev_func, set_get, Nat.reduceEqDiff, reduceIte, k2_0, k11_0, i12_0, i3_0, hp.cell]; rfl) (fun hct16 => ?_) (fun hct16 => ?_)
        ·
          try simp only [decide_eq_true_eq, decide_eq_false_iff_not, Bool.and_eq_true, Bool.and_eq_false_iff, Bool.or_eq_true, Bool.or_eq_false_iff, Bool.not_eq_true', Bool.not_eq_false', Bool.not_eq_true, Bool.not_eq_false] at hct16
          refine hx_region ?_
          refine WL.qq (by simp only [ev_tmp, ev_const, ev_func, set_get, Nat.reduceEqDiff, reduceIte, qv_move, k2_0, k11_0, i12_0, i3_0, hp.cell]; rfl) ?_
          refine WL.qq (by simp only [ev_tmp, ev_const, ev_func, set_get, Nat.reduceEqDiff, reduceIte, qv_move, k2_0, k11_0, i12_0, i3_0, hp.cell]; rfl) ?_
          have hlw := wkList_len wk i
          refine WL.pushI Try.underlying22 (inf_of Try.type3) rfl rfl rfl rfl sz3 zr3 (fun u => by simp only [ev_tmp, ev_const, ev_func, set_get, Nat.reduceEqDiff, reduceIte, k2_0, k11_0, i12_0, i3_0, hp.cell]) hv (by simp only [ev_tmp, ev_const, ev_func, set_get, Nat.reduceEqDiff, reduceIte, k2_0, k11_0, i12_0, i3_0, hp.cell] <;> rfl) (by omega) hEv.size ?_
          intro h4 v4 B4 ho4 hg4 hp4 hn4
          have hE4 := hg4.ext hEv (fun c hc => (hv.block c hc).1)
          skip
          refine WL.qq (by simp only [ev_tmp, ev_const, ev_func, set_get, Nat.reduceEqDiff, reduceIte, qv_assign, k2_0, k11_0, i12_0, i3_0, hp.cell]; rfl) ?_
          refine WL.nil ?_
          refine bl_norm ?_
          refine th_norm ?_
          refine hx_region ?_
          refine WL.qq (by simp only [ev_tmp, ev_const, ev_func, set_get, Nat.reduceEqDiff, reduceIte, qv_binOp, binv_add, k2_0, k11_0, i12_0, i3_0, hp.cell]; (try simp (disch := omega) only [w64, w8, wu64]); rfl) ?_
          refine WL.qq (by simp only [ev_tmp, ev_const, ev_func, set_get, Nat.reduceEqDiff, reduceIte, qv_move, k2_0, k11_0, i12_0, i3_0, hp.cell]; rfl) ?_
          refine WL.nil ?_
          refine th_norm ?_
          refine ⟨rfl, ?_, _, ?_, i + 1, v4, rfl, ?_, ?_, ?_, ?_, ?_⟩  -- again 0 of loop 0
          · (repeat (first | exact Fr.refl _ _ | refine Fr.set rfl ?_ | refine Fr.put rfl ?_ | refine Fr.put0 ?_))
          · omega
          · omega
          · exact hE4
          · rw [wkList_succ, if_pos hct16]; exact ho4
          · simp only [ev_tmp, ev_const, ev_func, set_get, Nat.reduceEqDiff, reduceIte, k2_0, k11_0, i12_0, i3_0, hp.cell] <;> first | rfl | (congr 1; omega)
          · simp only [ev_tmp, ev_const, ev_func, set_get, Nat.reduceEqDiff, reduceIte, k2_0, k11_0, i12_0, i3_0, hp.cell] <;> first | rfl | (congr 1; omega)
        ·
          try simp only [decide_eq_true_eq, decide_eq_false_iff_not, Bool.and_eq_true, Bool.and_eq_false_iff, Bool.or_eq_true, Bool.or_eq_false_iff, Bool.not_eq_true', Bool.not_eq_false', Bool.not_eq_true, Bool.not_eq_false] at hct16
          refine hx_skip ?_
          refine bl_norm ?_
          refine th_norm ?_
          refine hx_region ?_
          refine WL.qq (by simp only [ev_tmp, ev_const, ev_func, set_get, Nat.reduceEqDiff, reduceIte, qv_binOp, binv_add, k2_0, k11_0, i12_0, i3_0, hp.cell]; (try simp (disch := omega) only [w64, w8, wu64]); rfl) ?_
          refine WL.qq (by simp only [ev_tmp, ev_const, ev_func, set_get, Nat.reduceEqDiff, reduceIte, qv_move, k2_0, k11_0, i12_0, i3_0, hp.cell]; rfl) ?_
          refine WL.nil ?_
          refine th_norm ?_
          refine ⟨rfl, ?_, _, ?_, i + 1, v, rfl, ?_, ?_, ?_, ?_, ?_⟩  -- again 1 of loop 0
          · (repeat (first | exact Fr.refl _ _ | refine Fr.set rfl ?_ | refine Fr.put rfl ?_ | refine Fr.put0 ?_))
          · omega
          · omega
          · exact hEv
          · rw [wkList_succ, if_neg (by rw [hct16]; simp), List.append_nil]; exact hv
          · simp only [ev_tmp, ev_const, ev_func, set_get, Nat.reduceEqDiff, reduceIte, k2_0, k11_0, i12_0, i3_0, hp.cell] <;> first | rfl | (congr 1; omega)
          · simp only [ev_tmp, ev_const, ev_func, set_get, Nat.reduceEqDiff, reduceIte, k2_0, k11_0, i12_0, i3_0, hp.cell] <;> first | rfl | (congr 1; omega)
      ·
        try simp only [decide_eq_true_eq, decide_eq_false_iff_not, Bool.and_eq_true, Bool.and_eq_false_iff, Bool.or_eq_true, Bool.or_eq_false_iff, Bool.not_eq_true', Bool.not_eq_false', Bool.not_eq_true, Bool.not_eq_false] at hct13
        refine hx_exit ?_
        refine th_exit ?_
        refine th_exit ?_
        refine bl_hit ?_
        refine th_norm ?_
        refine hx_seq ?_
        refine hx_region ?_
        refine WL.qq (by simp only [ev_tmp, ev_const, ev_func, set_get, Nat.reduceEqDiff, reduceIte, qv_move, k2_0, k11_0, i12_0, i3_0, hp.cell]; rfl) ?_
        refine WL.qq (by simp only [ev_tmp, ev_const, ev_func, set_get, Nat.reduceEqDiff, reduceIte, qv_assign, k2_0, k11_0, i12_0, i3_0, hp.cell]; rfl) ?_
        refine WL.nil ?_
        refine th_norm ?_
        refine hx_ret ?_
        refine fin_ret [.tmp 2] rfl rfl (by simp only [ev_tmp, ev_const, ev_func, set_get, Nat.reduceEqDiff, reduceIte, resv, k2_0, k11_0, i12_0, i3_0, hp.cell]; rfl) ?_  -- ret 0 r10
        have h7 : i = 7 := (by omega)
        subst h7
        exact ⟨hEv, hv⟩
theorem c_clone2 (a : Option Addr) (cap : Nat) (l : List Int) (hlen : l.length ≤ 1099511627776) {h : Heap} (hs : SlI h a l) :
    HCalls Try.prog 45 #[.slice a l.length cap] h fun v h' => Ext h h' ∧ Own h' h.size 3 1 v l.length (l.map (Value.int .i64)) := by
  cases a with
  | none =>
    obtain rfl := hs.emp
    refine hcalls2 Try.func45 rfl (by decide +kernel) (by simp only [Try.ntmps45]; exact of_decide_eq_true rfl) ?_
    intro e hin
    have e0 := hin 0 _ rfl
    refine hx_seq ?_
    refine hx_region ?_
    refine WL.qq (by simp only [ev_tmp, ev_const, ev_func, set_get, Nat.reduceEqDiff, reduceIte, qv_assign, e0]; rfl) ?_
    refine WL.nil ?_
    refine th_norm ?_
    refine hx_seq ?_
    refine hx_seq ?_
    refine hx_region ?_
    refine WL.qq (by simp only [ev_tmp, ev_const, ev_func, set_get, Nat.reduceEqDiff, reduceIte, qv_move, e0]; rfl) ?_
    refine WL.qq (by simp only [ev_tmp, ev_const, ev_func, set_get, Nat.reduceEqDiff, reduceIte, e0, qv_binOp, binv_eql, eqz22, Option.map_some]; rfl) ?_
    refine WL.nil ?_
    refine th_norm ?_
    refine hx_cond (by simp only [ev_tmp, ev_const, ev_func, set_get, Nat.reduceEqDiff, reduceIte, e0]; rfl) (fun hct4 => ?_) (fun hct4 => ?_)
    ·
      try simp only [decide_eq_true_eq, decide_eq_false_iff_not, Bool.and_eq_true, Bool.and_eq_false_iff, Bool.or_eq_true, Bool.or_eq_false_iff, Bool.not_eq_true', Bool.not_eq_false', Bool.not_eq_true, Bool.not_eq_false] at hct4
      refine hx_seq ?_
      refine hx_region ?_
      refine WL.qq (by simp only [ev_tmp, ev_const, ev_func, set_get, Nat.reduceEqDiff, reduceIte, qv_assign, e0]; rfl) ?_
      refine WL.nil ?_
      refine th_norm ?_
      refine hx_ret ?_
      refine th_ret ?_
      refine fin_ret [.tmp 2] rfl rfl (by simp only [ev_tmp, ev_const, ev_func, set_get, Nat.reduceEqDiff, reduceIte, resv, e0]; rfl) ?_  -- ret 0 r2
      exact ⟨Ext.refl _, Own.nil⟩
    ·
      cases hct4
  | some ad =>
    refine hcalls2 Try.func45 rfl (by decide +kernel) (by simp only [Try.ntmps45]; exact of_decide_eq_true rfl) ?_
    intro e hin
    have e0 := hin 0 _ rfl
    refine hx_seq ?_
    refine hx_region ?_
    refine WL.qq (by simp only [ev_tmp, ev_const, ev_func, set_get, Nat.reduceEqDiff, reduceIte, qv_assign, e0]; rfl) ?_
    refine WL.nil ?_
    refine th_norm ?_
    refine hx_seq ?_
    refine hx_seq ?_
    refine hx_region ?_
    refine WL.qq (by simp only [ev_tmp, ev_const, ev_func, set_get, Nat.reduceEqDiff, reduceIte, qv_move, e0]; rfl) ?_
    refine WL.qq (by simp only [ev_tmp, ev_const, ev_func, set_get, Nat.reduceEqDiff, reduceIte, e0, qv_binOp, binv_eql, eqn22, Option.map_some]; rfl) ?_
    refine WL.nil ?_
    refine th_norm ?_
    refine hx_cond (by simp only [ev_tmp, ev_const, ev_func, set_get, Nat.reduceEqDiff, reduceIte, e0]; rfl) (fun hct4 => ?_) (fun hct4 => ?_)
    ·
      cases hct4
    ·
      try simp only [decide_eq_true_eq, decide_eq_false_iff_not, Bool.and_eq_true, Bool.and_eq_false_iff, Bool.or_eq_true, Bool.or_eq_false_iff, Bool.not_eq_true', Bool.not_eq_false', Bool.not_eq_true, Bool.not_eq_false] at hct4
      refine hx_skip ?_
      refine th_norm ?_
      refine hx_seq ?_
      refine hx_region ?_
      refine WL.lit0 Try.underlying22 sz3 ?_
      intro h1 B1 hx1 hlt1 hB1
      replace hs := hs.ext hx1
      refine WL.qq (by simp only [ev_tmp, ev_const, ev_func, set_get, Nat.reduceEqDiff, reduceIte, qv_move, e0]; rfl) ?_
      refine WL.app (base := h.size) (n := 0) (xs := []) (bytes := 8) (sz := 1) (news := l.map (Value.int .i64)) Try.underlying22 (inf_of Try.type3) rfl rfl rfl rfl (by decide) (by simp only [ev_tmp, ev_const, ev_func, set_get, Nat.reduceEqDiff, reduceIte, e0] <;> rfl) (Own.lit0 hB1 hlt1) (by simp only [ev_tmp, ev_const, ev_func, set_get, Nat.reduceEqDiff, reduceIte, e0] <;> rfl) (fun hh => by cases hh) (by simp) hs.news (fun hh => by cases hh) (ints_one l) (by simp only [maxLen]; omega) (by omega) (by have := hx1.size; omega) ?_
      intro h4 v4 ho4 hg4 hp4 hn4
      have hE4 := hg4.ext hx1 (fun c hc => by cases hc; exact hlt1)
      refine WL.qq (by simp only [ev_tmp, ev_const, ev_func, set_get, Nat.reduceEqDiff, reduceIte, qv_assign, e0]; rfl) ?_
      refine WL.nil ?_
      refine th_norm ?_
      refine hx_ret ?_
      refine fin_ret [.tmp 2] rfl rfl (by simp only [ev_tmp, ev_const, ev_func, set_get, Nat.reduceEqDiff, reduceIte, resv, e0]; rfl) ?_  -- ret 0 r3
      exact ⟨hE4, by simpa [retOf] using ho4⟩
theorem c_holidays (p : Nat) (wk hs : List Int) (hl : hs.length ≤ 1099511627776) {h : Heap} (hc : IsCal h p wk hs) :
    HCalls Try.prog 26 #[.pointer (some ⟨p, 0, none⟩)] h fun v h' => Ext h h' ∧ Own h' h.size 3 1 v hs.length (hs.map (Value.int .i64)) := by
  obtain ⟨⟨a, c, hp, hsl, hcap⟩, ho, hsm⟩ := hc
  refine hcalls2 Try.func26 rfl (by decide +kernel) (by simp only [Try.ntmps26]; exact of_decide_eq_true rfl) ?_
  intro e hin
  have e0 := hin 0 _ rfl
  refine hx_seq ?_
  refine hx_region ?_
  refine WL.qq (by simp only [ev_tmp, ev_const, ev_func, set_get, Nat.reduceEqDiff, reduceIte, qv_assign, e0, hp.cell]; rfl) ?_
  refine WL.nil ?_
  refine th_norm ?_
  refine hx_seq ?_
  refine hx_seq ?_
  refine hx_region ?_
  refine WL.qq (by simp only [ev_tmp, ev_const, ev_func, set_get, Nat.reduceEqDiff, reduceIte, qv_move, e0, hp.cell]; rfl) ?_
  refine WL.qq (by simp only [ev_tmp, ev_const, ev_func, set_get, Nat.reduceEqDiff, reduceIte, qv_binOp, binv_eql, eqz27, eqn27, eqm27, Option.map_some, e0, hp.cell]; rfl) ?_
  refine WL.nil ?_
  refine th_norm ?_
  refine hx_cond (by simp only [ev_tmp, ev_const, ev_func, set_get, Nat.reduceEqDiff, reduceIte, e0, hp.cell]; rfl) (fun hct4 => ?_) (fun hct4 => ?_)
  ·
    cases hct4
  ·
    try simp only [decide_eq_true_eq, decide_eq_false_iff_not, Bool.and_eq_true, Bool.and_eq_false_iff, Bool.or_eq_true, Bool.or_eq_false_iff, Bool.not_eq_true', Bool.not_eq_false', Bool.not_eq_true, Bool.not_eq_false] at hct4
    refine hx_skip ?_
    refine th_norm ?_
    refine hx_seq ?_
    refine hx_region ?_
    refine WL.qq (by simp only [ev_tmp, ev_const, ev_func, set_get, Nat.reduceEqDiff, reduceIte, qv_move, e0, hp.cell]; rfl) ?_
    refine WL.qq (by simp only [ev_tmp, ev_const, ev_func, set_get, Nat.reduceEqDiff, reduceIte, qv_nilCheck, e0, hp.cell]; rfl) ?_
    refine WL.qq (by simp only [ev_tmp, ev_const, ev_func, set_get, Nat.reduceEqDiff, reduceIte, qv_fieldAddr, fa62_1, Nat.zero_add, Nat.reduceAdd, e0, hp.cell]; rfl) ?_
    refine WL.qq (by simp only [ev_tmp, ev_const, ev_func, set_get, Nat.reduceEqDiff, reduceIte, qv_load, ld22, readN, List.getElem?_toArray, List.getElem?_cons_zero, List.getElem?_cons_succ, List.map_toArray, List.map_cons, List.map_nil, Option.map_some, Option.bind_some, Nat.zero_add, Nat.reduceAdd, e0, hp.cell]; rfl) ?_
    refine WL.ce Try.call45 (by simp only [ev_tmp, ev_const, ev_func, set_get, Nat.reduceEqDiff, reduceIte, e0, hp.cell, List.map_toArray, List.map_cons, List.map_nil]; exact c_clone2 a c hs hl hsl) ?_
    rintro v1 h1 ⟨hx1, ho1⟩
    simp only [put_some]
    refine WL.qq (by simp only [ev_tmp, ev_const, ev_func, set_get, Nat.reduceEqDiff, reduceIte, qv_assign, e0, hp.cell]; rfl) ?_
    refine WL.nil ?_
    refine th_norm ?_
    refine hx_ret ?_
    refine fin_ret [.tmp 2] rfl rfl (by simp only [ev_tmp, ev_const, ev_func, set_get, Nat.reduceEqDiff, reduceIte, resv, e0, hp.cell]; rfl) ?_  -- ret 0 r3
    exact ⟨hx1, ho1⟩
theorem SlI.at {h : Heap} {b o : Nat} {l : List Int} (hs : SlI h (some ⟨b, o, none⟩) l) {i : Nat} {x : Int} (hi : l[i]? = some x) : GL.cell h b (o + i) = some (.int .i64 x) := by
  obtain ⟨b', o', ha, hc⟩ := hs i x hi
  cases ha
  exact hc
theorem ins_sorted {r : List Int} {x : Int} {j : Nat} (hj : j ≤ r.length) (hs : r.Pairwise (· ≤ ·)) (hgt : ∀ m y, j ≤ m → r[m]? = some y → x < y) (hle : j = 0 ∨ ∀ y, r[j - 1]? = some y → y ≤ x) :
    (r.take j ++ [x] ++ r.drop j).Pairwise (· ≤ ·) := by
  have hr : (r.take j ++ r.drop j).Pairwise (· ≤ ·) := by rw [List.take_append_drop]; exact hs
  rw [List.pairwise_append] at hr
  have hA : ∀ y ∈ r.take j, y ≤ x := by
    intro y hy
    rw [List.mem_take_iff_getElem] at hy
    obtain ⟨m, hm, rfl⟩ := hy
    rcases hle with h0 | h0
    · omega
    · have hlt : j - 1 < r.length := by omega
      have h1 := h0 _ (List.getElem?_eq_getElem hlt)
      rw [List.pairwise_iff_getElem] at hs
      rcases Nat.lt_or_ge m (j - 1) with h2 | h2
      · exact Int.le_trans (hs m (j - 1) (by omega) hlt h2) h1
      · have : m = j - 1 := by omega
        subst this
        exact h1
  have hB : ∀ y ∈ r.drop j, x ≤ y := by
    intro y hy
    obtain ⟨m, hm, rfl⟩ := List.getElem_of_mem hy
    rw [List.getElem_drop]
    exact Int.le_of_lt (hgt (j + m) _ (by omega) (List.getElem?_eq_getElem _))
  rw [List.append_assoc, List.pairwise_append]
  refine ⟨hr.1, ?_, ?_⟩
  · rw [List.singleton_append, List.pairwise_cons]
    exact ⟨hB, hr.2.1⟩
  · intro y hy z hz
    rw [List.singleton_append, List.mem_cons] at hz
    rcases hz with rfl | hz
    · exact hA y hy
    · exact hr.2.2 y hy z hz
theorem ins_perm {r l : List Int} {x : Int} {i j : Nat} (hp : r.Perm (l.take i)) (hx : l[i]? = some x) : (r.take j ++ [x] ++ r.drop j).Perm (l.take (i + 1)) := by
  have h1 : (r.take j ++ [x] ++ r.drop j).Perm (x :: r) := by
    rw [List.append_assoc, List.singleton_append]
    have := @List.perm_middle _ x (r.take j) (r.drop j)
    rwa [List.take_append_drop] at this
  rw [List.take_add_one, hx]
  exact h1.trans ((hp.cons x).trans (List.perm_append_singleton x _).symm)
theorem perm_sorted : ∀ {r s : List Int}, r.Perm s → r.Pairwise (· ≤ ·) → s.Pairwise (· ≤ ·) → r = s
  | [], s, hp, _, _ => (List.nil_perm.1 hp).symm
  | x :: r, [], hp, _, _ => absurd hp.symm (by simp)
  | x :: r, y :: s, hp, h1, h2 => by
    rw [List.pairwise_cons] at h1 h2
    have hx : x ∈ y :: s := hp.subset (List.mem_cons_self)
    have hy : y ∈ x :: r := hp.symm.subset (List.mem_cons_self)
    have e : x = y := by
      rcases List.mem_cons.1 hx with e | e
      · exact e
      · rcases List.mem_cons.1 hy with e' | e'
        · exact e'.symm
        · exact Int.le_antisymm (h1.1 y e') (h2.1 x e)
    subst e
    rw [perm_sorted (List.perm_cons x |>.1 hp) h1.2 h2.2]
theorem c_rising (a : Option Addr) (cap : Nat) (l : List Int) (hlen : l.length ≤ 1099511627776) {h : Heap} (hs : SlI h a l) :
    HCalls Try.prog 25 #[.slice a l.length cap] h fun v h' => Ext h h' ∧ Own h' h.size 3 1 v (srt l).length ((srt l).map (Value.int .i64)) := by
  refine hcalls2 Try.func25 rfl (by decide +kernel) (by simp only [Try.ntmps25]; exact of_decide_eq_true rfl) ?_
  intro e hin
  have e0 := hin 0 _ rfl
  refine hx_seq ?_
  refine hx_region ?_
  refine WL.qq (by simp only [ev_tmp, ev_const, ev_func, set_get, Nat.reduceEqDiff, reduceIte, qv_assign, e0]; rfl) ?_
  refine WL.nil ?_
  refine th_norm ?_
  refine hx_seq ?_
  refine hx_region ?_
  refine WL.qq (by simp only [ev_tmp, ev_const, ev_func, set_get, Nat.reduceEqDiff, reduceIte, qv_assign, e0]; rfl) ?_
  refine WL.nil ?_
  refine th_norm ?_
  refine hx_seq ?_
  refine hx_seq ?_
  refine hx_region ?_
  refine WL.qq (by simp only [ev_tmp, ev_const, ev_func, set_get, Nat.reduceEqDiff, reduceIte, qv_assign, e0]; rfl) ?_
  refine WL.nil ?_
  refine th_norm ?_
  refine hx_block ?_
  refine hx_loopG [3, 4, 5, 6, 7, 8, 9, 10, 11, 12, 13, 14, 15, 16, 17, 18, 19, 20, 21, 22, 23, 24, 25, 26, 27, 28, 29, 30, 31, 32, 33, 34, 35, 36, 37, 38, 39, 40, 41, 42, 43, 44, 45, 46, 47] (fun k e hL0 => ∃ (i : Nat) (v : Value) (r : List Int), l.length - i = k ∧ (i ≤ l.length) ∧ (Ext h hL0) ∧ (Own hL0 h.size 3 1 v r.length (r.map (Value.int .i64))) ∧ (r.Perm (l.take i)) ∧ (r.Pairwise (· ≤ ·)) ∧ e 4 = .int .i64 i ∧ e 3 = v) _ ⟨0, .slice none 0 0, [], rfl, ?_, ?_, ?_, ?_, ?_, ?_, ?_⟩ ?_
  · omega
  · exact Ext.refl _
  · exact (Own.nil : Own h h.size 3 1 (.slice none 0 0) 0 [])
  · exact List.Perm.refl _
  · exact List.Pairwise.nil
  · simp only [ev_tmp, ev_const, ev_func, set_get, Nat.reduceEqDiff, reduceIte, e0] <;> rfl
  · simp only [ev_tmp, ev_const, ev_func, set_get, Nat.reduceEqDiff, reduceIte, e0] <;> rfl
  ·
    rintro k e0L hL0 hfr0 ⟨i, v, r, rfl, hi, hEv, hv, hpm, hso, i4_0, i3_0⟩
    have k0_0 := hfr0 0 rfl; simp only [ev_tmp, ev_const, ev_func, set_get, Nat.reduceEqDiff, reduceIte, e0] at k0_0
    have k2_0 := hfr0 2 rfl; simp only [ev_tmp, ev_const, ev_func, set_get, Nat.reduceEqDiff, reduceIte, e0] at k2_0
    obtain ⟨-, a2, c2, rfl, hc2, hm2, hR, hn2, hbk2⟩ := hv.ints
    have hrl : r.length = i := by { have := hpm.length_eq; simp at this; omega }
    refine hx_seq ?_
    refine hx_seq ?_
    refine hx_region ?_
    refine WL.qq (by simp only [ev_tmp, ev_const, ev_func, set_get, Nat.reduceEqDiff, reduceIte, qv_move, k0_0, k2_0, i4_0, i3_0]; rfl) ?_
    refine WL.qq (by simp only [ev_tmp, ev_const, ev_func, set_get, Nat.reduceEqDiff, reduceIte, qv_move, k0_0, k2_0, i4_0, i3_0]; rfl) ?_
    refine WL.qq (by simp only [ev_tmp, ev_const, ev_func, set_get, Nat.reduceEqDiff, reduceIte, qv_len, ln22, List.getElem?_toArray, List.getElem?_cons_zero, List.getElem?_cons_succ, List.map_toArray, List.map_cons, List.map_nil, Option.map_some, Option.bind_some, k0_0, k2_0, i4_0, i3_0]; rfl) ?_
    refine WL.qq (by simp only [ev_tmp, ev_const, ev_func, set_get, Nat.reduceEqDiff, reduceIte, qv_binOp, binv_lss, k0_0, k2_0, i4_0, i3_0]; rfl) ?_
    refine WL.nil ?_
    refine th_norm ?_
    refine hx_cond (by simp only [ev_tmp, ev_const, ev_func, set_get, Nat.reduceEqDiff, reduceIte, k0_0, k2_0, i4_0, i3_0]; rfl) (fun hct10 => ?_) (fun hct10 => ?_)
    ·
      try simp only [decide_eq_true_eq, decide_eq_false_iff_not, Bool.and_eq_true, Bool.and_eq_false_iff, Bool.or_eq_true, Bool.or_eq_false_iff, Bool.not_eq_true', Bool.not_eq_false', Bool.not_eq_true, Bool.not_eq_false] at hct10
      obtain ⟨x, hx⟩ : ∃ x, l[i]? = some x := ⟨l[i]'(by omega), by simp⟩
      have hsL := hs.ext hEv
      obtain ⟨bx, ox, rfl, hcx⟩ := hsL i x hx
      refine hx_skip ?_
      refine th_norm ?_
      refine hx_seq ?_
      refine hx_block ?_
      refine hx_seq ?_
      refine hx_region ?_
      refine WL.qq (by simp only [ev_tmp, ev_const, ev_func, set_get, Nat.reduceEqDiff, reduceIte, qv_move, k0_0, k2_0, i4_0, i3_0]; rfl) ?_
      refine WL.qq (by simp only [ev_tmp, ev_const, ev_func, set_get, Nat.reduceEqDiff, reduceIte, qv_len, ln22, List.getElem?_toArray, List.getElem?_cons_zero, List.getElem?_cons_succ, List.map_toArray, List.map_cons, List.map_nil, Option.map_some, Option.bind_some, k0_0, k2_0, i4_0, i3_0]; rfl) ?_
      refine WL.qq (by simp only [ev_tmp, ev_const, ev_func, set_get, Nat.reduceEqDiff, reduceIte, qv_assign, k0_0, k2_0, i4_0, i3_0]; rfl) ?_
      refine WL.nil ?_
      refine th_norm ?_
      refine hx_seq ?_
      refine hx_block ?_
      refine hx_loopS [5, 15, 16, 17, 18, 19, 20, 21, 22, 23, 24, 25, 26, 27, 28, 29, 30] (fun k e => ∃ (j : Nat), j = k ∧ (j ≤ r.length) ∧ (∀ m y, j ≤ m → r[m]? = some y → x < y) ∧ e 5 = .int .i64 j) _ ⟨r.length, rfl, ?_, ?_, ?_⟩ ?_
      · omega
      · intro m y h1 h2; have := (List.getElem?_eq_some_iff.1 h2).1; omega
      · simp only [ev_tmp, ev_const, ev_func, set_get, Nat.reduceEqDiff, reduceIte, k0_0, k2_0, i4_0, i3_0] <;> rfl
      ·
        rintro k e1L hfr1 ⟨j, rfl, hj, hgt, i5_1⟩
        have k0_1 := hfr1 0 rfl; simp only [ev_tmp, ev_const, ev_func, set_get, Nat.reduceEqDiff, reduceIte, k0_0, k2_0, i4_0, i3_0] at k0_1
        have k2_1 := hfr1 2 rfl; simp only [ev_tmp, ev_const, ev_func, set_get, Nat.reduceEqDiff, reduceIte, k0_0, k2_0, i4_0, i3_0] at k2_1
        have k3_1 := hfr1 3 rfl; simp only [ev_tmp, ev_const, ev_func, set_get, Nat.reduceEqDiff, reduceIte, k0_0, k2_0, i4_0, i3_0] at k3_1
        have k4_1 := hfr1 4 rfl; simp only [ev_tmp, ev_const, ev_func, set_get, Nat.reduceEqDiff, reduceIte, k0_0, k2_0, i4_0, i3_0] at k4_1
        have k7_1 := hfr1 7 rfl; simp only [ev_tmp, ev_const, ev_func, set_get, Nat.reduceEqDiff, reduceIte, k0_0, k2_0, i4_0, i3_0] at k7_1
        have k8_1 := hfr1 8 rfl; simp only [ev_tmp, ev_const, ev_func, set_get, Nat.reduceEqDiff, reduceIte, k0_0, k2_0, i4_0, i3_0] at k8_1
        have k9_1 := hfr1 9 rfl; simp only [ev_tmp, ev_const, ev_func, set_get, Nat.reduceEqDiff, reduceIte, k0_0, k2_0, i4_0, i3_0] at k9_1
        have k10_1 := hfr1 10 rfl; simp only [ev_tmp, ev_const, ev_func, set_get, Nat.reduceEqDiff, reduceIte, k0_0, k2_0, i4_0, i3_0] at k10_1
        have k13_1 := hfr1 13 rfl; simp only [ev_tmp, ev_const, ev_func, set_get, Nat.reduceEqDiff, reduceIte, k0_0, k2_0, i4_0, i3_0] at k13_1
        have k14_1 := hfr1 14 rfl; simp only [ev_tmp, ev_const, ev_func, set_get, Nat.reduceEqDiff, reduceIte, k0_0, k2_0, i4_0, i3_0] at k14_1
        obtain ⟨y, b2, o2, hyy⟩ : ∃ y b o, 0 < j → r[j - 1]? = some y ∧ a2 = some ⟨b, o, none⟩ := by { by_cases h0 : 0 < j; exact (let ⟨b, o, h1, _⟩ := hR (j - 1) (r[j - 1]'(by omega)) (by simp [show j - 1 < r.length by omega]); ⟨r[j - 1]'(by omega), b, o, fun _ => ⟨by simp [show j - 1 < r.length by omega], h1⟩⟩); exact ⟨0, 0, 0, fun hh => absurd hh h0⟩ }
        refine hx_seq ?_
        refine hx_seq ?_
        apply hx_draw2 Rel.same [] [] [] rfl (by decide +kernel) rfl
        refine LD.qq rfl rfl (by simp only [ev_tmp, ev_const, ev_func, set_get, Nat.reduceEqDiff, reduceIte, qv_move, k0_1, k2_1, k3_1, k4_1, k7_1, k8_1, k9_1, k10_1, k13_1, k14_1, i5_1]; rfl) ?_
        refine LD.qq rfl rfl (by simp only [ev_tmp, ev_const, ev_func, set_get, Nat.reduceEqDiff, reduceIte, qv_binOp, binv_gtr, k0_1, k2_1, k3_1, k4_1, k7_1, k8_1, k9_1, k10_1, k13_1, k14_1, i5_1]; rfl) ?_
        refine LD.qq rfl rfl (by simp only [ev_tmp, ev_const, ev_func, set_get, Nat.reduceEqDiff, reduceIte, qv_move, k0_1, k2_1, k3_1, k4_1, k7_1, k8_1, k9_1, k10_1, k13_1, k14_1, i5_1]; rfl) ?_
        refine LD.cq rfl rfl (gd_at (t := 17) rfl (by simp only [ev_tmp, ev_const, ev_func, set_get, Nat.reduceEqDiff, reduceIte, k0_1, k2_1, k3_1, k4_1, k7_1, k8_1, k9_1, k10_1, k13_1, k14_1, i5_1]; rfl)) (fun hg6_3 => by simp only [ev_tmp, ev_const, ev_func, set_get, Nat.reduceEqDiff, reduceIte, qv_move, k0_1, k2_1, k3_1, k4_1, k7_1, k8_1, k9_1, k10_1, k13_1, k14_1, i5_1, hg6_3, Bool.false_eq_true, Bool.true_eq_false, eq_self, if_true, if_false, true_and, and_true, false_and, and_false]; rfl) ?_
        refine LD.cq rfl rfl (gd_at (t := 17) rfl (by simp only [ev_tmp, ev_const, ev_func, set_get, Nat.reduceEqDiff, reduceIte, k0_1, k2_1, k3_1, k4_1, k7_1, k8_1, k9_1, k10_1, k13_1, k14_1, i5_1]; rfl)) (fun hg6_4 => by simp only [ev_tmp, ev_const, ev_func, set_get, Nat.reduceEqDiff, reduceIte, qv_move, k0_1, k2_1, k3_1, k4_1, k7_1, k8_1, k9_1, k10_1, k13_1, k14_1, i5_1, hg6_4, Bool.false_eq_true, Bool.true_eq_false, eq_self, if_true, if_false, true_and, and_true, false_and, and_false]; rfl) ?_
        refine LD.cq rfl rfl (gd_at (t := 17) rfl (by simp only [ev_tmp, ev_const, ev_func, set_get, Nat.reduceEqDiff, reduceIte, k0_1, k2_1, k3_1, k4_1, k7_1, k8_1, k9_1, k10_1, k13_1, k14_1, i5_1]; rfl)) (fun hg6_5 => by have hq0 := hg6_5; (try simp only [decide_eq_true_eq, decide_eq_false_iff_not, Bool.and_eq_true, Bool.and_eq_false_iff, Bool.or_eq_true, Bool.or_eq_false_iff, Bool.not_eq_true', Bool.not_eq_false', Bool.not_eq_true, Bool.not_eq_false] at hq0); simp only [ev_tmp, ev_const, ev_func, set_get, Nat.reduceEqDiff, reduceIte, qv_binOp, binv_sub, k0_1, k2_1, k3_1, k4_1, k7_1, k8_1, k9_1, k10_1, k13_1, k14_1, i5_1, hg6_5, Bool.false_eq_true, Bool.true_eq_false, eq_self, if_true, if_false, true_and, and_true, false_and, and_false]; (try simp (disch := omega) only [w64, w8, wu64]); rfl) ?_
        refine LD.cq rfl rfl (gd_at (t := 17) rfl (by simp only [ev_tmp, ev_const, ev_func, set_get, Nat.reduceEqDiff, reduceIte, k0_1, k2_1, k3_1, k4_1, k7_1, k8_1, k9_1, k10_1, k13_1, k14_1, i5_1]; rfl)) (fun hg6_6 => by have hp : 0 < j := (by simpa using hg6_6); obtain ⟨q1, q2⟩ := hyy hp; simp only [ev_tmp, ev_const, ev_func, set_get, Nat.reduceEqDiff, reduceIte, k0_1, k2_1, k3_1, k4_1, k7_1, k8_1, k9_1, k10_1, k13_1, k14_1, i5_1, qv_indexAddr, hg6_6, if_true, q2]; exact ix22 _ _ _ _ _ _ (by omega) (by omega)) ?_
        refine LD.cq rfl rfl (gd_at (t := 17) rfl (by simp only [ev_tmp, ev_const, ev_func, set_get, Nat.reduceEqDiff, reduceIte, k0_1, k2_1, k3_1, k4_1, k7_1, k8_1, k9_1, k10_1, k13_1, k14_1, i5_1]; rfl)) (fun hg6_7 => by have hp : 0 < j := (by simpa using hg6_7); obtain ⟨q1, q2⟩ := hyy hp; have q3 := (q2 ▸ hR : SlI _ (some ⟨b2, o2, none⟩) r).at q1; simp only [ev_tmp, ev_const, ev_func, set_get, Nat.reduceEqDiff, reduceIte, k0_1, k2_1, k3_1, k4_1, k7_1, k8_1, k9_1, k10_1, k13_1, k14_1, i5_1, qv_load, ld3, hg6_7, if_true, show ((j : Int) - 1).toNat = j - 1 from by omega, q3]; rfl) ?_
        refine LD.cq rfl rfl (gd_at (t := 17) rfl (by simp only [ev_tmp, ev_const, ev_func, set_get, Nat.reduceEqDiff, reduceIte, k0_1, k2_1, k3_1, k4_1, k7_1, k8_1, k9_1, k10_1, k13_1, k14_1, i5_1]; rfl)) (fun hg6_8 => by simp only [ev_tmp, ev_const, ev_func, set_get, Nat.reduceEqDiff, reduceIte, qv_move, k0_1, k2_1, k3_1, k4_1, k7_1, k8_1, k9_1, k10_1, k13_1, k14_1, i5_1, hg6_8, Bool.false_eq_true, Bool.true_eq_false, eq_self, if_true, if_false, true_and, and_true, false_and, and_false]; rfl) ?_
        refine LD.cq rfl rfl (gd_at (t := 17) rfl (by simp only [ev_tmp, ev_const, ev_func, set_get, Nat.reduceEqDiff, reduceIte, k0_1, k2_1, k3_1, k4_1, k7_1, k8_1, k9_1, k10_1, k13_1, k14_1, i5_1]; rfl)) (fun hg6_9 => by simp only [ev_tmp, ev_const, ev_func, set_get, Nat.reduceEqDiff, reduceIte, qv_move, k0_1, k2_1, k3_1, k4_1, k7_1, k8_1, k9_1, k10_1, k13_1, k14_1, i5_1, hg6_9, Bool.false_eq_true, Bool.true_eq_false, eq_self, if_true, if_false, true_and, and_true, false_and, and_false]; rfl) ?_
        refine LD.cq rfl rfl (gd_at (t := 17) rfl (by simp only [ev_tmp, ev_const, ev_func, set_get, Nat.reduceEqDiff, reduceIte, k0_1, k2_1, k3_1, k4_1, k7_1, k8_1, k9_1, k10_1, k13_1, k14_1, i5_1]; rfl)) (fun hg6_10 => by have hq0 := hg6_10; (try simp only [decide_eq_true_eq, decide_eq_false_iff_not, Bool.and_eq_true, Bool.and_eq_false_iff, Bool.or_eq_true, Bool.or_eq_false_iff, Bool.not_eq_true', Bool.not_eq_false', Bool.not_eq_true, Bool.not_eq_false] at hq0); simp only [ev_tmp, ev_const, ev_func, set_get, Nat.reduceEqDiff, reduceIte, qv_indexAddr, k0_1, k2_1, k3_1, k4_1, k7_1, k8_1, k9_1, k10_1, k13_1, k14_1, i5_1, hg6_10, Bool.false_eq_true, Bool.true_eq_false, eq_self, if_true, if_false, true_and, and_true, false_and, and_false]; (try simp (disch := omega) only [ix22, Int.toNat_natCast]); rfl) ?_
        refine LD.cq rfl rfl (gd_at (t := 17) rfl (by simp only [ev_tmp, ev_const, ev_func, set_get, Nat.reduceEqDiff, reduceIte, k0_1, k2_1, k3_1, k4_1, k7_1, k8_1, k9_1, k10_1, k13_1, k14_1, i5_1]; rfl)) (fun hg6_11 => by simp only [ev_tmp, ev_const, ev_func, set_get, Nat.reduceEqDiff, reduceIte, qv_load, ld3, readN, List.getElem?_toArray, List.getElem?_cons_zero, List.getElem?_cons_succ, List.map_toArray, List.map_cons, List.map_nil, Option.map_some, Option.bind_some, Nat.zero_add, Nat.reduceAdd, k0_1, k2_1, k3_1, k4_1, k7_1, k8_1, k9_1, k10_1, k13_1, k14_1, i5_1, hcx, hg6_11, Bool.false_eq_true, Bool.true_eq_false, eq_self, if_true, if_false, true_and, and_true, false_and, and_false]; rfl) ?_
        refine LD.cq rfl rfl (gd_at (t := 17) rfl (by simp only [ev_tmp, ev_const, ev_func, set_get, Nat.reduceEqDiff, reduceIte, k0_1, k2_1, k3_1, k4_1, k7_1, k8_1, k9_1, k10_1, k13_1, k14_1, i5_1]; rfl)) (fun hg6_12 => by simp only [ev_tmp, ev_const, ev_func, set_get, Nat.reduceEqDiff, reduceIte, qv_binOp, binv_gtr, k0_1, k2_1, k3_1, k4_1, k7_1, k8_1, k9_1, k10_1, k13_1, k14_1, i5_1, hg6_12, Bool.false_eq_true, Bool.true_eq_false, eq_self, if_true, if_false, true_and, and_true, false_and, and_false]; rfl) ?_
        refine LD.qq rfl rfl (by simp only [ev_tmp, ev_const, ev_func, set_get, Nat.reduceEqDiff, reduceIte, qv_pick, pk_and, pk_or, Bool.false_eq_true, Bool.true_eq_false, eq_self, if_true, if_false, true_and, and_true, false_and, and_false, k0_1, k2_1, k3_1, k4_1, k7_1, k8_1, k9_1, k10_1, k13_1, k14_1, i5_1]; rfl) ?_
        refine LD.nil ?_
        rintro _ rfl -
        refine WL.nil ?_
        refine th_norm ?_
        refine hx_cond (by simp only [ev_tmp, ev_const, ev_func, set_get, Nat.reduceEqDiff, reduceIte, k0_1, k2_1, k3_1, k4_1, k7_1, k8_1, k9_1, k10_1, k13_1, k14_1, i5_1]; rfl) (fun hct28 => ?_) (fun hct28 => ?_)
        ·
          try simp only [decide_eq_true_eq, decide_eq_false_iff_not, Bool.and_eq_true, Bool.and_eq_false_iff, Bool.or_eq_true, Bool.or_eq_false_iff, Bool.not_eq_true', Bool.not_eq_false', Bool.not_eq_true, Bool.not_eq_false] at hct28
          refine hx_skip ?_
          refine th_norm ?_
          refine hx_block ?_
          refine hx_region ?_
          refine WL.qq (by simp only [ev_tmp, ev_const, ev_func, set_get, Nat.reduceEqDiff, reduceIte, qv_move, k0_1, k2_1, k3_1, k4_1, k7_1, k8_1, k9_1, k10_1, k13_1, k14_1, i5_1]; rfl) ?_
          refine WL.qq (by simp only [ev_tmp, ev_const, ev_func, set_get, Nat.reduceEqDiff, reduceIte, qv_binOp, binv_sub, k0_1, k2_1, k3_1, k4_1, k7_1, k8_1, k9_1, k10_1, k13_1, k14_1, i5_1]; (try simp (disch := omega) only [w64, w8, wu64]); rfl) ?_
          refine WL.qq (by simp only [ev_tmp, ev_const, ev_func, set_get, Nat.reduceEqDiff, reduceIte, qv_assign, k0_1, k2_1, k3_1, k4_1, k7_1, k8_1, k9_1, k10_1, k13_1, k14_1, i5_1]; rfl) ?_
          refine WL.nil ?_
          refine bl_norm ?_
          refine th_norm ?_
          refine ⟨rfl, rfl, ?_, _, ?_, j - 1, rfl, ?_, ?_, ?_⟩  -- again 0 of loop 1
          · (repeat (first | exact Fr.refl _ _ | refine Fr.set rfl ?_ | refine Fr.put rfl ?_ | refine Fr.put0 ?_))
          · omega
          · omega
          · intro m z h1 h2; by_cases hmj : j ≤ m; exact hgt m z hmj h2; (have hmj2 : m = j - 1 := (by omega)); subst hmj2; rw [(hyy (by omega)).1] at h2; cases h2; omega
          · simp only [ev_tmp, ev_const, ev_func, set_get, Nat.reduceEqDiff, reduceIte, k0_1, k2_1, k3_1, k4_1, k7_1, k8_1, k9_1, k10_1, k13_1, k14_1, i5_1] <;> first | rfl | (congr 1; omega)
        ·
          try simp only [decide_eq_true_eq, decide_eq_false_iff_not, Bool.and_eq_true, Bool.and_eq_false_iff, Bool.or_eq_true, Bool.or_eq_false_iff, Bool.not_eq_true', Bool.not_eq_false', Bool.not_eq_true, Bool.not_eq_false] at hct28
          refine hx_exit ?_
          refine th_exit ?_
          refine th_exit ?_
          refine bl_hit ?_
          refine th_norm ?_
          refine hx_seq ?_
          refine hx_region ?_
          rename_i hL0
          have hle : j = 0 ∨ ∀ z, r[j - 1]? = some z → z ≤ x := by { by_cases h0 : j = 0; exact .inl h0; exact .inr fun z hz => by rw [(hyy (by omega)).1] at hz; cases hz; simp [show 0 < j by omega] at hct28; omega }
          refine WL.lit0 Try.underlying22 sz3 ?_
          intro h1 B1 hx1 hlt1 hB1
          refine WL.qq (by simp only [ev_tmp, ev_const, ev_func, set_get, Nat.reduceEqDiff, reduceIte, qv_move, k0_1, k2_1, k3_1, k4_1, k7_1, k8_1, k9_1, k10_1, k13_1, k14_1, i5_1]; rfl) ?_
          refine WL.qq (by simp only [ev_tmp, ev_const, ev_func, set_get, Nat.reduceEqDiff, reduceIte, qv_move, k0_1, k2_1, k3_1, k4_1, k7_1, k8_1, k9_1, k10_1, k13_1, k14_1, i5_1]; rfl) ?_
          refine WL.qq (by simp only [ev_tmp, ev_const, ev_func, set_get, Nat.reduceEqDiff, reduceIte, qv_slice, Option.map_some, Option.map_none, k0_1, k2_1, k3_1, k4_1, k7_1, k8_1, k9_1, k10_1, k13_1, k14_1, i5_1]; (try simp (disch := omega) only [sh22, Int.toNat_natCast]); rfl) ?_
          refine WL.appI (base := hL0.size) (l := []) (l' := r.take j) Try.underlying22 (inf_of Try.type3) rfl rfl rfl rfl (by simp only [ev_tmp, ev_const, ev_func, set_get, Nat.reduceEqDiff, reduceIte, k0_1, k2_1, k3_1, k4_1, k7_1, k8_1, k9_1, k10_1, k13_1, k14_1, i5_1] <;> rfl) (Own.lit0 hB1 hlt1) (by simp only [ev_tmp, ev_const, ev_func, set_get, Nat.reduceEqDiff, reduceIte, k0_1, k2_1, k3_1, k4_1, k7_1, k8_1, k9_1, k10_1, k13_1, k14_1, i5_1, Int.toNat_natCast] <;> rfl) (by simp; omega) hn2 ((hR.ext hx1).take j) (by simp; omega) hx1.size ?_
          intro h4 v4 ho4 hg4 hp4 hn4
          have hE4 : Ext hL0 h4 := hg4.ext hx1 (fun c hc => by cases hc; exact hlt1)
          simp only [List.nil_append] at ho4
          have hcx4 := (hsL.ext hE4).at hx
          refine WL.qq (by simp only [ev_tmp, ev_const, ev_func, set_get, Nat.reduceEqDiff, reduceIte, qv_assign, k0_1, k2_1, k3_1, k4_1, k7_1, k8_1, k9_1, k10_1, k13_1, k14_1, i5_1]; rfl) ?_
          refine WL.nil ?_
          refine th_norm ?_
          refine hx_seq ?_
          refine hx_region ?_
          refine WL.qq (by simp only [ev_tmp, ev_const, ev_func, set_get, Nat.reduceEqDiff, reduceIte, qv_move, k0_1, k2_1, k3_1, k4_1, k7_1, k8_1, k9_1, k10_1, k13_1, k14_1, i5_1]; rfl) ?_
          refine WL.qq (by simp only [ev_tmp, ev_const, ev_func, set_get, Nat.reduceEqDiff, reduceIte, qv_move, k0_1, k2_1, k3_1, k4_1, k7_1, k8_1, k9_1, k10_1, k13_1, k14_1, i5_1]; rfl) ?_
          refine WL.qq (by simp only [ev_tmp, ev_const, ev_func, set_get, Nat.reduceEqDiff, reduceIte, qv_move, k0_1, k2_1, k3_1, k4_1, k7_1, k8_1, k9_1, k10_1, k13_1, k14_1, i5_1]; rfl) ?_
          refine WL.qq (by simp only [ev_tmp, ev_const, ev_func, set_get, Nat.reduceEqDiff, reduceIte, qv_indexAddr, k0_1, k2_1, k3_1, k4_1, k7_1, k8_1, k9_1, k10_1, k13_1, k14_1, i5_1]; (try simp (disch := omega) only [ix22, Int.toNat_natCast]); rfl) ?_
          refine WL.qq (by simp only [ev_tmp, ev_const, ev_func, set_get, Nat.reduceEqDiff, reduceIte, qv_load, ld3, readN, List.getElem?_toArray, List.getElem?_cons_zero, List.getElem?_cons_succ, List.map_toArray, List.map_cons, List.map_nil, Option.map_some, Option.bind_some, Nat.zero_add, Nat.reduceAdd, k0_1, k2_1, k3_1, k4_1, k7_1, k8_1, k9_1, k10_1, k13_1, k14_1, i5_1, hcx4]; rfl) ?_
          refine WL.pushI Try.underlying22 (inf_of Try.type3) rfl rfl rfl rfl sz3 zr3 (fun u => by simp only [ev_tmp, ev_const, ev_func, set_get, Nat.reduceEqDiff, reduceIte, k0_1, k2_1, k3_1, k4_1, k7_1, k8_1, k9_1, k10_1, k13_1, k14_1, i5_1]) ho4 (by simp only [ev_tmp, ev_const, ev_func, set_get, Nat.reduceEqDiff, reduceIte, k0_1, k2_1, k3_1, k4_1, k7_1, k8_1, k9_1, k10_1, k13_1, k14_1, i5_1] <;> rfl) (by simp; omega) hE4.size ?_
          intro h5 v5 B5 ho5 hg5 hp5 hn5
          have hE5 : Ext hL0 h5 := hg5.ext hE4 (fun c hc => (ho4.block c hc).1)
          skip
          refine WL.qq (by simp only [ev_tmp, ev_const, ev_func, set_get, Nat.reduceEqDiff, reduceIte, qv_assign, k0_1, k2_1, k3_1, k4_1, k7_1, k8_1, k9_1, k10_1, k13_1, k14_1, i5_1]; rfl) ?_
          refine WL.nil ?_
          refine th_norm ?_
          refine hx_region ?_
          refine WL.qq (by simp only [ev_tmp, ev_const, ev_func, set_get, Nat.reduceEqDiff, reduceIte, qv_move, k0_1, k2_1, k3_1, k4_1, k7_1, k8_1, k9_1, k10_1, k13_1, k14_1, i5_1]; rfl) ?_
          refine WL.qq (by simp only [ev_tmp, ev_const, ev_func, set_get, Nat.reduceEqDiff, reduceIte, qv_move, k0_1, k2_1, k3_1, k4_1, k7_1, k8_1, k9_1, k10_1, k13_1, k14_1, i5_1]; rfl) ?_
          refine WL.qq (by simp only [ev_tmp, ev_const, ev_func, set_get, Nat.reduceEqDiff, reduceIte, qv_move, k0_1, k2_1, k3_1, k4_1, k7_1, k8_1, k9_1, k10_1, k13_1, k14_1, i5_1]; rfl) ?_
          refine WL.qq (by simp only [ev_tmp, ev_const, ev_func, set_get, Nat.reduceEqDiff, reduceIte, k0_1, k2_1, k3_1, k4_1, k7_1, k8_1, k9_1, k10_1, k13_1, k14_1, i5_1, qv_slice, Option.map_some, Option.map_none]; exact slicev_lo Try.underlying22 sz3 a2 _ _ _ _ (by omega) (by omega) (by omega)) ?_
          refine WL.appI (base := hL0.size) (l := r.take j ++ [x]) (l' := r.drop (j : Int).toNat) Try.underlying22 (inf_of Try.type3) rfl rfl rfl rfl (by simp only [ev_tmp, ev_const, ev_func, set_get, Nat.reduceEqDiff, reduceIte, k0_1, k2_1, k3_1, k4_1, k7_1, k8_1, k9_1, k10_1, k13_1, k14_1, i5_1] <;> rfl) ho5 (by simp only [ev_tmp, ev_const, ev_func, set_get, Nat.reduceEqDiff, reduceIte, k0_1, k2_1, k3_1, k4_1, k7_1, k8_1, k9_1, k10_1, k13_1, k14_1, i5_1] <;> rfl) (by simp) (by intro hh; split at hh <;> simp [hn2, hh] at hh ⊢ <;> simp [hn2 hh]) ((hR.ext hE5).lo hc2 j (by omega) (by omega)) (by simp; omega) hE5.size ?_
          intro h6 v6 ho6 hg6 hp6 hn6
          have hE6 : Ext hL0 h6 := hg6.ext hE5 (fun c hc => (ho5.block c hc).1)
          rw [Int.toNat_natCast] at ho6
          refine WL.qq (by simp only [ev_tmp, ev_const, ev_func, set_get, Nat.reduceEqDiff, reduceIte, qv_assign, k0_1, k2_1, k3_1, k4_1, k7_1, k8_1, k9_1, k10_1, k13_1, k14_1, i5_1]; rfl) ?_
          refine WL.nil ?_
          refine bl_norm ?_
          refine th_norm ?_
          refine hx_region ?_
          refine WL.qq (by simp only [ev_tmp, ev_const, ev_func, set_get, Nat.reduceEqDiff, reduceIte, qv_move, k0_1, k2_1, k3_1, k4_1, k7_1, k8_1, k9_1, k10_1, k13_1, k14_1, i5_1]; rfl) ?_
          refine WL.qq (by simp only [ev_tmp, ev_const, ev_func, set_get, Nat.reduceEqDiff, reduceIte, qv_binOp, binv_add, k0_1, k2_1, k3_1, k4_1, k7_1, k8_1, k9_1, k10_1, k13_1, k14_1, i5_1]; (try simp (disch := omega) only [w64, w8, wu64]); rfl) ?_
          refine WL.qq (by simp only [ev_tmp, ev_const, ev_func, set_get, Nat.reduceEqDiff, reduceIte, qv_assign, k0_1, k2_1, k3_1, k4_1, k7_1, k8_1, k9_1, k10_1, k13_1, k14_1, i5_1]; rfl) ?_
          refine WL.nil ?_
          refine th_norm ?_
          refine ⟨rfl, ?_, _, ?_, i + 1, v6, r.take j ++ [x] ++ r.drop j, rfl, ?_, ?_, ?_, ?_, ?_, ?_, ?_⟩  -- again 0 of loop 0
          · (repeat (first | exact Fr.refl _ _ | refine Fr.set rfl ?_ | refine Fr.put rfl ?_ | refine Fr.put0 ?_ | refine Fr.trans ?_ (Fr.of hfr1 rfl)))
          · omega
          · omega
          · exact hEv.trans hE6
          · exact ho6.base hEv.size
          · exact ins_perm hpm hx
          · exact ins_sorted hj hso hgt hle
          · simp only [ev_tmp, ev_const, ev_func, set_get, Nat.reduceEqDiff, reduceIte, k0_1, k2_1, k3_1, k4_1, k7_1, k8_1, k9_1, k10_1, k13_1, k14_1, i5_1] <;> first | rfl | (congr 1; omega)
          · simp only [ev_tmp, ev_const, ev_func, set_get, Nat.reduceEqDiff, reduceIte, k0_1, k2_1, k3_1, k4_1, k7_1, k8_1, k9_1, k10_1, k13_1, k14_1, i5_1] <;> first | rfl | (congr 1; omega)
    ·
      try simp only [decide_eq_true_eq, decide_eq_false_iff_not, Bool.and_eq_true, Bool.and_eq_false_iff, Bool.or_eq_true, Bool.or_eq_false_iff, Bool.not_eq_true', Bool.not_eq_false', Bool.not_eq_true, Bool.not_eq_false] at hct10
      refine hx_exit ?_
      refine th_exit ?_
      refine th_exit ?_
      refine bl_hit ?_
      refine th_norm ?_
      refine hx_seq ?_
      refine hx_region ?_
      refine WL.qq (by simp only [ev_tmp, ev_const, ev_func, set_get, Nat.reduceEqDiff, reduceIte, qv_move, k0_0, k2_0, i4_0, i3_0]; rfl) ?_
      refine WL.qq (by simp only [ev_tmp, ev_const, ev_func, set_get, Nat.reduceEqDiff, reduceIte, qv_assign, k0_0, k2_0, i4_0, i3_0]; rfl) ?_
      refine WL.nil ?_
      refine th_norm ?_
      refine hx_ret ?_
      refine fin_ret [.tmp 2] rfl rfl (by simp only [ev_tmp, ev_const, ev_func, set_get, Nat.reduceEqDiff, reduceIte, resv, k0_0, k2_0, i4_0, i3_0]; rfl) ?_  -- ret 0 r11
      have hil : i = l.length := (by omega)
      subst hil
      rw [List.take_length] at hpm
      have hrs := perm_sorted (hpm.trans (srt_perm l).symm) hso (srt_pair l)
      subst hrs
      exact ⟨hEv, hv⟩
end GL


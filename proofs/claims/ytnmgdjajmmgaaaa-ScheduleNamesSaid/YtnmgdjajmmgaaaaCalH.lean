/- Calendar: slices.Values. -/
import Derived.Test.YtnmgdjajmmgaaaaCalG
import Derived.Test.YtnmgdjajmmgaaaaGl11
set_option linter.unusedSimpArgs false
set_option linter.unusedVariables false
set_option linter.unnecessarySimpa false
namespace GL
open Go Go.Proofs
set_option maxRecDepth 8000
theorem c_valuesYield (B : Nat) (a : Option Addr) (cap : Nat) (l : List Int) (lp : Nat) (J : Nat → Heap → Prop) (S : Heap → Prop) (hlen : l.length ≤ 9223372036854775807)
    (hJ : ∀ i h, J i h → Has h B (.cells #[.slice a l.length cap] 25) ∧ SlI h a l)
    (hy : ∀ i y h, l[i]? = some y → J i h → HY Try.prog lp #[.int .i64 y] h fun v h' => ∃ b : Bool, v = .bool b ∧ (b = true → J (i + 1) h') ∧ (b = false → S h'))
    {h : Heap} (h0 : J 0 h) : HCalls Try.prog 60 #[.func (.yield lp) #[] #[], .pointer (some ⟨B, 0, none⟩)] h fun _ h' => J l.length h' ∨ S h' := by
  obtain ⟨hB, hs⟩ := hJ 0 h h0
  refine hcalls2 Try.func60 rfl (by decide +kernel) (by simp only [Try.ntmps60]; exact of_decide_eq_true rfl) ?_
  intro e hin
  have e0 := hin 0 _ rfl
  have e1 : e 1 = .pointer (some ⟨B, 0, none⟩) := hin 1 _ rfl
  refine hx_seq ?_
  refine hx_region ?_
  refine WL.qq (by simp only [ev_tmp, ev_const, ev_func, set_get, Nat.reduceEqDiff, reduceIte, qv_load, ld25, readN, List.getElem?_toArray, List.getElem?_cons_zero, List.getElem?_cons_succ, List.map_toArray, List.map_cons, List.map_nil, Option.map_some, Option.bind_some, Nat.zero_add, Nat.reduceAdd, e0, hB.cell, e1]; rfl) ?_
  refine WL.qq (by simp only [ev_tmp, ev_const, ev_func, set_get, Nat.reduceEqDiff, reduceIte, qv_len, ln25, List.getElem?_toArray, List.getElem?_cons_zero, List.getElem?_cons_succ, List.map_toArray, List.map_cons, List.map_nil, Option.map_some, Option.bind_some, e0, hB.cell, e1]; rfl) ?_
  refine WL.qq (by simp only [ev_tmp, ev_const, ev_func, set_get, Nat.reduceEqDiff, reduceIte, qv_move, e0, hB.cell, e1]; rfl) ?_
  refine WL.nil ?_
  refine th_norm ?_
  refine hx_block ?_
  refine hx_loop (fun k e ds hx => ∃ i : Nat, k = l.length - i ∧ i ≤ l.length ∧ ds = [] ∧ J i hx ∧ e 0 = .func (.yield lp) #[] #[] ∧ e 5 = .slice a l.length cap ∧ e 6 = .int .i64 l.length ∧ e 7 = .int .i64 i) (l.length) ?_ ?_
  ·
    refine ⟨0, by omega, by omega, rfl, h0, ?_, ?_, ?_, ?_⟩ <;> simp only [set_get, Nat.reduceEqDiff, reduceIte, e0] <;> rfl
  ·
    rintro k e ds hx ⟨i, rfl, hi, rfl, hJi, i0, i5, i6, i7⟩
    refine hx_seq ?_
    refine hx_region ?_
    refine WL.qq (by simp only [ev_tmp, ev_const, ev_func, set_get, Nat.reduceEqDiff, reduceIte, qv_binOp, binv_lss, e0, hB.cell, e1, i0, i5, i6, i7]; rfl) ?_
    refine WL.nil ?_
    refine th_norm ?_
    refine hx_seq ?_
    refine hx_cond (by simp only [ev_tmp, ev_const, ev_func, set_get, Nat.reduceEqDiff, reduceIte, e0, hB.cell, e1, i0, i5, i6, i7]; rfl) (fun hct8 => ?_) (fun hct8 => ?_)
    ·
      try simp only [decide_eq_true_eq, decide_eq_false_iff_not, Bool.and_eq_true, Bool.and_eq_false_iff, Bool.or_eq_true, Bool.or_eq_false_iff, Bool.not_eq_true', Bool.not_eq_false', Bool.not_eq_true, Bool.not_eq_false] at hct8
      obtain ⟨y, hy2⟩ : ∃ y, l[i]? = some y := ⟨l[i]'(by omega), by simp⟩
      obtain ⟨b, off, ha, hcell⟩ := (hJ i hx hJi).2 i y hy2
      rw [ha] at i5
      refine hx_skip ?_
      refine th_norm ?_
      refine hx_seq ?_
      refine hx_block ?_
      refine hx_seq ?_
      refine hx_region ?_
      refine WL.qq (by simp only [ev_tmp, ev_const, ev_func, set_get, Nat.reduceEqDiff, reduceIte, qv_indexAddr, e0, hB.cell, e1, i0, i5, i6, i7]; (try simp (disch := omega) only [ix25, Int.toNat_natCast]); rfl) ?_
      refine WL.qq (by simp only [ev_tmp, ev_const, ev_func, set_get, Nat.reduceEqDiff, reduceIte, qv_load, ld3, readN, List.getElem?_toArray, List.getElem?_cons_zero, List.getElem?_cons_succ, List.map_toArray, List.map_cons, List.map_nil, Option.map_some, Option.bind_some, Nat.zero_add, Nat.reduceAdd, e0, hB.cell, e1, i0, i5, i6, i7, hcell]; rfl) ?_
      refine WL.qq (by simp only [ev_tmp, ev_const, ev_func, set_get, Nat.reduceEqDiff, reduceIte, qv_assign, e0, hB.cell, e1, i0, i5, i6, i7]; rfl) ?_
      refine WL.nil ?_
      refine th_norm ?_
      refine hx_seq ?_
      refine hx_region ?_
      refine WL.qq (by simp only [ev_tmp, ev_const, ev_func, set_get, Nat.reduceEqDiff, reduceIte, qv_move, e0, hB.cell, e1, i0, i5, i6, i7]; rfl) ?_
      refine WL.qq (by simp only [ev_tmp, ev_const, ev_func, set_get, Nat.reduceEqDiff, reduceIte, qv_move, e0, hB.cell, e1, i0, i5, i6, i7]; rfl) ?_
      refine WL.ef _ (e_yield (l := lp) (by simp only [set_get, Nat.reduceEqDiff, reduceIte, i0]) (by simp only [ev_tmp, set_get, Nat.reduceEqDiff, reduceIte, List.map_toArray, List.map_cons, List.map_nil]; exact hy i y hx hy2 hJi)) ?_
      rintro _ h2 ⟨bb, rfl, hbt, hbf⟩
      simp only [put_some]
      refine WL.qq (by simp only [ev_tmp, ev_const, ev_func, set_get, Nat.reduceEqDiff, reduceIte, qv_unOp, unv_not, e0, hB.cell, e1, i0, i5, i6, i7]; rfl) ?_
      refine WL.nil ?_
      refine th_norm ?_
      refine hx_cond (by simp only [ev_tmp, ev_const, ev_func, set_get, Nat.reduceEqDiff, reduceIte, e0, hB.cell, e1, i0, i5, i6, i7]; rfl) (fun hct14 => ?_) (fun hct14 => ?_)
      ·
        try simp only [decide_eq_true_eq, decide_eq_false_iff_not, Bool.and_eq_true, Bool.and_eq_false_iff, Bool.or_eq_true, Bool.or_eq_false_iff, Bool.not_eq_true', Bool.not_eq_false', Bool.not_eq_true, Bool.not_eq_false] at hct14
        have hS := hbf (by simpa using hct14)
        refine hx_ret ?_
        refine bl_ret ?_
        refine th_ret ?_
        refine th_ret ?_
        refine bl_ret ?_
        refine fin_ret [] rfl rfl (by simp only [ev_tmp, ev_const, ev_func, set_get, Nat.reduceEqDiff, reduceIte, resv, e0, hB.cell, e1, i0, i5, i6, i7]; rfl) ?_  -- ret 0 r3
        exact .inr hS
      ·
        try simp only [decide_eq_true_eq, decide_eq_false_iff_not, Bool.and_eq_true, Bool.and_eq_false_iff, Bool.or_eq_true, Bool.or_eq_false_iff, Bool.not_eq_true', Bool.not_eq_false', Bool.not_eq_true, Bool.not_eq_false] at hct14
        have hJ2 := hbt (by simpa using hct14)
        rw [← ha] at i5
        refine hx_skip ?_
        refine bl_norm ?_
        refine th_norm ?_
        refine hx_region ?_
        refine WL.qq (by simp only [ev_tmp, ev_const, ev_func, set_get, Nat.reduceEqDiff, reduceIte, qv_binOp, binv_add, e0, hB.cell, e1, i0, i5, i6, i7]; (try simp (disch := omega) only [w64, w8, wu64]); rfl) ?_
        refine WL.qq (by simp only [ev_tmp, ev_const, ev_func, set_get, Nat.reduceEqDiff, reduceIte, qv_move, e0, hB.cell, e1, i0, i5, i6, i7]; rfl) ?_
        refine WL.nil ?_
        refine th_norm ?_
        refine ⟨l.length - (i + 1), by omega, i + 1, rfl, by omega, rfl, hJ2, ?_, ?_, ?_, ?_⟩ <;> (simp only [set_get, Nat.reduceEqDiff, reduceIte, i0, i5, i6, i7] <;> rfl)
    ·
      try simp only [decide_eq_true_eq, decide_eq_false_iff_not, Bool.and_eq_true, Bool.and_eq_false_iff, Bool.or_eq_true, Bool.or_eq_false_iff, Bool.not_eq_true', Bool.not_eq_false', Bool.not_eq_true, Bool.not_eq_false] at hct8
      have hii : i = l.length := by omega
      refine hx_exit ?_
      refine th_exit ?_
      refine th_exit ?_
      refine bl_hit ?_
      refine fin_end [] rfl rfl (by simp only [ev_tmp, ev_const, ev_func, set_get, Nat.reduceEqDiff, reduceIte, resv, e0, hB.cell, e1, i0, i5, i6, i7]; rfl) ?_  -- ret 1 r4
      exact .inl (hii ▸ hJi)
end GL


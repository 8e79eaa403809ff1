/- Calendar: the search in the holidays; business days. -/
import Derived.Test.YtnmgdjajmmgaaaaCalD
set_option linter.unusedSimpArgs false
set_option linter.unusedVariables false
set_option linter.unnecessarySimpa false
namespace GL
open Go Go.Proofs
set_option maxRecDepth 8000
theorem mid_shr (i j : Nat) : ((i : Int) + j).fdiv (2 ^ (min (1 : Int).toNat IntKind.u64.bits)) = (((i + j) / 2 : Nat) : Int) := by
  have h1 : (min (1 : Int).toNat IntKind.u64.bits) = 1 := by decide
  rw [h1, Int.fdiv_eq_ediv_of_nonneg _ (by decide)]
  simp only [Int.pow_succ, Int.pow_zero, Int.one_mul]
  omega
def Sorted (l : List Int) : Prop := ∀ (i j : Nat) (y z : Int), i ≤ j → l[i]? = some y → l[j]? = some z → y ≤ z
theorem bs_end (l : List Int) (x : Int) (i : Nat) (y : Int) (ho : Sorted l) (hlo : ∀ (m : Nat) (y : Int), m < i → l[m]? = some y → y < x) (hhi : ∀ (m : Nat) (y : Int), i ≤ m → l[m]? = some y → x ≤ y)
    (hq : i < l.length → l[i]? = some y) : (decide ((i : Int) < (l.length : Int)) && (decide (y = x) || false)) = l.contains x := by
  rw [Bool.eq_iff_iff]
  simp only [Bool.and_eq_true, decide_eq_true_eq, Bool.or_false, List.contains_iff_mem]
  constructor
  · rintro ⟨h1, rfl⟩
    exact List.mem_of_getElem? (hq (by omega))
  · intro hm
    obtain ⟨m, hm⟩ := List.mem_iff_getElem?.1 hm
    have hml : m < l.length := (List.getElem?_eq_some_iff.1 hm).1
    have hmi : i ≤ m := by
      rcases Nat.lt_or_ge m i with h2 | h2
      · have := hlo m x h2 hm; omega
      · exact h2
    have hi : i < l.length := by omega
    have h3 := hhi i y (Nat.le_refl _) (hq hi)
    have h4 := ho i m y x hmi (hq hi) hm
    exact ⟨by omega, by omega⟩
theorem c_bsearch (a : Option Addr) (cap : Nat) (l : List Int) (x : Int) {h : Heap} (hs : SlI h a l) (hlen : l.length ≤ 4611686018427387904) (ho : Sorted l) :
    HCalls Try.prog 54 #[.slice a l.length cap, .int .i64 x] h fun v h' => (∃ i : Int, v = .tuple #[.int .i64 i, .bool (l.contains x)]) ∧ h' = h := by
  refine hcalls2 Try.func54 rfl (by decide +kernel) (by simp only [Try.ntmps54]; exact of_decide_eq_true rfl) ?_
  intro e hin
  have e0 := hin 0 _ rfl
  have e1 := hin 1 _ rfl
  refine hx_seq ?_
  refine hx_region ?_
  refine WL.qq (by simp only [ev_tmp, ev_const, ev_func, set_get, Nat.reduceEqDiff, reduceIte, qv_assign, e0, e1]; rfl) ?_
  refine WL.qq (by simp only [ev_tmp, ev_const, ev_func, set_get, Nat.reduceEqDiff, reduceIte, qv_assign, e0, e1]; rfl) ?_
  refine WL.nil ?_
  refine th_norm ?_
  refine hx_seq ?_
  refine hx_region ?_
  refine WL.qq (by simp only [ev_tmp, ev_const, ev_func, set_get, Nat.reduceEqDiff, reduceIte, qv_move, e0, e1]; rfl) ?_
  refine WL.qq (by simp only [ev_tmp, ev_const, ev_func, set_get, Nat.reduceEqDiff, reduceIte, qv_len, ln25, List.getElem?_toArray, List.getElem?_cons_zero, List.getElem?_cons_succ, List.map_toArray, List.map_cons, List.map_nil, Option.map_some, Option.bind_some, e0, e1]; rfl) ?_
  refine WL.qq (by simp only [ev_tmp, ev_const, ev_func, set_get, Nat.reduceEqDiff, reduceIte, qv_assign, e0, e1]; rfl) ?_
  refine WL.nil ?_
  refine th_norm ?_
  refine hx_seq ?_
  refine hx_region ?_
  refine WL.qq (by simp only [ev_tmp, ev_const, ev_func, set_get, Nat.reduceEqDiff, reduceIte, qv_move, e0, e1]; rfl) ?_
  refine WL.qq (by simp only [ev_tmp, ev_const, ev_func, set_get, Nat.reduceEqDiff, reduceIte, qv_assign, e0, e1]; rfl) ?_
  refine WL.qq (by simp only [ev_tmp, ev_const, ev_func, set_get, Nat.reduceEqDiff, reduceIte, qv_assign, e0, e1]; rfl) ?_
  refine WL.nil ?_
  refine th_norm ?_
  refine hx_seq ?_
  refine hx_block ?_
  refine hx_loop (fun k e ds hx => ∃ i j : Nat, k = j - i ∧ i ≤ j ∧ j ≤ l.length ∧ (∀ m y, m < i → l[m]? = some y → y < x) ∧ (∀ m y, j ≤ m → l[m]? = some y → x ≤ y) ∧ ds = [] ∧ h = hx ∧ e 0 = .slice a l.length cap ∧ e 1 = .int .i64 x ∧ e 6 = .int .i64 l.length ∧ e 7 = .int .i64 i ∧ e 8 = .int .i64 j) (l.length) ?_ ?_
  ·
    refine ⟨0, l.length, by omega, by omega, by omega, ?_, ?_, rfl, rfl, ?_, ?_, ?_, ?_, ?_⟩ <;> first | (intro m y hm hy; omega) | (intro m y hm hy; simp [List.getElem?_eq_none hm] at hy) | (simp only [set_get, Nat.reduceEqDiff, reduceIte, e0, e1] <;> rfl)
  ·
    rintro k e ds hx ⟨i, j, rfl, hij, hj, hlo, hhi, rfl, rfl, i0, i1, i6, i7, i8⟩
    refine hx_seq ?_
    refine hx_seq ?_
    refine hx_region ?_
    refine WL.qq (by simp only [ev_tmp, ev_const, ev_func, set_get, Nat.reduceEqDiff, reduceIte, qv_move, e0, e1, i0, i1, i6, i7, i8]; rfl) ?_
    refine WL.qq (by simp only [ev_tmp, ev_const, ev_func, set_get, Nat.reduceEqDiff, reduceIte, qv_move, e0, e1, i0, i1, i6, i7, i8]; rfl) ?_
    refine WL.qq (by simp only [ev_tmp, ev_const, ev_func, set_get, Nat.reduceEqDiff, reduceIte, qv_binOp, binv_lss, e0, e1, i0, i1, i6, i7, i8]; rfl) ?_
    refine WL.nil ?_
    refine th_norm ?_
    refine hx_cond (by simp only [ev_tmp, ev_const, ev_func, set_get, Nat.reduceEqDiff, reduceIte, e0, e1, i0, i1, i6, i7, i8]; rfl) (fun hct15 => ?_) (fun hct15 => ?_)
    ·
      try simp only [decide_eq_true_eq, decide_eq_false_iff_not, Bool.and_eq_true, Bool.and_eq_false_iff, Bool.or_eq_true, Bool.or_eq_false_iff, Bool.not_eq_true', Bool.not_eq_false', Bool.not_eq_true, Bool.not_eq_false] at hct15
      obtain ⟨y, hy⟩ : ∃ y, l[(i + j) / 2]? = some y := ⟨l[(i + j) / 2]'(by omega), by simp⟩
      obtain ⟨b, off, rfl, hcell⟩ := hs _ y hy
      refine hx_skip ?_
      refine th_norm ?_
      refine hx_block ?_
      refine hx_seq ?_
      refine hx_region ?_
      refine WL.qq (by simp only [ev_tmp, ev_const, ev_func, set_get, Nat.reduceEqDiff, reduceIte, qv_move, e0, e1, i0, i1, i6, i7, i8]; rfl) ?_
      refine WL.qq (by simp only [ev_tmp, ev_const, ev_func, set_get, Nat.reduceEqDiff, reduceIte, qv_move, e0, e1, i0, i1, i6, i7, i8]; rfl) ?_
      refine WL.qq (by simp only [ev_tmp, ev_const, ev_func, set_get, Nat.reduceEqDiff, reduceIte, qv_binOp, binv_add, e0, e1, i0, i1, i6, i7, i8]; (try simp (disch := omega) only [w64, w8, wu64]); rfl) ?_
      refine WL.qq (by simp only [ev_tmp, ev_const, ev_func, set_get, Nat.reduceEqDiff, reduceIte, qv_convert, convv, Try.underlying3, Try.underlying111, e0, e1, i0, i1, i6, i7, i8]; (try simp (disch := omega) only [w64, w8, wu64]); rfl) ?_
      refine WL.qq (by simp only [ev_tmp, ev_const, set_get, Nat.reduceEqDiff, reduceIte, qv_binOp]; rw [binv_shr (by decide), mid_shr]) ?_
      refine WL.qq (by simp only [ev_tmp, ev_const, ev_func, set_get, Nat.reduceEqDiff, reduceIte, qv_convert, convv, Try.underlying111, Try.underlying3, e0, e1, i0, i1, i6, i7, i8]; (try simp (disch := omega) only [w64, w8, wu64]); rfl) ?_
      refine WL.qq (by simp only [ev_tmp, ev_const, ev_func, set_get, Nat.reduceEqDiff, reduceIte, qv_assign, e0, e1, i0, i1, i6, i7, i8]; rfl) ?_
      refine WL.nil ?_
      refine th_norm ?_
      refine hx_seq ?_
      refine hx_region ?_
      refine WL.qq (by simp only [ev_tmp, ev_const, ev_func, set_get, Nat.reduceEqDiff, reduceIte, qv_move, e0, e1, i0, i1, i6, i7, i8]; rfl) ?_
      refine WL.qq (by simp only [ev_tmp, ev_const, ev_func, set_get, Nat.reduceEqDiff, reduceIte, qv_move, e0, e1, i0, i1, i6, i7, i8]; rfl) ?_
      refine WL.qq (by simp only [ev_tmp, ev_const, ev_func, set_get, Nat.reduceEqDiff, reduceIte, qv_indexAddr, e0, e1, i0, i1, i6, i7, i8]; (try simp (disch := omega) only [ix25, Int.toNat_natCast]); rfl) ?_
      refine WL.qq (by simp only [ev_tmp, ev_const, ev_func, set_get, Nat.reduceEqDiff, reduceIte, qv_load, ld3, readN, List.getElem?_toArray, List.getElem?_cons_zero, List.getElem?_cons_succ, List.map_toArray, List.map_cons, List.map_nil, Option.map_some, Option.bind_some, Nat.zero_add, Nat.reduceAdd, e0, e1, i0, i1, i6, i7, i8, hcell]; rfl) ?_
      refine WL.qq (by simp only [ev_tmp, ev_const, ev_func, set_get, Nat.reduceEqDiff, reduceIte, qv_move, e0, e1, i0, i1, i6, i7, i8]; rfl) ?_
      refine WL.ck Try.call61 (by simp only [ev_tmp, ev_const, ev_func, set_get, Nat.reduceEqDiff, reduceIte, List.getElem?_toArray, List.getElem?_cons_zero, List.getElem?_cons_succ, List.map_toArray, List.map_cons, List.map_nil, Option.map_some, Option.bind_some, e0, e1, i0, i1, i6, i7, i8]; exact c_less _ _ _) ?_
      refine WL.nil ?_
      refine th_norm ?_
      refine hx_cond (by simp only [ev_tmp, ev_const, ev_func, set_get, Nat.reduceEqDiff, reduceIte, e0, e1, i0, i1, i6, i7, i8]; rfl) (fun hct27 => ?_) (fun hct27 => ?_)
      ·
        try simp only [decide_eq_true_eq, decide_eq_false_iff_not, Bool.and_eq_true, Bool.and_eq_false_iff, Bool.or_eq_true, Bool.or_eq_false_iff, Bool.not_eq_true', Bool.not_eq_false', Bool.not_eq_true, Bool.not_eq_false] at hct27
        refine hx_region ?_
        refine WL.qq (by simp only [ev_tmp, ev_const, ev_func, set_get, Nat.reduceEqDiff, reduceIte, qv_move, e0, e1, i0, i1, i6, i7, i8]; rfl) ?_
        refine WL.qq (by simp only [ev_tmp, ev_const, ev_func, set_get, Nat.reduceEqDiff, reduceIte, qv_binOp, binv_add, e0, e1, i0, i1, i6, i7, i8]; (try simp (disch := omega) only [w64, w8, wu64]); rfl) ?_
        refine WL.qq (by simp only [ev_tmp, ev_const, ev_func, set_get, Nat.reduceEqDiff, reduceIte, qv_assign, e0, e1, i0, i1, i6, i7, i8]; rfl) ?_
        refine WL.nil ?_
        refine bl_norm ?_
        refine th_norm ?_
        first | (refine ⟨j - ((i + j) / 2 + 1), by omega, (i + j) / 2 + 1, j, rfl, by omega, by omega, ?_, hhi, rfl, rfl, ?_, ?_, ?_, ?_, ?_⟩ <;> first | (intro m u hm hu; exact Int.lt_of_le_of_lt (ho m _ u y (by omega) hu hy) hct27) | (simp only [set_get, Nat.reduceEqDiff, reduceIte, i0, i1, i6, i7, i8] <;> rfl)) | (refine ⟨(i + j) / 2 - i, by omega, i, (i + j) / 2, rfl, by omega, by omega, hlo, ?_, rfl, rfl, ?_, ?_, ?_, ?_, ?_⟩ <;> first | (intro m u hm hu; exact Int.le_trans (by omega) (ho _ m y u hm hy hu)) | (simp only [set_get, Nat.reduceEqDiff, reduceIte, i0, i1, i6, i7, i8] <;> rfl))
      ·
        try simp only [decide_eq_true_eq, decide_eq_false_iff_not, Bool.and_eq_true, Bool.and_eq_false_iff, Bool.or_eq_true, Bool.or_eq_false_iff, Bool.not_eq_true', Bool.not_eq_false', Bool.not_eq_true, Bool.not_eq_false] at hct27
        refine hx_region ?_
        refine WL.qq (by simp only [ev_tmp, ev_const, ev_func, set_get, Nat.reduceEqDiff, reduceIte, qv_move, e0, e1, i0, i1, i6, i7, i8]; rfl) ?_
        refine WL.qq (by simp only [ev_tmp, ev_const, ev_func, set_get, Nat.reduceEqDiff, reduceIte, qv_assign, e0, e1, i0, i1, i6, i7, i8]; rfl) ?_
        refine WL.nil ?_
        refine bl_norm ?_
        refine th_norm ?_
        first | (refine ⟨j - ((i + j) / 2 + 1), by omega, (i + j) / 2 + 1, j, rfl, by omega, by omega, ?_, hhi, rfl, rfl, ?_, ?_, ?_, ?_, ?_⟩ <;> first | (intro m u hm hu; exact Int.lt_of_le_of_lt (ho m _ u y (by omega) hu hy) hct27) | (simp only [set_get, Nat.reduceEqDiff, reduceIte, i0, i1, i6, i7, i8] <;> rfl)) | (refine ⟨(i + j) / 2 - i, by omega, i, (i + j) / 2, rfl, by omega, by omega, hlo, ?_, rfl, rfl, ?_, ?_, ?_, ?_, ?_⟩ <;> first | (intro m u hm hu; exact Int.le_trans (by omega) (ho _ m y u hm hy hu)) | (simp only [set_get, Nat.reduceEqDiff, reduceIte, i0, i1, i6, i7, i8] <;> rfl))
    ·
      try simp only [decide_eq_true_eq, decide_eq_false_iff_not, Bool.and_eq_true, Bool.and_eq_false_iff, Bool.or_eq_true, Bool.or_eq_false_iff, Bool.not_eq_true', Bool.not_eq_false', Bool.not_eq_true, Bool.not_eq_false] at hct15
      obtain rfl : i = j := by omega
      obtain ⟨b, off, y, hq⟩ : ∃ b off y, i < l.length → a = some ⟨b, off, none⟩ ∧ cell h b (off + i) = some (.int .i64 y) ∧ l[i]? = some y := by { exact if hlt : i < l.length then (by obtain ⟨b, off, ha, hc⟩ := hs i l[i] (by simp); exact ⟨b, off, l[i], fun _ => ⟨ha, hc, by simp⟩⟩) else ⟨0, 0, 0, fun hh => absurd hh hlt⟩ }
      refine hx_exit ?_
      refine th_exit ?_
      refine th_exit ?_
      refine bl_hit ?_
      refine th_norm ?_
      refine hx_seq ?_
      refine hx_region ?_
      refine WL.qq (by simp only [ev_tmp, ev_const, ev_func, set_get, Nat.reduceEqDiff, reduceIte, qv_move, e0, e1, i0, i1, i6, i7, i8]; rfl) ?_
      refine WL.qq (by simp only [ev_tmp, ev_const, ev_func, set_get, Nat.reduceEqDiff, reduceIte, qv_move, e0, e1, i0, i1, i6, i7, i8]; rfl) ?_
      refine WL.qq (by simp only [ev_tmp, ev_const, ev_func, set_get, Nat.reduceEqDiff, reduceIte, qv_move, e0, e1, i0, i1, i6, i7, i8]; rfl) ?_
      refine WL.qq (by simp only [ev_tmp, ev_const, ev_func, set_get, Nat.reduceEqDiff, reduceIte, qv_binOp, binv_lss, e0, e1, i0, i1, i6, i7, i8]; rfl) ?_
      refine WL.qq (by simp only [ev_tmp, ev_const, ev_func, set_get, Nat.reduceEqDiff, reduceIte, qv_move, e0, e1, i0, i1, i6, i7, i8]; rfl) ?_
      refine WL.cq (gd_at (t := 35) rfl (by simp only [ev_tmp, ev_const, ev_func, set_get, Nat.reduceEqDiff, reduceIte, e0, e1, i0, i1, i6, i7, i8]; rfl)) (fun hg8_5 => by simp only [ev_tmp, ev_const, ev_func, set_get, Nat.reduceEqDiff, reduceIte, qv_move, e0, e1, i0, i1, i6, i7, i8, hg8_5, Bool.false_eq_true, Bool.true_eq_false, eq_self, if_true, if_false, true_and, and_true, false_and, and_false]; rfl) ?_
      refine WL.cq (gd_at (t := 35) rfl (by simp only [ev_tmp, ev_const, ev_func, set_get, Nat.reduceEqDiff, reduceIte, e0, e1, i0, i1, i6, i7, i8]; rfl)) (fun hg8_6 => by simp only [ev_tmp, ev_const, ev_func, set_get, Nat.reduceEqDiff, reduceIte, qv_move, e0, e1, i0, i1, i6, i7, i8, hg8_6, Bool.false_eq_true, Bool.true_eq_false, eq_self, if_true, if_false, true_and, and_true, false_and, and_false]; rfl) ?_
      refine WL.cq (gd_at (t := 35) rfl (by simp only [ev_tmp, ev_const, ev_func, set_get, Nat.reduceEqDiff, reduceIte, e0, e1, i0, i1, i6, i7, i8]; rfl)) (fun hg8_7 => by have hlt : i < l.length := by { simpa using hg8_7 }; have hh9 := hq hlt; simp only [ev_tmp, ev_const, set_get, Nat.reduceEqDiff, reduceIte, qv_indexAddr, hg8_7, hh9.1, if_true]; simp (disch := omega) only [ix25, Int.toNat_natCast]; rfl) ?_
      refine WL.cq (gd_at (t := 35) rfl (by simp only [ev_tmp, ev_const, ev_func, set_get, Nat.reduceEqDiff, reduceIte, e0, e1, i0, i1, i6, i7, i8]; rfl)) (fun hg8_8 => by have hlt : i < l.length := by { simpa using hg8_8 }; have hh9 := hq hlt; simp only [ev_tmp, ev_const, set_get, Nat.reduceEqDiff, reduceIte, qv_load, ld3, hg8_8, hh9.2.1, if_true]; rfl) ?_
      refine WL.cq (gd_at (t := 35) rfl (by simp only [ev_tmp, ev_const, ev_func, set_get, Nat.reduceEqDiff, reduceIte, e0, e1, i0, i1, i6, i7, i8]; rfl)) (fun hg8_9 => by simp only [ev_tmp, ev_const, ev_func, set_get, Nat.reduceEqDiff, reduceIte, qv_move, e0, e1, i0, i1, i6, i7, i8, hg8_9, Bool.false_eq_true, Bool.true_eq_false, eq_self, if_true, if_false, true_and, and_true, false_and, and_false]; rfl) ?_
      refine WL.cq (gd_at (t := 35) rfl (by simp only [ev_tmp, ev_const, ev_func, set_get, Nat.reduceEqDiff, reduceIte, e0, e1, i0, i1, i6, i7, i8]; rfl)) (fun hg8_10 => by simp only [ev_tmp, ev_const, ev_func, set_get, Nat.reduceEqDiff, reduceIte, qv_binOp, binv_eql, eq3, Option.map_some, e0, e1, i0, i1, i6, i7, i8, hg8_10, Bool.false_eq_true, Bool.true_eq_false, eq_self, if_true, if_false, true_and, and_true, false_and, and_false]; rfl) ?_
      refine WL.cq (gd_at (t := 35) rfl (by simp only [ev_tmp, ev_const, ev_func, set_get, Nat.reduceEqDiff, reduceIte, e0, e1, i0, i1, i6, i7, i8]; rfl)) (fun hg8_11 => by simp only [ev_tmp, ev_const, ev_func, set_get, Nat.reduceEqDiff, reduceIte, qv_move, e0, e1, i0, i1, i6, i7, i8, hg8_11, Bool.false_eq_true, Bool.true_eq_false, eq_self, if_true, if_false, true_and, and_true, false_and, and_false]; rfl) ?_
      refine WL.cq2 (t := 42) rfl (by simp only [ev_tmp, ev_const, ev_func, set_get, Nat.reduceEqDiff, reduceIte, e0, e1, i0, i1, i6, i7, i8]; rfl) (fun hC8_12 hg8_12 => by simp only [ev_tmp, ev_const, ev_func, set_get, Nat.reduceEqDiff, reduceIte, qv_move, e0, e1, i0, i1, i6, i7, i8, hC8_12, hg8_12, Bool.false_eq_true, Bool.true_eq_false, eq_self, if_true, if_false, true_and, and_true, false_and, and_false]; rfl) ?_
      refine WL.cq2 (t := 42) rfl (by simp only [ev_tmp, ev_const, ev_func, set_get, Nat.reduceEqDiff, reduceIte, e0, e1, i0, i1, i6, i7, i8]; rfl) (fun hC8_13 hg8_13 => by simp only [ev_tmp, ev_const, ev_func, set_get, Nat.reduceEqDiff, reduceIte, qv_move, e0, e1, i0, i1, i6, i7, i8, hC8_13, hg8_13, Bool.false_eq_true, Bool.true_eq_false, eq_self, if_true, if_false, true_and, and_true, false_and, and_false]; rfl) ?_
      refine WL.cq2 (t := 42) rfl (by simp only [ev_tmp, ev_const, ev_func, set_get, Nat.reduceEqDiff, reduceIte, e0, e1, i0, i1, i6, i7, i8]; rfl) (fun hC8_14 hg8_14 => by have hlt : i < l.length := by { simpa using hC8_14 }; have hh9 := hq hlt; simp only [ev_tmp, ev_const, set_get, Nat.reduceEqDiff, reduceIte, qv_indexAddr, hC8_14, hg8_14, hh9.1, Bool.false_eq_true, Bool.true_eq_false, eq_self, if_true, if_false, true_and, and_true, false_and, and_false]; simp (disch := omega) only [ix25, Int.toNat_natCast]; rfl) ?_
      refine WL.cq2 (t := 42) rfl (by simp only [ev_tmp, ev_const, ev_func, set_get, Nat.reduceEqDiff, reduceIte, e0, e1, i0, i1, i6, i7, i8]; rfl) (fun hC8_15 hg8_15 => by have hlt : i < l.length := by { simpa using hC8_15 }; have hh9 := hq hlt; simp only [ev_tmp, ev_const, set_get, Nat.reduceEqDiff, reduceIte, qv_load, ld3, hC8_15, hg8_15, hh9.2.1, Bool.false_eq_true, Bool.true_eq_false, eq_self, if_true, if_false, true_and, and_true, false_and, and_false]; rfl) ?_
      refine WL.cck2 (t := 42) rfl (by simp only [ev_tmp, ev_const, ev_func, set_get, Nat.reduceEqDiff, reduceIte, e0, e1, i0, i1, i6, i7, i8]; rfl) Try.call62 (fun hC8_16 hg8_16 => by simp only [ev_tmp, ev_const, ev_func, set_get, Nat.reduceEqDiff, reduceIte, List.getElem?_toArray, List.getElem?_cons_zero, List.getElem?_cons_succ, List.map_toArray, List.map_cons, List.map_nil, Option.map_some, Option.bind_some, e0, e1, i0, i1, i6, i7, i8, hC8_16, hg8_16, Bool.false_eq_true, Bool.true_eq_false, eq_self, if_true, if_false, true_and, and_true, false_and, and_false]; exact c_snan _ _) ?_
      refine WL.cq2 (t := 42) rfl (by simp only [ev_tmp, ev_const, ev_func, set_get, Nat.reduceEqDiff, reduceIte, e0, e1, i0, i1, i6, i7, i8]; rfl) (fun hC8_17 hg8_17 => by simp only [ev_tmp, ev_const, ev_func, set_get, Nat.reduceEqDiff, reduceIte, qv_move, e0, e1, i0, i1, i6, i7, i8, hC8_17, hg8_17, Bool.false_eq_true, Bool.true_eq_false, eq_self, if_true, if_false, true_and, and_true, false_and, and_false]; rfl) ?_
      refine WL.cq2 (t := 48) rfl (by simp only [ev_tmp, ev_const, ev_func, set_get, Nat.reduceEqDiff, reduceIte, e0, e1, i0, i1, i6, i7, i8]; rfl) (fun hC8_18 hg8_18 => by simp only [ev_tmp, ev_const, ev_func, set_get, Nat.reduceEqDiff, reduceIte, qv_move, e0, e1, i0, i1, i6, i7, i8, hC8_18, hg8_18, Bool.false_eq_true, Bool.true_eq_false, eq_self, if_true, if_false, true_and, and_true, false_and, and_false]; rfl) ?_
      refine WL.cck2 (t := 48) rfl (by simp only [ev_tmp, ev_const, ev_func, set_get, Nat.reduceEqDiff, reduceIte, e0, e1, i0, i1, i6, i7, i8]; rfl) Try.call62 (fun hC8_19 hg8_19 => by simp only [ev_tmp, ev_const, ev_func, set_get, Nat.reduceEqDiff, reduceIte, List.getElem?_toArray, List.getElem?_cons_zero, List.getElem?_cons_succ, List.map_toArray, List.map_cons, List.map_nil, Option.map_some, Option.bind_some, e0, e1, i0, i1, i6, i7, i8, hC8_19, hg8_19, Bool.false_eq_true, Bool.true_eq_false, eq_self, if_true, if_false, true_and, and_true, false_and, and_false]; exact c_snan _ _) ?_
      refine WL.cq2 (t := 42) rfl (by simp only [ev_tmp, ev_const, ev_func, set_get, Nat.reduceEqDiff, reduceIte, e0, e1, i0, i1, i6, i7, i8]; rfl) (fun hC8_20 hg8_20 => by simp only [ev_tmp, ev_const, ev_func, set_get, Nat.reduceEqDiff, reduceIte, qv_pick, pk_and, pk_or, Bool.false_eq_true, Bool.true_eq_false, eq_self, if_true, if_false, true_and, and_true, false_and, and_false, e0, e1, i0, i1, i6, i7, i8, hC8_20, hg8_20, Bool.false_eq_true, Bool.true_eq_false, eq_self, if_true, if_false, true_and, and_true, false_and, and_false]; rfl) ?_
      refine WL.cq (gd_at (t := 35) rfl (by simp only [ev_tmp, ev_const, ev_func, set_get, Nat.reduceEqDiff, reduceIte, e0, e1, i0, i1, i6, i7, i8]; rfl)) (fun hg8_21 => by simp only [ev_tmp, ev_const, ev_func, set_get, Nat.reduceEqDiff, reduceIte, qv_pick, pk_and, pk_or, Bool.false_eq_true, Bool.true_eq_false, eq_self, if_true, if_false, true_and, and_true, false_and, and_false, e0, e1, i0, i1, i6, i7, i8, hg8_21, Bool.false_eq_true, Bool.true_eq_false, eq_self, if_true, if_false, true_and, and_true, false_and, and_false]; rfl) ?_
      refine WL.qq (by simp only [ev_tmp, ev_const, ev_func, set_get, Nat.reduceEqDiff, reduceIte, qv_pick, pk_and, pk_or, Bool.false_eq_true, Bool.true_eq_false, eq_self, if_true, if_false, true_and, and_true, false_and, and_false, e0, e1, i0, i1, i6, i7, i8]; rfl) ?_
      refine WL.qq (by simp only [ev_tmp, ev_const, ev_func, set_get, Nat.reduceEqDiff, reduceIte, qv_assign, e0, e1, i0, i1, i6, i7, i8]; rfl) ?_
      refine WL.qq (by simp only [ev_tmp, ev_const, ev_func, set_get, Nat.reduceEqDiff, reduceIte, qv_assign, e0, e1, i0, i1, i6, i7, i8]; rfl) ?_
      refine WL.nil ?_
      refine th_norm ?_
      refine hx_ret ?_
      refine fin_ret [.tmp 4, .tmp 5] rfl rfl (by simp only [ev_tmp, ev_const, ev_func, set_get, Nat.reduceEqDiff, reduceIte, resv, e0, e1, i0, i1, i6, i7, i8]; rfl) ?_  -- ret 0 r8
      refine ⟨⟨i, ?_⟩, rfl⟩
      rw [bs_end l x i y ho hlo hhi (fun hh => (hq hh).2.2)]; rfl
/-- A calendar of the program: the block that holds it. -/
structure IsCal (h : Heap) (p : Nat) (wk hs : List Int) : Prop where
  ex : ∃ a c, Has h p (.cells #[.bool (wk.contains 0), .bool (wk.contains 1), .bool (wk.contains 2), .bool (wk.contains 3), .bool (wk.contains 4), .bool (wk.contains 5), .bool (wk.contains 6), .slice a hs.length c] 103) ∧ SlI h a hs ∧ hs.length ≤ c
  so : Sorted hs
  small : hs.length ≤ 4611686018427387904
theorem IsCal.ext {h h' : Heap} {p : Nat} {wk hs : List Int} (hc : IsCal h p wk hs) (hx : Ext h h') : IsCal h' p wk hs := by
  obtain ⟨⟨a, c, h1, h2, h3⟩, h4, h5⟩ := hc
  exact ⟨⟨a, c, h1.ext hx, h2.ext hx, h3⟩, h4, h5⟩
theorem wk_cell (wk : List Int) (v : Value) (d : Int) (h0 : 0 ≤ d) (h1 : d < 7) :
    (#[.bool (wk.contains 0), .bool (wk.contains 1), .bool (wk.contains 2), .bool (wk.contains 3), .bool (wk.contains 4), .bool (wk.contains 5), .bool (wk.contains 6), v] : Array Value)[d.toNat]? = some (.bool (wk.contains d)) := by
  have : d = 0 ∨ d = 1 ∨ d = 2 ∨ d = 3 ∨ d = 4 ∨ d = 5 ∨ d = 6 := by omega
  rcases this with rfl | rfl | rfl | rfl | rfl | rfl | rfl <;> rfl
theorem weekday_range (m : Int) (hm : validM m = true) : 0 ≤ weekdayM m ∧ weekdayM m < 7 ∧ weekdayM m = (m + 5).tmod 7 := by
  have h1 := hm
  simp only [validM, Bool.and_eq_true, decide_eq_true_eq] at h1
  have e : weekdayM m = (m + 5).tmod 7 := by simp [weekdayM, hm]
  rw [e, Int.tmod_eq_emod_of_nonneg (by omega)]
  omega
theorem c_isBusiness (p : Nat) (wk hs : List Int) (m : Int) {h : Heap} (hc : IsCal h p wk hs) : HCalls Try.prog 38 #[.pointer (some ⟨p, 0, none⟩), .int .i64 m] h (Pure (.bool (busM wk hs m)) h) := by
  obtain ⟨⟨a, c, hp, hsl, hcap⟩, ho, hsm⟩ := hc
  refine hcalls2 Try.func38 rfl (by decide +kernel) (by simp only [Try.ntmps38]; exact of_decide_eq_true rfl) ?_
  intro e hin
  have e0 := hin 0 _ rfl
  have e1 := hin 1 _ rfl
  refine hx_seq ?_
  refine hx_region ?_
  refine WL.qq (by simp only [ev_tmp, ev_const, ev_func, set_get, Nat.reduceEqDiff, reduceIte, qv_assign, e0, e1, hp.cell]; rfl) ?_
  refine WL.nil ?_
  refine th_norm ?_
  refine hx_seq ?_
  refine hx_seq ?_
  apply hx_draw2 Rel.same [] [4, 10] [(4, Spec.is _), (10, Spec.is _)] rfl (by decide +kernel) rfl
  refine LD.qq rfl rfl (by simp only [ev_tmp, ev_const, ev_func, set_get, Nat.reduceEqDiff, reduceIte, qv_move, e0, e1, hp.cell]; rfl) ?_
  refine LD.qq rfl rfl (by simp only [ev_tmp, ev_const, ev_func, set_get, Nat.reduceEqDiff, reduceIte, qv_binOp, binv_eql, eqz30, eqn30, eqm30, Option.map_some, e0, e1, hp.cell]; rfl) ?_
  refine LD.qq rfl rfl (by simp only [ev_tmp, ev_const, ev_func, set_get, Nat.reduceEqDiff, reduceIte, qv_move, e0, e1, hp.cell]; rfl) ?_
  refine LD.cq rfl rfl (gd_at (t := 9) rfl (by simp only [ev_tmp, ev_const, ev_func, set_get, Nat.reduceEqDiff, reduceIte, e0, e1, hp.cell]; rfl)) (fun hg1_3 => by simp only [ev_tmp, ev_const, ev_func, set_get, Nat.reduceEqDiff, reduceIte, qv_move, e0, e1, hp.cell, hg1_3, Bool.false_eq_true, Bool.true_eq_false, eq_self, if_true, if_false, true_and, and_true, false_and, and_false]; rfl) ?_
  refine LD.cck rfl rfl (gd_at (t := 9) rfl (by simp only [ev_tmp, ev_const, ev_func, set_get, Nat.reduceEqDiff, reduceIte, e0, e1, hp.cell]; rfl)) Try.call48 (fun hg1_4 => by intro hh hr; obtain rfl : hh = _ := hr; simp only [ev_tmp, ev_const, ev_func, set_get, Nat.reduceEqDiff, reduceIte, List.getElem?_toArray, List.getElem?_cons_zero, List.getElem?_cons_succ, List.map_toArray, List.map_cons, List.map_nil, Option.map_some, Option.bind_some, e0, e1, hp.cell, hg1_4, Bool.false_eq_true, Bool.true_eq_false, eq_self, if_true, if_false, true_and, and_true, false_and, and_false]; exact c_valid _ _) ?_
  refine LD.cq rfl rfl (gd_at (t := 9) rfl (by simp only [ev_tmp, ev_const, ev_func, set_get, Nat.reduceEqDiff, reduceIte, e0, e1, hp.cell]; rfl)) (fun hg1_5 => by simp only [ev_tmp, ev_const, ev_func, set_get, Nat.reduceEqDiff, reduceIte, qv_unOp, unv_not, e0, e1, hp.cell, hg1_5, Bool.false_eq_true, Bool.true_eq_false, eq_self, if_true, if_false, true_and, and_true, false_and, and_false]; rfl) ?_
  refine LD.qq rfl rfl (by simp only [ev_tmp, ev_const, ev_func, set_get, Nat.reduceEqDiff, reduceIte, qv_pick, pk_and, pk_or, Bool.false_eq_true, Bool.true_eq_false, eq_self, if_true, if_false, true_and, and_true, false_and, and_false, e0, e1, hp.cell]; rfl) ?_
  refine LD.qq rfl rfl (by simp only [ev_tmp, ev_const, ev_func, set_get, Nat.reduceEqDiff, reduceIte, qv_move, e0, e1, hp.cell]; rfl) ?_
  refine LD.cq rfl rfl (gd_at (t := 14) rfl (by simp only [ev_tmp, ev_const, ev_func, set_get, Nat.reduceEqDiff, reduceIte, e0, e1, hp.cell]; rfl)) (fun hg1_8 => by simp only [ev_tmp, ev_const, ev_func, set_get, Nat.reduceEqDiff, reduceIte, qv_move, e0, e1, hp.cell, hg1_8, Bool.false_eq_true, Bool.true_eq_false, eq_self, if_true, if_false, true_and, and_true, false_and, and_false]; rfl) ?_
  refine LD.cq rfl rfl (gd_at (t := 14) rfl (by simp only [ev_tmp, ev_const, ev_func, set_get, Nat.reduceEqDiff, reduceIte, e0, e1, hp.cell]; rfl)) (fun hg1_9 => by simp only [ev_tmp, ev_const, ev_func, set_get, Nat.reduceEqDiff, reduceIte, qv_move, e0, e1, hp.cell, hg1_9, Bool.false_eq_true, Bool.true_eq_false, eq_self, if_true, if_false, true_and, and_true, false_and, and_false]; rfl) ?_
  refine LD.cck rfl rfl (gd_at (t := 14) rfl (by simp only [ev_tmp, ev_const, ev_func, set_get, Nat.reduceEqDiff, reduceIte, e0, e1, hp.cell]; rfl)) Try.call53 (fun hg1_10 => by intro hh hr; obtain rfl : hh = _ := hr; simp only [ev_tmp, ev_const, ev_func, set_get, Nat.reduceEqDiff, reduceIte, List.getElem?_toArray, List.getElem?_cons_zero, List.getElem?_cons_succ, List.map_toArray, List.map_cons, List.map_nil, Option.map_some, Option.bind_some, e0, e1, hp.cell, hg1_10, Bool.false_eq_true, Bool.true_eq_false, eq_self, if_true, if_false, true_and, and_true, false_and, and_false]; exact c_weekday _ _) ?_
  refine LD.cq rfl rfl (gd_at (t := 14) rfl (by simp only [ev_tmp, ev_const, ev_func, set_get, Nat.reduceEqDiff, reduceIte, e0, e1, hp.cell]; rfl)) (fun hg1_11 => by simp only [ev_tmp, ev_const, ev_func, set_get, Nat.reduceEqDiff, reduceIte, qv_nilCheck, e0, e1, hp.cell, hg1_11, Bool.false_eq_true, Bool.true_eq_false, eq_self, if_true, if_false, true_and, and_true, false_and, and_false]; rfl) ?_
  refine LD.cq rfl rfl (gd_at (t := 14) rfl (by simp only [ev_tmp, ev_const, ev_func, set_get, Nat.reduceEqDiff, reduceIte, e0, e1, hp.cell]; rfl)) (fun hg1_12 => by simp only [ev_tmp, ev_const, ev_func, set_get, Nat.reduceEqDiff, reduceIte, qv_fieldAddr, fa103_0, Nat.zero_add, Nat.reduceAdd, e0, e1, hp.cell, hg1_12, Bool.false_eq_true, Bool.true_eq_false, eq_self, if_true, if_false, true_and, and_true, false_and, and_false]; rfl) ?_
  refine LD.cq rfl rfl (gd_at (t := 14) rfl (by simp only [ev_tmp, ev_const, ev_func, set_get, Nat.reduceEqDiff, reduceIte, e0, e1, hp.cell]; rfl)) (fun hg1_13 => by have hv : validM m = true := by { simpa using hg1_13 }; have hr := weekday_range m hv; simp only [ev_tmp, ev_const, set_get, Nat.reduceEqDiff, reduceIte, qv_indexAddr, hg1_13, Bool.false_eq_true, Bool.true_eq_false, eq_self, if_true, if_false]; simp only [ix101 _ _ _ _ hr.1 hr.2.1, Nat.zero_add]; rfl) ?_
  refine LD.cq rfl rfl (gd_at (t := 14) rfl (by simp only [ev_tmp, ev_const, ev_func, set_get, Nat.reduceEqDiff, reduceIte, e0, e1, hp.cell]; rfl)) (fun hg1_14 => by have hv : validM m = true := by { simpa using hg1_14 }; have hr := weekday_range m hv; simp only [ev_tmp, ev_const, set_get, Nat.reduceEqDiff, reduceIte, qv_load, ld4, hg1_14, Bool.false_eq_true, Bool.true_eq_false, eq_self, if_true, if_false, hp.cell, wk_cell wk _ _ hr.1 hr.2.1]; rfl) ?_
  refine LD.qq rfl rfl (by simp only [ev_tmp, ev_const, ev_func, set_get, Nat.reduceEqDiff, reduceIte, qv_pick, pk_and, pk_or, Bool.false_eq_true, Bool.true_eq_false, eq_self, if_true, if_false, true_and, and_true, false_and, and_false, e0, e1, hp.cell]; rfl) ?_
  refine LD.nil ?_
  rintro _ rfl -
  refine WL.nil ?_
  refine th_norm ?_
  refine hx_cond (by simp only [ev_tmp, ev_const, ev_func, set_get, Nat.reduceEqDiff, reduceIte, e0, e1, hp.cell]; rfl) (fun hct22 => ?_) (fun hct22 => ?_)
  ·
    try simp only [decide_eq_true_eq, decide_eq_false_iff_not, Bool.and_eq_true, Bool.and_eq_false_iff, Bool.or_eq_true, Bool.or_eq_false_iff, Bool.not_eq_true', Bool.not_eq_false', Bool.not_eq_true, Bool.not_eq_false] at hct22
    refine hx_seq ?_
    refine hx_region ?_
    refine WL.qq (by simp only [ev_tmp, ev_const, ev_func, set_get, Nat.reduceEqDiff, reduceIte, qv_assign, e0, e1, hp.cell]; rfl) ?_
    refine WL.nil ?_
    refine th_norm ?_
    refine hx_ret ?_
    refine th_ret ?_
    refine fin_ret [.tmp 4] rfl rfl (by simp only [ev_tmp, ev_const, ev_func, set_get, Nat.reduceEqDiff, reduceIte, resv, e0, e1, hp.cell]; rfl) ?_  -- ret 0 r2
    refine ⟨?_, rfl⟩
    have hb : busM wk hs m = false := by { rcases hct22 with h1 | h1 <;> (by_cases hv : validM m = true) <;> first | (simp [busM, h1]; done) | (simp [busM, hv]; done) | (have hr := weekday_range m hv; rw [hr.2.2] at h1; simp only [busM, h1, Bool.not_true, Bool.and_false, Bool.false_and]) }
    rw [hb]; rfl
  ·
    try simp only [decide_eq_true_eq, decide_eq_false_iff_not, Bool.and_eq_true, Bool.and_eq_false_iff, Bool.or_eq_true, Bool.or_eq_false_iff, Bool.not_eq_true', Bool.not_eq_false', Bool.not_eq_true, Bool.not_eq_false] at hct22
    refine hx_skip ?_
    refine th_norm ?_
    refine hx_seq ?_
    refine hx_region ?_
    refine WL.qq (by simp only [ev_tmp, ev_const, ev_func, set_get, Nat.reduceEqDiff, reduceIte, qv_move, e0, e1, hp.cell]; rfl) ?_
    refine WL.qq (by simp only [ev_tmp, ev_const, ev_func, set_get, Nat.reduceEqDiff, reduceIte, qv_nilCheck, e0, e1, hp.cell]; rfl) ?_
    refine WL.qq (by simp only [ev_tmp, ev_const, ev_func, set_get, Nat.reduceEqDiff, reduceIte, qv_fieldAddr, fa103_1, Nat.zero_add, Nat.reduceAdd, e0, e1, hp.cell]; rfl) ?_
    refine WL.qq (by simp only [ev_tmp, ev_const, ev_func, set_get, Nat.reduceEqDiff, reduceIte, qv_load, ld25, readN, List.getElem?_toArray, List.getElem?_cons_zero, List.getElem?_cons_succ, List.map_toArray, List.map_cons, List.map_nil, Option.map_some, Option.bind_some, Nat.zero_add, Nat.reduceAdd, e0, e1, hp.cell]; rfl) ?_
    refine WL.qq (by simp only [ev_tmp, ev_const, ev_func, set_get, Nat.reduceEqDiff, reduceIte, qv_move, e0, e1, hp.cell]; rfl) ?_
    refine WL.ce Try.call54 (by simp only [ev_tmp, ev_const, ev_func, set_get, Nat.reduceEqDiff, reduceIte, List.getElem?_toArray, List.getElem?_cons_zero, List.getElem?_cons_succ, List.map_toArray, List.map_cons, List.map_nil, Option.map_some, Option.bind_some, e0, e1, hp.cell]; exact c_bsearch _ _ _ _ hsl hsm ho) ?_
    rintro _ _ ⟨⟨i, rfl⟩, rfl⟩
    refine WL.qq (by simp only [ev_tmp, ev_const, ev_func, set_get, Nat.reduceEqDiff, reduceIte, qv_move, e0, e1, hp.cell]; rfl) ?_
    refine WL.qq (by simp only [ev_tmp, ev_const, ev_func, set_get, Nat.reduceEqDiff, reduceIte, qv_extract, List.getElem?_toArray, List.getElem?_cons_zero, List.getElem?_cons_succ, List.map_toArray, List.map_cons, List.map_nil, Option.map_some, Option.bind_some, e0, e1, hp.cell]; rfl) ?_
    refine WL.qq (by simp only [ev_tmp, ev_const, ev_func, set_get, Nat.reduceEqDiff, reduceIte, qv_extract, List.getElem?_toArray, List.getElem?_cons_zero, List.getElem?_cons_succ, List.map_toArray, List.map_cons, List.map_nil, Option.map_some, Option.bind_some, e0, e1, hp.cell]; rfl) ?_
    refine WL.qq (by simp only [ev_tmp, ev_const, ev_func, set_get, Nat.reduceEqDiff, reduceIte, qv_assign, e0, e1, hp.cell]; rfl) ?_
    refine WL.qq (by simp only [ev_tmp, ev_const, ev_func, set_get, Nat.reduceEqDiff, reduceIte, qv_assign, e0, e1, hp.cell]; rfl) ?_
    refine WL.nil ?_
    refine th_norm ?_
    refine hx_seq ?_
    refine hx_region ?_
    refine WL.qq (by simp only [ev_tmp, ev_const, ev_func, set_get, Nat.reduceEqDiff, reduceIte, qv_move, e0, e1, hp.cell]; rfl) ?_
    refine WL.qq (by simp only [ev_tmp, ev_const, ev_func, set_get, Nat.reduceEqDiff, reduceIte, qv_unOp, unv_not, e0, e1, hp.cell]; rfl) ?_
    refine WL.qq (by simp only [ev_tmp, ev_const, ev_func, set_get, Nat.reduceEqDiff, reduceIte, qv_assign, e0, e1, hp.cell]; rfl) ?_
    refine WL.nil ?_
    refine th_norm ?_
    refine hx_ret ?_
    refine fin_ret [.tmp 4] rfl rfl (by simp only [ev_tmp, ev_const, ev_func, set_get, Nat.reduceEqDiff, reduceIte, resv, e0, e1, hp.cell]; rfl) ?_  -- ret 1 r4
    refine ⟨?_, rfl⟩
    have hr := weekday_range m hct22.1
    have hb : busM wk hs m = !hs.contains m := by { have h2 := hct22.2; rw [hr.2.2] at h2; simp only [busM, hct22.1, h2, Bool.not_false, Bool.true_and] }
    rw [hb]; rfl
end GL


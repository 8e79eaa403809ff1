/- Calendar: New. -/
import Derived.Test.YtnmgdjajmmgaaaaCalK
set_option linter.unusedSimpArgs false
set_option linter.unusedVariables false
set_option linter.unnecessarySimpa false
namespace GL
open Go Go.Proofs
set_option maxRecDepth 8000
theorem c_newp1 (m : Int) (h : Heap) : HCalls Try.prog 46 #[.int .i64 m] h (Pure (.bool (!wOk m)) h) := by
  refine hcalls2 Try.func46 rfl (by decide +kernel) (by simp only [Try.ntmps46]; exact of_decide_eq_true rfl) ?_
  intro e hin
  have e0 := hin 0 _ rfl
  refine hx_seq ?_
  refine hx_region ?_
  refine WL.qq (by simp only [ev_tmp, ev_const, ev_func, set_get, Nat.reduceEqDiff, reduceIte, qv_assign, e0]; rfl) ?_
  refine WL.nil ?_
  refine th_norm ?_
  refine hx_seq ?_
  refine hx_region ?_
  refine WL.qq (by simp only [ev_tmp, ev_const, ev_func, set_get, Nat.reduceEqDiff, reduceIte, qv_move, e0]; rfl) ?_
  refine WL.qq (by simp only [ev_tmp, ev_const, ev_func, set_get, Nat.reduceEqDiff, reduceIte, qv_binOp, binv_lss, e0]; rfl) ?_
  refine WL.qq (by simp only [ev_tmp, ev_const, ev_func, set_get, Nat.reduceEqDiff, reduceIte, qv_move, e0]; rfl) ?_
  refine WL.cq (gd_at (t := 5) rfl (by simp only [ev_tmp, ev_const, ev_func, set_get, Nat.reduceEqDiff, reduceIte, e0]; rfl)) (fun hg1_3 => by simp only [ev_tmp, ev_const, ev_func, set_get, Nat.reduceEqDiff, reduceIte, qv_move, e0, hg1_3, Bool.false_eq_true, Bool.true_eq_false, eq_self, if_true, if_false, true_and, and_true, false_and, and_false]; rfl) ?_
  refine WL.cq (gd_at (t := 5) rfl (by simp only [ev_tmp, ev_const, ev_func, set_get, Nat.reduceEqDiff, reduceIte, e0]; rfl)) (fun hg1_4 => by simp only [ev_tmp, ev_const, ev_func, set_get, Nat.reduceEqDiff, reduceIte, qv_binOp, binv_geq, e0, hg1_4, Bool.false_eq_true, Bool.true_eq_false, eq_self, if_true, if_false, true_and, and_true, false_and, and_false]; rfl) ?_
  refine WL.qq (by simp only [ev_tmp, ev_const, ev_func, set_get, Nat.reduceEqDiff, reduceIte, qv_pick, pk_and, pk_or, Bool.false_eq_true, Bool.true_eq_false, eq_self, if_true, if_false, true_and, and_true, false_and, and_false, e0]; rfl) ?_
  refine WL.qq (by simp only [ev_tmp, ev_const, ev_func, set_get, Nat.reduceEqDiff, reduceIte, qv_assign, e0]; rfl) ?_
  refine WL.nil ?_
  refine th_norm ?_
  refine hx_ret ?_
  refine fin_ret [.tmp 2] rfl rfl (by simp only [ev_tmp, ev_const, ev_func, set_get, Nat.reduceEqDiff, reduceIte, resv, e0]; rfl) ?_  -- ret 0 r1
  refine ⟨?_, rfl⟩
  simp only [retOf, wOk]; congr 1; rw [Bool.eq_iff_iff]; simp only [Bool.or_eq_true, decide_eq_true_eq, Bool.not_eq_true', Bool.and_eq_false_iff, decide_eq_false_iff_not]; omega
theorem c_newp2 (m : Int) (h : Heap) : HCalls Try.prog 47 #[.int .i64 m] h (Pure (.bool (!validM m)) h) := by
  refine hcalls2 Try.func47 rfl (by decide +kernel) (by simp only [Try.ntmps47]; exact of_decide_eq_true rfl) ?_
  intro e hin
  have e0 := hin 0 _ rfl
  refine hx_seq ?_
  refine hx_region ?_
  refine WL.qq (by simp only [ev_tmp, ev_const, ev_func, set_get, Nat.reduceEqDiff, reduceIte, qv_assign, e0]; rfl) ?_
  refine WL.nil ?_
  refine th_norm ?_
  refine hx_seq ?_
  refine hx_region ?_
  refine WL.qq (by simp only [ev_tmp, ev_const, ev_func, set_get, Nat.reduceEqDiff, reduceIte, qv_move, e0]; rfl) ?_
  refine WL.ck Try.call48 (by simp only [ev_tmp, ev_const, ev_func, set_get, Nat.reduceEqDiff, reduceIte, List.getElem?_toArray, List.getElem?_cons_zero, List.getElem?_cons_succ, List.map_toArray, List.map_cons, List.map_nil, Option.map_some, Option.bind_some, e0]; exact c_valid _ _) ?_
  refine WL.qq (by simp only [ev_tmp, ev_const, ev_func, set_get, Nat.reduceEqDiff, reduceIte, qv_unOp, unv_not, e0]; rfl) ?_
  refine WL.qq (by simp only [ev_tmp, ev_const, ev_func, set_get, Nat.reduceEqDiff, reduceIte, qv_assign, e0]; rfl) ?_
  refine WL.nil ?_
  refine th_norm ?_
  refine hx_ret ?_
  refine fin_ret [.tmp 2] rfl rfl (by simp only [ev_tmp, ev_const, ev_func, set_get, Nat.reduceEqDiff, reduceIte, resv, e0]; rfl) ?_  -- ret 0 r1
  exact ⟨rfl, rfl⟩
theorem any_not {p : Int → Bool} {l : List Int} : (l.any fun x => !p x) = true ↔ l.all p = false := by
  rw [List.any_eq_true, ← Bool.not_eq_true, List.all_eq_true]
  simp
def wkCells (l : List Int) (v : Value) : Array Value := #[.bool (l.contains 0), .bool (l.contains 1), .bool (l.contains 2), .bool (l.contains 3), .bool (l.contains 4), .bool (l.contains 5), .bool (l.contains 6), v]
theorem wk_store (l : List Int) (v : Value) (d : Int) (h0 : 0 ≤ d) (h1 : d ≤ 6) : splc (wkCells l v) (0 + d.toNat) [.bool true] = wkCells (l ++ [d]) v := by
  have : d = 0 ∨ d = 1 ∨ d = 2 ∨ d = 3 ∨ d = 4 ∨ d = 5 ∨ d = 6 := by omega
  rcases this with rfl | rfl | rfl | rfl | rfl | rfl | rfl <;> simp [splc, wkCells]
theorem srt_len (l : List Int) : (srt l).length = l.length := by simp [srt, List.length_mergeSort]
theorem srt_perm (l : List Int) : (srt l).Perm l := List.mergeSort_perm _ _
theorem srt_pair (l : List Int) : (srt l).Pairwise (· ≤ ·) := by
  have := List.pairwise_mergeSort (le := fun x y : Int => decide (x ≤ y)) (by intro a b c; simp; omega) (by intro a b; simp; omega) l
  exact this.imp (by intro a b h; simpa using h)
theorem srt_sorted (l : List Int) : Sorted (srt l) := by
  intro i j y z hij hy hz
  have hp := srt_pair l
  rw [List.pairwise_iff_getElem] at hp
  obtain ⟨hi, rfl⟩ := List.getElem?_eq_some_iff.1 hy
  obtain ⟨hj, rfl⟩ := List.getElem?_eq_some_iff.1 hz
  rcases Nat.lt_or_ge i j with h | h
  · exact hp i j hi hj h
  · have : i = j := by omega
    subst this
    exact Int.le_refl _
theorem busM_srt (wk hol : List Int) : busM wk (srt hol) = busM wk hol := by
  funext d
  have : (srt hol).contains d = hol.contains d := by
    rw [Bool.eq_iff_iff]
    simp [(srt_perm hol).mem_iff]
  simp only [busM, this]
/-- In a sorted list the runs are single where no element comes twice. -/
theorem compact_lt (l : List Int) (hs : l.Pairwise (· ≤ ·)) : (Lib.compact l).length < l.length ↔ ¬ l.Nodup := by
  have h0 : (Lib.compact l).length = ((List.range l.length).filter (Lib.keeps l.toArray)).length := by simp [Lib.compact, Lib.compactUpTo]
  have h1 : (Lib.compact l).length < l.length ↔ ∃ j, j < l.length ∧ Lib.keeps l.toArray j = false := by
    rw [h0]
    constructor
    · intro hlt
      apply Classical.byContradiction
      intro hn
      have : (List.range l.length).filter (Lib.keeps l.toArray) = List.range l.length := by
        rw [List.filter_eq_self]
        intro j hj
        cases hk : Lib.keeps l.toArray j with
        | true => rfl
        | false => exact absurd ⟨j, by simpa using hj, hk⟩ hn
      rw [this] at hlt
      simp at hlt
    · rintro ⟨j, hj, hk⟩
      have h2 := List.length_filter_lt_length_iff_exists.2 ⟨j, (List.mem_range.2 hj), (by simp [hk] : ¬ Lib.keeps l.toArray j = true)⟩
      simpa using h2
  rw [h1]
  rw [List.pairwise_iff_getElem] at hs
  constructor
  · rintro ⟨j, hj, hk⟩ hd
    simp only [Lib.keeps, decide_eq_false_iff_not, not_or, ne_eq, Classical.not_not] at hk
    have hj0 : j ≠ 0 := hk.1
    have hlt : j - 1 < l.length := by omega
    have he : l[j]'hj = l[j - 1]'hlt := by
      have := hk.2
      simpa [hj, hlt] using this
    rw [List.nodup_iff_pairwise_ne, List.pairwise_iff_getElem] at hd
    exact hd (j - 1) j hlt hj (by omega) he.symm
  · intro hd
    apply Classical.byContradiction
    intro hn
    apply hd
    rw [List.nodup_iff_pairwise_ne, List.pairwise_iff_getElem]
    have hstep : ∀ j, j + 1 < l.length → ∀ (hj : j + 1 < l.length) (hj' : j < l.length), l[j] < l[j + 1] := by
      intro j _ hj hj'
      have hk : Lib.keeps l.toArray (j + 1) = true := by
        cases hk : Lib.keeps l.toArray (j + 1) with
        | true => rfl
        | false => exact absurd ⟨j + 1, hj, hk⟩ hn
      have hle := hs j (j + 1) hj' hj (by omega)
      have hne : l[j + 1] ≠ l[j] := by
        simp only [Lib.keeps, decide_eq_true_eq] at hk
        rcases hk with h | h
        · omega
        · simpa [hj, hj'] using h
      omega
    intro i j hi hj hij
    have hlt : l[i] < l[j] := by
      have h1 := hstep i (by omega) (by omega) hi
      rcases Nat.lt_or_ge (i + 1) j with h | h
      · have := hs (i + 1) j (by omega) hj h
        omega
      · have : j = i + 1 := by omega
        subst this
        exact h1
    omega
theorem c_new (wk hol : List Int) (a a' : Option Addr) (c c' : Nat) {h : Heap} (hw : SlI h a wk) (hh : SlI h a' hol) (lw : wk.length ≤ 9223372036854775807) :
    HCalls Try.prog 35 #[.slice a wk.length c, .slice a' hol.length c'] h fun v h' => Ext h h' ∧
      ((newM wk hol = 0 ∧ ∃ p, v = .tuple #[.pointer (some ⟨p, 0, none⟩), .int .i64 0] ∧ IsCal h' p wk (srt hol)) ∨ (newM wk hol ≠ 0 ∧ v = .tuple #[.pointer none, .int .i64 (newM wk hol)])) := by
  refine hcalls2 Try.func35 rfl (by decide +kernel) (by simp only [Try.ntmps35]; exact of_decide_eq_true rfl) ?_
  intro e hin
  have e0 := hin 0 _ rfl
  have e1 := hin 1 _ rfl
  have hE : Ext h h := Ext.refl h
  refine hx_seq ?_
  refine hx_region ?_
  refine WL.qq (by simp only [ev_tmp, ev_const, ev_func, set_get, Nat.reduceEqDiff, reduceIte, qv_assign, e0, e1]; rfl) ?_
  refine WL.qq (by simp only [ev_tmp, ev_const, ev_func, set_get, Nat.reduceEqDiff, reduceIte, qv_assign, e0, e1]; rfl) ?_
  refine WL.nil ?_
  refine th_norm ?_
  refine hx_seq ?_
  refine hx_seq ?_
  refine hx_region ?_
  refine WL.qq (by simp only [ev_tmp, ev_const, ev_func, set_get, Nat.reduceEqDiff, reduceIte, qv_move, e0, e1]; rfl) ?_
  refine WL.qq (by simp only [ev_tmp, ev_const, ev_func, set_get, Nat.reduceEqDiff, reduceIte, qv_len, ln25, List.getElem?_toArray, List.getElem?_cons_zero, List.getElem?_cons_succ, List.map_toArray, List.map_cons, List.map_nil, Option.map_some, Option.bind_some, e0, e1]; rfl) ?_
  refine WL.qq (by simp only [ev_tmp, ev_const, ev_func, set_get, Nat.reduceEqDiff, reduceIte, qv_binOp, binv_gtr, e0, e1]; rfl) ?_
  refine WL.nil ?_
  refine th_norm ?_
  refine hx_cond (by simp only [ev_tmp, ev_const, ev_func, set_get, Nat.reduceEqDiff, reduceIte, e0, e1]; rfl) (fun hct11 => ?_) (fun hct11 => ?_)
  ·
    try simp only [decide_eq_true_eq, decide_eq_false_iff_not, Bool.and_eq_true, Bool.and_eq_false_iff, Bool.or_eq_true, Bool.or_eq_false_iff, Bool.not_eq_true', Bool.not_eq_false', Bool.not_eq_true, Bool.not_eq_false] at hct11
    refine hx_seq ?_
    refine hx_region ?_
    refine WL.qq (by simp only [ev_tmp, ev_const, ev_func, set_get, Nat.reduceEqDiff, reduceIte, qv_assign, e0, e1]; rfl) ?_
    refine WL.qq (by simp only [ev_tmp, ev_const, ev_func, set_get, Nat.reduceEqDiff, reduceIte, qv_assign, e0, e1]; rfl) ?_
    refine WL.nil ?_
    refine th_norm ?_
    refine hx_ret ?_
    refine th_ret ?_
    refine fin_ret [.tmp 4, .tmp 5] rfl rfl (by simp only [ev_tmp, ev_const, ev_func, set_get, Nat.reduceEqDiff, reduceIte, resv, e0, e1]; rfl) ?_  -- ret 0 r2
    exact ⟨hE, .inr ⟨by unfold newM; rw [if_pos (by omega)]; decide, by unfold newM; rw [if_pos (by omega)]; rfl⟩⟩
  ·
    try simp only [decide_eq_true_eq, decide_eq_false_iff_not, Bool.and_eq_true, Bool.and_eq_false_iff, Bool.or_eq_true, Bool.or_eq_false_iff, Bool.not_eq_true', Bool.not_eq_false', Bool.not_eq_true, Bool.not_eq_false] at hct11
    have lh : hol.length ≤ 4096 := by omega
    refine hx_skip ?_
    refine th_norm ?_
    refine hx_seq ?_
    refine hx_seq ?_
    refine hx_region ?_
    refine WL.qq (by simp only [ev_tmp, ev_const, ev_func, set_get, Nat.reduceEqDiff, reduceIte, qv_move, e0, e1]; rfl) ?_
    refine WL.ck Try.call45 (by simp only [ev_tmp, ev_const, ev_func, set_get, Nat.reduceEqDiff, reduceIte, List.getElem?_toArray, List.getElem?_cons_zero, List.getElem?_cons_succ, List.map_toArray, List.map_cons, List.map_nil, Option.map_some, Option.bind_some, e0, e1]; exact c_containsFunc a c wk _ Try.call46 #[] (fun x => !wOk x) (fun x _ => c_newp1 x _) hw lw) ?_
    refine WL.qq (by simp only [ev_tmp, ev_const, ev_func, set_get, Nat.reduceEqDiff, reduceIte, qv_move, e0, e1]; rfl) ?_
    refine WL.cq (gd_at (t := 14) rfl (by simp only [ev_tmp, ev_const, ev_func, set_get, Nat.reduceEqDiff, reduceIte, e0, e1]; rfl)) (fun hg3_3 => by simp only [ev_tmp, ev_const, ev_func, set_get, Nat.reduceEqDiff, reduceIte, qv_move, e0, e1, hg3_3, Bool.false_eq_true, Bool.true_eq_false, eq_self, if_true, if_false, true_and, and_true, false_and, and_false]; rfl) ?_
    refine WL.cck (gd_at (t := 14) rfl (by simp only [ev_tmp, ev_const, ev_func, set_get, Nat.reduceEqDiff, reduceIte, e0, e1]; rfl)) Try.call45 (fun hg3_4 => by simp only [ev_tmp, ev_const, ev_func, set_get, Nat.reduceEqDiff, reduceIte, List.getElem?_toArray, List.getElem?_cons_zero, List.getElem?_cons_succ, List.map_toArray, List.map_cons, List.map_nil, Option.map_some, Option.bind_some, e0, e1, hg3_4, Bool.false_eq_true, Bool.true_eq_false, eq_self, if_true, if_false, true_and, and_true, false_and, and_false]; exact c_containsFunc a' c' hol _ Try.call47 #[] (fun x => !validM x) (fun x _ => c_newp2 x _) hh (by omega)) ?_
    refine WL.qq (by simp only [ev_tmp, ev_const, ev_func, set_get, Nat.reduceEqDiff, reduceIte, qv_pick, pk_and, pk_or, Bool.false_eq_true, Bool.true_eq_false, eq_self, if_true, if_false, true_and, and_true, false_and, and_false, e0, e1]; rfl) ?_
    refine WL.nil ?_
    refine th_norm ?_
    refine hx_cond (by simp only [ev_tmp, ev_const, ev_func, set_get, Nat.reduceEqDiff, reduceIte, e0, e1]; rfl) (fun hct17 => ?_) (fun hct17 => ?_)
    ·
      try simp only [decide_eq_true_eq, decide_eq_false_iff_not, Bool.and_eq_true, Bool.and_eq_false_iff, Bool.or_eq_true, Bool.or_eq_false_iff, Bool.not_eq_true', Bool.not_eq_false', Bool.not_eq_true, Bool.not_eq_false] at hct17
      refine hx_seq ?_
      refine hx_region ?_
      refine WL.qq (by simp only [ev_tmp, ev_const, ev_func, set_get, Nat.reduceEqDiff, reduceIte, qv_assign, e0, e1]; rfl) ?_
      refine WL.qq (by simp only [ev_tmp, ev_const, ev_func, set_get, Nat.reduceEqDiff, reduceIte, qv_assign, e0, e1]; rfl) ?_
      refine WL.nil ?_
      refine th_norm ?_
      refine hx_ret ?_
      refine th_ret ?_
      refine fin_ret [.tmp 4, .tmp 5] rfl rfl (by simp only [ev_tmp, ev_const, ev_func, set_get, Nat.reduceEqDiff, reduceIte, resv, e0, e1]; rfl) ?_  -- ret 1 r4
      have e1 : newM wk hol = 2 := by { unfold newM; rw [if_neg (by omega)]; rcases hct17 with h1 | h1 <;> rw [any_not] at h1 <;> simp [h1] }
      exact ⟨hE, .inr ⟨by rw [e1]; decide, by rw [e1]; rfl⟩⟩
    ·
      try simp only [decide_eq_true_eq, decide_eq_false_iff_not, Bool.and_eq_true, Bool.and_eq_false_iff, Bool.or_eq_true, Bool.or_eq_false_iff, Bool.not_eq_true', Bool.not_eq_false', Bool.not_eq_true, Bool.not_eq_false] at hct17
      have hA : wk.all wOk = true := by { have := hct17.1; cases hw1 : wk.all wOk with | true => rfl | false => rw [any_not.2 hw1] at this; cases this }
      have hB0 : hol.all validM = true := by { have := hct17.2; cases hw1 : hol.all validM with | true => rfl | false => rw [any_not.2 hw1] at this; cases this }
      refine hx_skip ?_
      refine th_norm ?_
      refine hx_seq ?_
      refine hx_region ?_
      refine WL.qq (by simp only [ev_tmp, ev_const, ev_func, set_get, Nat.reduceEqDiff, reduceIte, qv_move, e0, e1]; rfl) ?_
      refine WL.ce Try.call50 (by simp only [ev_tmp, ev_const, ev_func, set_get, Nat.reduceEqDiff, reduceIte, List.getElem?_toArray, List.getElem?_cons_zero, List.getElem?_cons_succ, List.map_toArray, List.map_cons, List.map_nil, Option.map_some, Option.bind_some, e0, e1]; exact c_values a' c' hol _) ?_
      rintro _ h1 ⟨hx1, B5, rfl, hB5⟩
      replace hE := hE.trans hx1
      replace hw := hw.ext hx1
      replace hh := hh.ext hx1
      simp only [put_some]
      refine WL.ce Try.call49 (by simp only [ev_tmp, ev_const, ev_func, set_get, Nat.reduceEqDiff, reduceIte, List.getElem?_toArray, List.getElem?_cons_zero, List.getElem?_cons_succ, List.map_toArray, List.map_cons, List.map_nil, Option.map_some, Option.bind_some, e0, e1]; exact c_sorted B5 a' c' hol (by omega) hB5 hh) ?_
      rintro _ h2 ⟨hx2, hso⟩
      replace hE := hE.trans hx2
      replace hw := hw.ext hx2
      replace hh := hh.ext hx2
      simp only [put_some]
      obtain ⟨hsl, a2, c2, rfl, hcap, hcm, hrd, hnn, hpl⟩ := hso.ints
      have hbase := hrd
      refine WL.qq (by refine qv_bld (by simp only [ev_tmp, ev_const, ev_func, set_get, Nat.reduceEqDiff, reduceIte, List.getElem?_toArray, List.getElem?_cons_zero, List.getElem?_cons_succ, List.map_toArray, List.map_cons, List.map_nil, Option.map_some, Option.bind_some, e0, e1] <;> rfl) (by rw [bl103]; simp [Instr.fill, Value.cells]; rfl)) ?_
      have hbw := hw
      refine WL.box2 (by simp only [ev_tmp, ev_const, ev_func, set_get, Nat.reduceEqDiff, reduceIte, Value.cells, e0, e1]; rfl) ?_
      intro h3 B3 hx3 hlt3 hB3
      have hb0_3 := Nat.le_trans hE.size hlt3
      have hw_s3 := hw
      have hh_s3 := hh
      replace hE := hE.trans hx3
      replace hw := hw.ext hx3
      replace hh := hh.ext hx3
      have hEo3 := hx3
      refine WL.qq (by simp only [ev_tmp, ev_const, ev_func, set_get, Nat.reduceEqDiff, reduceIte, qv_assign, e0, e1, hB3.cell]; rfl) ?_
      refine WL.nil ?_
      refine th_norm ?_
      refine hx_seq ?_
      refine hx_seq ?_
      refine hx_region ?_
      refine WL.qq (by simp only [ev_tmp, ev_const, ev_func, set_get, Nat.reduceEqDiff, reduceIte, qv_move, e0, e1, hB3.cell]; rfl) ?_
      refine WL.qq (by simp only [ev_tmp, ev_const, ev_func, set_get, Nat.reduceEqDiff, reduceIte, qv_len, ln25, List.getElem?_toArray, List.getElem?_cons_zero, List.getElem?_cons_succ, List.map_toArray, List.map_cons, List.map_nil, Option.map_some, Option.bind_some, e0, e1, hB3.cell]; rfl) ?_
      refine WL.qq (by simp only [ev_tmp, ev_const, ev_func, set_get, Nat.reduceEqDiff, reduceIte, qv_move, e0, e1, hB3.cell]; rfl) ?_
      refine WL.nil ?_
      refine th_norm ?_
      refine hx_block ?_
      refine hx_loopG [4, 5, 8, 25, 26, 27, 28, 29, 30, 31, 32, 33, 34, 35, 36, 37, 38, 39, 40] (fun k e hL0 => ∃ (i : Nat), wk.length - i = k ∧ (i ≤ wk.length) ∧ ((wk.take i).Nodup) ∧ (Ext h2 hL0) ∧ (Has hL0 B3 (.cells (wkCells (wk.take i) (.slice a2 (srt hol).length c2)) 103)) ∧ e 25 = .int .i64 i) _ ⟨0, rfl, ?_, ?_, ?_, ?_, ?_⟩ ?_
      · omega
      · simp
      · exact hx3
      · exact hB3
      · simp only [ev_tmp, ev_const, ev_func, set_get, Nat.reduceEqDiff, reduceIte, e0, e1, hB3.cell] <;> rfl
      ·
        rintro k e0L hL0 hfr0 ⟨i, rfl, hi, hnd, hE, hB, i25_0⟩
        have k0_0 := hfr0 0 rfl; simp only [ev_tmp, ev_const, ev_func, set_get, Nat.reduceEqDiff, reduceIte, e0, e1, hB3.cell] at k0_0
        have k1_0 := hfr0 1 rfl; simp only [ev_tmp, ev_const, ev_func, set_get, Nat.reduceEqDiff, reduceIte, e0, e1, hB3.cell] at k1_0
        have k6_0 := hfr0 6 rfl; simp only [ev_tmp, ev_const, ev_func, set_get, Nat.reduceEqDiff, reduceIte, e0, e1, hB3.cell] at k6_0
        have k23_0 := hfr0 23 rfl; simp only [ev_tmp, ev_const, ev_func, set_get, Nat.reduceEqDiff, reduceIte, e0, e1, hB3.cell] at k23_0
        have k24_0 := hfr0 24 rfl; simp only [ev_tmp, ev_const, ev_func, set_get, Nat.reduceEqDiff, reduceIte, e0, e1, hB3.cell] at k24_0
        replace hw := hbw.ext hE
        replace hrd := hbase.ext hE
        refine hx_seq ?_
        refine hx_region ?_
        refine WL.qq (by simp only [ev_tmp, ev_const, ev_func, set_get, Nat.reduceEqDiff, reduceIte, qv_binOp, binv_lss, k0_0, k1_0, k6_0, k23_0, k24_0, i25_0, hB3.cell]; rfl) ?_
        refine WL.nil ?_
        refine th_norm ?_
        refine hx_seq ?_
        refine hx_cond (by simp only [ev_tmp, ev_const, ev_func, set_get, Nat.reduceEqDiff, reduceIte, k0_0, k1_0, k6_0, k23_0, k24_0, i25_0, hB3.cell]; rfl) (fun hct26 => ?_) (fun hct26 => ?_)
        ·
          try simp only [decide_eq_true_eq, decide_eq_false_iff_not, Bool.and_eq_true, Bool.and_eq_false_iff, Bool.or_eq_true, Bool.or_eq_false_iff, Bool.not_eq_true', Bool.not_eq_false', Bool.not_eq_true, Bool.not_eq_false] at hct26
          obtain ⟨y, hy⟩ : ∃ y, wk[i]? = some y := ⟨wk[i]'(by omega), by simp⟩
          obtain ⟨b, off, rfl, hcell⟩ := hw i y hy
          have hyr : 0 ≤ y ∧ y ≤ 6 := by { have := List.all_eq_true.1 hA y (List.mem_of_getElem? hy); simpa [wOk] using this }
          refine hx_skip ?_
          refine th_norm ?_
          refine hx_seq ?_
          refine hx_block ?_
          refine hx_seq ?_
          refine hx_region ?_
          refine WL.qq (by simp only [ev_tmp, ev_const, ev_func, set_get, Nat.reduceEqDiff, reduceIte, qv_indexAddr, k0_0, k1_0, k6_0, k23_0, k24_0, i25_0, hB3.cell]; (try simp (disch := omega) only [ix25, Int.toNat_natCast]); rfl) ?_
          refine WL.qq (by simp only [ev_tmp, ev_const, ev_func, set_get, Nat.reduceEqDiff, reduceIte, qv_load, ld3, readN, List.getElem?_toArray, List.getElem?_cons_zero, List.getElem?_cons_succ, List.map_toArray, List.map_cons, List.map_nil, Option.map_some, Option.bind_some, Nat.zero_add, Nat.reduceAdd, k0_0, k1_0, k6_0, k23_0, k24_0, i25_0, hB3.cell, hcell]; rfl) ?_
          refine WL.qq (by simp only [ev_tmp, ev_const, ev_func, set_get, Nat.reduceEqDiff, reduceIte, qv_assign, k0_0, k1_0, k6_0, k23_0, k24_0, i25_0, hB3.cell]; rfl) ?_
          refine WL.nil ?_
          refine th_norm ?_
          refine hx_seq ?_
          refine hx_seq ?_
          refine hx_region ?_
          refine WL.qq (by simp only [ev_tmp, ev_const, ev_func, set_get, Nat.reduceEqDiff, reduceIte, qv_move, k0_0, k1_0, k6_0, k23_0, k24_0, i25_0, hB3.cell]; rfl) ?_
          refine WL.qq (by simp only [ev_tmp, ev_const, ev_func, set_get, Nat.reduceEqDiff, reduceIte, qv_move, k0_0, k1_0, k6_0, k23_0, k24_0, i25_0, hB3.cell]; rfl) ?_
          refine WL.qq (by simp only [ev_tmp, ev_const, ev_func, set_get, Nat.reduceEqDiff, reduceIte, qv_nilCheck, k0_0, k1_0, k6_0, k23_0, k24_0, i25_0, hB3.cell]; rfl) ?_
          refine WL.qq (by simp only [ev_tmp, ev_const, ev_func, set_get, Nat.reduceEqDiff, reduceIte, qv_fieldAddr, fa103_0, Nat.zero_add, Nat.reduceAdd, k0_0, k1_0, k6_0, k23_0, k24_0, i25_0, hB3.cell]; rfl) ?_
          refine WL.qq (by simp only [ev_tmp, ev_const, ev_func, set_get, Nat.reduceEqDiff, reduceIte, qv_indexAddr, k0_0, k1_0, k6_0, k23_0, k24_0, i25_0, hB3.cell]; (try simp (disch := omega) only [ix101, Int.toNat_natCast]); rfl) ?_
          refine WL.qq (by simp only [ev_tmp, ev_const, ev_func, set_get, Nat.reduceEqDiff, reduceIte, k0_0, k1_0, k6_0, k23_0, k24_0, i25_0, hB3.cell, qv_load, ld4, Nat.zero_add, hB.cell, wkCells]; rw [wk_cell (wk.take i) _ y hyr.1 (by omega)]) ?_
          refine WL.nil ?_
          refine th_norm ?_
          refine hx_cond (by simp only [ev_tmp, ev_const, ev_func, set_get, Nat.reduceEqDiff, reduceIte, k0_0, k1_0, k6_0, k23_0, k24_0, i25_0, hB3.cell]; rfl) (fun hct34 => ?_) (fun hct34 => ?_)
          ·
            try simp only [decide_eq_true_eq, decide_eq_false_iff_not, Bool.and_eq_true, Bool.and_eq_false_iff, Bool.or_eq_true, Bool.or_eq_false_iff, Bool.not_eq_true', Bool.not_eq_false', Bool.not_eq_true, Bool.not_eq_false] at hct34
            refine hx_seq ?_
            refine hx_region ?_
            refine WL.qq (by simp only [ev_tmp, ev_const, ev_func, set_get, Nat.reduceEqDiff, reduceIte, qv_assign, k0_0, k1_0, k6_0, k23_0, k24_0, i25_0, hB3.cell]; rfl) ?_
            refine WL.qq (by simp only [ev_tmp, ev_const, ev_func, set_get, Nat.reduceEqDiff, reduceIte, qv_assign, k0_0, k1_0, k6_0, k23_0, k24_0, i25_0, hB3.cell]; rfl) ?_
            refine WL.nil ?_
            refine th_norm ?_
            refine hx_ret ?_
            refine th_ret ?_
            refine bl_ret ?_
            refine th_ret ?_
            refine th_ret ?_
            refine bl_ret ?_
            refine th_ret ?_
            refine fin_ret [.tmp 4, .tmp 5] rfl rfl (by simp only [ev_tmp, ev_const, ev_func, set_get, Nat.reduceEqDiff, reduceIte, resv, k0_0, k1_0, k6_0, k23_0, k24_0, i25_0, hB3.cell]; rfl) ?_  -- ret 2 r10
            have e1 : newM wk hol = 7 := by { unfold newM; rw [if_neg (by omega), if_neg (by simp [hA]), if_neg (by simp [hB0]), if_pos (nodup_out wk i y hy (by simpa using hct34))] }
            exact ⟨(hx1.trans hx2).trans hE, .inr ⟨by rw [e1]; decide, by rw [e1]; rfl⟩⟩
          ·
            try simp only [decide_eq_true_eq, decide_eq_false_iff_not, Bool.and_eq_true, Bool.and_eq_false_iff, Bool.or_eq_true, Bool.or_eq_false_iff, Bool.not_eq_true', Bool.not_eq_false', Bool.not_eq_true, Bool.not_eq_false] at hct34
            refine hx_skip ?_
            refine th_norm ?_
            refine hx_region ?_
            refine WL.qq (by simp only [ev_tmp, ev_const, ev_func, set_get, Nat.reduceEqDiff, reduceIte, qv_move, k0_0, k1_0, k6_0, k23_0, k24_0, i25_0, hB3.cell]; rfl) ?_
            refine WL.qq (by simp only [ev_tmp, ev_const, ev_func, set_get, Nat.reduceEqDiff, reduceIte, qv_move, k0_0, k1_0, k6_0, k23_0, k24_0, i25_0, hB3.cell]; rfl) ?_
            refine WL.qq (by simp only [ev_tmp, ev_const, ev_func, set_get, Nat.reduceEqDiff, reduceIte, qv_nilCheck, k0_0, k1_0, k6_0, k23_0, k24_0, i25_0, hB3.cell]; rfl) ?_
            refine WL.qq (by simp only [ev_tmp, ev_const, ev_func, set_get, Nat.reduceEqDiff, reduceIte, qv_fieldAddr, fa103_0, Nat.zero_add, Nat.reduceAdd, k0_0, k1_0, k6_0, k23_0, k24_0, i25_0, hB3.cell]; rfl) ?_
            refine WL.qq (by simp only [ev_tmp, ev_const, ev_func, set_get, Nat.reduceEqDiff, reduceIte, qv_indexAddr, k0_0, k1_0, k6_0, k23_0, k24_0, i25_0, hB3.cell]; (try simp (disch := omega) only [ix101, Int.toNat_natCast]); rfl) ?_
            refine WL.store (by simp only [ev_tmp, ev_const, ev_func, set_get, Nat.reduceEqDiff, reduceIte, k0_0, k1_0, k6_0, k23_0, k24_0, i25_0, hB3.cell] <;> rfl) sz4 (by simp only [ev_tmp, ev_const, ev_func, set_get, Nat.reduceEqDiff, reduceIte, Value.cells, k0_0, k1_0, k6_0, k23_0, k24_0, i25_0, hB3.cell] <;> rfl) rfl hB (by first | (simp [wkCells]; done) | (simp [wkCells]; omega) | omega) (by simp [Value.oneCell']) ?_
            intro h4 hw4
            replace hE := hw4.ext hE (by have := hx3.size; omega)
            replace hB := hw4.at_
            rw [wk_store _ _ _ hyr.1 hyr.2] at hB
            refine WL.nil ?_
            refine bl_norm ?_
            refine th_norm ?_
            refine hx_region ?_
            refine WL.qq (by simp only [ev_tmp, ev_const, ev_func, set_get, Nat.reduceEqDiff, reduceIte, qv_binOp, binv_add, k0_0, k1_0, k6_0, k23_0, k24_0, i25_0, hB3.cell]; (try simp (disch := omega) only [w64, w8, wu64]); rfl) ?_
            refine WL.qq (by simp only [ev_tmp, ev_const, ev_func, set_get, Nat.reduceEqDiff, reduceIte, qv_move, k0_0, k1_0, k6_0, k23_0, k24_0, i25_0, hB3.cell]; rfl) ?_
            refine WL.nil ?_
            refine th_norm ?_
            refine ⟨rfl, ?_, _, ?_, i + 1, rfl, ?_, ?_, ?_, ?_, ?_⟩  -- again 0 of loop 0
            · (repeat (first | exact Fr.refl _ _ | refine Fr.set rfl ?_ | refine Fr.put rfl ?_ | refine Fr.put0 ?_))
            · omega
            · omega
            · exact nodup_take wk i y hy hnd (by first | exact hct34 | simpa using hct34)
            · exact hE
            · rw [List.take_add_one, hy]; exact hB
            · simp only [ev_tmp, ev_const, ev_func, set_get, Nat.reduceEqDiff, reduceIte, k0_0, k1_0, k6_0, k23_0, k24_0, i25_0, hB3.cell] <;> first | rfl | (congr 1; omega)
        ·
          try simp only [decide_eq_true_eq, decide_eq_false_iff_not, Bool.and_eq_true, Bool.and_eq_false_iff, Bool.or_eq_true, Bool.or_eq_false_iff, Bool.not_eq_true', Bool.not_eq_false', Bool.not_eq_true, Bool.not_eq_false] at hct26
          have hii : i = wk.length := by omega
          subst hii
          rw [List.take_length] at hB hnd
          refine hx_exit ?_
          refine th_exit ?_
          refine th_exit ?_
          refine bl_hit ?_
          refine th_norm ?_
          refine hx_seq ?_
          refine hx_seq ?_
          refine hx_region ?_
          refine WL.qq (by simp only [ev_tmp, ev_const, ev_func, set_get, Nat.reduceEqDiff, reduceIte, qv_move, k0_0, k1_0, k6_0, k23_0, k24_0, i25_0, hB3.cell]; rfl) ?_
          refine WL.qq (by simp only [ev_tmp, ev_const, ev_func, set_get, Nat.reduceEqDiff, reduceIte, qv_nilCheck, k0_0, k1_0, k6_0, k23_0, k24_0, i25_0, hB3.cell]; rfl) ?_
          refine WL.qq (by simp only [ev_tmp, ev_const, ev_func, set_get, Nat.reduceEqDiff, reduceIte, qv_fieldAddr, fa103_1, Nat.zero_add, Nat.reduceAdd, k0_0, k1_0, k6_0, k23_0, k24_0, i25_0, hB3.cell]; rfl) ?_
          refine WL.qq (by simp only [ev_tmp, ev_const, ev_func, set_get, Nat.reduceEqDiff, reduceIte, qv_load, ld25, readN, List.getElem?_toArray, List.getElem?_cons_zero, List.getElem?_cons_succ, List.map_toArray, List.map_cons, List.map_nil, Option.map_some, Option.bind_some, Nat.zero_add, Nat.reduceAdd, k0_0, k1_0, k6_0, k23_0, k24_0, i25_0, hB3.cell, hB.cell, wkCells]; rfl) ?_
          have hBL := hB
          refine WL.ce Try.call52 (by simp only [ev_tmp, ev_const, ev_func, set_get, Nat.reduceEqDiff, reduceIte, List.getElem?_toArray, List.getElem?_cons_zero, List.getElem?_cons_succ, List.map_toArray, List.map_cons, List.map_nil, Option.map_some, Option.bind_some, k0_0, k1_0, k6_0, k23_0, k24_0, i25_0, hB3.cell]; exact c_clone a2 c2 (srt hol) (by rw [srt_len]; omega) (hrd) hnn) ?_
          rintro _ h5 ⟨hx5, ho13⟩
          replace hB := hB.ext hx5
          simp only [put_some]
          have hE4 := hE.trans hx5
          have hBlt := (Array.getElem?_eq_some_iff.1 hB).1
          refine WL.ce Try.call51 (by simp only [ev_tmp, ev_const, ev_func, set_get, Nat.reduceEqDiff, reduceIte, List.getElem?_toArray, List.getElem?_cons_zero, List.getElem?_cons_succ, List.map_toArray, List.map_cons, List.map_nil, Option.map_some, Option.bind_some, k0_0, k1_0, k6_0, k23_0, k24_0, i25_0, hB3.cell]; exact c_compact ho13 (by rw [srt_len]; omega)) ?_
          rintro _ h14 ⟨⟨a3, c3, rfl⟩, hg14⟩
          simp only [put_some]
          have hE5 := hg14.ext hE4 (fun c hc => by have := (ho13.block c hc).1; have := hE.size; omega)
          have hB5' := hB.gr hg14 (fun hh => by have := (ho13.block _ hh).1; have := (Array.getElem?_eq_some_iff.1 hBL).1; omega)
          refine WL.qq (by simp only [ev_tmp, ev_const, ev_func, set_get, Nat.reduceEqDiff, reduceIte, qv_len, ln25, List.getElem?_toArray, List.getElem?_cons_zero, List.getElem?_cons_succ, List.map_toArray, List.map_cons, List.map_nil, Option.map_some, Option.bind_some, k0_0, k1_0, k6_0, k23_0, k24_0, i25_0, hB3.cell]; rfl) ?_
          refine WL.qq (by simp only [ev_tmp, ev_const, ev_func, set_get, Nat.reduceEqDiff, reduceIte, qv_move, k0_0, k1_0, k6_0, k23_0, k24_0, i25_0, hB3.cell]; rfl) ?_
          refine WL.qq (by simp only [ev_tmp, ev_const, ev_func, set_get, Nat.reduceEqDiff, reduceIte, qv_len, ln25, List.getElem?_toArray, List.getElem?_cons_zero, List.getElem?_cons_succ, List.map_toArray, List.map_cons, List.map_nil, Option.map_some, Option.bind_some, k0_0, k1_0, k6_0, k23_0, k24_0, i25_0, hB3.cell]; rfl) ?_
          refine WL.qq (by simp only [ev_tmp, ev_const, ev_func, set_get, Nat.reduceEqDiff, reduceIte, qv_binOp, binv_lss, k0_0, k1_0, k6_0, k23_0, k24_0, i25_0, hB3.cell]; rfl) ?_
          refine WL.nil ?_
          refine th_norm ?_
          refine hx_cond (by simp only [ev_tmp, ev_const, ev_func, set_get, Nat.reduceEqDiff, reduceIte, k0_0, k1_0, k6_0, k23_0, k24_0, i25_0, hB3.cell]; rfl) (fun hct50 => ?_) (fun hct50 => ?_)
          ·
            try simp only [decide_eq_true_eq, decide_eq_false_iff_not, Bool.and_eq_true, Bool.and_eq_false_iff, Bool.or_eq_true, Bool.or_eq_false_iff, Bool.not_eq_true', Bool.not_eq_false', Bool.not_eq_true, Bool.not_eq_false] at hct50
            have hdup : ¬ hol.Nodup := by { have h1 : (Lib.compact (srt hol)).length < (srt hol).length := by { rw [srt_len]; omega }; rw [compact_lt _ (srt_pair hol)] at h1; intro hh; exact h1 ((srt_perm hol).nodup_iff.2 hh) }
            refine hx_seq ?_
            refine hx_region ?_
            refine WL.qq (by simp only [ev_tmp, ev_const, ev_func, set_get, Nat.reduceEqDiff, reduceIte, qv_assign, k0_0, k1_0, k6_0, k23_0, k24_0, i25_0, hB3.cell]; rfl) ?_
            refine WL.qq (by simp only [ev_tmp, ev_const, ev_func, set_get, Nat.reduceEqDiff, reduceIte, qv_assign, k0_0, k1_0, k6_0, k23_0, k24_0, i25_0, hB3.cell]; rfl) ?_
            refine WL.nil ?_
            refine th_norm ?_
            refine hx_ret ?_
            refine th_ret ?_
            refine fin_ret [.tmp 4, .tmp 5] rfl rfl (by simp only [ev_tmp, ev_const, ev_func, set_get, Nat.reduceEqDiff, reduceIte, resv, k0_0, k1_0, k6_0, k23_0, k24_0, i25_0, hB3.cell]; rfl) ?_  -- ret 3 r14
            have e1 : newM wk hol = 7 := by { unfold newM; rw [if_neg (by omega), if_neg (by simp [hA]), if_neg (by simp [hB0]), if_neg (by simpa using hnd), if_pos hdup] }
            exact ⟨(hx1.trans hx2).trans hE5, .inr ⟨by rw [e1]; decide, by rw [e1]; rfl⟩⟩
          ·
            try simp only [decide_eq_true_eq, decide_eq_false_iff_not, Bool.and_eq_true, Bool.and_eq_false_iff, Bool.or_eq_true, Bool.or_eq_false_iff, Bool.not_eq_true', Bool.not_eq_false', Bool.not_eq_true, Bool.not_eq_false] at hct50
            have hdup : hol.Nodup := by { have h1 : ¬ (Lib.compact (srt hol)).length < (srt hol).length := by { rw [srt_len]; omega }; rw [compact_lt _ (srt_pair hol)] at h1; exact (srt_perm hol).nodup_iff.1 (Classical.not_not.1 h1) }
            refine hx_skip ?_
            refine th_norm ?_
            refine hx_seq ?_
            refine hx_seq ?_
            refine hx_region ?_
            refine WL.qq (by simp only [ev_tmp, ev_const, ev_func, set_get, Nat.reduceEqDiff, reduceIte, qv_move, k0_0, k1_0, k6_0, k23_0, k24_0, i25_0, hB3.cell]; rfl) ?_
            refine WL.qq (by simp only [ev_tmp, ev_const, ev_func, set_get, Nat.reduceEqDiff, reduceIte, qv_len, ln25, List.getElem?_toArray, List.getElem?_cons_zero, List.getElem?_cons_succ, List.map_toArray, List.map_cons, List.map_nil, Option.map_some, Option.bind_some, k0_0, k1_0, k6_0, k23_0, k24_0, i25_0, hB3.cell]; rfl) ?_
            refine WL.qq (by simp only [ev_tmp, ev_const, ev_func, set_get, Nat.reduceEqDiff, reduceIte, qv_binOp, binv_gtr, k0_0, k1_0, k6_0, k23_0, k24_0, i25_0, hB3.cell]; rfl) ?_
            refine WL.nil ?_
            refine th_norm ?_
            refine hx_cond (by simp only [ev_tmp, ev_const, ev_func, set_get, Nat.reduceEqDiff, reduceIte, k0_0, k1_0, k6_0, k23_0, k24_0, i25_0, hB3.cell]; rfl) (fun hct53 => ?_) (fun hct53 => ?_)
            ·
              try simp only [decide_eq_true_eq, decide_eq_false_iff_not, Bool.and_eq_true, Bool.and_eq_false_iff, Bool.or_eq_true, Bool.or_eq_false_iff, Bool.not_eq_true', Bool.not_eq_false', Bool.not_eq_true, Bool.not_eq_false] at hct53
              refine hx_seq ?_
              refine hx_region ?_
              refine WL.qq (by simp only [ev_tmp, ev_const, ev_func, set_get, Nat.reduceEqDiff, reduceIte, qv_assign, k0_0, k1_0, k6_0, k23_0, k24_0, i25_0, hB3.cell]; rfl) ?_
              refine WL.qq (by simp only [ev_tmp, ev_const, ev_func, set_get, Nat.reduceEqDiff, reduceIte, qv_assign, k0_0, k1_0, k6_0, k23_0, k24_0, i25_0, hB3.cell]; rfl) ?_
              refine WL.nil ?_
              refine th_norm ?_
              refine hx_ret ?_
              refine th_ret ?_
              refine fin_ret [.tmp 4, .tmp 5] rfl rfl (by simp only [ev_tmp, ev_const, ev_func, set_get, Nat.reduceEqDiff, reduceIte, resv, k0_0, k1_0, k6_0, k23_0, k24_0, i25_0, hB3.cell]; rfl) ?_  -- ret 4 r16
              have e1 : newM wk hol = 8 := by { unfold newM; rw [if_neg (by omega), if_neg (by simp [hA]), if_neg (by simp [hB0]), if_neg (by simpa using hnd), if_neg (by simpa using hdup), if_pos (by omega)] }
              exact ⟨(hx1.trans hx2).trans hE5, .inr ⟨by rw [e1]; decide, by rw [e1]; rfl⟩⟩
            ·
              try simp only [decide_eq_true_eq, decide_eq_false_iff_not, Bool.and_eq_true, Bool.and_eq_false_iff, Bool.or_eq_true, Bool.or_eq_false_iff, Bool.not_eq_true', Bool.not_eq_false', Bool.not_eq_true, Bool.not_eq_false] at hct53
              refine hx_skip ?_
              refine th_norm ?_
              refine hx_seq ?_
              refine hx_region ?_
              refine WL.qq (by simp only [ev_tmp, ev_const, ev_func, set_get, Nat.reduceEqDiff, reduceIte, qv_move, k0_0, k1_0, k6_0, k23_0, k24_0, i25_0, hB3.cell]; rfl) ?_
              refine WL.qq (by simp only [ev_tmp, ev_const, ev_func, set_get, Nat.reduceEqDiff, reduceIte, qv_assign, k0_0, k1_0, k6_0, k23_0, k24_0, i25_0, hB3.cell]; rfl) ?_
              refine WL.qq (by simp only [ev_tmp, ev_const, ev_func, set_get, Nat.reduceEqDiff, reduceIte, qv_assign, k0_0, k1_0, k6_0, k23_0, k24_0, i25_0, hB3.cell]; rfl) ?_
              refine WL.nil ?_
              refine th_norm ?_
              refine hx_ret ?_
              refine fin_ret [.tmp 4, .tmp 5] rfl rfl (by simp only [ev_tmp, ev_const, ev_func, set_get, Nat.reduceEqDiff, reduceIte, resv, k0_0, k1_0, k6_0, k23_0, k24_0, i25_0, hB3.cell]; rfl) ?_  -- ret 5 r17
              have e1 : newM wk hol = 0 := by { unfold newM; rw [if_neg (by omega), if_neg (by simp [hA]), if_neg (by simp [hB0]), if_neg (by simpa using hnd), if_neg (by simpa using hdup), if_neg (by omega)] }
              exact ⟨(hx1.trans hx2).trans hE5, .inl ⟨e1, B3, rfl, ⟨⟨a2, c2, hB5', hbase.ext hE5, hcap⟩, srt_sorted hol, by rw [srt_len]; omega⟩⟩⟩
end GL


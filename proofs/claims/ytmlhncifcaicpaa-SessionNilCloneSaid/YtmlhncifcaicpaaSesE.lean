/- Session: the reference's Accept. -/
import Derived.Test.YtmlhncifcaicpaaSesD
set_option linter.unusedSimpArgs false
set_option linter.unusedVariables false
set_option linter.unnecessarySimpa false
namespace GL
open Go Go.Proofs
set_option maxRecDepth 8000
/-- Where a number stands in the buffer, or -1. -/
def idx : List M2 → Int → Option Nat
  | [], _ => none
  | x :: l, n => if x.1 = n then some 0 else (idx l n).map (· + 1)
def idxV (l : List M2) (n : Int) : Int := match idx l n with | some i => i | none => -1
theorem idx_none {n : Int} : ∀ {l : List M2}, idx l n = none ↔ l.lookup n = none
  | [] => by simp [idx]
  | x :: l => by
    by_cases h : x.1 = n
    · have h9 : (n == x.1) = true := by simp [h]
      simp [idx, h, List.lookup_cons, h9]
    · have h9 : (n == x.1) = false := by simpa using fun hh => h hh.symm
      rw [idx, if_neg h, List.lookup_cons, h9, Option.map_eq_none_iff, idx_none]
theorem idx_some {n : Int} : ∀ {l : List M2} {i : Nat}, idx l n = some i → ∃ x, l[i]? = some x ∧ x.1 = n ∧ l.lookup n = some x.2
  | [], i, h => by simp [idx] at h
  | x :: l, i, h => by
    by_cases hx : x.1 = n
    · rw [idx, if_pos hx] at h
      cases h
      have h9 : (n == x.1) = true := by simp [hx]
      exact ⟨x, rfl, hx, by rw [List.lookup_cons, h9]⟩
    · rw [idx, if_neg hx] at h
      cases hi : idx l n with
      | none => rw [hi] at h; cases h
      | some j =>
        rw [hi] at h
        cases h
        obtain ⟨y, h1, h2, h3⟩ := idx_some hi
        have h9 : (n == x.1) = false := by simpa using fun hh => hx hh.symm
        exact ⟨y, h1, h2, by rw [List.lookup_cons, h9]; exact h3⟩
theorem idx_take {n : Int} : ∀ {l : List M2} {i : Nat} {x : M2}, (∀ y ∈ l.take i, y.1 ≠ n) → l[i]? = some x → x.1 = n → idx l n = some i
  | [], i, x, _, h, _ => by simp at h
  | a :: l, 0, x, _, h, hx => by simp at h; subst h; simp [idx, hx]
  | a :: l, i + 1, x, h0, h, hx => by
    have h1 : a.1 ≠ n := h0 a (by simp)
    rw [idx, if_neg h1, idx_take (l := l) (i := i) (fun y hy => h0 y (by simp [hy])) (by simpa using h) hx]; rfl
theorem idx_no {n : Int} {l : List M2} (h : ∀ y ∈ l, y.1 ≠ n) : idx l n = none := by rw [idx_none]; exact lookup_no h
/-- In a list of distinct numbers, taking one out by its place or by its number is the same. -/
theorem cut_mdel {n : Int} : ∀ {l : List M2} {i : Nat}, (l.map Prod.fst).Nodup → idx l n = some i → l.take i ++ l.drop (i + 1) = mdel l n
  | [], i, _, h => by simp [idx] at h
  | x :: l, i, hn, h => by
    rw [List.map_cons, List.nodup_cons] at hn
    by_cases hx : x.1 = n
    · rw [idx, if_pos hx] at h
      cases h
      show l = _
      unfold mdel
      rw [List.filter_cons_of_neg (by simp [hx])]
      symm
      rw [List.filter_eq_self]
      intro y hy
      simp only [decide_eq_true_eq]
      intro hh
      exact hn.1 (by rw [hx, ← hh]; exact List.mem_map_of_mem hy)
    · rw [idx, if_neg hx] at h
      cases hi : idx l n with
      | none => rw [hi] at h; cases h
      | some j =>
        rw [hi] at h
        cases h
        show x :: (l.take j ++ l.drop (j + 1)) = _
        rw [cut_mdel hn.2 hi]
        unfold mdel
        rw [List.filter_cons_of_pos (by simp [hx])]
theorem idx_lt {n : Int} {l : List M2} {i : Nat} (h : idx l n = some i) : i < l.length := by
  obtain ⟨x, hx, _⟩ := idx_some h
  exact (List.getElem?_eq_some_iff.1 hx).1
section
variable {h : Heap}
theorem c_find (a : Option Addr) (l : List M2) (cap : Nat) (n : Int) (ll : l.length ≤ 1000000) (hs : SlG 2 msgL h a l) : HCalls Try.prog 49 #[.slice a l.length cap, iV n] h (Pure (iV (idxV l n)) h) := by
  refine hcalls2 Try.func49 rfl (by decide +kernel) (by simp only [Try.ntmps49]; exact of_decide_eq_true rfl) ?_
  intro e hin
  have e0 := hin 0 _ rfl
  have e1 := hin 1 _ rfl
  refine hx_seq ?_
  refine hx_region ?_
  refine WL.qq (by simp only [EN, Nat.reduceEqDiff, reduceIte, qv_assign]; rfl) ?_
  refine WL.nil ?_
  refine th_norm ?_
  refine hx_seq ?_
  refine hx_seq ?_
  refine hx_region ?_
  refine WL.qq (by simp only [EN, Nat.reduceEqDiff, reduceIte, qv_assign]; rfl) ?_
  refine WL.nil ?_
  refine th_norm ?_
  refine hx_block ?_
  refine hx_loopS [4, 5, 6, 7, 8, 9, 10, 11, 12, 13, 14, 15, 16, 17, 18, 19] (fun k e => ∃ (i : Nat), l.length - i = k ∧ (i ≤ l.length) ∧ (∀ y ∈ l.take i, y.1 ≠ n) ∧ e 5 = .int .i64 i) _ ⟨0, rfl, ?_, ?_, ?_⟩ ?_
  · omega
  · simp
  · simp only [EN, Nat.reduceEqDiff, reduceIte, e0, e1] <;> rfl
  ·
    rintro k e0L hfr0 ⟨i, rfl, hi, hno, i5_0⟩
    have k0_0 := hfr0 0 rfl; try simp only [EN, Nat.reduceEqDiff, reduceIte, e0] at k0_0
    have k1_0 := hfr0 1 rfl; try simp only [EN, Nat.reduceEqDiff, reduceIte, e1] at k1_0
    refine hx_seq ?_
    refine hx_seq ?_
    refine hx_region ?_
    refine WL.qq (by simp only [EN, Nat.reduceEqDiff, reduceIte, qv_move, i5_0]; rfl) ?_
    refine WL.qq (by simp only [EN, Nat.reduceEqDiff, reduceIte, qv_move, k0_0]; rfl) ?_
    refine WL.qq (by simp only [EN, Nat.reduceEqDiff, reduceIte, qv_len, ln22, AR]; rfl) ?_
    refine WL.qq (by simp only [EN, Nat.reduceEqDiff, reduceIte, qv_binOp, binv_lss]; rfl) ?_
    refine WL.nil ?_
    refine th_norm ?_
    refine hx_cond (by simp only [EN, Nat.reduceEqDiff, reduceIte]; rfl) (fun hct9 => ?_) (fun hct9 => ?_)
    ·
      try simp only [BD] at hct9
      obtain ⟨x, hx⟩ := atG (l := l) (i := i) (by omega)
      obtain ⟨b, off, rfl, hr2, hc0, hc1⟩ := msg_rd hs hx
      refine hx_skip ?_
      refine th_norm ?_
      refine hx_seq ?_
      refine hx_block ?_
      refine hx_seq ?_
      refine hx_region ?_
      refine WL.qq (by simp only [EN, Nat.reduceEqDiff, reduceIte, qv_move, k0_0]; rfl) ?_
      refine WL.qq (by simp only [EN, Nat.reduceEqDiff, reduceIte, qv_move, i5_0]; rfl) ?_
      refine WL.qq (by simp only [EN, Nat.reduceEqDiff, reduceIte, qv_indexAddr]; (try simp (disch := omega) only [ix22, Int.toNat_natCast]); rfl) ?_
      refine WL.qq (by simp only [EN, Nat.reduceEqDiff, reduceIte, qv_fieldAddr, fa46_0, Nat.zero_add, Nat.reduceAdd]; rfl) ?_
      refine WL.qq (by simp only [EN, Nat.reduceEqDiff, reduceIte, k0_0, k1_0, i5_0, qv_load, ld3, Int.toNat_natCast, Nat.add_zero, hc0]; rfl) ?_
      refine WL.qq (by simp only [EN, Nat.reduceEqDiff, reduceIte, qv_move, k1_0]; rfl) ?_
      refine WL.qq (by simp only [EN, Nat.reduceEqDiff, reduceIte, qv_binOp, binv_eql, eq3, Option.map_some]; rfl) ?_
      refine WL.nil ?_
      refine th_norm ?_
      refine hx_cond (by simp only [EN, Nat.reduceEqDiff, reduceIte]; rfl) (fun hct18 => ?_) (fun hct18 => ?_)
      ·
        try simp only [BD] at hct18
        refine hx_seq ?_
        refine hx_region ?_
        refine WL.qq (by simp only [EN, Nat.reduceEqDiff, reduceIte, qv_move, i5_0]; rfl) ?_
        refine WL.qq (by simp only [EN, Nat.reduceEqDiff, reduceIte, qv_assign]; rfl) ?_
        refine WL.nil ?_
        refine th_norm ?_
        refine hx_ret ?_
        refine bl_ret ?_
        refine th_ret ?_
        refine th_ret ?_
        refine bl_ret ?_
        refine th_ret ?_
        refine fin_ret [.tmp 4] rfl rfl (by simp only [EN, Nat.reduceEqDiff, reduceIte, resv, k0_0, k1_0, i5_0]; rfl) ?_  -- ret 0 r5
        exact ⟨by unfold idxV; rw [idx_take hno hx (by simpa using hct18)]; rfl, rfl⟩
      ·
        try simp only [BD] at hct18
        refine hx_skip ?_
        refine bl_norm ?_
        refine th_norm ?_
        refine hx_region ?_
        refine WL.qq (by simp only [EN, Nat.reduceEqDiff, reduceIte, qv_move, i5_0]; rfl) ?_
        refine WL.qq (by simp only [EN, Nat.reduceEqDiff, reduceIte, qv_binOp, binv_add]; (try simp (disch := omega) only [w64, w8, wu64]); rfl) ?_
        refine WL.qq (by simp only [EN, Nat.reduceEqDiff, reduceIte, qv_assign]; rfl) ?_
        refine WL.nil ?_
        refine th_norm ?_
        refine ⟨rfl, rfl, ?_, _, ?_, i + 1, rfl, ?_, ?_, ?_⟩  -- again 0 of loop 0
        · (repeat (first | exact Fr.refl _ _ | refine Fr.set rfl ?_ | refine Fr.put rfl ?_ | with_reducible refine Fr.put0 ?_))
        · omega
        · omega
        · exact all_take (p := fun y : M2 => y.1 ≠ n) hno hx (by simpa using hct18)
        · simp only [EN, Nat.reduceEqDiff, reduceIte, k0_0, k1_0, i5_0] <;> first | rfl | (congr 1; omega)
    ·
      try simp only [BD] at hct9
      refine hx_exit ?_
      refine th_exit ?_
      refine th_exit ?_
      refine bl_hit ?_
      refine th_norm ?_
      refine hx_seq ?_
      refine hx_region ?_
      refine WL.qq (by simp only [EN, Nat.reduceEqDiff, reduceIte, qv_assign]; rfl) ?_
      refine WL.nil ?_
      refine th_norm ?_
      refine hx_ret ?_
      refine fin_ret [.tmp 4] rfl rfl (by simp only [EN, Nat.reduceEqDiff, reduceIte, resv, k0_0, k1_0, i5_0]; rfl) ?_  -- ret 1 r6
      exact ⟨by unfold idxV; rw [idx_no (all_end (p := fun y : M2 => y.1 ≠ n) hno (by omega))]; rfl, rfl⟩
/-- A receiver of the reference. -/
abbrev rrV (w n : Int) (a : Option Addr) (len cap : Nat) : Value := .agg #[iV w, iV n, .slice a len cap]
structure RT (h : Heap) (v : Value) (w n : Int) (bf : List M2) : Prop where
  ex : ∃ a c, v = rrV w n a bf.length c ∧ SlR 46 2 msgL h a bf ∧ bf.length ≤ c
theorem RT.ext {h h' : Heap} {v : Value} {w n : Int} {bf : List M2} (hr : RT h v w n bf) (hx : Ext h h') : RT h' v w n bf := by
  obtain ⟨a, c, h1, h2, h3⟩ := hr.ex
  exact ⟨a, c, h1, h2.ext hx, h3⟩
end
end GL


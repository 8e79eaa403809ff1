/- Calendar: slices that are handed out; comparing them; the reference's order. -/
import Derived.Test.YtnmgdjajmmgaaaaCalI
set_option linter.unusedSimpArgs false
set_option linter.unusedVariables false
set_option linter.unnecessarySimpa false
namespace GL
open Go Go.Proofs
set_option maxRecDepth 8000
theorem c_clone (a : Option Addr) (cap : Nat) (l : List Int) (hlen : l.length ≤ 1099511627776) {h : Heap} (hs : SlI h a l) (hn : a = none → cap = 0) :
    HCalls Try.prog 52 #[.slice a l.length cap] h fun v h' => Ext h h' ∧ Own h' h.size 3 1 v l.length (l.map (Value.int .i64)) := by
  cases a with
  | none =>
    obtain rfl := hs.emp
    refine hcalls2 Try.func52 rfl (by decide +kernel) (by simp only [Try.ntmps52]; exact of_decide_eq_true rfl) ?_
    intro e hin
    have e0 := hin 0 _ rfl
    refine hx_seq ?_
    refine hx_region ?_
    refine WL.qq (by simp only [ev_tmp, ev_const, ev_func, set_get, Nat.reduceEqDiff, reduceIte, qv_assign, e0]; rfl) ?_
    refine WL.nil ?_
    refine th_norm ?_
    refine hx_seq ?_
    refine hx_seq ?_
    refine hx_region ?_
    refine WL.qq (by simp only [ev_tmp, ev_const, ev_func, set_get, Nat.reduceEqDiff, reduceIte, qv_move, e0]; rfl) ?_
    refine WL.qq (by simp only [ev_tmp, ev_const, ev_func, set_get, Nat.reduceEqDiff, reduceIte, e0, qv_binOp, binv_eql, eqz25, Option.map_some]; rfl) ?_
    refine WL.nil ?_
    refine th_norm ?_
    refine hx_cond (by simp only [ev_tmp, ev_const, ev_func, set_get, Nat.reduceEqDiff, reduceIte, e0]; rfl) (fun hct4 => ?_) (fun hct4 => ?_)
    ·
      try simp only [decide_eq_true_eq, decide_eq_false_iff_not, Bool.and_eq_true, Bool.and_eq_false_iff, Bool.or_eq_true, Bool.or_eq_false_iff, Bool.not_eq_true', Bool.not_eq_false', Bool.not_eq_true, Bool.not_eq_false] at hct4
      refine hx_seq ?_
      refine hx_region ?_
      refine WL.qq (by simp only [ev_tmp, ev_const, ev_func, set_get, Nat.reduceEqDiff, reduceIte, qv_assign, e0]; rfl) ?_
      refine WL.nil ?_
      refine th_norm ?_
      refine hx_ret ?_
      refine th_ret ?_
      refine fin_ret [.tmp 2] rfl rfl (by simp only [ev_tmp, ev_const, ev_func, set_get, Nat.reduceEqDiff, reduceIte, resv, e0]; rfl) ?_  -- ret 0 r2
      exact ⟨Ext.refl _, Own.nil⟩
    ·
      cases hct4
  | some ad =>
    refine hcalls2 Try.func52 rfl (by decide +kernel) (by simp only [Try.ntmps52]; exact of_decide_eq_true rfl) ?_
    intro e hin
    have e0 := hin 0 _ rfl
    refine hx_seq ?_
    refine hx_region ?_
    refine WL.qq (by simp only [ev_tmp, ev_const, ev_func, set_get, Nat.reduceEqDiff, reduceIte, qv_assign, e0]; rfl) ?_
    refine WL.nil ?_
    refine th_norm ?_
    refine hx_seq ?_
    refine hx_seq ?_
    refine hx_region ?_
    refine WL.qq (by simp only [ev_tmp, ev_const, ev_func, set_get, Nat.reduceEqDiff, reduceIte, qv_move, e0]; rfl) ?_
    refine WL.qq (by simp only [ev_tmp, ev_const, ev_func, set_get, Nat.reduceEqDiff, reduceIte, e0, qv_binOp, binv_eql, eqn25, Option.map_some]; rfl) ?_
    refine WL.nil ?_
    refine th_norm ?_
    refine hx_cond (by simp only [ev_tmp, ev_const, ev_func, set_get, Nat.reduceEqDiff, reduceIte, e0]; rfl) (fun hct4 => ?_) (fun hct4 => ?_)
    ·
      cases hct4
    ·
      try simp only [decide_eq_true_eq, decide_eq_false_iff_not, Bool.and_eq_true, Bool.and_eq_false_iff, Bool.or_eq_true, Bool.or_eq_false_iff, Bool.not_eq_true', Bool.not_eq_false', Bool.not_eq_true, Bool.not_eq_false] at hct4
      refine hx_skip ?_
      refine th_norm ?_
      refine hx_seq ?_
      refine hx_region ?_
      refine WL.lit0 Try.underlying25 sz3 ?_
      intro h1 B1 hx1 hlt1 hB1
      replace hs := hs.ext hx1
      refine WL.qq (by simp only [ev_tmp, ev_const, ev_func, set_get, Nat.reduceEqDiff, reduceIte, qv_move, e0]; rfl) ?_
      refine WL.app (base := h.size) (n := 0) (xs := []) (bytes := 8) (sz := 1) (news := l.map (Value.int .i64)) Try.underlying25 (inf_of Try.type3) rfl rfl rfl rfl (by decide) (by simp only [ev_tmp, ev_const, ev_func, set_get, Nat.reduceEqDiff, reduceIte, e0] <;> rfl) (Own.lit0 hB1 hlt1) (by simp only [ev_tmp, ev_const, ev_func, set_get, Nat.reduceEqDiff, reduceIte, e0] <;> rfl) (fun hh => by cases hh) (by simp) hs.news (fun hh => by cases hh) (ints_one l) (by simp only [maxLen]; omega) (by omega) (by have := hx1.size; omega) ?_
      intro h4 v4 ho4 hg4 hp4 hn4
      have hE4 := hg4.ext hx1 (fun c hc => by cases hc; exact hlt1)
      refine WL.qq (by simp only [ev_tmp, ev_const, ev_func, set_get, Nat.reduceEqDiff, reduceIte, qv_assign, e0]; rfl) ?_
      refine WL.nil ?_
      refine th_norm ?_
      refine hx_ret ?_
      refine fin_ret [.tmp 2] rfl rfl (by simp only [ev_tmp, ev_const, ev_func, set_get, Nat.reduceEqDiff, reduceIte, resv, e0]; rfl) ?_  -- ret 0 r3
      exact ⟨hE4, by simpa [retOf] using ho4⟩
def intsM (a b : List Int) : Bool := decide (a = b)
theorem ne_take {a b : List Int} {i : Nat} {x y : Int} (hx : a[i]? = some x) (hy : b[i]? = some y) (hne : x ≠ y) : a ≠ b := by
  rintro rfl
  rw [hx] at hy
  cases hy
  exact hne rfl
theorem eq_take {a b : List Int} (hl : a.length = b.length) (ht : a.take a.length = b.take a.length) : a = b := by
  rw [List.take_length, hl, List.take_length] at ht
  exact ht
theorem take_step {a b : List Int} {i : Nat} {x : Int} (hx : a[i]? = some x) (hy : b[i]? = some x) (ht : a.take i = b.take i) : a.take (i + 1) = b.take (i + 1) := by
  rw [List.take_add_one, List.take_add_one, hx, hy, ht]
end GL


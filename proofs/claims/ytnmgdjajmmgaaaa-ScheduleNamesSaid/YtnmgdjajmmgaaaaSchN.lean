/- Schedule: the names of the phases. -/
import Derived.Test.YtnmgdjajmmgaaaaSchI
set_option linter.unusedSimpArgs false
set_option linter.unusedVariables false
set_option linter.unnecessarySimpa false
namespace GL
open Go Go.Proofs
set_option maxRecDepth 8000
def nms : List ByteArray := [⟨#[110, 105, 103, 104, 116]⟩, ⟨#[115, 116, 97, 114, 116]⟩, ⟨#[101, 110, 116, 114, 121]⟩, ⟨#[114, 101, 97, 108, 116, 105, 109, 101]⟩, ⟨#[99, 117, 116, 111, 102, 102, 45, 100, 118, 112]⟩, ⟨#[99, 117, 116, 111, 102, 102, 45, 112, 97, 121]⟩, ⟨#[99, 108, 111, 115, 101]⟩]
def nmB (k : Int) : ByteArray := if k < 0 ∨ 7 ≤ k then ⟨#[]⟩ else nms.getD k.toNat ⟨#[]⟩
theorem at7s {a0 a1 a2 a3 a4 a5 a6 d : ByteArray} {i : Nat} (hi : i < 7) : (#[.string a0, .string a1, .string a2, .string a3, .string a4, .string a5, .string a6] : Array Value)[i]? = some (.string ([a0, a1, a2, a3, a4, a5, a6].getD i d)) := by
  rcases (by omega : i = 0 ∨ i = 1 ∨ i = 2 ∨ i = 3 ∨ i = 4 ∨ i = 5 ∨ i = 6) with rfl | rfl | rfl | rfl | rfl | rfl | rfl <;> rfl
theorem nm_inj {i j : Int} (hi : 0 ≤ i ∧ i < 7) (hj : 0 ≤ j ∧ j < 7) (h : nmB i = nmB j) : i = j := by
  unfold nmB at h
  rw [if_neg (by omega), if_neg (by omega)] at h
  have h1 : i = 0 ∨ i = 1 ∨ i = 2 ∨ i = 3 ∨ i = 4 ∨ i = 5 ∨ i = 6 := by omega
  have h2 : j = 0 ∨ j = 1 ∨ j = 2 ∨ j = 3 ∨ j = 4 ∨ j = 5 ∨ j = 6 := by omega
  rcases h1 with rfl | rfl | rfl | rfl | rfl | rfl | rfl <;> rcases h2 with rfl | rfl | rfl | rfl | rfl | rfl | rfl <;> first | rfl | (exfalso; revert h; decide)
theorem nmB_at {j : Nat} (hj : j < 7) : nms.getD j ⟨#[]⟩ = nmB j := by
  unfold nmB
  rw [if_neg (by omega), Int.toNat_natCast]
theorem beq_no {a b : ByteArray} (h : (a == b) = false) : a ≠ b := fun hh => by
  have := (MapKept.bytes_beq a b).2 hh
  rw [this] at h; cases h
theorem no_beq {a b : ByteArray} (h : a ≠ b) : (a == b) = false := by
  cases hq : a == b with
  | false => rfl
  | true => exact absurd ((MapKept.bytes_beq a b).1 hq) h
theorem c_phaseName (k : Int) (h : Heap) : HCalls Try.prog 23 #[.int .i64 k] h (Grow (.string (nmB k)) h) := by
  refine hcalls2 Try.func23 rfl (by decide +kernel) (by simp only [Try.ntmps23]; exact of_decide_eq_true rfl) ?_
  intro e hin
  have e0 := hin 0 _ rfl
  refine hx_seq ?_
  refine hx_region ?_
  refine WL.qq (by simp only [ev_tmp, ev_const, ev_func, set_get, Nat.reduceEqDiff, reduceIte, qv_assign, e0]; rfl) ?_
  refine WL.nil ?_
  refine th_norm ?_
  refine hx_seq ?_
  refine hx_region ?_
  refine WL.qq (by refine qv_bld (by simp only [ev_tmp, ev_const, ev_func, set_get, Nat.reduceEqDiff, reduceIte, List.getElem?_toArray, List.getElem?_cons_zero, List.getElem?_cons_succ, List.map_toArray, List.map_cons, List.map_nil, Option.map_some, Option.bind_some, e0] <;> rfl) (by rw [bl89]; simp [Instr.fill, Value.cells]; rfl)) ?_
  refine WL.allocSt zr89 sz89 (fun u => by simp only [ev_tmp, ev_const, ev_func, set_get, Nat.reduceEqDiff, reduceIte, Value.cells, e0]; rfl) ⟨rfl, rfl⟩ (by simp [Value.oneCell']) ?_
  intro h1 B1 hx1 hlt1 hB1
  refine WL.nil ?_
  refine th_norm ?_
  refine hx_seq ?_
  refine hx_seq ?_
  refine hx_region ?_
  refine WL.qq (by simp only [ev_tmp, ev_const, ev_func, set_get, Nat.reduceEqDiff, reduceIte, qv_move, e0, hB1.cell]; rfl) ?_
  refine WL.qq (by simp only [ev_tmp, ev_const, ev_func, set_get, Nat.reduceEqDiff, reduceIte, qv_binOp, binv_lss, e0, hB1.cell]; rfl) ?_
  refine WL.qq (by simp only [ev_tmp, ev_const, ev_func, set_get, Nat.reduceEqDiff, reduceIte, qv_move, e0, hB1.cell]; rfl) ?_
  refine WL.cq (gd_at (t := 7) rfl (by simp only [ev_tmp, ev_const, ev_func, set_get, Nat.reduceEqDiff, reduceIte, e0, hB1.cell]; rfl)) (fun hg2_3 => by simp only [ev_tmp, ev_const, ev_func, set_get, Nat.reduceEqDiff, reduceIte, qv_move, e0, hB1.cell, hg2_3, Bool.false_eq_true, Bool.true_eq_false, eq_self, if_true, if_false, true_and, and_true, false_and, and_false]; rfl) ?_
  refine WL.cq (gd_at (t := 7) rfl (by simp only [ev_tmp, ev_const, ev_func, set_get, Nat.reduceEqDiff, reduceIte, e0, hB1.cell]; rfl)) (fun hg2_4 => by simp only [ev_tmp, ev_const, ev_func, set_get, Nat.reduceEqDiff, reduceIte, qv_binOp, binv_geq, e0, hB1.cell, hg2_4, Bool.false_eq_true, Bool.true_eq_false, eq_self, if_true, if_false, true_and, and_true, false_and, and_false]; rfl) ?_
  refine WL.qq (by simp only [ev_tmp, ev_const, ev_func, set_get, Nat.reduceEqDiff, reduceIte, qv_pick, pk_and, pk_or, Bool.false_eq_true, Bool.true_eq_false, eq_self, if_true, if_false, true_and, and_true, false_and, and_false, e0, hB1.cell]; rfl) ?_
  refine WL.nil ?_
  refine th_norm ?_
  refine hx_cond (by simp only [ev_tmp, ev_const, ev_func, set_get, Nat.reduceEqDiff, reduceIte, e0, hB1.cell]; rfl) (fun hct10 => ?_) (fun hct10 => ?_)
  ·
    try simp only [decide_eq_true_eq, decide_eq_false_iff_not, Bool.and_eq_true, Bool.and_eq_false_iff, Bool.or_eq_true, Bool.or_eq_false_iff, Bool.not_eq_true', Bool.not_eq_false', Bool.not_eq_true, Bool.not_eq_false] at hct10
    refine hx_seq ?_
    refine hx_region ?_
    refine WL.qq (by simp only [ev_tmp, ev_const, ev_func, set_get, Nat.reduceEqDiff, reduceIte, qv_assign, e0, hB1.cell]; rfl) ?_
    refine WL.nil ?_
    refine th_norm ?_
    refine hx_ret ?_
    refine th_ret ?_
    refine fin_ret [.tmp 2] rfl rfl (by simp only [ev_tmp, ev_const, ev_func, set_get, Nat.reduceEqDiff, reduceIte, resv, e0, hB1.cell]; rfl) ?_  -- ret 0 r3
    exact ⟨by simp only [nmB]; rw [if_pos (by omega)]; rfl, (hx1)⟩
  ·
    try simp only [decide_eq_true_eq, decide_eq_false_iff_not, Bool.and_eq_true, Bool.and_eq_false_iff, Bool.or_eq_true, Bool.or_eq_false_iff, Bool.not_eq_true', Bool.not_eq_false', Bool.not_eq_true, Bool.not_eq_false] at hct10
    refine hx_skip ?_
    refine th_norm ?_
    refine hx_seq ?_
    refine hx_region ?_
    refine WL.qq (by simp only [ev_tmp, ev_const, ev_func, set_get, Nat.reduceEqDiff, reduceIte, qv_move, e0, hB1.cell]; rfl) ?_
    refine WL.qq (by simp only [ev_tmp, ev_const, ev_func, set_get, Nat.reduceEqDiff, reduceIte, qv_indexAddr, e0, hB1.cell]; (try simp (disch := omega) only [ix89, Int.toNat_natCast]); rfl) ?_
    refine WL.qq (by simp only [ev_tmp, ev_const, ev_func, set_get, Nat.reduceEqDiff, reduceIte, e0, hB1.cell, qv_load, ld9, Nat.zero_add, at7s (d := ⟨#[]⟩) (show k.toNat < 7 by omega)]; rfl) ?_
    refine WL.qq (by simp only [ev_tmp, ev_const, ev_func, set_get, Nat.reduceEqDiff, reduceIte, qv_assign, e0, hB1.cell]; rfl) ?_
    refine WL.nil ?_
    refine th_norm ?_
    refine hx_ret ?_
    refine fin_ret [.tmp 2] rfl rfl (by simp only [ev_tmp, ev_const, ev_func, set_get, Nat.reduceEqDiff, reduceIte, resv, e0, hB1.cell]; rfl) ?_  -- ret 1 r4
    exact ⟨by simp only [nmB]; rw [if_neg (by omega)]; rfl, (hx1)⟩
theorem c_names (h : Heap) : HCalls Try.prog 22 #[] h fun v h' => Ext h h' ∧ ∃ B, v = .slice (some ⟨B, 0, none⟩) 7 7 ∧ Has h' B (.cells #[.string ⟨#[110, 105, 103, 104, 116]⟩, .string ⟨#[115, 116, 97, 114, 116]⟩, .string ⟨#[101, 110, 116, 114, 121]⟩, .string ⟨#[114, 101, 97, 108, 116, 105, 109, 101]⟩, .string ⟨#[99, 117, 116, 111, 102, 102, 45, 100, 118, 112]⟩, .string ⟨#[99, 117, 116, 111, 102, 102, 45, 112, 97, 121]⟩, .string ⟨#[99, 108, 111, 115, 101]⟩] 9) := by
  refine hcalls2 Try.func22 rfl (by decide +kernel) (by simp only [Try.ntmps22]; exact of_decide_eq_true rfl) ?_
  intro e hin
  refine hx_seq ?_
  refine hx_region ?_
  refine WL.qq (by simp only [ev_tmp, ev_const, ev_func, set_get, Nat.reduceEqDiff, reduceIte, qv_assign]; rfl) ?_
  refine WL.nil ?_
  refine th_norm ?_
  refine hx_seq ?_
  refine hx_region ?_
  refine WL.lit2 #[(.string ⟨#[]⟩), (.string ⟨#[]⟩), (.string ⟨#[]⟩), (.string ⟨#[]⟩), (.string ⟨#[]⟩), (.string ⟨#[]⟩), (.string ⟨#[]⟩)] Try.underlying49 sz9 zr9 (by decide) (by kernel_rfl) ⟨_, (by simp only [ev_tmp, ev_const, ev_func, set_get, Nat.reduceEqDiff, reduceIte, List.getElem?_toArray, List.getElem?_cons_zero, List.getElem?_cons_succ, List.map_toArray, List.map_cons, List.map_nil, Option.map_some, Option.bind_some]; simp [Instr.fill, Value.cells]; rfl), rfl⟩ ?_
  intro h1 B1 hx1 hlt1 hB1
  refine WL.qq (by simp only [ev_tmp, ev_const, ev_func, set_get, Nat.reduceEqDiff, reduceIte, qv_assign, hB1.cell]; rfl) ?_
  refine WL.nil ?_
  refine th_norm ?_
  refine hx_ret ?_
  refine fin_ret [.tmp 0] rfl rfl (by simp only [ev_tmp, ev_const, ev_func, set_get, Nat.reduceEqDiff, reduceIte, resv, hB1.cell]; rfl) ?_  -- ret 0 r1
  exact ⟨(hx1), B1, rfl, hB1⟩
def Parsed (s : ByteArray) (i e : Int) : Prop := (e = 0 ∧ 0 ≤ i ∧ i < 7 ∧ nmB i = s) ∨ (i = 0 ∧ e = 6 ∧ ∀ j : Int, 0 ≤ j → j < 7 → nmB j ≠ s)
theorem c_parse (s : ByteArray) (h : Heap) : HCalls Try.prog 24 #[.string s] h fun v h' => Ext h h' ∧ ∃ i e, v = .tuple #[.int .i64 i, .int .i64 e] ∧ Parsed s i e := by
  refine hcalls2 Try.func24 rfl (by decide +kernel) (by simp only [Try.ntmps24]; exact of_decide_eq_true rfl) ?_
  intro e hin
  have e0 := hin 0 _ rfl
  refine hx_seq ?_
  refine hx_region ?_
  refine WL.qq (by simp only [ev_tmp, ev_const, ev_func, set_get, Nat.reduceEqDiff, reduceIte, qv_assign, e0]; rfl) ?_
  refine WL.qq (by simp only [ev_tmp, ev_const, ev_func, set_get, Nat.reduceEqDiff, reduceIte, qv_assign, e0]; rfl) ?_
  refine WL.nil ?_
  refine th_norm ?_
  refine hx_seq ?_
  refine hx_seq ?_
  refine hx_region ?_
  refine WL.qq (by simp only [ev_tmp, ev_const, ev_func, set_get, Nat.reduceEqDiff, reduceIte, qv_move, e0]; rfl) ?_
  refine WL.nil ?_
  refine th_norm ?_
  refine hx_block ?_
  refine hx_loopX [2, 3, 4, 5, 6, 7, 8, 9, 10, 11, 12, 13] (fun k e => ∃ (i : Nat), 7 - i = k ∧ (i ≤ 7) ∧ (∀ j : Int, 0 ≤ j → j < i → nmB j ≠ s) ∧ e 5 = .int .i64 i) _ ⟨0, rfl, ?_, ?_, ?_⟩ ?_
  · omega
  · intro j h1 h2; omega
  · simp only [ev_tmp, ev_const, ev_func, set_get, Nat.reduceEqDiff, reduceIte, e0] <;> rfl
  ·
    rintro k e0L hL0 hX0 hfr0 ⟨i, rfl, hi, hno, i5_0⟩
    have k0_0 := hfr0 0 rfl; simp only [ev_tmp, ev_const, ev_func, set_get, Nat.reduceEqDiff, reduceIte, e0] at k0_0
    refine hx_seq ?_
    refine hx_region ?_
    refine WL.qq (by simp only [ev_tmp, ev_const, ev_func, set_get, Nat.reduceEqDiff, reduceIte, qv_binOp, binv_lss, k0_0, i5_0]; rfl) ?_
    refine WL.nil ?_
    refine th_norm ?_
    refine hx_seq ?_
    refine hx_cond (by simp only [ev_tmp, ev_const, ev_func, set_get, Nat.reduceEqDiff, reduceIte, k0_0, i5_0]; rfl) (fun hct6 => ?_) (fun hct6 => ?_)
    ·
      try simp only [decide_eq_true_eq, decide_eq_false_iff_not, Bool.and_eq_true, Bool.and_eq_false_iff, Bool.or_eq_true, Bool.or_eq_false_iff, Bool.not_eq_true', Bool.not_eq_false', Bool.not_eq_true, Bool.not_eq_false] at hct6
      refine hx_skip ?_
      refine th_norm ?_
      refine hx_seq ?_
      refine hx_block ?_
      refine hx_seq ?_
      refine hx_region ?_
      refine WL.qq (by simp only [ev_tmp, ev_const, ev_func, set_get, Nat.reduceEqDiff, reduceIte, qv_move, k0_0, i5_0]; rfl) ?_
      refine WL.qq (by simp only [ev_tmp, ev_const, ev_func, set_get, Nat.reduceEqDiff, reduceIte, qv_assign, k0_0, i5_0]; rfl) ?_
      refine WL.nil ?_
      refine th_norm ?_
      refine hx_seq ?_
      refine hx_region ?_
      refine WL.qq (by simp only [ev_tmp, ev_const, ev_func, set_get, Nat.reduceEqDiff, reduceIte, qv_move, k0_0, i5_0]; rfl) ?_
      refine WL.cg Try.call23 (by simp only [ev_tmp, ev_const, ev_func, set_get, Nat.reduceEqDiff, reduceIte, List.getElem?_toArray, List.getElem?_cons_zero, List.getElem?_cons_succ, List.map_toArray, List.map_cons, List.map_nil, Option.map_some, Option.bind_some, k0_0, i5_0]; exact c_phaseName i _) ?_
      intro h1 hx1
      refine WL.qq (by simp only [ev_tmp, ev_const, ev_func, set_get, Nat.reduceEqDiff, reduceIte, qv_move, k0_0, i5_0]; rfl) ?_
      refine WL.qq (by simp only [ev_tmp, ev_const, ev_func, set_get, Nat.reduceEqDiff, reduceIte, qv_binOp, binv_eql, eq9, Option.map_some, k0_0, i5_0]; rfl) ?_
      refine WL.nil ?_
      refine th_norm ?_
      refine hx_cond (by simp only [ev_tmp, ev_const, ev_func, set_get, Nat.reduceEqDiff, reduceIte, k0_0, i5_0]; rfl) (fun hct11 => ?_) (fun hct11 => ?_)
      ·
        try simp only [decide_eq_true_eq, decide_eq_false_iff_not, Bool.and_eq_true, Bool.and_eq_false_iff, Bool.or_eq_true, Bool.or_eq_false_iff, Bool.not_eq_true', Bool.not_eq_false', Bool.not_eq_true, Bool.not_eq_false] at hct11
        refine hx_seq ?_
        refine hx_region ?_
        refine WL.qq (by simp only [ev_tmp, ev_const, ev_func, set_get, Nat.reduceEqDiff, reduceIte, qv_move, k0_0, i5_0]; rfl) ?_
        refine WL.qq (by simp only [ev_tmp, ev_const, ev_func, set_get, Nat.reduceEqDiff, reduceIte, qv_assign, k0_0, i5_0]; rfl) ?_
        refine WL.qq (by simp only [ev_tmp, ev_const, ev_func, set_get, Nat.reduceEqDiff, reduceIte, qv_assign, k0_0, i5_0]; rfl) ?_
        refine WL.nil ?_
        refine th_norm ?_
        refine hx_ret ?_
        refine bl_ret ?_
        refine th_ret ?_
        refine th_ret ?_
        refine bl_ret ?_
        refine th_ret ?_
        refine fin_ret [.tmp 2, .tmp 3] rfl rfl (by simp only [ev_tmp, ev_const, ev_func, set_get, Nat.reduceEqDiff, reduceIte, resv, k0_0, i5_0]; rfl) ?_  -- ret 0 r5
        exact ⟨((hX0).trans (hx1)), _, _, rfl, .inl ⟨rfl, by omega, by omega, (MapKept.bytes_beq _ _).1 hct11⟩⟩
      ·
        try simp only [decide_eq_true_eq, decide_eq_false_iff_not, Bool.and_eq_true, Bool.and_eq_false_iff, Bool.or_eq_true, Bool.or_eq_false_iff, Bool.not_eq_true', Bool.not_eq_false', Bool.not_eq_true, Bool.not_eq_false] at hct11
        refine hx_skip ?_
        refine bl_norm ?_
        refine th_norm ?_
        refine hx_region ?_
        refine WL.qq (by simp only [ev_tmp, ev_const, ev_func, set_get, Nat.reduceEqDiff, reduceIte, qv_binOp, binv_add, k0_0, i5_0]; (try simp (disch := omega) only [w64, w8, wu64]); rfl) ?_
        refine WL.qq (by simp only [ev_tmp, ev_const, ev_func, set_get, Nat.reduceEqDiff, reduceIte, qv_move, k0_0, i5_0]; rfl) ?_
        refine WL.nil ?_
        refine th_norm ?_
        refine ⟨rfl, ?_, ?_, _, ?_, i + 1, rfl, ?_, ?_, ?_⟩  -- again 0 of loop 0
        · exact hx1
        · (repeat (first | exact Fr.refl _ _ | refine Fr.set rfl ?_ | refine Fr.put rfl ?_ | refine Fr.put0 ?_))
        · omega
        · omega
        · intro j h1 h2; by_cases hj : j = i; (rw [hj]; exact beq_no hct11); exact hno j h1 (by omega)
        · simp only [ev_tmp, ev_const, ev_func, set_get, Nat.reduceEqDiff, reduceIte, k0_0, i5_0] <;> first | rfl | (congr 1; omega)
    ·
      try simp only [decide_eq_true_eq, decide_eq_false_iff_not, Bool.and_eq_true, Bool.and_eq_false_iff, Bool.or_eq_true, Bool.or_eq_false_iff, Bool.not_eq_true', Bool.not_eq_false', Bool.not_eq_true, Bool.not_eq_false] at hct6
      have hi7 : i = 7 := (by omega); subst hi7
      refine hx_exit ?_
      refine th_exit ?_
      refine th_exit ?_
      refine bl_hit ?_
      refine th_norm ?_
      refine hx_seq ?_
      refine hx_region ?_
      refine WL.qq (by simp only [ev_tmp, ev_const, ev_func, set_get, Nat.reduceEqDiff, reduceIte, qv_assign, k0_0, i5_0]; rfl) ?_
      refine WL.qq (by simp only [ev_tmp, ev_const, ev_func, set_get, Nat.reduceEqDiff, reduceIte, qv_assign, k0_0, i5_0]; rfl) ?_
      refine WL.nil ?_
      refine th_norm ?_
      refine hx_ret ?_
      refine fin_ret [.tmp 2, .tmp 3] rfl rfl (by simp only [ev_tmp, ev_const, ev_func, set_get, Nat.reduceEqDiff, reduceIte, resv, k0_0, i5_0]; rfl) ?_  -- ret 1 r7
      exact ⟨(hX0), _, _, rfl, .inr ⟨rfl, rfl, hno⟩⟩
theorem at7n {i : Nat} (hi : i < 7) : (#[.string ⟨#[110, 105, 103, 104, 116]⟩, .string ⟨#[115, 116, 97, 114, 116]⟩, .string ⟨#[101, 110, 116, 114, 121]⟩, .string ⟨#[114, 101, 97, 108, 116, 105, 109, 101]⟩, .string ⟨#[99, 117, 116, 111, 102, 102, 45, 100, 118, 112]⟩, .string ⟨#[99, 117, 116, 111, 102, 102, 45, 112, 97, 121]⟩, .string ⟨#[99, 108, 111, 115, 101]⟩] : Array Value)[i]? = some (.string (nms.getD i ⟨#[]⟩)) := at7s hi
theorem nm_last {s : ByteArray} {i er : Int} {j : Nat} (hpe : Parsed s i er) (hj : j < 7) (hq : (nms.getD j ⟨#[]⟩ == s) = true) : i = j ∧ er = 0 := by
  have hs := (MapKept.bytes_beq _ _).1 hq
  rw [nmB_at hj] at hs
  rcases hpe with ⟨h1, h2, h3, h4⟩ | ⟨_, _, h3⟩
  · exact ⟨nm_inj ⟨h2, h3⟩ ⟨by omega, by omega⟩ (h4.trans hs.symm), h1⟩
  · exact absurd hs (h3 j (by omega) (by omega))
theorem l_names (k : Int) (s : ByteArray) (h : Heap) : HCalls Try.prog 5 #[.int .i64 k, .string s] h (Grow (.bool true) h) := by
  refine hcalls2 Try.func5 rfl (by decide +kernel) (by simp only [Try.ntmps5]; exact of_decide_eq_true rfl) ?_
  intro e hin
  have e0 := hin 0 _ rfl
  have e1 := hin 1 _ rfl
  refine hx_seq ?_
  refine hx_region ?_
  refine WL.qq (by simp only [ev_tmp, ev_const, ev_func, set_get, Nat.reduceEqDiff, reduceIte, qv_assign, e0, e1, decide_true, Bool.not_true]; rfl) ?_
  refine WL.nil ?_
  refine th_norm ?_
  refine hx_seq ?_
  refine hx_seq ?_
  refine hx_region ?_
  refine WL.cg Try.call13 (by simp only [ev_tmp, ev_const, ev_func, set_get, Nat.reduceEqDiff, reduceIte, List.getElem?_toArray, List.getElem?_cons_zero, List.getElem?_cons_succ, List.map_toArray, List.map_cons, List.map_nil, Option.map_some, Option.bind_some, e0, e1, decide_true, Bool.not_true]; exact c_known47 _) ?_
  intro h1 hx1
  refine WL.qq (by simp only [ev_tmp, ev_const, ev_func, set_get, Nat.reduceEqDiff, reduceIte, qv_unOp, unv_not, e0, e1, decide_true, Bool.not_true]; rfl) ?_
  refine WL.nil ?_
  refine th_norm ?_
  refine hx_cond (by simp only [ev_tmp, ev_const, ev_func, set_get, Nat.reduceEqDiff, reduceIte, e0, e1, decide_true, Bool.not_true]; rfl) (fun hct13 => ?_) (fun hct13 => ?_)
  ·
    simp at hct13
  ·
    try simp only [decide_eq_true_eq, decide_eq_false_iff_not, Bool.and_eq_true, Bool.and_eq_false_iff, Bool.or_eq_true, Bool.or_eq_false_iff, Bool.not_eq_true', Bool.not_eq_false', Bool.not_eq_true, Bool.not_eq_false] at hct13
    refine hx_skip ?_
    refine th_norm ?_
    refine hx_seq ?_
    refine hx_region ?_
    refine WL.ce Try.call22 (by simp only [ev_tmp, ev_const, ev_func, set_get, Nat.reduceEqDiff, reduceIte, List.getElem?_toArray, List.getElem?_cons_zero, List.getElem?_cons_succ, List.map_toArray, List.map_cons, List.map_nil, Option.map_some, Option.bind_some, e0, e1, decide_true, Bool.not_true]; exact c_names _) ?_
    rintro _ h2 ⟨hx2, B, rfl, hB⟩
    simp only [put_some]
    refine WL.qq (by simp only [ev_tmp, ev_const, ev_func, set_get, Nat.reduceEqDiff, reduceIte, qv_assign, e0, e1, decide_true, Bool.not_true]; rfl) ?_
    refine WL.nil ?_
    refine th_norm ?_
    refine hx_seq ?_
    refine hx_region ?_
    refine WL.qq (by simp only [ev_tmp, ev_const, ev_func, set_get, Nat.reduceEqDiff, reduceIte, qv_assign, e0, e1, decide_true, Bool.not_true]; rfl) ?_
    refine WL.nil ?_
    refine th_norm ?_
    refine hx_cutS [6, 15, 16, 17, 18, 19, 20, 21, 22, 23, 24, 25, 26] (fun e => e 6 = .string (nmB k)) ?_ ?_
    ·
      refine hx_seq ?_
      refine hx_region ?_
      refine WL.qq (by simp only [ev_tmp, ev_const, ev_func, set_get, Nat.reduceEqDiff, reduceIte, qv_move, e0, e1, decide_true, Bool.not_true]; rfl) ?_
      refine WL.qq (by simp only [ev_tmp, ev_const, ev_func, set_get, Nat.reduceEqDiff, reduceIte, qv_binOp, binv_geq, e0, e1, decide_true, Bool.not_true]; rfl) ?_
      refine WL.qq (by simp only [ev_tmp, ev_const, ev_func, set_get, Nat.reduceEqDiff, reduceIte, qv_move, e0, e1, decide_true, Bool.not_true]; rfl) ?_
      refine WL.cq (gd_at (t := 17) rfl (by simp only [ev_tmp, ev_const, ev_func, set_get, Nat.reduceEqDiff, reduceIte, e0, e1, decide_true, Bool.not_true]; rfl)) (fun hg5_3 => by simp only [ev_tmp, ev_const, ev_func, set_get, Nat.reduceEqDiff, reduceIte, qv_move, e0, e1, decide_true, Bool.not_true, hg5_3, Bool.false_eq_true, Bool.true_eq_false, eq_self, if_true, if_false, true_and, and_true, false_and, and_false]; rfl) ?_
      refine WL.cq (gd_at (t := 17) rfl (by simp only [ev_tmp, ev_const, ev_func, set_get, Nat.reduceEqDiff, reduceIte, e0, e1, decide_true, Bool.not_true]; rfl)) (fun hg5_4 => by simp only [ev_tmp, ev_const, ev_func, set_get, Nat.reduceEqDiff, reduceIte, qv_move, e0, e1, decide_true, Bool.not_true, hg5_4, Bool.false_eq_true, Bool.true_eq_false, eq_self, if_true, if_false, true_and, and_true, false_and, and_false]; rfl) ?_
      refine WL.cq (gd_at (t := 17) rfl (by simp only [ev_tmp, ev_const, ev_func, set_get, Nat.reduceEqDiff, reduceIte, e0, e1, decide_true, Bool.not_true]; rfl)) (fun hg5_5 => by simp only [ev_tmp, ev_const, ev_func, set_get, Nat.reduceEqDiff, reduceIte, qv_len, ln49, List.getElem?_toArray, List.getElem?_cons_zero, List.getElem?_cons_succ, List.map_toArray, List.map_cons, List.map_nil, Option.map_some, Option.bind_some, e0, e1, decide_true, Bool.not_true, hg5_5, Bool.false_eq_true, Bool.true_eq_false, eq_self, if_true, if_false, true_and, and_true, false_and, and_false]; rfl) ?_
      refine WL.cq (gd_at (t := 17) rfl (by simp only [ev_tmp, ev_const, ev_func, set_get, Nat.reduceEqDiff, reduceIte, e0, e1, decide_true, Bool.not_true]; rfl)) (fun hg5_6 => by simp only [ev_tmp, ev_const, ev_func, set_get, Nat.reduceEqDiff, reduceIte, qv_binOp, binv_lss, e0, e1, decide_true, Bool.not_true, hg5_6, Bool.false_eq_true, Bool.true_eq_false, eq_self, if_true, if_false, true_and, and_true, false_and, and_false]; rfl) ?_
      refine WL.qq (by simp only [ev_tmp, ev_const, ev_func, set_get, Nat.reduceEqDiff, reduceIte, qv_pick, pk_and, pk_or, Bool.false_eq_true, Bool.true_eq_false, eq_self, if_true, if_false, true_and, and_true, false_and, and_false, e0, e1, decide_true, Bool.not_true]; rfl) ?_
      refine WL.nil ?_
      refine th_norm ?_
      refine hx_cond (by simp only [ev_tmp, ev_const, ev_func, set_get, Nat.reduceEqDiff, reduceIte, e0, e1, decide_true, Bool.not_true]; rfl) (fun hct22 => ?_) (fun hct22 => ?_)
      ·
        try simp only [decide_eq_true_eq, decide_eq_false_iff_not, Bool.and_eq_true, Bool.and_eq_false_iff, Bool.or_eq_true, Bool.or_eq_false_iff, Bool.not_eq_true', Bool.not_eq_false', Bool.not_eq_true, Bool.not_eq_false] at hct22
        refine hx_region ?_
        refine WL.qq (by simp only [ev_tmp, ev_const, ev_func, set_get, Nat.reduceEqDiff, reduceIte, qv_move, e0, e1, decide_true, Bool.not_true]; rfl) ?_
        refine WL.qq (by simp only [ev_tmp, ev_const, ev_func, set_get, Nat.reduceEqDiff, reduceIte, qv_move, e0, e1, decide_true, Bool.not_true]; rfl) ?_
        refine WL.qq (by simp only [ev_tmp, ev_const, ev_func, set_get, Nat.reduceEqDiff, reduceIte, qv_indexAddr, e0, e1, decide_true, Bool.not_true]; (try simp (disch := omega) only [ix49, Int.toNat_natCast]); rfl) ?_
        refine WL.qq (by simp only [ev_tmp, ev_const, ev_func, set_get, Nat.reduceEqDiff, reduceIte, e0, e1, decide_true, Bool.not_true, qv_load, ld9, Nat.zero_add, hB.cell, at7n (show k.toNat < 7 by omega)]; rfl) ?_
        refine WL.qq (by simp only [ev_tmp, ev_const, ev_func, set_get, Nat.reduceEqDiff, reduceIte, qv_assign, e0, e1, decide_true, Bool.not_true]; rfl) ?_
        refine WL.nil ?_
        refine th_norm ?_
        refine ⟨rfl, rfl, ?_, ?_⟩  -- meet 0 of cut 5
        · (repeat (first | exact Fr.refl _ _ | refine Fr.set rfl ?_ | refine Fr.put rfl ?_ | refine Fr.put0 ?_ | refine Fr.trans ?_ (Fr.of hfc5 rfl)))
        · simp only [ev_tmp, ev_const, ev_func, set_get, Nat.reduceEqDiff, reduceIte, e0, e1, decide_true, Bool.not_true] <;> first | (simp only [nmB]; rw [if_neg (by omega)]) | (simp only [nmB]; rw [if_pos (by omega)])
      ·
        try simp only [decide_eq_true_eq, decide_eq_false_iff_not, Bool.and_eq_true, Bool.and_eq_false_iff, Bool.or_eq_true, Bool.or_eq_false_iff, Bool.not_eq_true', Bool.not_eq_false', Bool.not_eq_true, Bool.not_eq_false] at hct22
        refine hx_skip ?_
        refine th_norm ?_
        refine ⟨rfl, rfl, ?_, ?_⟩  -- meet 1 of cut 5
        · (repeat (first | exact Fr.refl _ _ | refine Fr.set rfl ?_ | refine Fr.put rfl ?_ | refine Fr.put0 ?_ | refine Fr.trans ?_ (Fr.of hfc5 rfl)))
        · simp only [ev_tmp, ev_const, ev_func, set_get, Nat.reduceEqDiff, reduceIte, e0, e1, decide_true, Bool.not_true] <;> first | (simp only [nmB]; rw [if_neg (by omega)]) | (simp only [nmB]; rw [if_pos (by omega)])
    ·
      rintro ec5 hfc5 i6_c5
      have k0_c5 := hfc5 0 rfl; simp only [ev_tmp, ev_const, ev_func, set_get, Nat.reduceEqDiff, reduceIte, e0, e1, decide_true, Bool.not_true] at k0_c5
      have k1_c5 := hfc5 1 rfl; simp only [ev_tmp, ev_const, ev_func, set_get, Nat.reduceEqDiff, reduceIte, e0, e1, decide_true, Bool.not_true] at k1_c5
      have k4_c5 := hfc5 4 rfl; simp only [ev_tmp, ev_const, ev_func, set_get, Nat.reduceEqDiff, reduceIte, e0, e1, decide_true, Bool.not_true] at k4_c5
      have k5_c5 := hfc5 5 rfl; simp only [ev_tmp, ev_const, ev_func, set_get, Nat.reduceEqDiff, reduceIte, e0, e1, decide_true, Bool.not_true] at k5_c5
      refine hx_seq ?_
      refine hx_seq ?_
      refine hx_region ?_
      refine WL.qq (by simp only [ev_tmp, ev_const, ev_func, set_get, Nat.reduceEqDiff, reduceIte, qv_move, k0_c5, k1_c5, k4_c5, k5_c5, i6_c5, decide_true, Bool.not_true]; rfl) ?_
      refine WL.cg Try.call23 (by simp only [ev_tmp, ev_const, ev_func, set_get, Nat.reduceEqDiff, reduceIte, List.getElem?_toArray, List.getElem?_cons_zero, List.getElem?_cons_succ, List.map_toArray, List.map_cons, List.map_nil, Option.map_some, Option.bind_some, k0_c5, k1_c5, k4_c5, k5_c5, i6_c5, decide_true, Bool.not_true]; exact c_phaseName k _) ?_
      intro h3 hx3
      replace hB := hB.ext hx3
      refine WL.qq (by simp only [ev_tmp, ev_const, ev_func, set_get, Nat.reduceEqDiff, reduceIte, qv_move, k0_c5, k1_c5, k4_c5, k5_c5, i6_c5, decide_true, Bool.not_true]; rfl) ?_
      refine WL.qq (by simp only [ev_tmp, ev_const, ev_func, set_get, Nat.reduceEqDiff, reduceIte, qv_binOp, binv_neq, eq9, Option.map_some, k0_c5, k1_c5, k4_c5, k5_c5, i6_c5, decide_true, Bool.not_true]; rfl) ?_
      refine WL.nil ?_
      refine th_norm ?_
      refine hx_cond (by simp only [ev_tmp, ev_const, ev_func, set_get, Nat.reduceEqDiff, reduceIte, k0_c5, k1_c5, k4_c5, k5_c5, i6_c5, decide_true, Bool.not_true]; rfl) (fun hct30 => ?_) (fun hct30 => ?_)
      ·
        (have h9 := (MapKept.bytes_beq (nmB k) (nmB k)).2 rfl; rw [h9] at hct30; simp at hct30)
      ·
        try simp only [decide_eq_true_eq, decide_eq_false_iff_not, Bool.and_eq_true, Bool.and_eq_false_iff, Bool.or_eq_true, Bool.or_eq_false_iff, Bool.not_eq_true', Bool.not_eq_false', Bool.not_eq_true, Bool.not_eq_false] at hct30
        refine hx_skip ?_
        refine th_norm ?_
        refine hx_seq ?_
        refine hx_region ?_
        refine WL.qq (by simp only [ev_tmp, ev_const, ev_func, set_get, Nat.reduceEqDiff, reduceIte, qv_move, k0_c5, k1_c5, k4_c5, k5_c5, i6_c5, decide_true, Bool.not_true]; rfl) ?_
        refine WL.ce Try.call24 (by simp only [ev_tmp, ev_const, ev_func, set_get, Nat.reduceEqDiff, reduceIte, List.getElem?_toArray, List.getElem?_cons_zero, List.getElem?_cons_succ, List.map_toArray, List.map_cons, List.map_nil, Option.map_some, Option.bind_some, k0_c5, k1_c5, k4_c5, k5_c5, i6_c5, decide_true, Bool.not_true]; exact c_parse s _) ?_
        rintro _ h4 ⟨hx4, i, er, rfl, hpe⟩
        replace hB := hB.ext hx4
        simp only [put_some]
        refine WL.qq (by simp only [ev_tmp, ev_const, ev_func, set_get, Nat.reduceEqDiff, reduceIte, qv_move, k0_c5, k1_c5, k4_c5, k5_c5, i6_c5, decide_true, Bool.not_true]; rfl) ?_
        refine WL.qq (by simp only [ev_tmp, ev_const, ev_func, set_get, Nat.reduceEqDiff, reduceIte, qv_extract, List.getElem?_toArray, List.getElem?_cons_zero, List.getElem?_cons_succ, List.map_toArray, List.map_cons, List.map_nil, Option.map_some, Option.bind_some, k0_c5, k1_c5, k4_c5, k5_c5, i6_c5, decide_true, Bool.not_true]; rfl) ?_
        refine WL.qq (by simp only [ev_tmp, ev_const, ev_func, set_get, Nat.reduceEqDiff, reduceIte, qv_extract, List.getElem?_toArray, List.getElem?_cons_zero, List.getElem?_cons_succ, List.map_toArray, List.map_cons, List.map_nil, Option.map_some, Option.bind_some, k0_c5, k1_c5, k4_c5, k5_c5, i6_c5, decide_true, Bool.not_true]; rfl) ?_
        refine WL.qq (by simp only [ev_tmp, ev_const, ev_func, set_get, Nat.reduceEqDiff, reduceIte, qv_assign, k0_c5, k1_c5, k4_c5, k5_c5, i6_c5, decide_true, Bool.not_true]; rfl) ?_
        refine WL.qq (by simp only [ev_tmp, ev_const, ev_func, set_get, Nat.reduceEqDiff, reduceIte, qv_assign, k0_c5, k1_c5, k4_c5, k5_c5, i6_c5, decide_true, Bool.not_true]; rfl) ?_
        refine WL.nil ?_
        refine th_norm ?_
        refine hx_seq ?_
        refine hx_seq ?_
        refine hx_region ?_
        refine WL.qq (by simp only [ev_tmp, ev_const, ev_func, set_get, Nat.reduceEqDiff, reduceIte, qv_assign, k0_c5, k1_c5, k4_c5, k5_c5, i6_c5, decide_true, Bool.not_true]; rfl) ?_
        refine WL.nil ?_
        refine th_norm ?_
        refine hx_block ?_
        refine hx_loopX [4, 9, 10, 11, 36, 37, 38, 39, 40, 41, 42, 43, 44, 45, 46, 47, 48, 49, 50, 51, 52, 53, 54, 55, 56, 57, 58, 59, 60, 61, 62, 63, 64, 65, 66, 67, 68, 69, 70, 71, 72, 73] (fun k e => ∃ (j : Nat), 7 - j = k ∧ (j ≤ 7) ∧ e 9 = .int .i64 j) _ ⟨0, rfl, ?_, ?_⟩ ?_
        · omega
        · simp only [ev_tmp, ev_const, ev_func, set_get, Nat.reduceEqDiff, reduceIte, k0_c5, k1_c5, k4_c5, k5_c5, i6_c5, decide_true, Bool.not_true] <;> rfl
        ·
          rintro k e0L hL0 hX0 hfr0 ⟨j, rfl, hj, i9_0⟩
          replace hB := hB.ext hX0
          have k1_0 := hfr0 1 rfl; simp only [ev_tmp, ev_const, ev_func, set_get, Nat.reduceEqDiff, reduceIte, k0_c5, k1_c5, k4_c5, k5_c5, i6_c5, decide_true, Bool.not_true] at k1_0
          have k5_0 := hfr0 5 rfl; simp only [ev_tmp, ev_const, ev_func, set_get, Nat.reduceEqDiff, reduceIte, k0_c5, k1_c5, k4_c5, k5_c5, i6_c5, decide_true, Bool.not_true] at k5_0
          have k7_0 := hfr0 7 rfl; simp only [ev_tmp, ev_const, ev_func, set_get, Nat.reduceEqDiff, reduceIte, k0_c5, k1_c5, k4_c5, k5_c5, i6_c5, decide_true, Bool.not_true] at k7_0
          have k8_0 := hfr0 8 rfl; simp only [ev_tmp, ev_const, ev_func, set_get, Nat.reduceEqDiff, reduceIte, k0_c5, k1_c5, k4_c5, k5_c5, i6_c5, decide_true, Bool.not_true] at k8_0
          refine hx_seq ?_
          refine hx_seq ?_
          refine hx_region ?_
          refine WL.qq (by simp only [ev_tmp, ev_const, ev_func, set_get, Nat.reduceEqDiff, reduceIte, qv_move, k1_0, k5_0, k7_0, k8_0, i9_0, decide_true, Bool.not_true]; rfl) ?_
          refine WL.qq (by simp only [ev_tmp, ev_const, ev_func, set_get, Nat.reduceEqDiff, reduceIte, qv_move, k1_0, k5_0, k7_0, k8_0, i9_0, decide_true, Bool.not_true]; rfl) ?_
          refine WL.qq (by simp only [ev_tmp, ev_const, ev_func, set_get, Nat.reduceEqDiff, reduceIte, qv_len, ln49, List.getElem?_toArray, List.getElem?_cons_zero, List.getElem?_cons_succ, List.map_toArray, List.map_cons, List.map_nil, Option.map_some, Option.bind_some, k1_0, k5_0, k7_0, k8_0, i9_0, decide_true, Bool.not_true]; rfl) ?_
          refine WL.qq (by simp only [ev_tmp, ev_const, ev_func, set_get, Nat.reduceEqDiff, reduceIte, qv_binOp, binv_lss, k1_0, k5_0, k7_0, k8_0, i9_0, decide_true, Bool.not_true]; rfl) ?_
          refine WL.nil ?_
          refine th_norm ?_
          refine hx_cond (by simp only [ev_tmp, ev_const, ev_func, set_get, Nat.reduceEqDiff, reduceIte, k1_0, k5_0, k7_0, k8_0, i9_0, decide_true, Bool.not_true]; rfl) (fun hct39 => ?_) (fun hct39 => ?_)
          ·
            try simp only [decide_eq_true_eq, decide_eq_false_iff_not, Bool.and_eq_true, Bool.and_eq_false_iff, Bool.or_eq_true, Bool.or_eq_false_iff, Bool.not_eq_true', Bool.not_eq_false', Bool.not_eq_true, Bool.not_eq_false] at hct39
            refine hx_skip ?_
            refine th_norm ?_
            refine hx_seq ?_
            refine hx_block ?_
            refine hx_seq ?_
            refine hx_region ?_
            refine WL.qq (by simp only [ev_tmp, ev_const, ev_func, set_get, Nat.reduceEqDiff, reduceIte, qv_move, k1_0, k5_0, k7_0, k8_0, i9_0, decide_true, Bool.not_true]; rfl) ?_
            refine WL.qq (by simp only [ev_tmp, ev_const, ev_func, set_get, Nat.reduceEqDiff, reduceIte, qv_move, k1_0, k5_0, k7_0, k8_0, i9_0, decide_true, Bool.not_true]; rfl) ?_
            refine WL.qq (by simp only [ev_tmp, ev_const, ev_func, set_get, Nat.reduceEqDiff, reduceIte, qv_indexAddr, k1_0, k5_0, k7_0, k8_0, i9_0, decide_true, Bool.not_true]; (try simp (disch := omega) only [ix49, Int.toNat_natCast]); rfl) ?_
            refine WL.qq (by simp only [ev_tmp, ev_const, ev_func, set_get, Nat.reduceEqDiff, reduceIte, k1_0, k5_0, k7_0, k8_0, i9_0, decide_true, Bool.not_true, qv_load, ld9, Nat.zero_add, Int.toNat_natCast, hB.cell, at7n (show j < 7 by omega)]; rfl) ?_
            refine WL.ce Try.call24 (by simp only [ev_tmp, ev_const, ev_func, set_get, Nat.reduceEqDiff, reduceIte, List.getElem?_toArray, List.getElem?_cons_zero, List.getElem?_cons_succ, List.map_toArray, List.map_cons, List.map_nil, Option.map_some, Option.bind_some, k1_0, k5_0, k7_0, k8_0, i9_0, decide_true, Bool.not_true]; exact c_parse (nms.getD j ⟨#[]⟩) _) ?_
            rintro _ h5 ⟨hx5, i2, e2, rfl, hpe2⟩
            replace hB := hB.ext hx5
            simp only [put_some]
            refine WL.qq (by simp only [ev_tmp, ev_const, ev_func, set_get, Nat.reduceEqDiff, reduceIte, qv_move, k1_0, k5_0, k7_0, k8_0, i9_0, decide_true, Bool.not_true]; rfl) ?_
            refine WL.qq (by simp only [ev_tmp, ev_const, ev_func, set_get, Nat.reduceEqDiff, reduceIte, qv_extract, List.getElem?_toArray, List.getElem?_cons_zero, List.getElem?_cons_succ, List.map_toArray, List.map_cons, List.map_nil, Option.map_some, Option.bind_some, k1_0, k5_0, k7_0, k8_0, i9_0, decide_true, Bool.not_true]; rfl) ?_
            refine WL.qq (by simp only [ev_tmp, ev_const, ev_func, set_get, Nat.reduceEqDiff, reduceIte, qv_extract, List.getElem?_toArray, List.getElem?_cons_zero, List.getElem?_cons_succ, List.map_toArray, List.map_cons, List.map_nil, Option.map_some, Option.bind_some, k1_0, k5_0, k7_0, k8_0, i9_0, decide_true, Bool.not_true]; rfl) ?_
            refine WL.qq (by simp only [ev_tmp, ev_const, ev_func, set_get, Nat.reduceEqDiff, reduceIte, qv_assign, k1_0, k5_0, k7_0, k8_0, i9_0, decide_true, Bool.not_true]; rfl) ?_
            refine WL.qq (by simp only [ev_tmp, ev_const, ev_func, set_get, Nat.reduceEqDiff, reduceIte, qv_assign, k1_0, k5_0, k7_0, k8_0, i9_0, decide_true, Bool.not_true]; rfl) ?_
            refine WL.nil ?_
            refine th_norm ?_
            refine hx_seq ?_
            refine hx_region ?_
            have hq2 : i2 = j ∧ e2 = 0 := by rw [nmB_at (by omega)] at hpe2; rcases hpe2 with ⟨h1, h2, h3, h4⟩ | ⟨_, _, h3⟩; exact ⟨nm_inj ⟨h2, h3⟩ ⟨by omega, by omega⟩ h4, h1⟩; exact absurd rfl (h3 j (by omega) (by omega))
            obtain ⟨rfl, rfl⟩ := hq2
            refine WL.qq (by simp only [ev_tmp, ev_const, ev_func, set_get, Nat.reduceEqDiff, reduceIte, qv_move, k1_0, k5_0, k7_0, k8_0, i9_0, decide_true, Bool.not_true]; rfl) ?_
            refine WL.qq (by simp only [ev_tmp, ev_const, ev_func, set_get, Nat.reduceEqDiff, reduceIte, qv_move, k1_0, k5_0, k7_0, k8_0, i9_0, decide_true, Bool.not_true]; rfl) ?_
            refine WL.qq (by simp only [ev_tmp, ev_const, ev_func, set_get, Nat.reduceEqDiff, reduceIte, qv_binOp, binv_neq, eq3, Option.map_some, k1_0, k5_0, k7_0, k8_0, i9_0, decide_true, Bool.not_true]; rfl) ?_
            refine WL.qq (by simp only [ev_tmp, ev_const, ev_func, set_get, Nat.reduceEqDiff, reduceIte, qv_move, k1_0, k5_0, k7_0, k8_0, i9_0, decide_true, Bool.not_true]; rfl) ?_
            refine WL.cq (gd_at (t := 53) rfl (by simp only [ev_tmp, ev_const, ev_func, set_get, Nat.reduceEqDiff, reduceIte, k1_0, k5_0, k7_0, k8_0, i9_0, decide_true, Bool.not_true]; rfl)) (fun hg14_4 => by simp only [ev_tmp, ev_const, ev_func, set_get, Nat.reduceEqDiff, reduceIte, qv_move, k1_0, k5_0, k7_0, k8_0, i9_0, decide_true, Bool.not_true, hg14_4, Bool.false_eq_true, Bool.true_eq_false, eq_self, if_true, if_false, true_and, and_true, false_and, and_false]; rfl) ?_
            refine WL.cq (gd_at (t := 53) rfl (by simp only [ev_tmp, ev_const, ev_func, set_get, Nat.reduceEqDiff, reduceIte, k1_0, k5_0, k7_0, k8_0, i9_0, decide_true, Bool.not_true]; rfl)) (fun hg14_5 => by simp only [ev_tmp, ev_const, ev_func, set_get, Nat.reduceEqDiff, reduceIte, qv_binOp, binv_neq, eq34, Option.map_some, k1_0, k5_0, k7_0, k8_0, i9_0, decide_true, Bool.not_true, hg14_5, Bool.false_eq_true, Bool.true_eq_false, eq_self, if_true, if_false, true_and, and_true, false_and, and_false]; rfl) ?_
            refine WL.qq (by simp only [ev_tmp, ev_const, ev_func, set_get, Nat.reduceEqDiff, reduceIte, qv_pick, pk_and, pk_or, Bool.false_eq_true, Bool.true_eq_false, eq_self, if_true, if_false, true_and, and_true, false_and, and_false, k1_0, k5_0, k7_0, k8_0, i9_0, decide_true, Bool.not_true]; rfl) ?_
            refine WL.qq (by simp only [ev_tmp, ev_const, ev_func, set_get, Nat.reduceEqDiff, reduceIte, qv_move, k1_0, k5_0, k7_0, k8_0, i9_0, decide_true, Bool.not_true]; rfl) ?_
            refine WL.cq (gd_at (t := 57) rfl (by simp only [ev_tmp, ev_const, ev_func, set_get, Nat.reduceEqDiff, reduceIte, k1_0, k5_0, k7_0, k8_0, i9_0, decide_true, Bool.not_true]; rfl)) (fun hg14_8 => by simp only [ev_tmp, ev_const, ev_func, set_get, Nat.reduceEqDiff, reduceIte, qv_move, k1_0, k5_0, k7_0, k8_0, i9_0, decide_true, Bool.not_true, hg14_8, Bool.false_eq_true, Bool.true_eq_false, eq_self, if_true, if_false, true_and, and_true, false_and, and_false]; rfl) ?_
            refine WL.cq (gd_at (t := 57) rfl (by simp only [ev_tmp, ev_const, ev_func, set_get, Nat.reduceEqDiff, reduceIte, k1_0, k5_0, k7_0, k8_0, i9_0, decide_true, Bool.not_true]; rfl)) (fun hg14_9 => by simp only [ev_tmp, ev_const, ev_func, set_get, Nat.reduceEqDiff, reduceIte, qv_move, k1_0, k5_0, k7_0, k8_0, i9_0, decide_true, Bool.not_true, hg14_9, Bool.false_eq_true, Bool.true_eq_false, eq_self, if_true, if_false, true_and, and_true, false_and, and_false]; rfl) ?_
            refine WL.cq (gd_at (t := 57) rfl (by simp only [ev_tmp, ev_const, ev_func, set_get, Nat.reduceEqDiff, reduceIte, k1_0, k5_0, k7_0, k8_0, i9_0, decide_true, Bool.not_true]; rfl)) (fun hg14_10 => by have hq0 := hg14_10; (try simp only [decide_eq_true_eq, decide_eq_false_iff_not, Bool.and_eq_true, Bool.and_eq_false_iff, Bool.or_eq_true, Bool.or_eq_false_iff, Bool.not_eq_true', Bool.not_eq_false', Bool.not_eq_true, Bool.not_eq_false] at hq0); simp only [ev_tmp, ev_const, ev_func, set_get, Nat.reduceEqDiff, reduceIte, qv_indexAddr, k1_0, k5_0, k7_0, k8_0, i9_0, decide_true, Bool.not_true, hg14_10, Bool.false_eq_true, Bool.true_eq_false, eq_self, if_true, if_false, true_and, and_true, false_and, and_false]; (try simp (disch := omega) only [ix49, Int.toNat_natCast]); rfl) ?_
            refine WL.cq (gd_at (t := 57) rfl (by simp only [ev_tmp, ev_const, ev_func, set_get, Nat.reduceEqDiff, reduceIte, k1_0, k5_0, k7_0, k8_0, i9_0, decide_true, Bool.not_true]; rfl)) (fun hg14_11 => by simp only [ev_tmp, ev_const, ev_func, set_get, Nat.reduceEqDiff, reduceIte, k1_0, k5_0, k7_0, k8_0, i9_0, decide_true, Bool.not_true, qv_load, ld9, Nat.zero_add, Int.toNat_natCast, hB.cell, at7n (show j < 7 by omega), Bool.false_eq_true, Bool.true_eq_false, eq_self, if_true, if_false, true_and, and_true, false_and, and_false, hg14_11]; rfl) ?_
            refine WL.cq (gd_at (t := 57) rfl (by simp only [ev_tmp, ev_const, ev_func, set_get, Nat.reduceEqDiff, reduceIte, k1_0, k5_0, k7_0, k8_0, i9_0, decide_true, Bool.not_true]; rfl)) (fun hg14_12 => by simp only [ev_tmp, ev_const, ev_func, set_get, Nat.reduceEqDiff, reduceIte, qv_move, k1_0, k5_0, k7_0, k8_0, i9_0, decide_true, Bool.not_true, hg14_12, Bool.false_eq_true, Bool.true_eq_false, eq_self, if_true, if_false, true_and, and_true, false_and, and_false]; rfl) ?_
            refine WL.cq (gd_at (t := 57) rfl (by simp only [ev_tmp, ev_const, ev_func, set_get, Nat.reduceEqDiff, reduceIte, k1_0, k5_0, k7_0, k8_0, i9_0, decide_true, Bool.not_true]; rfl)) (fun hg14_13 => by simp only [ev_tmp, ev_const, ev_func, set_get, Nat.reduceEqDiff, reduceIte, qv_binOp, binv_eql, eq9, Option.map_some, k1_0, k5_0, k7_0, k8_0, i9_0, decide_true, Bool.not_true, hg14_13, Bool.false_eq_true, Bool.true_eq_false, eq_self, if_true, if_false, true_and, and_true, false_and, and_false]; rfl) ?_
            refine WL.cq (gd_at (t := 57) rfl (by simp only [ev_tmp, ev_const, ev_func, set_get, Nat.reduceEqDiff, reduceIte, k1_0, k5_0, k7_0, k8_0, i9_0, decide_true, Bool.not_true]; rfl)) (fun hg14_14 => by simp only [ev_tmp, ev_const, ev_func, set_get, Nat.reduceEqDiff, reduceIte, qv_move, k1_0, k5_0, k7_0, k8_0, i9_0, decide_true, Bool.not_true, hg14_14, Bool.false_eq_true, Bool.true_eq_false, eq_self, if_true, if_false, true_and, and_true, false_and, and_false]; rfl) ?_
            refine WL.cq (gd_at (t := 64) rfl (by simp only [ev_tmp, ev_const, ev_func, set_get, Nat.reduceEqDiff, reduceIte, k1_0, k5_0, k7_0, k8_0, i9_0, decide_true, Bool.not_true]; rfl)) (fun hg14_15 => by simp only [ev_tmp, ev_const, ev_func, set_get, Nat.reduceEqDiff, reduceIte, qv_move, k1_0, k5_0, k7_0, k8_0, i9_0, decide_true, Bool.not_true, hg14_15, Bool.false_eq_true, Bool.true_eq_false, eq_self, if_true, if_false, true_and, and_true, false_and, and_false]; rfl) ?_
            refine WL.cq (gd_at (t := 64) rfl (by simp only [ev_tmp, ev_const, ev_func, set_get, Nat.reduceEqDiff, reduceIte, k1_0, k5_0, k7_0, k8_0, i9_0, decide_true, Bool.not_true]; rfl)) (fun hg14_16 => by simp only [ev_tmp, ev_const, ev_func, set_get, Nat.reduceEqDiff, reduceIte, qv_move, k1_0, k5_0, k7_0, k8_0, i9_0, decide_true, Bool.not_true, hg14_16, Bool.false_eq_true, Bool.true_eq_false, eq_self, if_true, if_false, true_and, and_true, false_and, and_false]; rfl) ?_
            refine WL.cq (gd_at (t := 64) rfl (by simp only [ev_tmp, ev_const, ev_func, set_get, Nat.reduceEqDiff, reduceIte, k1_0, k5_0, k7_0, k8_0, i9_0, decide_true, Bool.not_true]; rfl)) (fun hg14_17 => by simp only [ev_tmp, ev_const, ev_func, set_get, Nat.reduceEqDiff, reduceIte, qv_binOp, binv_neq, eq3, Option.map_some, k1_0, k5_0, k7_0, k8_0, i9_0, decide_true, Bool.not_true, hg14_17, Bool.false_eq_true, Bool.true_eq_false, eq_self, if_true, if_false, true_and, and_true, false_and, and_false]; rfl) ?_
            refine WL.cq (gd_at (t := 64) rfl (by simp only [ev_tmp, ev_const, ev_func, set_get, Nat.reduceEqDiff, reduceIte, k1_0, k5_0, k7_0, k8_0, i9_0, decide_true, Bool.not_true]; rfl)) (fun hg14_18 => by simp only [ev_tmp, ev_const, ev_func, set_get, Nat.reduceEqDiff, reduceIte, qv_move, k1_0, k5_0, k7_0, k8_0, i9_0, decide_true, Bool.not_true, hg14_18, Bool.false_eq_true, Bool.true_eq_false, eq_self, if_true, if_false, true_and, and_true, false_and, and_false]; rfl) ?_
            refine WL.cq2 (t := 68) rfl (by simp only [ev_tmp, ev_const, ev_func, set_get, Nat.reduceEqDiff, reduceIte, k1_0, k5_0, k7_0, k8_0, i9_0, decide_true, Bool.not_true]; rfl) (fun hC14_19 hg14_19 => by simp only [ev_tmp, ev_const, ev_func, set_get, Nat.reduceEqDiff, reduceIte, qv_move, k1_0, k5_0, k7_0, k8_0, i9_0, decide_true, Bool.not_true, hC14_19, hg14_19, Bool.false_eq_true, Bool.true_eq_false, eq_self, if_true, if_false, true_and, and_true, false_and, and_false]; rfl) ?_
            refine WL.cq2 (t := 68) rfl (by simp only [ev_tmp, ev_const, ev_func, set_get, Nat.reduceEqDiff, reduceIte, k1_0, k5_0, k7_0, k8_0, i9_0, decide_true, Bool.not_true]; rfl) (fun hC14_20 hg14_20 => by simp only [ev_tmp, ev_const, ev_func, set_get, Nat.reduceEqDiff, reduceIte, qv_binOp, binv_neq, eq34, Option.map_some, k1_0, k5_0, k7_0, k8_0, i9_0, decide_true, Bool.not_true, hC14_20, hg14_20, Bool.false_eq_true, Bool.true_eq_false, eq_self, if_true, if_false, true_and, and_true, false_and, and_false]; rfl) ?_
            refine WL.cq (gd_at (t := 64) rfl (by simp only [ev_tmp, ev_const, ev_func, set_get, Nat.reduceEqDiff, reduceIte, k1_0, k5_0, k7_0, k8_0, i9_0, decide_true, Bool.not_true]; rfl)) (fun hg14_21 => by simp only [ev_tmp, ev_const, ev_func, set_get, Nat.reduceEqDiff, reduceIte, qv_pick, pk_and, pk_or, Bool.false_eq_true, Bool.true_eq_false, eq_self, if_true, if_false, true_and, and_true, false_and, and_false, k1_0, k5_0, k7_0, k8_0, i9_0, decide_true, Bool.not_true, hg14_21, Bool.false_eq_true, Bool.true_eq_false, eq_self, if_true, if_false, true_and, and_true, false_and, and_false]; rfl) ?_
            refine WL.cq (gd_at (t := 57) rfl (by simp only [ev_tmp, ev_const, ev_func, set_get, Nat.reduceEqDiff, reduceIte, k1_0, k5_0, k7_0, k8_0, i9_0, decide_true, Bool.not_true]; rfl)) (fun hg14_22 => by simp only [ev_tmp, ev_const, ev_func, set_get, Nat.reduceEqDiff, reduceIte, qv_pick, pk_and, pk_or, Bool.false_eq_true, Bool.true_eq_false, eq_self, if_true, if_false, true_and, and_true, false_and, and_false, k1_0, k5_0, k7_0, k8_0, i9_0, decide_true, Bool.not_true, hg14_22, Bool.false_eq_true, Bool.true_eq_false, eq_self, if_true, if_false, true_and, and_true, false_and, and_false]; rfl) ?_
            refine WL.qq (by simp only [ev_tmp, ev_const, ev_func, set_get, Nat.reduceEqDiff, reduceIte, qv_pick, pk_and, pk_or, Bool.false_eq_true, Bool.true_eq_false, eq_self, if_true, if_false, true_and, and_true, false_and, and_false, k1_0, k5_0, k7_0, k8_0, i9_0, decide_true, Bool.not_true]; rfl) ?_
            refine WL.nil ?_
            refine th_norm ?_
            refine hx_cond (by simp only [ev_tmp, ev_const, ev_func, set_get, Nat.reduceEqDiff, reduceIte, k1_0, k5_0, k7_0, k8_0, i9_0, decide_true, Bool.not_true]; rfl) (fun hct73 => ?_) (fun hct73 => ?_)
            ·
              (simp only [Bool.and_eq_true] at hct73; obtain ⟨q1, q2⟩ := nm_last hpe (show j < 7 by omega) hct73.1; have h8 := hct73.2; simp [q1, q2] at h8)
            ·
              try simp only [decide_eq_true_eq, decide_eq_false_iff_not, Bool.and_eq_true, Bool.and_eq_false_iff, Bool.or_eq_true, Bool.or_eq_false_iff, Bool.not_eq_true', Bool.not_eq_false', Bool.not_eq_true, Bool.not_eq_false] at hct73
              refine hx_skip ?_
              refine bl_norm ?_
              refine th_norm ?_
              refine hx_region ?_
              refine WL.qq (by simp only [ev_tmp, ev_const, ev_func, set_get, Nat.reduceEqDiff, reduceIte, qv_move, k1_0, k5_0, k7_0, k8_0, i9_0, decide_true, Bool.not_true]; rfl) ?_
              refine WL.qq (by simp only [ev_tmp, ev_const, ev_func, set_get, Nat.reduceEqDiff, reduceIte, qv_binOp, binv_add, k1_0, k5_0, k7_0, k8_0, i9_0, decide_true, Bool.not_true]; (try simp (disch := omega) only [w64, w8, wu64]); rfl) ?_
              refine WL.qq (by simp only [ev_tmp, ev_const, ev_func, set_get, Nat.reduceEqDiff, reduceIte, qv_assign, k1_0, k5_0, k7_0, k8_0, i9_0, decide_true, Bool.not_true]; rfl) ?_
              refine WL.nil ?_
              refine th_norm ?_
              refine ⟨rfl, ?_, ?_, _, ?_, j + 1, rfl, ?_, ?_⟩  -- again 0 of loop 0
              · exact hx5
              · (repeat (first | exact Fr.refl _ _ | refine Fr.set rfl ?_ | refine Fr.put rfl ?_ | refine Fr.put0 ?_ | refine Fr.trans ?_ (Fr.of hfc5 rfl)))
              · omega
              · omega
              · simp only [ev_tmp, ev_const, ev_func, set_get, Nat.reduceEqDiff, reduceIte, k1_0, k5_0, k7_0, k8_0, i9_0, decide_true, Bool.not_true] <;> first | rfl | (congr 1; omega)
          ·
            try simp only [decide_eq_true_eq, decide_eq_false_iff_not, Bool.and_eq_true, Bool.and_eq_false_iff, Bool.or_eq_true, Bool.or_eq_false_iff, Bool.not_eq_true', Bool.not_eq_false', Bool.not_eq_true, Bool.not_eq_false] at hct39
            refine hx_exit ?_
            refine th_exit ?_
            refine th_exit ?_
            refine bl_hit ?_
            refine th_norm ?_
            refine hx_seq ?_
            refine hx_region ?_
            refine WL.qq (by simp only [ev_tmp, ev_const, ev_func, set_get, Nat.reduceEqDiff, reduceIte, qv_move, k1_0, k5_0, k7_0, k8_0, i9_0, decide_true, Bool.not_true]; rfl) ?_
            refine WL.cg Try.call23 (by simp only [ev_tmp, ev_const, ev_func, set_get, Nat.reduceEqDiff, reduceIte, List.getElem?_toArray, List.getElem?_cons_zero, List.getElem?_cons_succ, List.map_toArray, List.map_cons, List.map_nil, Option.map_some, Option.bind_some, k1_0, k5_0, k7_0, k8_0, i9_0, decide_true, Bool.not_true]; exact c_phaseName i _) ?_
            intro h6 hx6
            replace hB := hB.ext hx6
            refine WL.qq (by simp only [ev_tmp, ev_const, ev_func, set_get, Nat.reduceEqDiff, reduceIte, qv_move, k1_0, k5_0, k7_0, k8_0, i9_0, decide_true, Bool.not_true]; rfl) ?_
            refine WL.qq (by simp only [ev_tmp, ev_const, ev_func, set_get, Nat.reduceEqDiff, reduceIte, qv_binOp, binv_eql, eq9, Option.map_some, k1_0, k5_0, k7_0, k8_0, i9_0, decide_true, Bool.not_true]; rfl) ?_
            refine WL.qq (by simp only [ev_tmp, ev_const, ev_func, set_get, Nat.reduceEqDiff, reduceIte, qv_move, k1_0, k5_0, k7_0, k8_0, i9_0, decide_true, Bool.not_true]; rfl) ?_
            refine WL.cq (gd_at (t := 78) rfl (by simp only [ev_tmp, ev_const, ev_func, set_get, Nat.reduceEqDiff, reduceIte, k1_0, k5_0, k7_0, k8_0, i9_0, decide_true, Bool.not_true]; rfl)) (fun hg16_5 => by simp only [ev_tmp, ev_const, ev_func, set_get, Nat.reduceEqDiff, reduceIte, qv_move, k1_0, k5_0, k7_0, k8_0, i9_0, decide_true, Bool.not_true, hg16_5, Bool.false_eq_true, Bool.true_eq_false, eq_self, if_true, if_false, true_and, and_true, false_and, and_false]; rfl) ?_
            refine WL.cq (gd_at (t := 78) rfl (by simp only [ev_tmp, ev_const, ev_func, set_get, Nat.reduceEqDiff, reduceIte, k1_0, k5_0, k7_0, k8_0, i9_0, decide_true, Bool.not_true]; rfl)) (fun hg16_6 => by simp only [ev_tmp, ev_const, ev_func, set_get, Nat.reduceEqDiff, reduceIte, qv_binOp, binv_eql, eq34, Option.map_some, k1_0, k5_0, k7_0, k8_0, i9_0, decide_true, Bool.not_true, hg16_6, Bool.false_eq_true, Bool.true_eq_false, eq_self, if_true, if_false, true_and, and_true, false_and, and_false]; rfl) ?_
            refine WL.qq (by simp only [ev_tmp, ev_const, ev_func, set_get, Nat.reduceEqDiff, reduceIte, qv_pick, pk_and, pk_or, Bool.false_eq_true, Bool.true_eq_false, eq_self, if_true, if_false, true_and, and_true, false_and, and_false, k1_0, k5_0, k7_0, k8_0, i9_0, decide_true, Bool.not_true]; rfl) ?_
            refine WL.qq (by simp only [ev_tmp, ev_const, ev_func, set_get, Nat.reduceEqDiff, reduceIte, qv_move, k1_0, k5_0, k7_0, k8_0, i9_0, decide_true, Bool.not_true]; rfl) ?_
            refine WL.cq (gd_at (t := 82) rfl (by simp only [ev_tmp, ev_const, ev_func, set_get, Nat.reduceEqDiff, reduceIte, k1_0, k5_0, k7_0, k8_0, i9_0, decide_true, Bool.not_true]; rfl)) (fun hg16_9 => by simp only [ev_tmp, ev_const, ev_func, set_get, Nat.reduceEqDiff, reduceIte, qv_move, k1_0, k5_0, k7_0, k8_0, i9_0, decide_true, Bool.not_true, hg16_9, Bool.false_eq_true, Bool.true_eq_false, eq_self, if_true, if_false, true_and, and_true, false_and, and_false]; rfl) ?_
            refine WL.cq (gd_at (t := 82) rfl (by simp only [ev_tmp, ev_const, ev_func, set_get, Nat.reduceEqDiff, reduceIte, k1_0, k5_0, k7_0, k8_0, i9_0, decide_true, Bool.not_true]; rfl)) (fun hg16_10 => by simp only [ev_tmp, ev_const, ev_func, set_get, Nat.reduceEqDiff, reduceIte, qv_binOp, binv_eql, eq3, Option.map_some, k1_0, k5_0, k7_0, k8_0, i9_0, decide_true, Bool.not_true, hg16_10, Bool.false_eq_true, Bool.true_eq_false, eq_self, if_true, if_false, true_and, and_true, false_and, and_false]; rfl) ?_
            refine WL.cq (gd_at (t := 82) rfl (by simp only [ev_tmp, ev_const, ev_func, set_get, Nat.reduceEqDiff, reduceIte, k1_0, k5_0, k7_0, k8_0, i9_0, decide_true, Bool.not_true]; rfl)) (fun hg16_11 => by simp only [ev_tmp, ev_const, ev_func, set_get, Nat.reduceEqDiff, reduceIte, qv_move, k1_0, k5_0, k7_0, k8_0, i9_0, decide_true, Bool.not_true, hg16_11, Bool.false_eq_true, Bool.true_eq_false, eq_self, if_true, if_false, true_and, and_true, false_and, and_false]; rfl) ?_
            refine WL.cq2 (t := 85) rfl (by simp only [ev_tmp, ev_const, ev_func, set_get, Nat.reduceEqDiff, reduceIte, k1_0, k5_0, k7_0, k8_0, i9_0, decide_true, Bool.not_true]; rfl) (fun hC16_12 hg16_12 => by simp only [ev_tmp, ev_const, ev_func, set_get, Nat.reduceEqDiff, reduceIte, qv_move, k1_0, k5_0, k7_0, k8_0, i9_0, decide_true, Bool.not_true, hC16_12, hg16_12, Bool.false_eq_true, Bool.true_eq_false, eq_self, if_true, if_false, true_and, and_true, false_and, and_false]; rfl) ?_
            refine WL.cq2 (t := 85) rfl (by simp only [ev_tmp, ev_const, ev_func, set_get, Nat.reduceEqDiff, reduceIte, k1_0, k5_0, k7_0, k8_0, i9_0, decide_true, Bool.not_true]; rfl) (fun hC16_13 hg16_13 => by simp only [ev_tmp, ev_const, ev_func, set_get, Nat.reduceEqDiff, reduceIte, qv_binOp, binv_eql, eq34, Option.map_some, k1_0, k5_0, k7_0, k8_0, i9_0, decide_true, Bool.not_true, hC16_13, hg16_13, Bool.false_eq_true, Bool.true_eq_false, eq_self, if_true, if_false, true_and, and_true, false_and, and_false]; rfl) ?_
            refine WL.cq (gd_at (t := 82) rfl (by simp only [ev_tmp, ev_const, ev_func, set_get, Nat.reduceEqDiff, reduceIte, k1_0, k5_0, k7_0, k8_0, i9_0, decide_true, Bool.not_true]; rfl)) (fun hg16_14 => by simp only [ev_tmp, ev_const, ev_func, set_get, Nat.reduceEqDiff, reduceIte, qv_pick, pk_and, pk_or, Bool.false_eq_true, Bool.true_eq_false, eq_self, if_true, if_false, true_and, and_true, false_and, and_false, k1_0, k5_0, k7_0, k8_0, i9_0, decide_true, Bool.not_true, hg16_14, Bool.false_eq_true, Bool.true_eq_false, eq_self, if_true, if_false, true_and, and_true, false_and, and_false]; rfl) ?_
            refine WL.qq (by simp only [ev_tmp, ev_const, ev_func, set_get, Nat.reduceEqDiff, reduceIte, qv_pick, pk_and, pk_or, Bool.false_eq_true, Bool.true_eq_false, eq_self, if_true, if_false, true_and, and_true, false_and, and_false, k1_0, k5_0, k7_0, k8_0, i9_0, decide_true, Bool.not_true]; rfl) ?_
            refine WL.qq (by simp only [ev_tmp, ev_const, ev_func, set_get, Nat.reduceEqDiff, reduceIte, qv_assign, k1_0, k5_0, k7_0, k8_0, i9_0, decide_true, Bool.not_true]; rfl) ?_
            refine WL.nil ?_
            refine th_norm ?_
            refine hx_ret ?_
            refine fin_ret [.tmp 4] rfl rfl (by simp only [ev_tmp, ev_const, ev_func, set_get, Nat.reduceEqDiff, reduceIte, resv, k1_0, k5_0, k7_0, k8_0, i9_0, decide_true, Bool.not_true]; rfl) ?_  -- ret 0 r16
            rcases hpe with ⟨h1, h2, h3, h4⟩ | ⟨h1, h2, h3⟩
            (subst h1; exact ⟨by have h9 := (MapKept.bytes_beq (nmB i) s).2 h4; simp [retOf, h9], ((hx1).trans ((hx2).trans ((hx3).trans ((hx4).trans ((hX0).trans (hx6))))))⟩)
            (subst h1; subst h2; exact ⟨by simp [retOf], ((hx1).trans ((hx2).trans ((hx3).trans ((hx4).trans ((hX0).trans (hx6))))))⟩)
end GL


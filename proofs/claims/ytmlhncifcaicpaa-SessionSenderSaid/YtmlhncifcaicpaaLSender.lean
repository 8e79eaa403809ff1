/- The law SessionSender returns true: a sender numbers, keeps and resends messages as the reference does. No condition beyond the row's own. -/
import Derived.Test.YtmlhncifcaicpaaRows
import Derived.Test.YtmlhncifcaicpaaSesU
set_option linter.unusedSimpArgs false
set_option linter.unusedVariables false
set_option linter.unnecessarySimpa false
namespace GL
open Go Go.Proofs
set_option maxRecDepth 8000
theorem l_sndN (w : Int) (hw : ¬ (1 ≤ w ∧ w ≤ 256)) (al : Option Addr) (l : List SOp) (cl : Nat) {h : Heap} :
    HCalls Try.prog 7 #[iV w, .slice al l.length cl] h (Grow (.bool true) h) := by
  refine hcalls2 Try.func7 rfl (by decide +kernel) (by simp only [Try.ntmps7]; exact of_decide_eq_true rfl) ?_
  intro e hin
  have e0 := hin 0 _ rfl
  have e1 := hin 1 _ rfl
  refine hx_seq ?_
  refine hx_region ?_
  refine WL.qq (by simp only [EN, Nat.reduceEqDiff, reduceIte, qv_assign, eq_self, decide_true, Bool.not_true, Bool.not_false]; rfl) ?_
  refine WL.nil ?_
  refine th_norm ?_
  refine hx_seq ?_
  refine hx_region ?_
  refine WL.qq (by simp only [EN, Nat.reduceEqDiff, reduceIte, qv_move, e0, eq_self, decide_true, Bool.not_true, Bool.not_false]; rfl) ?_
  refine WL.ck Try.call20 (by simp only [EN, Nat.reduceEqDiff, reduceIte, AR, eq_self, decide_true, Bool.not_true, Bool.not_false]; exact n_newS w hw _) ?_
  refine WL.qq (by simp only [EN, Nat.reduceEqDiff, reduceIte, qv_move, eq_self, decide_true, Bool.not_true, Bool.not_false]; rfl) ?_
  refine WL.qq (by simp only [EN, Nat.reduceEqDiff, reduceIte, qv_extract, AR, eq_self, decide_true, Bool.not_true, Bool.not_false]; rfl) ?_
  refine WL.qq (by simp only [EN, Nat.reduceEqDiff, reduceIte, qv_extract, AR, eq_self, decide_true, Bool.not_true, Bool.not_false]; rfl) ?_
  refine WL.qq (by simp only [EN, Nat.reduceEqDiff, reduceIte, qv_assign, eq_self, decide_true, Bool.not_true, Bool.not_false]; rfl) ?_
  refine WL.qq (by simp only [EN, Nat.reduceEqDiff, reduceIte, qv_assign, eq_self, decide_true, Bool.not_true, Bool.not_false]; rfl) ?_
  refine WL.nil ?_
  refine th_norm ?_
  refine hx_seq ?_
  refine hx_seq ?_
  refine hx_region ?_
  refine WL.qq (by simp only [EN, Nat.reduceEqDiff, reduceIte, qv_move, e0, eq_self, decide_true, Bool.not_true, Bool.not_false]; rfl) ?_
  refine WL.ck Try.call24 (by simp only [EN, Nat.reduceEqDiff, reduceIte, AR, eq_self, decide_true, Bool.not_true, Bool.not_false]; exact c_rnew w _) ?_
  refine WL.qq (by simp only [EN, Nat.reduceEqDiff, reduceIte, qv_unOp, unv_not, eq_self, decide_true, Bool.not_true, Bool.not_false]; rfl) ?_
  refine WL.nil ?_
  refine th_norm ?_
  refine hx_cond (by simp only [EN, Nat.reduceEqDiff, reduceIte, eq_self, decide_true, Bool.not_true, Bool.not_false]; rfl) (fun hct18 => ?_) (fun hct18 => ?_)
  ·
    try simp only [BD] at hct18
    refine hx_seq ?_
    refine hx_region ?_
    refine WL.cg Try.call12 (by simp only [EN, Nat.reduceEqDiff, reduceIte, AR, eq_self, decide_true, Bool.not_true, Bool.not_false]; exact c_known49 _) ?_
    intro h1 hx1
    refine WL.qq (by simp only [EN, Nat.reduceEqDiff, reduceIte, qv_move, eq_self, decide_true, Bool.not_true, Bool.not_false]; rfl) ?_
    refine WL.cq (gd_at (t := 20) rfl (by simp only [EN, Nat.reduceEqDiff, reduceIte, eq_self, decide_true, Bool.not_true, Bool.not_false] <;> rfl)) (fun hg3_2 => by simp only [EN, Nat.reduceEqDiff, reduceIte, qv_move, eq_self, decide_true, Bool.not_true, Bool.not_false, hg3_2, GR]; rfl) ?_
    refine WL.cq (gd_at (t := 20) rfl (by simp only [EN, Nat.reduceEqDiff, reduceIte, eq_self, decide_true, Bool.not_true, Bool.not_false] <;> rfl)) (fun hg3_3 => by simp only [EN, Nat.reduceEqDiff, reduceIte, qv_binOp, binv_eql, eqz33, eqn33, eqm33, Option.map_some, eq_self, decide_true, Bool.not_true, Bool.not_false, hg3_3, GR]; rfl) ?_
    refine WL.qq (by simp only [EN, Nat.reduceEqDiff, reduceIte, qv_pick, pk_and, pk_or, GR, eq_self, decide_true, Bool.not_true, Bool.not_false]; rfl) ?_
    refine WL.qq (by simp only [EN, Nat.reduceEqDiff, reduceIte, qv_move, eq_self, decide_true, Bool.not_true, Bool.not_false]; rfl) ?_
    refine WL.cq (gd_at (t := 24) rfl (by simp only [EN, Nat.reduceEqDiff, reduceIte, eq_self, decide_true, Bool.not_true, Bool.not_false] <;> rfl)) (fun hg3_6 => by simp only [EN, Nat.reduceEqDiff, reduceIte, qv_move, eq_self, decide_true, Bool.not_true, Bool.not_false, hg3_6, GR]; rfl) ?_
    refine WL.cq (gd_at (t := 24) rfl (by simp only [EN, Nat.reduceEqDiff, reduceIte, eq_self, decide_true, Bool.not_true, Bool.not_false] <;> rfl)) (fun hg3_7 => by simp only [EN, Nat.reduceEqDiff, reduceIte, qv_binOp, binv_eql, eq37, Option.map_some, eq_self, decide_true, Bool.not_true, Bool.not_false, hg3_7, GR]; rfl) ?_
    refine WL.qq (by simp only [EN, Nat.reduceEqDiff, reduceIte, qv_pick, pk_and, pk_or, GR, eq_self, decide_true, Bool.not_true, Bool.not_false]; rfl) ?_
    refine WL.qq (by simp only [EN, Nat.reduceEqDiff, reduceIte, qv_assign, eq_self, decide_true, Bool.not_true, Bool.not_false]; rfl) ?_
    refine WL.nil ?_
    refine th_norm ?_
    refine hx_ret ?_
    refine th_ret ?_
    refine fin_ret [.tmp 4] rfl rfl (by simp only [EN, Nat.reduceEqDiff, reduceIte, resv, e0, e1, eq_self, decide_true, Bool.not_true, Bool.not_false]; rfl) ?_  -- ret 0 r3
    exact ⟨rfl, (hx1)⟩
  ·
    simp at hct18; omega
set_option maxHeartbeats 4000000 in
theorem l_snd (w : Int) (hw : 1 ≤ w ∧ w ≤ 256) (al : Option Addr) (l : List SOp) (cl : Nat) {h : Heap} (hl : SlG 4 opL h al l) (ll : l.length ≤ 9223372036854775807) (hop : ∀ o ∈ l, SOk o) :
    HCalls Try.prog 7 #[iV w, .slice al l.length cl] h (Grow (.bool true) h) := by
  refine hcalls2 Try.func7 rfl (by decide +kernel) (by simp only [Try.ntmps7]; exact of_decide_eq_true rfl) ?_
  intro e hin
  have e0 := hin 0 _ rfl
  have e1 := hin 1 _ rfl
  refine hx_seq ?_
  refine hx_region ?_
  refine WL.qq (by simp only [EN, Nat.reduceEqDiff, reduceIte, qv_assign, eq_self, decide_true, Bool.not_true, Bool.not_false]; rfl) ?_
  refine WL.nil ?_
  refine th_norm ?_
  refine hx_seq ?_
  refine hx_region ?_
  refine WL.qq (by simp only [EN, Nat.reduceEqDiff, reduceIte, qv_move, e0, eq_self, decide_true, Bool.not_true, Bool.not_false]; rfl) ?_
  refine WL.ce Try.call20 (by simp only [EN, Nat.reduceEqDiff, reduceIte, AR, eq_self, decide_true, Bool.not_true, Bool.not_false]; exact ts_new w hw h) ?_
  rintro _ h1 ⟨hx1, p, rfl, hT⟩
  simp only [put_some]
  refine WL.qq (by simp only [EN, Nat.reduceEqDiff, reduceIte, qv_move, eq_self, decide_true, Bool.not_true, Bool.not_false]; rfl) ?_
  refine WL.qq (by simp only [EN, Nat.reduceEqDiff, reduceIte, qv_extract, AR, eq_self, decide_true, Bool.not_true, Bool.not_false]; rfl) ?_
  refine WL.qq (by simp only [EN, Nat.reduceEqDiff, reduceIte, qv_extract, AR, eq_self, decide_true, Bool.not_true, Bool.not_false]; rfl) ?_
  refine WL.qq (by simp only [EN, Nat.reduceEqDiff, reduceIte, qv_assign, eq_self, decide_true, Bool.not_true, Bool.not_false]; rfl) ?_
  refine WL.qq (by simp only [EN, Nat.reduceEqDiff, reduceIte, qv_assign, eq_self, decide_true, Bool.not_true, Bool.not_false]; rfl) ?_
  refine WL.nil ?_
  refine th_norm ?_
  refine hx_seq ?_
  refine hx_seq ?_
  refine hx_region ?_
  refine WL.qq (by simp only [EN, Nat.reduceEqDiff, reduceIte, qv_move, e0, eq_self, decide_true, Bool.not_true, Bool.not_false]; rfl) ?_
  refine WL.ck Try.call24 (by simp only [EN, Nat.reduceEqDiff, reduceIte, AR, eq_self, decide_true, Bool.not_true, Bool.not_false]; exact c_rnew w _) ?_
  refine WL.qq (by simp only [EN, Nat.reduceEqDiff, reduceIte, qv_unOp, unv_not, eq_self, decide_true, Bool.not_true, Bool.not_false]; rfl) ?_
  refine WL.nil ?_
  refine th_norm ?_
  refine hx_cond (by simp only [EN, Nat.reduceEqDiff, reduceIte, eq_self, decide_true, Bool.not_true, Bool.not_false]; rfl) (fun hct18 => ?_) (fun hct18 => ?_)
  ·
    simp at hct18; omega
  ·
    try simp only [BD] at hct18
    refine hx_skip ?_
    refine th_norm ?_
    refine hx_seq ?_
    refine hx_seq ?_
    refine hx_region ?_
    refine WL.qq (by simp only [EN, Nat.reduceEqDiff, reduceIte, qv_move, eq_self, decide_true, Bool.not_true, Bool.not_false]; rfl) ?_
    refine WL.qq (by simp only [EN, Nat.reduceEqDiff, reduceIte, qv_binOp, binv_eql, eqz33, eqn33, eqm33, Option.map_some, eq_self, decide_true, Bool.not_true, Bool.not_false]; rfl) ?_
    refine WL.qq (by simp only [EN, Nat.reduceEqDiff, reduceIte, qv_move, eq_self, decide_true, Bool.not_true, Bool.not_false]; rfl) ?_
    refine WL.cq (gd_at (t := 30) rfl (by simp only [EN, Nat.reduceEqDiff, reduceIte, eq_self, decide_true, Bool.not_true, Bool.not_false] <;> rfl)) (fun hg4_3 => by simp only [EN, Nat.reduceEqDiff, reduceIte, qv_move, eq_self, decide_true, Bool.not_true, Bool.not_false, hg4_3, GR]; rfl) ?_
    refine WL.cq (gd_at (t := 30) rfl (by simp only [EN, Nat.reduceEqDiff, reduceIte, eq_self, decide_true, Bool.not_true, Bool.not_false] <;> rfl)) (fun hg4_4 => by simp only [EN, Nat.reduceEqDiff, reduceIte, qv_binOp, binv_neq, eq37, Option.map_some, eq_self, decide_true, Bool.not_true, Bool.not_false, hg4_4, GR]; rfl) ?_
    refine WL.qq (by simp only [EN, Nat.reduceEqDiff, reduceIte, qv_pick, pk_and, pk_or, GR, eq_self, decide_true, Bool.not_true, Bool.not_false]; rfl) ?_
    refine WL.qq (by simp only [EN, Nat.reduceEqDiff, reduceIte, qv_move, eq_self, decide_true, Bool.not_true, Bool.not_false]; rfl) ?_
    refine WL.cq (gd_at (t := 34) rfl (by simp only [EN, Nat.reduceEqDiff, reduceIte, e1, eq_self, decide_true, Bool.not_true, Bool.not_false] <;> rfl)) (fun hg4_7 => by simp only [EN, Nat.reduceEqDiff, reduceIte, qv_move, e1, eq_self, decide_true, Bool.not_true, Bool.not_false, hg4_7, GR]; rfl) ?_
    refine WL.cq (gd_at (t := 34) rfl (by simp only [EN, Nat.reduceEqDiff, reduceIte, eq_self, decide_true, Bool.not_true, Bool.not_false] <;> rfl)) (fun hg4_8 => by simp only [EN, Nat.reduceEqDiff, reduceIte, qv_len, ln57, AR, eq_self, decide_true, Bool.not_true, Bool.not_false, hg4_8, GR]; rfl) ?_
    refine WL.cq (gd_at (t := 34) rfl (by simp only [EN, Nat.reduceEqDiff, reduceIte, eq_self, decide_true, Bool.not_true, Bool.not_false] <;> rfl)) (fun hg4_9 => by simp only [EN, Nat.reduceEqDiff, reduceIte, qv_binOp, binv_gtr, eq_self, decide_true, Bool.not_true, Bool.not_false, hg4_9, GR]; rfl) ?_
    refine WL.qq (by simp only [EN, Nat.reduceEqDiff, reduceIte, qv_pick, pk_and, pk_or, GR, eq_self, decide_true, Bool.not_true, Bool.not_false]; rfl) ?_
    refine WL.nil ?_
    refine th_norm ?_
    refine hx_cond (by simp only [EN, Nat.reduceEqDiff, reduceIte, eq_self, decide_true, Bool.not_true, Bool.not_false]; rfl) (fun hct38 => ?_) (fun hct38 => ?_)
    ·
      try simp only [BD] at hct38
      refine hx_seq ?_
      refine hx_region ?_
      refine WL.qq (by simp only [EN, Nat.reduceEqDiff, reduceIte, qv_move, eq_self, decide_true, Bool.not_true, Bool.not_false]; rfl) ?_
      refine WL.qq (by simp only [EN, Nat.reduceEqDiff, reduceIte, qv_binOp, binv_neq, eqz33, eqn33, eqm33, Option.map_some, eq_self, decide_true, Bool.not_true, Bool.not_false]; rfl) ?_
      refine WL.qq (by simp only [EN, Nat.reduceEqDiff, reduceIte, qv_move, eq_self, decide_true, Bool.not_true, Bool.not_false]; rfl) ?_
      refine WL.cq (gd_at (t := 41) rfl (by simp only [EN, Nat.reduceEqDiff, reduceIte, eq_self, decide_true, Bool.not_true, Bool.not_false] <;> rfl)) (fun hg5_3 => by simp only [EN, Nat.reduceEqDiff, reduceIte, qv_move, eq_self, decide_true, Bool.not_true, Bool.not_false, hg5_3, GR]; rfl) ?_
      refine WL.cq (gd_at (t := 41) rfl (by simp only [EN, Nat.reduceEqDiff, reduceIte, eq_self, decide_true, Bool.not_true, Bool.not_false] <;> rfl)) (fun hg5_4 => by simp only [EN, Nat.reduceEqDiff, reduceIte, qv_binOp, binv_eql, eq37, Option.map_some, eq_self, decide_true, Bool.not_true, Bool.not_false, hg5_4, GR]; rfl) ?_
      refine WL.qq (by simp only [EN, Nat.reduceEqDiff, reduceIte, qv_pick, pk_and, pk_or, GR, eq_self, decide_true, Bool.not_true, Bool.not_false]; rfl) ?_
      refine WL.qq (by simp only [EN, Nat.reduceEqDiff, reduceIte, qv_move, eq_self, decide_true, Bool.not_true, Bool.not_false]; rfl) ?_
      refine WL.ccg (gd_at (t := 45) rfl (by simp only [EN, Nat.reduceEqDiff, reduceIte, eq_self, decide_true, Bool.not_true, Bool.not_false] <;> rfl)) Try.call12 (fun hg5_7 => by simp only [EN, Nat.reduceEqDiff, reduceIte, AR, eq_self, decide_true, Bool.not_true, Bool.not_false, hg5_7, GR]; exact c_known49 _) ?_
      intro h2 hx2
      replace hT := hT.ext hx2
      refine WL.qq (by simp only [EN, Nat.reduceEqDiff, reduceIte, qv_pick, pk_and, pk_or, GR, eq_self, decide_true, Bool.not_true, Bool.not_false]; rfl) ?_
      refine WL.qq (by simp only [EN, Nat.reduceEqDiff, reduceIte, qv_assign, eq_self, decide_true, Bool.not_true, Bool.not_false]; rfl) ?_
      refine WL.nil ?_
      refine th_norm ?_
      refine hx_ret ?_
      refine th_ret ?_
      refine fin_ret [.tmp 4] rfl rfl (by simp only [EN, Nat.reduceEqDiff, reduceIte, resv, e0, e1, eq_self, decide_true, Bool.not_true, Bool.not_false]; rfl) ?_  -- ret 0 r5
      exact ⟨by simp [retOf], ((hx1).trans (hx2))⟩
    ·
      try simp only [BD] at hct38
      have hl60 : l.length ≤ 60 := (by have h9 := hct38; (try simp at h9); omega)
      refine hx_skip ?_
      refine th_norm ?_
      refine hx_seq ?_
      refine hx_region ?_
      refine WL.qq (by simp only [EN, Nat.reduceEqDiff, reduceIte, qv_move, e0, eq_self, decide_true, Bool.not_true, Bool.not_false]; rfl) ?_
      refine WL.qq (by refine qv_bld (by simp only [EN, Nat.reduceEqDiff, reduceIte, AR, eq_self, decide_true, Bool.not_true, Bool.not_false] <;> rfl) (by rw [bl60]; simp [Instr.fill, Value.cells]; rfl)) ?_
      have hpB := hT.lt
      refine WL.allocSt zr60 sz60 (fun u => by simp only [EN, Nat.reduceEqDiff, reduceIte, Value.cells, eq_self, decide_true, Bool.not_true, Bool.not_false]; rfl) ⟨rfl, rfl⟩ (by simp [Value.oneCell']) ?_
      intro h3 B3 hx3 hlt3 hB3
      replace hT := hT.ext hx3
      refine WL.nil ?_
      refine th_norm ?_
      refine hx_seq ?_
      refine hx_seq ?_
      refine hx_region ?_
      have hXn3 : h.size ≤ B3 := (by have := Ext.size hx1; omega)
      refine WL.qq (by simp only [EN, Nat.reduceEqDiff, reduceIte, qv_assign, eq_self, decide_true, Bool.not_true, Bool.not_false, hB3.cell]; rfl) ?_
      refine WL.nil ?_
      refine th_norm ?_
      refine hx_block ?_
      refine hx_loopG [4, 8, 9, 10, 50, 51, 52, 53, 54, 55, 56, 57, 58, 59, 60, 61, 62, 63, 64, 65, 66, 67, 68, 69, 70, 71, 72, 73, 74, 75, 76, 77, 78, 79, 80, 81, 82, 83, 84, 85, 86, 87, 88, 89, 90, 91] (fun k e hL0 => ∃ (i : Nat) (n : Int) (a : Int) (ak : Option Addr) (cap : Nat) (K : List M2) (ar : Option Addr) (cr : Nat), l.length - i = k ∧ (i ≤ l.length) ∧ (SG w n a K) ∧ (TS h hL0 p w n a ak cap K) ∧ (RS hL0 (.agg #[iV w, iV n, iV a, .slice ar K.length cr]) w n a K) ∧ (Has hL0 B3 (.cells #[iV w, iV n, iV a, .slice ar K.length cr] 60)) ∧ e 8 = .int .i64 i) _ ⟨0, 1, 1, none, 0, [], none, 0, rfl, ?_, ?_, ?_, ?_, ?_, ?_⟩ ?_
      · omega
      · exact sg_new w hw
      · exact hT
      · exact ⟨none, 0, rfl, slR_nil, Nat.le_refl _⟩
      · exact hB3
      · simp only [EN, Nat.reduceEqDiff, reduceIte, e0, e1, eq_self, decide_true, Bool.not_true, Bool.not_false, hB3.cell] <;> rfl
      ·
        rintro k e0L hL0 hfr0 ⟨i, n, a, ak, cap, K, ar, cr, rfl, hi, hS, hT, hR, hB3, i8_0⟩
        have k1_0 := hfr0 1 rfl; try simp only [EN, Nat.reduceEqDiff, reduceIte, e1, eq_self, decide_true, Bool.not_true, Bool.not_false, hB3.cell] at k1_0
        have k5_0 := hfr0 5 rfl; try simp only [EN, Nat.reduceEqDiff, reduceIte, eq_self, decide_true, Bool.not_true, Bool.not_false, hB3.cell] at k5_0
        have k7_0 := hfr0 7 rfl; try simp only [EN, Nat.reduceEqDiff, reduceIte, eq_self, decide_true, Bool.not_true, Bool.not_false, hB3.cell] at k7_0
        refine hx_seq ?_
        refine hx_seq ?_
        refine hx_region ?_
        refine WL.qq (by simp only [EN, Nat.reduceEqDiff, reduceIte, qv_move, i8_0, eq_self, decide_true, Bool.not_true, Bool.not_false, hB3.cell]; rfl) ?_
        refine WL.qq (by simp only [EN, Nat.reduceEqDiff, reduceIte, qv_move, k1_0, eq_self, decide_true, Bool.not_true, Bool.not_false, hB3.cell]; rfl) ?_
        refine WL.qq (by simp only [EN, Nat.reduceEqDiff, reduceIte, qv_len, ln57, AR, eq_self, decide_true, Bool.not_true, Bool.not_false, hB3.cell]; rfl) ?_
        refine WL.qq (by simp only [EN, Nat.reduceEqDiff, reduceIte, qv_binOp, binv_lss, eq_self, decide_true, Bool.not_true, Bool.not_false, hB3.cell]; rfl) ?_
        refine WL.nil ?_
        refine th_norm ?_
        refine hx_cond (by simp only [EN, Nat.reduceEqDiff, reduceIte, eq_self, decide_true, Bool.not_true, Bool.not_false, hB3.cell]; rfl) (fun hct53 => ?_) (fun hct53 => ?_)
        ·
          try simp only [BD] at hct53
          obtain ⟨o, ho⟩ := atG (l := l) (i := i) (by omega)
          have hok := hop o (List.mem_of_getElem? ho)
          obtain ⟨b, off, ha1, hr0⟩ := hl i o ho; have hr := hT.E.readN hr0
          have hk1 := readN_cell hr 1 _ rfl
          refine hx_skip ?_
          refine th_norm ?_
          refine hx_seq ?_
          refine hx_block ?_
          refine hx_seq ?_
          refine hx_seq ?_
          refine hx_region ?_
          refine WL.qq (by simp only [EN, Nat.reduceEqDiff, reduceIte, qv_move, k1_0, eq_self, decide_true, Bool.not_true, Bool.not_false, hB3.cell]; rfl) ?_
          refine WL.qq (by simp only [EN, Nat.reduceEqDiff, reduceIte, qv_move, i8_0, eq_self, decide_true, Bool.not_true, Bool.not_false, hB3.cell]; rfl) ?_
          refine WL.qq (by simp only [EN, Nat.reduceEqDiff, reduceIte, qv_indexAddr, eq_self, decide_true, Bool.not_true, Bool.not_false, hB3.cell, ha1]; (try simp (disch := omega) only [ix57, Int.toNat_natCast]); rfl) ?_
          refine WL.qq (by simp only [EN, Nat.reduceEqDiff, reduceIte, qv_fieldAddr, fa62_1, Nat.zero_add, Nat.reduceAdd, eq_self, decide_true, Bool.not_true, Bool.not_false, hB3.cell]; rfl) ?_
          refine WL.qq (by simp only [EN, Nat.reduceEqDiff, reduceIte, k1_0, k5_0, k7_0, i8_0, eq_self, decide_true, Bool.not_true, Bool.not_false, hB3.cell, qv_load, ld9, Int.toNat_natCast, hk1]; rfl) ?_
          refine WL.qq (by simp only [EN, Nat.reduceEqDiff, reduceIte, qv_len, ln9, AR, eq_self, decide_true, Bool.not_true, Bool.not_false, hB3.cell]; rfl) ?_
          refine WL.qq (by simp only [EN, Nat.reduceEqDiff, reduceIte, qv_binOp, binv_gtr, eq_self, decide_true, Bool.not_true, Bool.not_false, hB3.cell]; rfl) ?_
          refine WL.nil ?_
          refine th_norm ?_
          refine hx_cond (by simp only [EN, Nat.reduceEqDiff, reduceIte, eq_self, decide_true, Bool.not_true, Bool.not_false, hB3.cell]; rfl) (fun hct62 => ?_) (fun hct62 => ?_)
          ·
            try simp only [BD] at hct62
            refine hx_seq ?_
            refine hx_region ?_
            refine WL.cg Try.call12 (by simp only [EN, Nat.reduceEqDiff, reduceIte, AR, eq_self, decide_true, Bool.not_true, Bool.not_false, hB3.cell]; exact c_known49 _) ?_
            intro h4 hx4
            replace hT := hT.ext hx4
            replace hR := hR.ext hx4
            replace hB3 := hB3.ext hx4
            refine WL.qq (by simp only [EN, Nat.reduceEqDiff, reduceIte, qv_assign, eq_self, decide_true, Bool.not_true, Bool.not_false, hB3.cell]; rfl) ?_
            refine WL.nil ?_
            refine th_norm ?_
            refine hx_ret ?_
            refine th_ret ?_
            refine bl_ret ?_
            refine th_ret ?_
            refine th_ret ?_
            refine bl_ret ?_
            refine th_ret ?_
            refine fin_ret [.tmp 4] rfl rfl (by simp only [EN, Nat.reduceEqDiff, reduceIte, resv, k1_0, k5_0, k7_0, i8_0, eq_self, decide_true, Bool.not_true, Bool.not_false, hB3.cell]; rfl) ?_  -- ret 1 r11
            exact ⟨by simp [retOf], hT.E⟩
          ·
            try simp only [BD] at hct62
            have hb2l := (Array.getElem?_eq_some_iff.1 hB3).1; have hS2 := hS.stp o; have hn2a := hS2.an; have hn2b := hS2.n2; have hn2c := hS2.a1; have hn2d := hS2.kw; have hn2e := hS2.w2; have hTE := hT.E.size
            refine hx_skip ?_
            refine th_norm ?_
            refine hx_seq ?_
            apply hx_draw2M (Rel.sn 6 h p w n a ak cap K (stN w n K o) (stA n a o) (stK w n a K o)) [11, 12] [6, 10] [(6, Spec.sn h p w (stN w n K o) (stA n a o) (stK w n a K o)), (10, Spec.cel (Array.size hL0) #[iV 0, iV 0, iV 0, .slice none 0 0] 60)] rfl (by decide +kernel) rfl sn_stable (fun _ _ => hT)
            refine LD.qr rfl rfl (fun hD hr => by have hB3 := hr.1.2 B3 _ _ (by decide) (by decide) hB3; have hro := (hr.2.2 hT.E).readN hr0; simp only [EN, Nat.reduceEqDiff, reduceIte, qv_move, k5_0, eq_self, decide_true, Bool.not_true, Bool.not_false, hB3.cell]; rfl) ?_
            refine LD.qr rfl rfl (fun hD hr => by have hB3 := hr.1.2 B3 _ _ (by decide) (by decide) hB3; have hro := (hr.2.2 hT.E).readN hr0; simp only [EN, Nat.reduceEqDiff, reduceIte, qv_load, ld60, readN, AR, Nat.zero_add, Nat.reduceAdd, k7_0, eq_self, decide_true, Bool.not_true, Bool.not_false, hB3.cell]; rfl) ?_
            refine LD.qr rfl rfl (fun hD hr => by have hB3 := hr.1.2 B3 _ _ (by decide) (by decide) hB3; have hro := (hr.2.2 hT.E).readN hr0; simp only [EN, Nat.reduceEqDiff, reduceIte, qv_move, k1_0, eq_self, decide_true, Bool.not_true, Bool.not_false, hB3.cell]; rfl) ?_
            refine LD.qr rfl rfl (fun hD hr => by have hB3 := hr.1.2 B3 _ _ (by decide) (by decide) hB3; have hro := (hr.2.2 hT.E).readN hr0; simp only [EN, Nat.reduceEqDiff, reduceIte, qv_move, i8_0, eq_self, decide_true, Bool.not_true, Bool.not_false, hB3.cell]; rfl) ?_
            refine LD.qr rfl rfl (fun hD hr => by have hB3 := hr.1.2 B3 _ _ (by decide) (by decide) hB3; have hro := (hr.2.2 hT.E).readN hr0; simp only [EN, Nat.reduceEqDiff, reduceIte, qv_indexAddr, eq_self, decide_true, Bool.not_true, Bool.not_false, hB3.cell, ha1]; (try simp (disch := omega) only [ix57, Int.toNat_natCast]); rfl) ?_
            refine LD.qr rfl rfl (fun hD hr => by have hB3 := hr.1.2 B3 _ _ (by decide) (by decide) hB3; have hro := (hr.2.2 hT.E).readN hr0; simp only [EN, Nat.reduceEqDiff, reduceIte, k1_0, k5_0, k7_0, i8_0, eq_self, decide_true, Bool.not_true, Bool.not_false, hB3.cell, qv_load, ld62, Int.toNat_natCast, hro]; rfl) ?_
            refine LD.en rfl rfl (by intro hD hr hng hf; have hB3 := hr.1.2 B3 _ _ (by decide) (by decide) hB3; have hro := (hr.2.2 hT.E).readN hr0; exact EOp.mono (e_call Try.call25 (by simp only [EN, Nat.reduceEqDiff, reduceIte, k1_0, k5_0, k7_0, i8_0, eq_self, decide_true, Bool.not_true, Bool.not_false, hB3.cell, List.map_toArray, List.map_cons, List.map_nil]; exact c_step o hok hS (hng rfl) (hr.1.rs hR))) (fun v h' hh => ⟨(sn_of (hng rfl) hh).1, (sn_of (j := 6) (hng rfl) hh).2.1, (sn_of (j := 6) (hng rfl) hh).2.2, fun k' h4 _ _ h5 => absurd h5 h4⟩)) ?_
            intro u12_6 w12_6
            obtain ⟨u6, rfl⟩ := w12_6
            refine LD.qr rfl rfl (fun hD hr => by have hB3 := hr.1.2 B3 _ _ (by decide) (by decide) hB3; have hro := (hr.2.2 hT.E).readN hr0; simp only [EN, Nat.reduceEqDiff, reduceIte, qv_move, eq_self, decide_true, Bool.not_true, Bool.not_false, hB3.cell]; rfl) ?_
            refine LD.qr rfl rfl (fun hD hr => by have hB3 := hr.1.2 B3 _ _ (by decide) (by decide) hB3; have hro := (hr.2.2 hT.E).readN hr0; simp only [EN, Nat.reduceEqDiff, reduceIte, qv_extract, AR, eq_self, decide_true, Bool.not_true, Bool.not_false, hB3.cell]; rfl) ?_
            refine LD.qr rfl rfl (fun hD hr => by have hB3 := hr.1.2 B3 _ _ (by decide) (by decide) hB3; have hro := (hr.2.2 hT.E).readN hr0; simp only [EN, Nat.reduceEqDiff, reduceIte, qv_extract, AR, eq_self, decide_true, Bool.not_true, Bool.not_false, hB3.cell]; rfl) ?_
            refine LD.en rfl rfl (by intro hD hr hng hf; have hB3 := hr.1.2 B3 _ _ (by decide) (by decide) hB3; have hro := (hr.2.2 hT.E).readN hr0; exact (e_alloc zr60).mono (fun _ h' hh => by obtain ⟨B, rfl, hn⟩ := hh; have h9 := hn.fresh; have h8 := hr.1.1; exact ⟨⟨TyS.ofExt hn.ext, fun q => q.ext hn.ext, fun q => q.trans hn.ext⟩, ⟨B, by omega, rfl⟩, (fun B' hB' => by cases hB'; exact hn.at_), fun k' _ _ q e => (q e).ext hn.ext⟩)) ?_
            intro u12_10 w12_10
            obtain ⟨B6, hlt6, rfl⟩ := w12_10
            refine LD.skip rfl ?_
            refine LD.skip rfl ?_
            refine LD.nil ?_
            rintro h5 hr12 hF12
            obtain ⟨⟨al2, cap2, hT2⟩, hRr⟩ := hF12 (6, .tuple #[u6, .bool true]) (by simp) _ rfl u6 rfl
            have hB6 : Has h5 B6 (.cells #[iV 0, iV 0, iV 0, .slice none 0 0] 60) := hF12 (10, .pointer (some ⟨B6, 0, none⟩)) (by simp) _ rfl B6 rfl
            replace hB3 := hr12.1.2 B3 _ _ (by decide) (by decide) hB3
            obtain ⟨ar2, cr2, rfl, hK2, hcr2⟩ := hRr.ex
            refine WL.store (by simp only [EN, Nat.reduceEqDiff, reduceIte, k1_0, k5_0, k7_0, i8_0, eq_self, decide_true, Bool.not_true, Bool.not_false, hB3.cell] <;> rfl) sz60 (by simp only [EN, Nat.reduceEqDiff, reduceIte, k1_0, k5_0, k7_0, i8_0, eq_self, decide_true, Bool.not_true, Bool.not_false, hB3.cell, Value.cells]; rfl) rfl hB6 (by simp) (by intro u hu; simp at hu; rcases hu with rfl | rfl | rfl | rfl <;> rfl) ?_
            intro h60 hw60
            simp only [splc, List.take_succ_cons, List.take_zero, List.take_nil, List.drop_succ_cons, List.drop_zero, List.drop_nil, List.cons_append, List.nil_append, List.length_cons, List.length_nil, Nat.zero_add, Nat.add_zero, Nat.reduceAdd, List.append_nil] at hw60
            have hn60 : h.size ≤ B6 := (by omega)
            replace hT2 := hT2.wr hB6 (by decide) (by decide) hw60 hn60
            replace hK2 := hK2.wr hw60 hB6 (by decide)
            have hne : B3 ≠ B6 := (by omega)
            replace hB3 := hB3.wr hw60 hne
            replace hB6 := hw60.at_
            refine WL.qq (by simp only [EN, Nat.reduceEqDiff, reduceIte, qv_assign, eq_self, decide_true, Bool.not_true, Bool.not_false, hB3.cell]; rfl) ?_
            refine WL.nil ?_
            refine th_norm ?_
            refine hx_seq ?_
            refine hx_seq ?_
            apply hx_draw2 Rel.grows [] [4, 11, 14] [(4, Spec.is _), (11, (Spec.slg 2 msgL (stK w n a K o))), (14, (Spec.is (.bool true)))] rfl (by decide +kernel) rfl
            refine LD.qq rfl rfl (by simp only [EN, Nat.reduceEqDiff, reduceIte, qv_move, eq_self, decide_true, Bool.not_true, Bool.not_false, hB3.cell]; rfl) ?_
            refine LD.qq rfl rfl (by simp only [EN, Nat.reduceEqDiff, reduceIte, qv_unOp, unv_not, eq_self, decide_true, Bool.not_true, Bool.not_false, hB3.cell]; rfl) ?_
            refine LD.qq rfl rfl (by simp only [EN, Nat.reduceEqDiff, reduceIte, qv_move, eq_self, decide_true, Bool.not_true, Bool.not_false, hB3.cell]; rfl) ?_
            refine LD.on (by rw [gOk_s (gd_at (t := 76) rfl (by simp only [EN, Nat.reduceEqDiff, reduceIte, k5_0, eq_self, decide_true, Bool.not_true, Bool.not_false, hB3.cell] <;> rfl))]; rfl) ?_
            refine LD.qq rfl rfl (by simp only [EN, Nat.reduceEqDiff, reduceIte, qv_move, k5_0, eq_self, decide_true, Bool.not_true, Bool.not_false, hB3.cell]; rfl) ?_
            refine LD.on (by rw [gOk_s (gd_at (t := 76) rfl (by simp only [EN, Nat.reduceEqDiff, reduceIte, eq_self, decide_true, Bool.not_true, Bool.not_false, hB3.cell] <;> rfl))]; rfl) ?_
            refine LD.ck rfl rfl Try.call26 (by intro hD hr; have hx : Ext _ _ := hr; have hT2 := hT2.ext hx; have hK2 := hK2.ext hx; have hB3 := hB3.ext hx; have hB6 := hB6.ext hx; simp only [EN, Nat.reduceEqDiff, reduceIte, AR, eq_self, decide_true, Bool.not_true, Bool.not_false, hB3.cell]; exact (c_NextS hT2).grow) ?_
            refine LD.on (by rw [gOk_s (gd_at (t := 76) rfl (by simp only [EN, Nat.reduceEqDiff, reduceIte, eq_self, decide_true, Bool.not_true, Bool.not_false, hB3.cell] <;> rfl))]; rfl) ?_
            refine LD.qq rfl rfl (by simp only [EN, Nat.reduceEqDiff, reduceIte, qv_fieldAddr, fa60_1, Nat.zero_add, Nat.reduceAdd, eq_self, decide_true, Bool.not_true, Bool.not_false, hB3.cell]; rfl) ?_
            refine LD.on (by rw [gOk_s (gd_at (t := 76) rfl (by simp only [EN, Nat.reduceEqDiff, reduceIte, eq_self, decide_true, Bool.not_true, Bool.not_false, hB3.cell] <;> rfl))]; rfl) ?_
            refine LD.qq rfl rfl (by simp only [EN, Nat.reduceEqDiff, reduceIte, k1_0, k5_0, k7_0, i8_0, eq_self, decide_true, Bool.not_true, Bool.not_false, hB3.cell, qv_load, ld3, hB6.cell, AR]; rfl) ?_
            refine LD.on (by rw [gOk_s (gd_at (t := 76) rfl (by simp only [EN, Nat.reduceEqDiff, reduceIte, eq_self, decide_true, Bool.not_true, Bool.not_false, hB3.cell] <;> rfl))]; rfl) ?_
            refine LD.qq rfl rfl (by simp only [EN, Nat.reduceEqDiff, reduceIte, qv_binOp, binv_neq, eq3, Option.map_some, eq_self, decide_true, Bool.not_true, Bool.not_false, hB3.cell]; rfl) ?_
            refine LD.qq rfl rfl (by simp only [EN, Nat.reduceEqDiff, reduceIte, qv_pick, pk_and, pk_or, GR, eq_self, decide_true, Bool.not_true, Bool.not_false, hB3.cell]; rfl) ?_
            refine LD.qq rfl rfl (by simp only [EN, Nat.reduceEqDiff, reduceIte, qv_move, eq_self, decide_true, Bool.not_true, Bool.not_false, hB3.cell]; rfl) ?_
            refine LD.on (by rw [gOk_s (gd_at (t := 83) rfl (by simp only [EN, Nat.reduceEqDiff, reduceIte, k5_0, eq_self, decide_true, Bool.not_true, Bool.not_false, hB3.cell] <;> rfl))]; rfl) ?_
            refine LD.qq rfl rfl (by simp only [EN, Nat.reduceEqDiff, reduceIte, qv_move, k5_0, eq_self, decide_true, Bool.not_true, Bool.not_false, hB3.cell]; rfl) ?_
            refine LD.on (by rw [gOk_s (gd_at (t := 83) rfl (by simp only [EN, Nat.reduceEqDiff, reduceIte, eq_self, decide_true, Bool.not_true, Bool.not_false, hB3.cell] <;> rfl))]; rfl) ?_
            refine LD.es rfl rfl (by intro hD hr hf; have hx : Ext _ _ := hr; have hT2 := hT2.ext hx; have hK2 := hK2.ext hx; have hB3 := hB3.ext hx; have hB6 := hB6.ext hx; exact EOp.mono (e_call Try.call21 (by simp only [EN, Nat.reduceEqDiff, reduceIte, k1_0, k5_0, k7_0, i8_0, eq_self, decide_true, Bool.not_true, Bool.not_false, hB3.cell, List.map_toArray, List.map_cons, List.map_nil]; exact c_Pending hS2 hT2)) (fun v h' hh => by obtain ⟨h1, ho⟩ := hh; obtain ⟨a5, c5, rfl, hk5, _⟩ := KO.of ho; exact ⟨h1, ⟨a5, c5, rfl⟩, fun _ _ _ hv => by cases hv; exact hk5.rd.rd⟩)) ?_
            intro u13_11 w13_11
            obtain ⟨a11, c11, rfl⟩ := w13_11
            refine LD.on (by rw [gOk_s (gd_at (t := 83) rfl (by simp only [EN, Nat.reduceEqDiff, reduceIte, eq_self, decide_true, Bool.not_true, Bool.not_false, hB3.cell] <;> rfl))]; rfl) ?_
            refine LD.qq rfl rfl (by simp only [EN, Nat.reduceEqDiff, reduceIte, qv_fieldAddr, fa60_3, Nat.zero_add, Nat.reduceAdd, eq_self, decide_true, Bool.not_true, Bool.not_false, hB3.cell]; rfl) ?_
            refine LD.on (by rw [gOk_s (gd_at (t := 83) rfl (by simp only [EN, Nat.reduceEqDiff, reduceIte, eq_self, decide_true, Bool.not_true, Bool.not_false, hB3.cell] <;> rfl))]; rfl) ?_
            refine LD.qq rfl rfl (by simp only [EN, Nat.reduceEqDiff, reduceIte, k1_0, k5_0, k7_0, i8_0, eq_self, decide_true, Bool.not_true, Bool.not_false, hB3.cell, qv_load, ld22, hB6.cell, AR]; rfl) ?_
            refine LD.on (by rw [gOk_s (gd_at (t := 83) rfl (by simp only [EN, Nat.reduceEqDiff, reduceIte, eq_self, decide_true, Bool.not_true, Bool.not_false, hB3.cell] <;> rfl))]; rfl) ?_
            refine LD.es rfl rfl (by intro hD hr hf; have hx : Ext _ _ := hr; have hT2 := hT2.ext hx; have hK2 := hK2.ext hx; have hB3 := hB3.ext hx; have hB6 := hB6.ext hx; have m11 := hf (11, .slice a11 (stK w n a K o).length c11) (by simp) (by show tb _ _ 11 = true; decide +kernel) _ rfl _ _ _ rfl; exact EOp.mono (e_call Try.call27 (by simp only [EN, Nat.reduceEqDiff, reduceIte, k1_0, k5_0, k7_0, i8_0, eq_self, decide_true, Bool.not_true, Bool.not_false, hB3.cell, List.map_toArray, List.map_cons, List.map_nil]; exact c_msgs a11 (stK w n a K o) c11 ar2 (stK w n a K o) cr2 (by omega) m11 hK2.rd)) (fun _ _ hh => by obtain ⟨rfl, rfl⟩ := hh; exact ⟨Ext.refl _, by simp [Spec.is], trivial⟩)) ?_
            intro u13_14 w13_14
            have hu14 : u13_14 = _ := w13_14
            subst hu14
            refine LD.on (by rw [gOk_s (gd_at (t := 83) rfl (by simp only [EN, Nat.reduceEqDiff, reduceIte, eq_self, decide_true, Bool.not_true, Bool.not_false, hB3.cell] <;> rfl))]; rfl) ?_
            refine LD.qq rfl rfl (by simp only [EN, Nat.reduceEqDiff, reduceIte, qv_unOp, unv_not, eq_self, decide_true, Bool.not_true, Bool.not_false, hB3.cell]; rfl) ?_
            refine LD.qq rfl rfl (by simp only [EN, Nat.reduceEqDiff, reduceIte, qv_pick, pk_and, pk_or, GR, eq_self, decide_true, Bool.not_true, Bool.not_false, hB3.cell]; rfl) ?_
            refine LD.nil ?_
            rintro h6 hx6 hF13
            replace hx6 : Ext _ _ := hx6
            replace hT2 := hT2.ext hx6
            replace hK2 := hK2.ext hx6
            replace hB3 := hB3.ext hx6
            replace hB6 := hB6.ext hx6
            refine WL.nil ?_
            refine th_norm ?_
            refine hx_cond (by simp only [EN, Nat.reduceEqDiff, reduceIte, eq_self, decide_true, Bool.not_true, Bool.not_false, hB3.cell]; rfl) (fun hct90 => ?_) (fun hct90 => ?_)
            ·
              simp at hct90
            ·
              try simp only [BD] at hct90
              refine hx_skip ?_
              refine th_norm ?_
              refine hx_region ?_
              refine WL.qq (by simp only [EN, Nat.reduceEqDiff, reduceIte, k1_0, k5_0, k7_0, i8_0, eq_self, decide_true, Bool.not_true, Bool.not_false, hB3.cell, qv_load, ld60, readN, hB6.cell, AR, Nat.zero_add, Nat.reduceAdd]; rfl) ?_
              refine WL.store (by simp only [EN, Nat.reduceEqDiff, reduceIte, k1_0, k5_0, k7_0, i8_0, eq_self, decide_true, Bool.not_true, Bool.not_false, hB3.cell] <;> rfl) sz60 (by simp only [EN, Nat.reduceEqDiff, reduceIte, k1_0, k5_0, k7_0, i8_0, eq_self, decide_true, Bool.not_true, Bool.not_false, hB3.cell, Value.cells]; rfl) rfl hB3 (by simp) (by intro u hu; simp at hu; rcases hu with rfl | rfl | rfl | rfl <;> rfl) ?_
              intro h61 hw61
              simp only [splc, List.take_succ_cons, List.take_zero, List.take_nil, List.drop_succ_cons, List.drop_zero, List.drop_nil, List.cons_append, List.nil_append, List.length_cons, List.length_nil, Nat.zero_add, Nat.add_zero, Nat.reduceAdd, List.append_nil] at hw61
              replace hT2 := hT2.wr hB3 (by decide) (by decide) hw61 hXn3
              replace hK2 := hK2.wr hw61 hB3 (by decide)
              replace hB3 := hw61.at_
              refine WL.nil ?_
              refine bl_norm ?_
              refine th_norm ?_
              refine hx_region ?_
              refine WL.qq (by simp only [EN, Nat.reduceEqDiff, reduceIte, qv_move, i8_0, eq_self, decide_true, Bool.not_true, Bool.not_false, hB3.cell]; rfl) ?_
              refine WL.qq (by simp only [EN, Nat.reduceEqDiff, reduceIte, qv_binOp, binv_add, eq_self, decide_true, Bool.not_true, Bool.not_false, hB3.cell]; (try simp (disch := omega) only [w64, w8, wu64]); rfl) ?_
              refine WL.qq (by simp only [EN, Nat.reduceEqDiff, reduceIte, qv_assign, eq_self, decide_true, Bool.not_true, Bool.not_false, hB3.cell]; rfl) ?_
              refine WL.nil ?_
              refine th_norm ?_
              refine ⟨rfl, ?_, _, ?_, i + 1, stN w n K o, stA n a o, al2, cap2, stK w n a K o, ar2, cr2, rfl, ?_, ?_, ?_, ?_, ?_, ?_⟩  -- again 0 of loop 0
              · (repeat (first | exact Fr.refl _ _ | refine Fr.set rfl ?_ | refine Fr.put rfl ?_ | with_reducible refine Fr.put0 ?_))
              · omega
              · omega
              · exact hS2
              · exact hT2
              · exact ⟨ar2, cr2, rfl, hK2, hcr2⟩
              · exact hB3
              · simp only [EN, Nat.reduceEqDiff, reduceIte, k1_0, k5_0, k7_0, i8_0, eq_self, decide_true, Bool.not_true, Bool.not_false, hB3.cell] <;> first | rfl | (congr 1; omega)
        ·
          try simp only [BD] at hct53
          refine hx_exit ?_
          refine th_exit ?_
          refine th_exit ?_
          refine bl_hit ?_
          refine th_norm ?_
          refine hx_seq ?_
          refine hx_region ?_
          refine WL.cg Try.call12 (by simp only [EN, Nat.reduceEqDiff, reduceIte, AR, eq_self, decide_true, Bool.not_true, Bool.not_false, hB3.cell]; exact c_known49 _) ?_
          intro h7 hx7
          replace hT := hT.ext hx7
          replace hR := hR.ext hx7
          replace hB3 := hB3.ext hx7
          refine WL.qq (by simp only [EN, Nat.reduceEqDiff, reduceIte, qv_assign, eq_self, decide_true, Bool.not_true, Bool.not_false, hB3.cell]; rfl) ?_
          refine WL.nil ?_
          refine th_norm ?_
          refine hx_ret ?_
          refine fin_ret [.tmp 4] rfl rfl (by simp only [EN, Nat.reduceEqDiff, reduceIte, resv, k1_0, k5_0, k7_0, i8_0, eq_self, decide_true, Bool.not_true, Bool.not_false, hB3.cell]; rfl) ?_  -- ret 2 r16
          exact ⟨by simp [retOf], hT.E⟩
end GL
namespace Go.Proofs.Ytmlhncifcaicpaa.sessionSender
open Go.ChangeShapes Go.WideShapes Go.ChangeAt Go.RowKit
theorem own : ownKnob Try.prog.godebug = none := by kernel_rfl
theorem laid : laidOutB Try.prog = true := by kernel_rfl
set_option maxRecDepth 100000 in
theorem lifted (os : Os) (started : os.Started) (H : Type) (enc : TypeId × Value → H) :
    ReturnsInHanded {} Try.checked os 7 .any (Rows.sessionSenderSpec.pre6 enc Try.prog Try.f7 Rows.sessionSenderRow.domain false) (Rows.sessionSenderSpec.post enc Try.prog Try.f7 false true false false) := by
  refine returnsInHanded_of_change (C := Try.checked) own started (by kernel_rfl) Try.func7
    (ChangeSpec.witness6 (enc := enc) (C := Try.checked) false ⟨#[], #[(.int .i64 0), (.slice none 0 0)], []⟩ 8 (by kernel_rfl) (by kernel_rfl) (by kernel_rfl) (by kernel_rfl)) ?_
  intro W base args ds gs before hval0 hW hcnd _
  have hval : ∀ (j : Nat) t v, Try.f7.params[j]? = some t → args[j]? = some v → Value.okWide Try.prog W .any base t v := hval0
  have hW' := hW
  obtain ⟨p, q, hA0, hV, rfl, hfz, hnd⟩ := hW
  have hA : DataW.TrodAll enc Try.prog W 0 (fun _ => true) true Try.f7.params.toList args.toList ds p := hA0
  rw [Try.params7] at hA hval
  obtain ⟨v0, vs0, d0, ds0, p0, q0, hargs, rfl, rfl, h0, r0⟩ := trodAll_cons hA
  obtain ⟨v1, vs1, d1, ds1, p1, q1, rfl, rfl, rfl, h1, r1⟩ := trodAll_cons r0
  obtain ⟨rfl, rfl, rfl⟩ := trodAll_nil r1
  obtain rfl : args = #[v0, v1] := by cases args; simp_all
  obtain ⟨rfl, rfl⟩ := trodVars_none hV
  obtain ⟨w, rfl, _⟩ := GL.view_i (hval 0 3 v0 rfl rfl) h0
  obtain ⟨al, l, cl, rfl, hl, hlc, hcl, _, hop⟩ := GL.view_ops (hval 1 57 v1 rfl rfl) h1
  exact GL.law_done (tb := 4) laid (by kernel_rfl) rfl (by kernel_rfl) Try.underlying4 hW' rfl ((if hw : 1 ≤ w ∧ w ≤ 256 then GL.l_snd w hw al l cl hl (Nat.le_trans hlc hcl) hop else GL.l_sndN w hw al l cl))
theorem over : Rows.sessionSenderRow.holds Try.pinned (OpenSpec.ofChange Rows.sessionSenderSpec) :=
  OpenClaim.holds_of_wide 7 Try.f7 rfl rfl rfl rfl rfl rfl rfl ⟨rfl, rfl, rfl, rfl, rfl⟩ rfl rfl rfl rfl rfl (by kernel_rfl) Try.func7 (by kernel_rfl)
    (of_decide_eq_true (by kernel_rfl)) (by unfold Func.isWrapper; first | (rw [if_pos (by decide +kernel)]; kernel_rfl) | (rw [if_neg (by decide +kernel)]; exact ⟨rfl, rfl⟩))
    (fun os started H enc _ => lifted os started H enc)
theorem proved : Rows.SessionSenderSaid := over
end Go.Proofs.Ytmlhncifcaicpaa.sessionSender


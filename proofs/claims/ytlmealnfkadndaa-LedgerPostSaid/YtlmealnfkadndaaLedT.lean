/- Ledger: the statement on scripts. -/
import Derived.Test.YtlmealnfkadndaaLedS
set_option linter.unusedSimpArgs false
set_option linter.unusedVariables false
set_option linter.unnecessarySimpa false
namespace GL
open Go Go.Proofs
set_option maxRecDepth 8000
theorem SlO.take {h : Heap} {al : Option Addr} {l : List LOp} (hs : SlO h al l) (i : Nat) : SlO h al (l.take i) :=
  ⟨fun j x hj => hs.ops j x (by
    have h1 := (List.getElem?_eq_some_iff.1 hj).1
    rw [List.length_take] at h1
    rwa [List.getElem?_take_of_lt (by omega)] at hj), fun o ho => hs.ins o (List.mem_of_mem_take ho)⟩
theorem OkO.take {l : List LOp} (ok : OkO l) (i : Nat) : OkO (l.take i) := ⟨by have := ok.len; rw [List.length_take]; omega, fun o ho => ok.few o (List.mem_of_mem_take ho), fun o ho => ok.rng o (List.mem_of_mem_take ho)⟩
theorem good_all {l : List LOp} (ok : OkO l) : GoodB (runB l) 12 := (List.take_length (l := l) ▸ good_run ok l.length (Nat.le_refl _)).up ok.len
set_option maxHeartbeats 1000000 in
theorem l_post (al : Option Addr) (l : List LOp) (cl : Nat) {h : Heap} (hl : SlO h al l) (hlc : l.length ≤ cl) (hcl : cl ≤ 9223372036854775807) (hu : ∀ o ∈ l, okE o.L) :
    HCalls Try.prog 6 #[.slice al l.length cl] h (Grow (.bool true) h) := by
  refine hcalls2 Try.func6 rfl (by decide +kernel) (by simp only [Try.ntmps6]; exact of_decide_eq_true rfl) ?_
  intro e hin
  have e0 := hin 0 _ rfl
  have hE := Ext.refl h; have kl := hl
  refine hx_seq ?_
  refine hx_region ?_
  refine WL.qq (by simp only [EN, Nat.reduceEqDiff, reduceIte, qv_assign, decide_true, Bool.not_true, Bool.not_false, decide_false]; rfl) ?_
  refine WL.nil ?_
  refine th_norm ?_
  refine hx_seq ?_
  refine hx_seq ?_
  refine hx_region ?_
  refine WL.qq (by simp only [EN, Nat.reduceEqDiff, reduceIte, qv_move, e0, decide_true, Bool.not_true, Bool.not_false, decide_false]; rfl) ?_
  refine WL.cg Try.call11 (by simp only [EN, Nat.reduceEqDiff, reduceIte, AR, decide_true, Bool.not_true, Bool.not_false, decide_false]; exact c_few al l cl (by omega) hl.ops) ?_
  intro h1 hx1
  replace hE := hE.ext hx1
  replace hl := hl.ext hx1
  refine WL.qq (by simp only [EN, Nat.reduceEqDiff, reduceIte, qv_unOp, unv_not, decide_true, Bool.not_true, Bool.not_false, decide_false]; rfl) ?_
  refine WL.qq (by simp only [EN, Nat.reduceEqDiff, reduceIte, qv_move, decide_true, Bool.not_true, Bool.not_false, decide_false]; rfl) ?_
  refine WL.ccg (gd_at (t := 9) rfl (by simp only [EN, Nat.reduceEqDiff, reduceIte, decide_true, Bool.not_true, Bool.not_false, decide_false] <;> rfl)) Try.call12 (fun hg1_4 => by simp only [EN, Nat.reduceEqDiff, reduceIte, AR, decide_true, Bool.not_true, Bool.not_false, decide_false, hg1_4, GR]; exact c_known13 _) ?_
  intro h2 hx2
  replace hE := hE.ext hx2
  replace hl := hl.ext hx2
  refine WL.cq (gd_at (t := 9) rfl (by simp only [EN, Nat.reduceEqDiff, reduceIte, decide_true, Bool.not_true, Bool.not_false, decide_false] <;> rfl)) (fun hg1_5 => by simp only [EN, Nat.reduceEqDiff, reduceIte, qv_unOp, unv_not, decide_true, Bool.not_true, Bool.not_false, decide_false, hg1_5, GR]; rfl) ?_
  refine WL.qq (by simp only [EN, Nat.reduceEqDiff, reduceIte, qv_pick, pk_and, pk_or, GR, decide_true, Bool.not_true, Bool.not_false, decide_false]; rfl) ?_
  refine WL.nil ?_
  refine th_norm ?_
  refine hx_cond (by simp only [EN, Nat.reduceEqDiff, reduceIte, e0, decide_true, Bool.not_true, Bool.not_false, decide_false]; rfl) (fun hct12 => ?_) (fun hct12 => ?_)
  ·
    try simp only [BD] at hct12
    refine hx_seq ?_
    refine hx_region ?_
    refine WL.cg Try.call12 (by simp only [EN, Nat.reduceEqDiff, reduceIte, AR, decide_true, Bool.not_true, Bool.not_false, decide_false]; exact c_known13 _) ?_
    intro h3 hx3
    replace hE := hE.ext hx3
    replace hl := hl.ext hx3
    refine WL.qq (by simp only [EN, Nat.reduceEqDiff, reduceIte, qv_assign, decide_true, Bool.not_true, Bool.not_false, decide_false]; rfl) ?_
    refine WL.nil ?_
    refine th_norm ?_
    refine hx_ret ?_
    refine th_ret ?_
    refine fin_ret [.tmp 2] rfl rfl (by simp only [EN, Nat.reduceEqDiff, reduceIte, resv, e0, decide_true, Bool.not_true, Bool.not_false, decide_false]; rfl) ?_  -- ret 0 r2
    exact ⟨rfl, hE⟩
  ·
    try simp only [BD] at hct12
    have ok : OkO l := few_ok (by cases hq : fewB l; (rw [hq] at hct12; simp at hct12); rfl) hu
    have hlen := ok.len
    refine hx_skip ?_
    refine th_norm ?_
    refine hx_seq ?_
    refine hx_seq ?_
    refine hx_region ?_
    refine WL.qq (by simp only [EN, Nat.reduceEqDiff, reduceIte, qv_assign, decide_true, Bool.not_true, Bool.not_false, decide_false]; rfl) ?_
    refine WL.nil ?_
    refine th_norm ?_
    refine hx_block ?_
    refine hx_loopG [2, 3, 4, 5, 14, 15, 16, 17, 18, 19, 20, 21, 22, 23, 24, 25, 26, 27, 28, 29, 30, 31, 32, 33, 34] (fun k e hL0 => ∃ (i : Nat), l.length + 1 - i = k ∧ (i ≤ l.length + 1) ∧ (Ext h hL0) ∧ e 3 = .int .i64 i) _ ⟨0, rfl, ?_, ?_, ?_⟩ ?_
    · omega
    · exact hE
    · simp only [EN, Nat.reduceEqDiff, reduceIte, e0, decide_true, Bool.not_true, Bool.not_false, decide_false] <;> rfl
    ·
      rintro k e0L hL0 hfr0 ⟨i, rfl, hi, hE, i3_0⟩
      have k0_0 := hfr0 0 rfl; simp only [EN, Nat.reduceEqDiff, reduceIte, e0, decide_true, Bool.not_true, Bool.not_false, decide_false] at k0_0
      have hl := (kl.ext hE).take i
      refine hx_seq ?_
      refine hx_seq ?_
      refine hx_region ?_
      refine WL.qq (by simp only [EN, Nat.reduceEqDiff, reduceIte, qv_move, i3_0, decide_true, Bool.not_true, Bool.not_false, decide_false]; rfl) ?_
      refine WL.qq (by simp only [EN, Nat.reduceEqDiff, reduceIte, qv_move, k0_0, decide_true, Bool.not_true, Bool.not_false, decide_false]; rfl) ?_
      refine WL.qq (by simp only [EN, Nat.reduceEqDiff, reduceIte, qv_len, ln22, AR, decide_true, Bool.not_true, Bool.not_false, decide_false]; rfl) ?_
      refine WL.qq (by simp only [EN, Nat.reduceEqDiff, reduceIte, qv_binOp, binv_leq, decide_true, Bool.not_true, Bool.not_false, decide_false]; rfl) ?_
      refine WL.nil ?_
      refine th_norm ?_
      refine hx_cond (by simp only [EN, Nat.reduceEqDiff, reduceIte, k0_0, i3_0, decide_true, Bool.not_true, Bool.not_false, decide_false]; rfl) (fun hct17 => ?_) (fun hct17 => ?_)
      ·
        try simp only [BD] at hct17
        have hti : (l.take i).length = i := (by rw [List.length_take]; omega)
        have hg := good_all (ok.take i)
        refine hx_skip ?_
        refine th_norm ?_
        refine hx_seq ?_
        refine hx_block ?_
        refine hx_seq ?_
        refine hx_region ?_
        refine WL.qq (by simp only [EN, Nat.reduceEqDiff, reduceIte, qv_move, k0_0, decide_true, Bool.not_true, Bool.not_false, decide_false]; rfl) ?_
        refine WL.qq (by simp only [EN, Nat.reduceEqDiff, reduceIte, qv_move, i3_0, decide_true, Bool.not_true, Bool.not_false, decide_false]; rfl) ?_
        refine WL.qq (by simp only [EN, Nat.reduceEqDiff, reduceIte, k0_0, i3_0, decide_true, Bool.not_true, Bool.not_false, decide_false, qv_slice, Option.map_some, Option.map_none]; rw [sh22 _ _ _ _ _ (by omega) (by omega), Int.toNat_natCast, ← hti]) ?_
        refine WL.ce Try.call13 (by simp only [EN, Nat.reduceEqDiff, reduceIte, AR, decide_true, Bool.not_true, Bool.not_false, decide_false]; exact c_made al (l.take i) cl (ok.take i) hl) ?_
        rintro _ h31 ⟨hx31, p, bm, fm, vo, w, vk, vf, rfl, hbk, hrk, hfr⟩
        simp only [put_some]
        replace hE := hE.ext hx31
        obtain rfl := hrk.val
        have hs0 := hE.size
        refine WL.qq (by simp only [EN, Nat.reduceEqDiff, reduceIte, qv_move, decide_true, Bool.not_true, Bool.not_false, decide_false]; rfl) ?_
        refine WL.qq (by simp only [EN, Nat.reduceEqDiff, reduceIte, qv_extract, AR, decide_true, Bool.not_true, Bool.not_false, decide_false]; rfl) ?_
        refine WL.qq (by simp only [EN, Nat.reduceEqDiff, reduceIte, qv_extract, AR, decide_true, Bool.not_true, Bool.not_false, decide_false]; rfl) ?_
        refine WL.alloc2 zr29 ?_
        intro h4 B4 hx4 hlt4 hB4
        replace hE := hE.ext hx4
        replace hbk := hbk.ext hx4
        replace hrk := hrk.ext hx4
        simp only [Value.cells] at hB4
        refine WL.qq (by simp only [EN, Nat.reduceEqDiff, reduceIte, qv_assign, decide_true, Bool.not_true, Bool.not_false, decide_false, hB4.cell]; rfl) ?_
        refine WL.store (by simp only [EN, Nat.reduceEqDiff, reduceIte, k0_0, i3_0, decide_true, Bool.not_true, Bool.not_false, decide_false, hB4.cell] <;> rfl) sz29 (by simp only [EN, Nat.reduceEqDiff, reduceIte, k0_0, i3_0, decide_true, Bool.not_true, Bool.not_false, decide_false, hB4.cell, Value.cells]; rfl) rfl hB4 (by simp) (by have h8 := hrk.ks.one; have h9 := hrk.fs.one; intro u hu; simp at hu; rcases hu with rfl | rfl | rfl <;> first | exact h8 | exact h9 | rfl) ?_
        intro h32 hw32
        replace hE := hw32.ext hE (by omega)
        replace hbk := hbk.st (.inr ⟨_, hw32⟩) hB4 (by decide) (by decide)
        replace hrk : IsRef h32 _ _ _ _ _ _ := ⟨hrk.val, hrk.ks.keep (fun c hc => hw32.same c fun hh => by subst hh; exact hrk.ks.ncell hB4 (by decide) hc), hrk.fs.keep (fun c hc => hw32.same c fun hh => by subst hh; exact hrk.fs.ncell hB4 (by decide) hc)⟩
        replace hB4 := hw32.at_
        simp only [splc, List.take_zero, List.nil_append, List.drop_succ_cons, List.drop_zero, List.length_cons, List.length_nil, List.drop_nil, List.append_nil, Nat.zero_add, Nat.reduceAdd] at hB4
        refine WL.nil ?_
        refine th_norm ?_
        refine hx_seq ?_
        refine hx_region ?_
        refine WL.qq (by simp only [EN, Nat.reduceEqDiff, reduceIte, qv_move, decide_true, Bool.not_true, Bool.not_false, decide_false, hB4.cell]; rfl) ?_
        refine WL.qq (by simp only [EN, Nat.reduceEqDiff, reduceIte, qv_binOp, binv_eql, eqz25, eqn25, eqm25, Option.map_some, decide_true, Bool.not_true, Bool.not_false, decide_false, hB4.cell]; rfl) ?_
        refine WL.qq (by simp only [EN, Nat.reduceEqDiff, reduceIte, qv_move, decide_true, Bool.not_true, Bool.not_false, decide_false, hB4.cell]; rfl) ?_
        refine WL.cq (gd_at (t := 29) rfl (by simp only [EN, Nat.reduceEqDiff, reduceIte, decide_true, Bool.not_true, Bool.not_false, decide_false, hB4.cell] <;> rfl)) (fun hg7_3 => by simp only [EN, Nat.reduceEqDiff, reduceIte, qv_move, decide_true, Bool.not_true, Bool.not_false, decide_false, hB4.cell, hg7_3, GR]; rfl) ?_
        refine WL.cq (gd_at (t := 29) rfl (by simp only [EN, Nat.reduceEqDiff, reduceIte, decide_true, Bool.not_true, Bool.not_false, decide_false, hB4.cell] <;> rfl)) (fun hg7_4 => by simp only [EN, Nat.reduceEqDiff, reduceIte, qv_load, ld29, readN, AR, Nat.zero_add, Nat.reduceAdd, decide_true, Bool.not_true, Bool.not_false, decide_false, hB4.cell, hg7_4, GR]; rfl) ?_
        refine WL.gy _ (gd_at (t := 29) rfl (by simp only [EN, Nat.reduceEqDiff, reduceIte, decide_true, Bool.not_true, Bool.not_false, decide_false, hB4.cell] <;> rfl)) (e_call Try.call25 (by simp only [EN, Nat.reduceEqDiff, reduceIte, AR, decide_true, Bool.not_true, Bool.not_false, decide_false, hB4.cell]; exact c_same (hg.up (by omega)) hbk hrk)) ?_
        rintro _ h33 ⟨rfl, hx33⟩
        simp only [put_some]
        replace hE := hE.ext hx33
        refine WL.cq (gd_at (t := 29) rfl (by simp only [EN, Nat.reduceEqDiff, reduceIte, decide_true, Bool.not_true, Bool.not_false, decide_false, hB4.cell] <;> rfl)) (fun hg7_6 => by simp only [EN, Nat.reduceEqDiff, reduceIte, qv_unOp, unv_not, decide_true, Bool.not_true, Bool.not_false, decide_false, hB4.cell, hg7_6, GR]; rfl) ?_
        refine WL.qq (by simp only [EN, Nat.reduceEqDiff, reduceIte, qv_pick, pk_and, pk_or, GR, decide_true, Bool.not_true, Bool.not_false, decide_false, hB4.cell]; rfl) ?_
        refine WL.nil ?_
        refine th_norm ?_
        refine hx_cond (by simp only [EN, Nat.reduceEqDiff, reduceIte, k0_0, i3_0, decide_true, Bool.not_true, Bool.not_false, decide_false, hB4.cell]; rfl) (fun hct34 => ?_) (fun hct34 => ?_)
        ·
          simp at hct34
        ·
          try simp only [BD] at hct34
          refine hx_skip ?_
          refine bl_norm ?_
          refine th_norm ?_
          refine hx_region ?_
          refine WL.qq (by simp only [EN, Nat.reduceEqDiff, reduceIte, qv_move, i3_0, decide_true, Bool.not_true, Bool.not_false, decide_false, hB4.cell]; rfl) ?_
          refine WL.qq (by simp only [EN, Nat.reduceEqDiff, reduceIte, qv_binOp, binv_add, decide_true, Bool.not_true, Bool.not_false, decide_false, hB4.cell]; (try simp (disch := omega) only [w64, w8, wu64]); rfl) ?_
          refine WL.qq (by simp only [EN, Nat.reduceEqDiff, reduceIte, qv_assign, decide_true, Bool.not_true, Bool.not_false, decide_false, hB4.cell]; rfl) ?_
          refine WL.nil ?_
          refine th_norm ?_
          refine ⟨rfl, ?_, _, ?_, i + 1, rfl, ?_, ?_, ?_⟩  -- again 0 of loop 0
          · (repeat (first | exact Fr.refl _ _ | refine Fr.set rfl ?_ | refine Fr.put rfl ?_ | refine Fr.put0 ?_))
          · omega
          · omega
          · exact hE
          · simp only [EN, Nat.reduceEqDiff, reduceIte, k0_0, i3_0, decide_true, Bool.not_true, Bool.not_false, decide_false, hB4.cell] <;> first | rfl | (congr 1; omega)
      ·
        try simp only [BD] at hct17
        refine hx_exit ?_
        refine th_exit ?_
        refine th_exit ?_
        refine bl_hit ?_
        refine th_norm ?_
        refine hx_seq ?_
        refine hx_region ?_
        refine WL.qq (by simp only [EN, Nat.reduceEqDiff, reduceIte, qv_assign, decide_true, Bool.not_true, Bool.not_false, decide_false]; rfl) ?_
        refine WL.nil ?_
        refine th_norm ?_
        refine hx_ret ?_
        refine fin_ret [.tmp 2] rfl rfl (by simp only [EN, Nat.reduceEqDiff, reduceIte, resv, k0_0, i3_0, decide_true, Bool.not_true, Bool.not_false, decide_false]; rfl) ?_  -- ret 1 r9
        exact ⟨rfl, hE⟩
end GL


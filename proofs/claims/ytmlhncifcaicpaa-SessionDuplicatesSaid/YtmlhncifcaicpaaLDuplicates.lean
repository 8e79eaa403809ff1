/- The law SessionDuplicates returns true: a message that was accepted is a duplicate from then on, and rejected messages change nothing. No condition beyond the row's own. -/
import Derived.Test.YtmlhncifcaicpaaRows
import Derived.Test.YtmlhncifcaicpaaSesL
import Derived.Test.YtmlhncifcaicpaaSesV
set_option linter.unusedSimpArgs false
set_option linter.unusedVariables false
set_option linter.unnecessarySimpa false
namespace GL
open Go Go.Proofs
set_option maxRecDepth 8000
theorem few_ok {l : List M2} (h : fewB l = true) : l.length ≤ 60 ∧ ∀ x ∈ l, x.2.size ≤ 5000 := by
  unfold fewB at h
  rw [Bool.and_eq_true, decide_eq_true_eq, List.all_eq_true] at h
  exact ⟨h.2, fun x hx => by simpa using h.1 x hx⟩
theorem c_few1 {m : M2} {v : Value} {h : Heap} (hv : ∃ B, v = .slice (some ⟨B, 0, none⟩) 1 1 ∧ Has h B (.cells (msgL m).toArray 46)) : HCalls Try.prog 11 #[v] h (Pure (.bool (fewB [m])) h) := by
  obtain ⟨B, rfl, hB⟩ := hv
  exact c_few (some ⟨B, 0, none⟩) [m] 1 (by simp) (slG_has (f := msgL) (sz := 2) (L := [m]) (fun _ => rfl) hB (by simp))
theorem l_dupN (w : Int) (hw : ¬ (1 ≤ w ∧ w ≤ 256)) (al : Option Addr) (l : List M2) (cl : Nat) (x : M2) {h : Heap} (hl : SlG 2 msgL h al l) (ll : l.length ≤ 9223372036854775807) :
    HCalls Try.prog 5 #[iV w, .slice al l.length cl, .agg (msgL x).toArray] h (Grow (.bool true) h) := by
  refine hcalls2 Try.func5 rfl (by decide +kernel) (by simp only [Try.ntmps5]; exact of_decide_eq_true rfl) ?_
  intro e hin
  have e0 := hin 0 _ rfl
  have e1 := hin 1 _ rfl
  have e2 := hin 2 _ rfl
  have hE : Ext h h := Ext.refl h
  refine hx_seq ?_
  refine hx_region ?_
  refine WL.box2 (by simp only [EN, Nat.reduceEqDiff, reduceIte, Value.cells, e2, decide_true, Bool.not_true, Bool.not_false, decide_false, eq_self]; rfl) ?_
  intro h1 B1 hx1 hlt1 hB1
  replace hE := hE.trans hx1
  replace hl := hl.ext hx1
  refine WL.qq (by simp only [EN, Nat.reduceEqDiff, reduceIte, qv_assign, decide_true, Bool.not_true, Bool.not_false, decide_false, eq_self, hB1.cell]; rfl) ?_
  refine WL.nil ?_
  refine th_norm ?_
  refine hx_seq ?_
  refine hx_seq ?_
  refine hx_region ?_
  refine WL.qq (by simp only [EN, Nat.reduceEqDiff, reduceIte, qv_move, e1, decide_true, Bool.not_true, Bool.not_false, decide_false, eq_self, hB1.cell]; rfl) ?_
  refine WL.ck Try.call11 (by simp only [EN, Nat.reduceEqDiff, reduceIte, AR, decide_true, Bool.not_true, Bool.not_false, decide_false, eq_self, hB1.cell]; exact c_few al l cl ll hl) ?_
  refine WL.qq (by simp only [EN, Nat.reduceEqDiff, reduceIte, qv_unOp, unv_not, decide_true, Bool.not_true, Bool.not_false, decide_false, eq_self, hB1.cell]; rfl) ?_
  refine WL.qq (by simp only [EN, Nat.reduceEqDiff, reduceIte, qv_move, decide_true, Bool.not_true, Bool.not_false, decide_false, eq_self, hB1.cell]; rfl) ?_
  refine WL.cq (gd_at (t := 19) rfl (by simp only [EN, Nat.reduceEqDiff, reduceIte, decide_true, Bool.not_true, Bool.not_false, decide_false, eq_self, hB1.cell] <;> rfl)) (fun hg1_4 => by simp only [EN, Nat.reduceEqDiff, reduceIte, qv_load, ld46, readN, AR, Nat.zero_add, Nat.reduceAdd, decide_true, Bool.not_true, Bool.not_false, decide_false, eq_self, hB1.cell, hg1_4, GR]; rfl) ?_
  refine WL.geX (gd_at (t := 19) rfl (by simp only [EN, Nat.reduceEqDiff, reduceIte, decide_true, Bool.not_true, Bool.not_false, decide_false, eq_self, hB1.cell] <;> rfl)) (fun hg1_5 => e_lit1X Try.underlying22 sz46 zr46 (by decide) (by simp only [EN, Nat.reduceEqDiff, reduceIte, Value.cells, decide_true, Bool.not_true, Bool.not_false, decide_false, eq_self, hB1.cell, hg1_5, GR]; rfl) rfl) ?_
  intro v1_5 h2 hx2 w1_5 n1_5
  replace hE := hE.trans hx2
  replace hl := hl.ext hx2
  replace hB1 := hB1.ext hx2
  refine WL.cck (gd_at (t := 19) rfl (by simp only [EN, Nat.reduceEqDiff, reduceIte, decide_true, Bool.not_true, Bool.not_false, decide_false, eq_self, hB1.cell] <;> rfl)) Try.call11 (fun hg1_6 => by simp only [EN, Nat.reduceEqDiff, reduceIte, AR, decide_true, Bool.not_true, Bool.not_false, decide_false, eq_self, hB1.cell, hg1_6, GR]; exact c_few1 (w1_5 (by simpa using hg1_6))) ?_
  refine WL.cq (gd_at (t := 19) rfl (by simp only [EN, Nat.reduceEqDiff, reduceIte, decide_true, Bool.not_true, Bool.not_false, decide_false, eq_self, hB1.cell] <;> rfl)) (fun hg1_7 => by simp only [EN, Nat.reduceEqDiff, reduceIte, qv_unOp, unv_not, decide_true, Bool.not_true, Bool.not_false, decide_false, eq_self, hB1.cell, hg1_7, GR]; rfl) ?_
  refine WL.qq (by simp only [EN, Nat.reduceEqDiff, reduceIte, qv_pick, pk_and, pk_or, GR, decide_true, Bool.not_true, Bool.not_false, decide_false, eq_self, hB1.cell]; rfl) ?_
  refine WL.nil ?_
  refine th_norm ?_
  refine hx_cond (by simp only [EN, Nat.reduceEqDiff, reduceIte, decide_true, Bool.not_true, Bool.not_false, decide_false, eq_self, hB1.cell]; rfl) (fun hct24 => ?_) (fun hct24 => ?_)
  ·
    try simp only [BD] at hct24
    refine hx_seq ?_
    refine hx_region ?_
    refine WL.cg Try.call12 (by simp only [EN, Nat.reduceEqDiff, reduceIte, AR, decide_true, Bool.not_true, Bool.not_false, decide_false, eq_self, hB1.cell]; exact c_known49 _) ?_
    intro h3 hx3
    replace hE := hE.trans hx3
    replace hl := hl.ext hx3
    replace hB1 := hB1.ext hx3
    refine WL.qq (by simp only [EN, Nat.reduceEqDiff, reduceIte, qv_assign, decide_true, Bool.not_true, Bool.not_false, decide_false, eq_self, hB1.cell]; rfl) ?_
    refine WL.nil ?_
    refine th_norm ?_
    refine hx_ret ?_
    refine th_ret ?_
    refine fin_ret [.tmp 6] rfl rfl (by simp only [EN, Nat.reduceEqDiff, reduceIte, resv, e0, e1, e2, decide_true, Bool.not_true, Bool.not_false, decide_false, eq_self, hB1.cell]; rfl) ?_  -- ret 0 r2
    exact ⟨rfl, hE⟩
  ·
    try simp only [BD] at hct24
    refine hx_skip ?_
    refine th_norm ?_
    refine hx_seq ?_
    refine hx_region ?_
    refine WL.qq (by simp only [EN, Nat.reduceEqDiff, reduceIte, qv_move, e0, decide_true, Bool.not_true, Bool.not_false, decide_false, eq_self, hB1.cell]; rfl) ?_
    refine WL.qq (by simp only [EN, Nat.reduceEqDiff, reduceIte, qv_move, e1, decide_true, Bool.not_true, Bool.not_false, decide_false, eq_self, hB1.cell]; rfl) ?_
    refine WL.cg Try.call13 (by simp only [EN, Nat.reduceEqDiff, reduceIte, AR, decide_true, Bool.not_true, Bool.not_false, decide_false, eq_self, hB1.cell]; exact c_receiverN w hw al l cl) ?_
    intro h4 hx4
    replace hE := hE.trans hx4
    replace hl := hl.ext hx4
    replace hB1 := hB1.ext hx4
    refine WL.qq (by simp only [EN, Nat.reduceEqDiff, reduceIte, qv_move, decide_true, Bool.not_true, Bool.not_false, decide_false, eq_self, hB1.cell]; rfl) ?_
    refine WL.qq (by simp only [EN, Nat.reduceEqDiff, reduceIte, qv_extract, AR, decide_true, Bool.not_true, Bool.not_false, decide_false, eq_self, hB1.cell]; rfl) ?_
    refine WL.qq (by simp only [EN, Nat.reduceEqDiff, reduceIte, qv_extract, AR, decide_true, Bool.not_true, Bool.not_false, decide_false, eq_self, hB1.cell]; rfl) ?_
    refine WL.qq (by simp only [EN, Nat.reduceEqDiff, reduceIte, qv_extract, AR, decide_true, Bool.not_true, Bool.not_false, decide_false, eq_self, hB1.cell]; rfl) ?_
    refine WL.alloc2 zr27 ?_
    intro h5 B5 hx5 hlt5 hB5
    have hne1_5 : B5 ≠ B1 := by have := (Array.getElem?_eq_some_iff.1 hB1).1; omega
    have hb0_5 := Nat.le_trans hE.size hlt5
    have hl_s5 := hl
    have hB1_s5 := hB1
    replace hE := hE.trans hx5
    replace hl := hl.ext hx5
    replace hB1 := hB1.ext hx5
    have hEo5 := hx5
    simp only [Value.cells] at hB5
    refine WL.qq (by simp only [EN, Nat.reduceEqDiff, reduceIte, qv_assign, decide_true, Bool.not_true, Bool.not_false, decide_false, eq_self, hB1.cell, hB5.cell]; rfl) ?_
    refine WL.store (by simp only [EN, Nat.reduceEqDiff, reduceIte, decide_true, Bool.not_true, Bool.not_false, decide_false, eq_self, hB1.cell, hB5.cell] <;> rfl) sz27 (by simp only [EN, Nat.reduceEqDiff, reduceIte, Value.cells, decide_true, Bool.not_true, Bool.not_false, decide_false, eq_self, hB1.cell, hB5.cell] <;> rfl) rfl hB5 (by first | decide | (simp; done) | (simp; omega)) (by simp [Value.oneCell']) ?_
    intro h6 hw6
    replace hE := hw6.ext hE hb0_5
    replace hEo5 := hw6.ext hEo5 hlt5
    replace hl := hl_s5.ext hEo5
    replace hB1 := hB1_s5.ext hEo5
    replace hB5 := hw6.at_
    try simp only [splc, List.take_succ_cons, List.take_zero, List.take_nil, List.drop_succ_cons, List.drop_zero, List.drop_nil, List.cons_append, List.nil_append, List.length_cons, List.length_nil, Nat.zero_add, Nat.add_zero, Nat.reduceAdd, List.append_nil] at hB5
    refine WL.qq (by simp only [EN, Nat.reduceEqDiff, reduceIte, qv_assign, decide_true, Bool.not_true, Bool.not_false, decide_false, eq_self, hB1.cell, hB5.cell]; rfl) ?_
    refine WL.nil ?_
    refine th_norm ?_
    refine hx_seq ?_
    refine hx_seq ?_
    refine hx_region ?_
    refine WL.qq (by simp only [EN, Nat.reduceEqDiff, reduceIte, qv_move, decide_true, Bool.not_true, Bool.not_false, decide_false, eq_self, hB1.cell, hB5.cell]; rfl) ?_
    refine WL.qq (by simp only [EN, Nat.reduceEqDiff, reduceIte, qv_binOp, binv_eql, eqz25, eqn25, eqm25, Option.map_some, decide_true, Bool.not_true, Bool.not_false, decide_false, eq_self, hB1.cell, hB5.cell]; rfl) ?_
    refine WL.nil ?_
    refine th_norm ?_
    refine hx_cond (by simp only [EN, Nat.reduceEqDiff, reduceIte, decide_true, Bool.not_true, Bool.not_false, decide_false, eq_self, hB1.cell, hB5.cell]; rfl) (fun hct34 => ?_) (fun hct34 => ?_)
    ·
      try simp only [BD] at hct34
      refine hx_seq ?_
      refine hx_region ?_
      refine WL.qq (by simp only [EN, Nat.reduceEqDiff, reduceIte, qv_move, decide_true, Bool.not_true, Bool.not_false, decide_false, eq_self, hB1.cell, hB5.cell]; rfl) ?_
      refine WL.qq (by simp only [EN, Nat.reduceEqDiff, reduceIte, qv_move, decide_true, Bool.not_true, Bool.not_false, decide_false, eq_self, hB1.cell, hB5.cell]; rfl) ?_
      refine WL.ccg (gd_at (t := 36) rfl (by simp only [EN, Nat.reduceEqDiff, reduceIte, decide_true, Bool.not_true, Bool.not_false, decide_false, eq_self, hB1.cell, hB5.cell] <;> rfl)) Try.call12 (fun hg5_2 => by simp only [EN, Nat.reduceEqDiff, reduceIte, AR, decide_true, Bool.not_true, Bool.not_false, decide_false, eq_self, hB1.cell, hB5.cell, hg5_2, GR]; exact c_known49 _) ?_
      intro h7 hx7
      replace hE := hE.trans hx7
      replace hEo5 := hEo5.trans hx7
      replace hl := hl.ext hx7
      replace hB1 := hB1.ext hx7
      replace hB5 := hB5.ext hx7
      refine WL.qq (by simp only [EN, Nat.reduceEqDiff, reduceIte, qv_pick, pk_and, pk_or, GR, decide_true, Bool.not_true, Bool.not_false, decide_false, eq_self, hB1.cell, hB5.cell]; rfl) ?_
      refine WL.qq (by simp only [EN, Nat.reduceEqDiff, reduceIte, qv_assign, decide_true, Bool.not_true, Bool.not_false, decide_false, eq_self, hB1.cell, hB5.cell]; rfl) ?_
      refine WL.nil ?_
      refine th_norm ?_
      refine hx_ret ?_
      refine th_ret ?_
      refine fin_ret [.tmp 6] rfl rfl (by simp only [EN, Nat.reduceEqDiff, reduceIte, resv, e0, e1, e2, decide_true, Bool.not_true, Bool.not_false, decide_false, eq_self, hB1.cell, hB5.cell]; rfl) ?_  -- ret 1 r5
      exact ⟨rfl, hE⟩
    ·
      simp at hct34
set_option maxHeartbeats 2000000 in
theorem l_dup (w : Int) (hw : 1 ≤ w ∧ w ≤ 256) (al : Option Addr) (l : List M2) (cl : Nat) (x : M2) {h : Heap} (hl : SlG 2 msgL h al l) (ll : l.length ≤ 9223372036854775807) :
    HCalls Try.prog 5 #[iV w, .slice al l.length cl, .agg (msgL x).toArray] h (Grow (.bool true) h) := by
  refine hcalls2 Try.func5 rfl (by decide +kernel) (by simp only [Try.ntmps5]; exact of_decide_eq_true rfl) ?_
  intro e hin
  have e0 := hin 0 _ rfl
  have e1 := hin 1 _ rfl
  have e2 := hin 2 _ rfl
  have hE : Ext h h := Ext.refl h
  refine hx_seq ?_
  refine hx_region ?_
  refine WL.box2 (by simp only [EN, Nat.reduceEqDiff, reduceIte, Value.cells, e2, decide_true, Bool.not_true, Bool.not_false, decide_false, eq_self]; rfl) ?_
  intro h1 B1 hx1 hlt1 hB1
  replace hE := hE.trans hx1
  replace hl := hl.ext hx1
  refine WL.qq (by simp only [EN, Nat.reduceEqDiff, reduceIte, qv_assign, decide_true, Bool.not_true, Bool.not_false, decide_false, eq_self, hB1.cell]; rfl) ?_
  refine WL.nil ?_
  refine th_norm ?_
  refine hx_seq ?_
  refine hx_seq ?_
  refine hx_region ?_
  refine WL.qq (by simp only [EN, Nat.reduceEqDiff, reduceIte, qv_move, e1, decide_true, Bool.not_true, Bool.not_false, decide_false, eq_self, hB1.cell]; rfl) ?_
  refine WL.ck Try.call11 (by simp only [EN, Nat.reduceEqDiff, reduceIte, AR, decide_true, Bool.not_true, Bool.not_false, decide_false, eq_self, hB1.cell]; exact c_few al l cl ll hl) ?_
  refine WL.qq (by simp only [EN, Nat.reduceEqDiff, reduceIte, qv_unOp, unv_not, decide_true, Bool.not_true, Bool.not_false, decide_false, eq_self, hB1.cell]; rfl) ?_
  refine WL.qq (by simp only [EN, Nat.reduceEqDiff, reduceIte, qv_move, decide_true, Bool.not_true, Bool.not_false, decide_false, eq_self, hB1.cell]; rfl) ?_
  refine WL.cq (gd_at (t := 19) rfl (by simp only [EN, Nat.reduceEqDiff, reduceIte, decide_true, Bool.not_true, Bool.not_false, decide_false, eq_self, hB1.cell] <;> rfl)) (fun hg1_4 => by simp only [EN, Nat.reduceEqDiff, reduceIte, qv_load, ld46, readN, AR, Nat.zero_add, Nat.reduceAdd, decide_true, Bool.not_true, Bool.not_false, decide_false, eq_self, hB1.cell, hg1_4, GR]; rfl) ?_
  refine WL.geX (gd_at (t := 19) rfl (by simp only [EN, Nat.reduceEqDiff, reduceIte, decide_true, Bool.not_true, Bool.not_false, decide_false, eq_self, hB1.cell] <;> rfl)) (fun hg1_5 => e_lit1X Try.underlying22 sz46 zr46 (by decide) (by simp only [EN, Nat.reduceEqDiff, reduceIte, Value.cells, decide_true, Bool.not_true, Bool.not_false, decide_false, eq_self, hB1.cell, hg1_5, GR]; rfl) rfl) ?_
  intro v1_5 h2 hx2 w1_5 n1_5
  replace hE := hE.trans hx2
  replace hl := hl.ext hx2
  replace hB1 := hB1.ext hx2
  refine WL.cck (gd_at (t := 19) rfl (by simp only [EN, Nat.reduceEqDiff, reduceIte, decide_true, Bool.not_true, Bool.not_false, decide_false, eq_self, hB1.cell] <;> rfl)) Try.call11 (fun hg1_6 => by simp only [EN, Nat.reduceEqDiff, reduceIte, AR, decide_true, Bool.not_true, Bool.not_false, decide_false, eq_self, hB1.cell, hg1_6, GR]; exact c_few1 (w1_5 (by simpa using hg1_6))) ?_
  refine WL.cq (gd_at (t := 19) rfl (by simp only [EN, Nat.reduceEqDiff, reduceIte, decide_true, Bool.not_true, Bool.not_false, decide_false, eq_self, hB1.cell] <;> rfl)) (fun hg1_7 => by simp only [EN, Nat.reduceEqDiff, reduceIte, qv_unOp, unv_not, decide_true, Bool.not_true, Bool.not_false, decide_false, eq_self, hB1.cell, hg1_7, GR]; rfl) ?_
  refine WL.qq (by simp only [EN, Nat.reduceEqDiff, reduceIte, qv_pick, pk_and, pk_or, GR, decide_true, Bool.not_true, Bool.not_false, decide_false, eq_self, hB1.cell]; rfl) ?_
  refine WL.nil ?_
  refine th_norm ?_
  refine hx_cond (by simp only [EN, Nat.reduceEqDiff, reduceIte, decide_true, Bool.not_true, Bool.not_false, decide_false, eq_self, hB1.cell]; rfl) (fun hct24 => ?_) (fun hct24 => ?_)
  ·
    try simp only [BD] at hct24
    refine hx_seq ?_
    refine hx_region ?_
    refine WL.cg Try.call12 (by simp only [EN, Nat.reduceEqDiff, reduceIte, AR, decide_true, Bool.not_true, Bool.not_false, decide_false, eq_self, hB1.cell]; exact c_known49 _) ?_
    intro h3 hx3
    replace hE := hE.trans hx3
    replace hl := hl.ext hx3
    replace hB1 := hB1.ext hx3
    refine WL.qq (by simp only [EN, Nat.reduceEqDiff, reduceIte, qv_assign, decide_true, Bool.not_true, Bool.not_false, decide_false, eq_self, hB1.cell]; rfl) ?_
    refine WL.nil ?_
    refine th_norm ?_
    refine hx_ret ?_
    refine th_ret ?_
    refine fin_ret [.tmp 6] rfl rfl (by simp only [EN, Nat.reduceEqDiff, reduceIte, resv, e0, e1, e2, decide_true, Bool.not_true, Bool.not_false, decide_false, eq_self, hB1.cell]; rfl) ?_  -- ret 0 r2
    exact ⟨by simp [retOf], hE⟩
  ·
    try simp only [BD] at hct24
    have hfe : fewB l = true := (by cases h8 : fewB l; (rw [h8] at hct24; simp at hct24); rfl)
    obtain ⟨hl60, _⟩ := few_ok hfe
    obtain ⟨hG, hl0⟩ := rcF_ok w hw l
    obtain ⟨n, hn⟩ : ∃ n, (rcF w l).1 = n := ⟨_, rfl⟩
    obtain ⟨bf, hbf⟩ : ∃ bf, (rcF w l).2 = bf := ⟨_, rfl⟩
    rw [hn, hbf] at hG hl0
    refine hx_skip ?_
    refine th_norm ?_
    refine hx_seq ?_
    refine hx_region ?_
    have kE := hE; have kB1 := hB1
    refine WL.qq (by simp only [EN, Nat.reduceEqDiff, reduceIte, qv_move, e0, decide_true, Bool.not_true, Bool.not_false, decide_false, eq_self, hB1.cell]; rfl) ?_
    refine WL.qq (by simp only [EN, Nat.reduceEqDiff, reduceIte, qv_move, e1, decide_true, Bool.not_true, Bool.not_false, decide_false, eq_self, hB1.cell]; rfl) ?_
    refine WL.ce Try.call13 (by simp only [EN, Nat.reduceEqDiff, reduceIte, AR, decide_true, Bool.not_true, Bool.not_false, decide_false, eq_self, hB1.cell]; exact (c_receiver w hw al l cl (by omega) hl).mono (fun v h' hh => by obtain ⟨p, u, e1, e2, e3⟩ := hh; exact (⟨e2.E, p, u, e1, hn ▸ hbf ▸ e2, hn ▸ hbf ▸ e3⟩ : Ext _ h' ∧ ∃ p u, v = .tuple #[.pointer (some ⟨p, 0, none⟩), u, .bool true] ∧ TR _ h' p w n bf ∧ RT h' u w n bf))) ?_
    rintro _ h4 ⟨hx4, p, u, rfl, hT, hR⟩
    replace hE := hE.trans hx4
    replace hl := hl.ext hx4
    replace hB1 := hB1.ext hx4
    simp only [put_some]
    obtain ⟨a1, c1, rfl, _, _⟩ := hR.ex
    refine WL.qq (by simp only [EN, Nat.reduceEqDiff, reduceIte, qv_move, decide_true, Bool.not_true, Bool.not_false, decide_false, eq_self, hB1.cell]; rfl) ?_
    refine WL.qq (by simp only [EN, Nat.reduceEqDiff, reduceIte, qv_extract, AR, decide_true, Bool.not_true, Bool.not_false, decide_false, eq_self, hB1.cell]; rfl) ?_
    refine WL.qq (by simp only [EN, Nat.reduceEqDiff, reduceIte, qv_extract, AR, decide_true, Bool.not_true, Bool.not_false, decide_false, eq_self, hB1.cell]; rfl) ?_
    refine WL.qq (by simp only [EN, Nat.reduceEqDiff, reduceIte, qv_extract, AR, decide_true, Bool.not_true, Bool.not_false, decide_false, eq_self, hB1.cell]; rfl) ?_
    refine WL.alloc2 zr27 ?_
    intro h5 B5 hx5 hlt5 hB5
    have hne1_5 : B5 ≠ B1 := by have := (Array.getElem?_eq_some_iff.1 hB1).1; omega
    have hb0_5 := Nat.le_trans hE.size hlt5
    have hl_s5 := hl
    have hB1_s5 := hB1
    have hT_s5 := hT
    replace hE := hE.trans hx5
    replace hl := hl.ext hx5
    replace hB1 := hB1.ext hx5
    replace hT := hT.ext hx5
    have hEo5 := hx5
    simp only [Value.cells] at hB5
    refine WL.qq (by simp only [EN, Nat.reduceEqDiff, reduceIte, qv_assign, decide_true, Bool.not_true, Bool.not_false, decide_false, eq_self, hB1.cell, hB5.cell]; rfl) ?_
    refine WL.store (by simp only [EN, Nat.reduceEqDiff, reduceIte, decide_true, Bool.not_true, Bool.not_false, decide_false, eq_self, hB1.cell, hB5.cell] <;> rfl) sz27 (by simp only [EN, Nat.reduceEqDiff, reduceIte, Value.cells, decide_true, Bool.not_true, Bool.not_false, decide_false, eq_self, hB1.cell, hB5.cell] <;> rfl) rfl hB5 (by first | decide | (simp; done) | (simp; omega)) (by simp [Value.oneCell']) ?_
    intro h6 hw6
    replace hE := hw6.ext hE hb0_5
    replace hEo5 := hw6.ext hEo5 hlt5
    replace hl := hl_s5.ext hEo5
    replace hB1 := hB1_s5.ext hEo5
    replace hT := hT_s5.ext hEo5
    replace hB5 := hw6.at_
    try simp only [splc, List.take_succ_cons, List.take_zero, List.take_nil, List.drop_succ_cons, List.drop_zero, List.drop_nil, List.cons_append, List.nil_append, List.length_cons, List.length_nil, Nat.zero_add, Nat.add_zero, Nat.reduceAdd, List.append_nil] at hB5
    refine WL.qq (by simp only [EN, Nat.reduceEqDiff, reduceIte, qv_assign, decide_true, Bool.not_true, Bool.not_false, decide_false, eq_self, hB1.cell, hB5.cell]; rfl) ?_
    refine WL.nil ?_
    refine th_norm ?_
    refine hx_seq ?_
    refine hx_seq ?_
    refine hx_region ?_
    refine WL.qq (by simp only [EN, Nat.reduceEqDiff, reduceIte, qv_move, decide_true, Bool.not_true, Bool.not_false, decide_false, eq_self, hB1.cell, hB5.cell]; rfl) ?_
    refine WL.qq (by simp only [EN, Nat.reduceEqDiff, reduceIte, qv_binOp, binv_eql, eqz25, eqn25, eqm25, Option.map_some, decide_true, Bool.not_true, Bool.not_false, decide_false, eq_self, hB1.cell, hB5.cell]; rfl) ?_
    refine WL.nil ?_
    refine th_norm ?_
    refine hx_cond (by simp only [EN, Nat.reduceEqDiff, reduceIte, decide_true, Bool.not_true, Bool.not_false, decide_false, eq_self, hB1.cell, hB5.cell]; rfl) (fun hct34 => ?_) (fun hct34 => ?_)
    ·
      simp at hct34
    ·
      try simp only [BD] at hct34
      refine hx_skip ?_
      refine th_norm ?_
      refine hx_seq ?_
      refine hx_region ?_
      have kT := hT
      refine WL.qq (by simp only [EN, Nat.reduceEqDiff, reduceIte, qv_move, decide_true, Bool.not_true, Bool.not_false, decide_false, eq_self, hB1.cell, hB5.cell]; rfl) ?_
      refine WL.ce Try.call18 (by simp only [EN, Nat.reduceEqDiff, reduceIte, AR, decide_true, Bool.not_true, Bool.not_false, decide_false, eq_self, hB1.cell, hB5.cell]; exact tr_Clone hT) ?_
      rintro _ h7 ⟨hx7, p2, rfl, hC⟩
      replace hE := hE.trans hx7
      replace hEo5 := hEo5.trans hx7
      replace hl := hl.ext hx7
      replace hB1 := hB1.ext hx7
      replace hT := hT.ext hx7
      replace hB5 := hB5.ext hx7
      simp only [put_some]
      refine WL.qq (by simp only [EN, Nat.reduceEqDiff, reduceIte, qv_assign, decide_true, Bool.not_true, Bool.not_false, decide_false, eq_self, hB1.cell, hB5.cell]; rfl) ?_
      refine WL.nil ?_
      refine th_norm ?_
      refine hx_seq ?_
      refine hx_region ?_
      refine WL.qq (by simp only [EN, Nat.reduceEqDiff, reduceIte, qv_move, decide_true, Bool.not_true, Bool.not_false, decide_false, eq_self, hB1.cell, hB5.cell]; rfl) ?_
      refine WL.qq (by simp only [EN, Nat.reduceEqDiff, reduceIte, qv_load, ld46, readN, AR, Nat.zero_add, Nat.reduceAdd, decide_true, Bool.not_true, Bool.not_false, decide_false, eq_self, hB1.cell, hB5.cell]; rfl) ?_
      refine WL.ce Try.call16 (by simp only [EN, Nat.reduceEqDiff, reduceIte, AR, decide_true, Bool.not_true, Bool.not_false, decide_false, eq_self, hB1.cell, hB5.cell]; exact tr_Accept2 x hG kT hC) ?_
      rintro _ h30 ⟨a3, c3, rfl, hT2, hC2⟩
      simp only [put_some]
      replace hE := kE.trans hT2.E
      replace hB1 := kB1.ext hT2.E
      replace hT := hT2
      replace hC := hC2
      replace hEo5 := Ext.refl h30
      refine WL.qq (by simp only [EN, Nat.reduceEqDiff, reduceIte, qv_move, decide_true, Bool.not_true, Bool.not_false, decide_false, eq_self, hB1.cell, hB5.cell]; rfl) ?_
      refine WL.qq (by simp only [EN, Nat.reduceEqDiff, reduceIte, qv_extract, AR, decide_true, Bool.not_true, Bool.not_false, decide_false, eq_self, hB1.cell, hB5.cell]; rfl) ?_
      refine WL.qq (by simp only [EN, Nat.reduceEqDiff, reduceIte, qv_extract, AR, decide_true, Bool.not_true, Bool.not_false, decide_false, eq_self, hB1.cell, hB5.cell]; rfl) ?_
      refine WL.qq (by simp only [EN, Nat.reduceEqDiff, reduceIte, qv_assign, decide_true, Bool.not_true, Bool.not_false, decide_false, eq_self, hB1.cell, hB5.cell]; rfl) ?_
      refine WL.qq (by simp only [EN, Nat.reduceEqDiff, reduceIte, qv_assign, decide_true, Bool.not_true, Bool.not_false, decide_false, eq_self, hB1.cell, hB5.cell]; rfl) ?_
      refine WL.nil ?_
      refine th_norm ?_
      refine hx_seq ?_
      refine hx_seq ?_
      refine hx_region ?_
      refine WL.qq (by simp only [EN, Nat.reduceEqDiff, reduceIte, qv_move, decide_true, Bool.not_true, Bool.not_false, decide_false, eq_self, hB1.cell, hB5.cell]; rfl) ?_
      refine WL.qq (by simp only [EN, Nat.reduceEqDiff, reduceIte, qv_binOp, binv_neq, eq37, Option.map_some, decide_true, Bool.not_true, Bool.not_false, decide_false, eq_self, hB1.cell, hB5.cell]; rfl) ?_
      refine WL.nil ?_
      refine th_norm ?_
      refine hx_cond (by simp only [EN, Nat.reduceEqDiff, reduceIte, decide_true, Bool.not_true, Bool.not_false, decide_false, eq_self, hB1.cell, hB5.cell]; rfl) (fun hct48 => ?_) (fun hct48 => ?_)
      ·
        try simp only [BD] at hct48
        have hne : ¬ accE w n bf x = 0 := (by simpa using hct48)
        have en : accN w n bf x = n := if_neg hne
        have eb : accB w n bf x = bf := if_neg hne
        rw [en, eb] at hT
        refine hx_seq ?_
        refine hx_region ?_
        refine WL.cg Try.call12 (by simp only [EN, Nat.reduceEqDiff, reduceIte, AR, decide_true, Bool.not_true, Bool.not_false, decide_false, eq_self, hB1.cell, hB5.cell]; exact c_known49 _) ?_
        intro h8 hx8
        replace hE := hE.trans hx8
        replace hEo5 := hEo5.trans hx8
        replace hB1 := hB1.ext hx8
        replace hT := hT.ext hx8
        replace hC := hC.ext hx8
        refine WL.qq (by simp only [EN, Nat.reduceEqDiff, reduceIte, qv_move, decide_true, Bool.not_true, Bool.not_false, decide_false, eq_self, hB1.cell, hB5.cell]; rfl) ?_
        refine WL.cq (gd_at (t := 50) rfl (by simp only [EN, Nat.reduceEqDiff, reduceIte, decide_true, Bool.not_true, Bool.not_false, decide_false, eq_self, hB1.cell, hB5.cell] <;> rfl)) (fun hg9_2 => by simp only [EN, Nat.reduceEqDiff, reduceIte, qv_move, decide_true, Bool.not_true, Bool.not_false, decide_false, eq_self, hB1.cell, hB5.cell, hg9_2, GR]; rfl) ?_
        refine WL.cq (gd_at (t := 50) rfl (by simp only [EN, Nat.reduceEqDiff, reduceIte, decide_true, Bool.not_true, Bool.not_false, decide_false, eq_self, hB1.cell, hB5.cell] <;> rfl)) (fun hg9_3 => by simp only [EN, Nat.reduceEqDiff, reduceIte, qv_move, decide_true, Bool.not_true, Bool.not_false, decide_false, eq_self, hB1.cell, hB5.cell, hg9_3, GR]; rfl) ?_
        refine WL.ccg (gd_at (t := 50) rfl (by simp only [EN, Nat.reduceEqDiff, reduceIte, decide_true, Bool.not_true, Bool.not_false, decide_false, eq_self, hB1.cell, hB5.cell] <;> rfl)) Try.call19 (fun hg9_4 => by simp only [EN, Nat.reduceEqDiff, reduceIte, AR, decide_true, Bool.not_true, Bool.not_false, decide_false, eq_self, hB1.cell, hB5.cell, hg9_4, GR]; exact tr_EqualV hT hC (decide_eq_true (eqR_refl hG))) ?_
        intro h9 hx9
        replace hE := hE.trans hx9
        replace hEo5 := hEo5.trans hx9
        replace hB1 := hB1.ext hx9
        replace hT := hT.ext hx9
        replace hC := hC.ext hx9
        refine WL.qq (by simp only [EN, Nat.reduceEqDiff, reduceIte, qv_pick, pk_and, pk_or, GR, decide_true, Bool.not_true, Bool.not_false, decide_false, eq_self, hB1.cell, hB5.cell]; rfl) ?_
        refine WL.qq (by simp only [EN, Nat.reduceEqDiff, reduceIte, qv_assign, decide_true, Bool.not_true, Bool.not_false, decide_false, eq_self, hB1.cell, hB5.cell]; rfl) ?_
        refine WL.nil ?_
        refine th_norm ?_
        refine hx_ret ?_
        refine th_ret ?_
        refine fin_ret [.tmp 6] rfl rfl (by simp only [EN, Nat.reduceEqDiff, reduceIte, resv, e0, e1, e2, decide_true, Bool.not_true, Bool.not_false, decide_false, eq_self, hB1.cell, hB5.cell]; rfl) ?_  -- ret 1 r9
        exact ⟨by simp [retOf], hE⟩
      ·
        try simp only [BD] at hct48
        have he : accE w n bf x = 0 := (by simpa using hct48)
        have hG2 := (hG.acc x hl0).1
        have hd := acc_dup hG he; have hne := acc_ne hG he
        refine hx_skip ?_
        refine th_norm ?_
        refine hx_seq ?_
        refine hx_region ?_
        refine WL.qq (by simp only [EN, Nat.reduceEqDiff, reduceIte, qv_move, decide_true, Bool.not_true, Bool.not_false, decide_false, eq_self, hB1.cell, hB5.cell]; rfl) ?_
        refine WL.ce Try.call18 (by simp only [EN, Nat.reduceEqDiff, reduceIte, AR, decide_true, Bool.not_true, Bool.not_false, decide_false, eq_self, hB1.cell, hB5.cell]; exact tr_Clone hT) ?_
        rintro _ h10 ⟨hx10, p3, rfl, hD⟩
        replace hE := hE.trans hx10
        replace hEo5 := hEo5.trans hx10
        replace hB1 := hB1.ext hx10
        replace hT := hT.ext hx10
        replace hC := hC.ext hx10
        simp only [put_some]
        refine WL.qq (by simp only [EN, Nat.reduceEqDiff, reduceIte, qv_assign, decide_true, Bool.not_true, Bool.not_false, decide_false, eq_self, hB1.cell, hB5.cell]; rfl) ?_
        refine WL.nil ?_
        refine th_norm ?_
        refine hx_seq ?_
        refine hx_region ?_
        refine WL.qq (by simp only [EN, Nat.reduceEqDiff, reduceIte, qv_move, decide_true, Bool.not_true, Bool.not_false, decide_false, eq_self, hB1.cell, hB5.cell]; rfl) ?_
        refine WL.qq (by simp only [EN, Nat.reduceEqDiff, reduceIte, qv_load, ld46, readN, AR, Nat.zero_add, Nat.reduceAdd, decide_true, Bool.not_true, Bool.not_false, decide_false, eq_self, hB1.cell, hB5.cell]; rfl) ?_
        refine WL.ce Try.call16 (by simp only [EN, Nat.reduceEqDiff, reduceIte, AR, decide_true, Bool.not_true, Bool.not_false, decide_false, eq_self, hB1.cell, hB5.cell]; exact tr_AcceptE x hG2 hd (by decide) hT) ?_
        rintro _ h11 ⟨hx11, a4, c4, rfl⟩
        replace hE := hE.trans hx11
        replace hEo5 := hEo5.trans hx11
        replace hB1 := hB1.ext hx11
        replace hT := hT.ext hx11
        replace hC := hC.ext hx11
        replace hD := hD.ext hx11
        simp only [put_some]
        refine WL.qq (by simp only [EN, Nat.reduceEqDiff, reduceIte, qv_move, decide_true, Bool.not_true, Bool.not_false, decide_false, eq_self, hB1.cell, hB5.cell]; rfl) ?_
        refine WL.qq (by simp only [EN, Nat.reduceEqDiff, reduceIte, qv_extract, AR, decide_true, Bool.not_true, Bool.not_false, decide_false, eq_self, hB1.cell, hB5.cell]; rfl) ?_
        refine WL.qq (by simp only [EN, Nat.reduceEqDiff, reduceIte, qv_extract, AR, decide_true, Bool.not_true, Bool.not_false, decide_false, eq_self, hB1.cell, hB5.cell]; rfl) ?_
        refine WL.qq (by simp only [EN, Nat.reduceEqDiff, reduceIte, qv_assign, decide_true, Bool.not_true, Bool.not_false, decide_false, eq_self, hB1.cell, hB5.cell]; rfl) ?_
        refine WL.qq (by simp only [EN, Nat.reduceEqDiff, reduceIte, qv_assign, decide_true, Bool.not_true, Bool.not_false, decide_false, eq_self, hB1.cell, hB5.cell]; rfl) ?_
        refine WL.nil ?_
        refine th_norm ?_
        refine hx_seq ?_
        refine hx_region ?_
        refine WL.cg Try.call12 (by simp only [EN, Nat.reduceEqDiff, reduceIte, AR, decide_true, Bool.not_true, Bool.not_false, decide_false, eq_self, hB1.cell, hB5.cell]; exact c_known49 _) ?_
        intro h12 hx12
        replace hE := hE.trans hx12
        replace hEo5 := hEo5.trans hx12
        replace hB1 := hB1.ext hx12
        replace hT := hT.ext hx12
        replace hC := hC.ext hx12
        replace hD := hD.ext hx12
        refine WL.qq (by simp only [EN, Nat.reduceEqDiff, reduceIte, qv_move, decide_true, Bool.not_true, Bool.not_false, decide_false, eq_self, hB1.cell, hB5.cell]; rfl) ?_
        refine WL.cq (gd_at (t := 64) rfl (by simp only [EN, Nat.reduceEqDiff, reduceIte, decide_true, Bool.not_true, Bool.not_false, decide_false, eq_self, hB1.cell, hB5.cell] <;> rfl)) (fun hg12_2 => by simp only [EN, Nat.reduceEqDiff, reduceIte, qv_move, decide_true, Bool.not_true, Bool.not_false, decide_false, eq_self, hB1.cell, hB5.cell, hg12_2, GR]; rfl) ?_
        refine WL.cq (gd_at (t := 64) rfl (by simp only [EN, Nat.reduceEqDiff, reduceIte, decide_true, Bool.not_true, Bool.not_false, decide_false, eq_self, hB1.cell, hB5.cell] <;> rfl)) (fun hg12_3 => by simp only [EN, Nat.reduceEqDiff, reduceIte, qv_move, decide_true, Bool.not_true, Bool.not_false, decide_false, eq_self, hB1.cell, hB5.cell, hg12_3, GR]; rfl) ?_
        refine WL.ccg (gd_at (t := 64) rfl (by simp only [EN, Nat.reduceEqDiff, reduceIte, decide_true, Bool.not_true, Bool.not_false, decide_false, eq_self, hB1.cell, hB5.cell] <;> rfl)) Try.call19 (fun hg12_4 => by simp only [EN, Nat.reduceEqDiff, reduceIte, AR, decide_true, Bool.not_true, Bool.not_false, decide_false, eq_self, hB1.cell, hB5.cell, hg12_4, GR]; exact tr_EqualV hT hC (decide_eq_false hne)) ?_
        intro h13 hx13
        replace hE := hE.trans hx13
        replace hEo5 := hEo5.trans hx13
        replace hB1 := hB1.ext hx13
        replace hT := hT.ext hx13
        replace hC := hC.ext hx13
        replace hD := hD.ext hx13
        refine WL.cq (gd_at (t := 64) rfl (by simp only [EN, Nat.reduceEqDiff, reduceIte, decide_true, Bool.not_true, Bool.not_false, decide_false, eq_self, hB1.cell, hB5.cell] <;> rfl)) (fun hg12_5 => by simp only [EN, Nat.reduceEqDiff, reduceIte, qv_unOp, unv_not, decide_true, Bool.not_true, Bool.not_false, decide_false, eq_self, hB1.cell, hB5.cell, hg12_5, GR]; rfl) ?_
        refine WL.qq (by simp only [EN, Nat.reduceEqDiff, reduceIte, qv_pick, pk_and, pk_or, GR, decide_true, Bool.not_true, Bool.not_false, decide_false, eq_self, hB1.cell, hB5.cell]; rfl) ?_
        refine WL.qq (by simp only [EN, Nat.reduceEqDiff, reduceIte, qv_move, decide_true, Bool.not_true, Bool.not_false, decide_false, eq_self, hB1.cell, hB5.cell]; rfl) ?_
        refine WL.cq (gd_at (t := 70) rfl (by simp only [EN, Nat.reduceEqDiff, reduceIte, decide_true, Bool.not_true, Bool.not_false, decide_false, eq_self, hB1.cell, hB5.cell] <;> rfl)) (fun hg12_8 => by simp only [EN, Nat.reduceEqDiff, reduceIte, qv_move, decide_true, Bool.not_true, Bool.not_false, decide_false, eq_self, hB1.cell, hB5.cell, hg12_8, GR]; rfl) ?_
        refine WL.cq (gd_at (t := 70) rfl (by simp only [EN, Nat.reduceEqDiff, reduceIte, decide_true, Bool.not_true, Bool.not_false, decide_false, eq_self, hB1.cell, hB5.cell] <;> rfl)) (fun hg12_9 => by simp only [EN, Nat.reduceEqDiff, reduceIte, qv_binOp, binv_eql, eq37, Option.map_some, decide_true, Bool.not_true, Bool.not_false, decide_false, eq_self, hB1.cell, hB5.cell, hg12_9, GR]; rfl) ?_
        refine WL.qq (by simp only [EN, Nat.reduceEqDiff, reduceIte, qv_pick, pk_and, pk_or, GR, decide_true, Bool.not_true, Bool.not_false, decide_false, eq_self, hB1.cell, hB5.cell]; rfl) ?_
        refine WL.qq (by simp only [EN, Nat.reduceEqDiff, reduceIte, qv_move, decide_true, Bool.not_true, Bool.not_false, decide_false, eq_self, hB1.cell, hB5.cell]; rfl) ?_
        refine WL.cq (gd_at (t := 74) rfl (by simp only [EN, Nat.reduceEqDiff, reduceIte, decide_true, Bool.not_true, Bool.not_false, decide_false, eq_self, hB1.cell, hB5.cell] <;> rfl)) (fun hg12_12 => by simp only [EN, Nat.reduceEqDiff, reduceIte, qv_move, decide_true, Bool.not_true, Bool.not_false, decide_false, eq_self, hB1.cell, hB5.cell, hg12_12, GR]; rfl) ?_
        refine WL.cq (gd_at (t := 74) rfl (by simp only [EN, Nat.reduceEqDiff, reduceIte, decide_true, Bool.not_true, Bool.not_false, decide_false, eq_self, hB1.cell, hB5.cell] <;> rfl)) (fun hg12_13 => by simp only [EN, Nat.reduceEqDiff, reduceIte, qv_len, ln31, AR, decide_true, Bool.not_true, Bool.not_false, decide_false, eq_self, hB1.cell, hB5.cell, hg12_13, GR]; rfl) ?_
        refine WL.cq (gd_at (t := 74) rfl (by simp only [EN, Nat.reduceEqDiff, reduceIte, decide_true, Bool.not_true, Bool.not_false, decide_false, eq_self, hB1.cell, hB5.cell] <;> rfl)) (fun hg12_14 => by simp only [EN, Nat.reduceEqDiff, reduceIte, qv_binOp, binv_eql, eq3, Option.map_some, decide_true, Bool.not_true, Bool.not_false, decide_false, eq_self, hB1.cell, hB5.cell, hg12_14, GR]; rfl) ?_
        refine WL.qq (by simp only [EN, Nat.reduceEqDiff, reduceIte, qv_pick, pk_and, pk_or, GR, decide_true, Bool.not_true, Bool.not_false, decide_false, eq_self, hB1.cell, hB5.cell]; rfl) ?_
        refine WL.qq (by simp only [EN, Nat.reduceEqDiff, reduceIte, qv_move, decide_true, Bool.not_true, Bool.not_false, decide_false, eq_self, hB1.cell, hB5.cell]; rfl) ?_
        refine WL.cq (gd_at (t := 79) rfl (by simp only [EN, Nat.reduceEqDiff, reduceIte, decide_true, Bool.not_true, Bool.not_false, decide_false, eq_self, hB1.cell, hB5.cell] <;> rfl)) (fun hg12_17 => by simp only [EN, Nat.reduceEqDiff, reduceIte, qv_move, decide_true, Bool.not_true, Bool.not_false, decide_false, eq_self, hB1.cell, hB5.cell, hg12_17, GR]; rfl) ?_
        refine WL.cq (gd_at (t := 79) rfl (by simp only [EN, Nat.reduceEqDiff, reduceIte, decide_true, Bool.not_true, Bool.not_false, decide_false, eq_self, hB1.cell, hB5.cell] <;> rfl)) (fun hg12_18 => by simp only [EN, Nat.reduceEqDiff, reduceIte, qv_move, decide_true, Bool.not_true, Bool.not_false, decide_false, eq_self, hB1.cell, hB5.cell, hg12_18, GR]; rfl) ?_
        refine WL.ccg (gd_at (t := 79) rfl (by simp only [EN, Nat.reduceEqDiff, reduceIte, decide_true, Bool.not_true, Bool.not_false, decide_false, eq_self, hB1.cell, hB5.cell] <;> rfl)) Try.call19 (fun hg12_19 => by simp only [EN, Nat.reduceEqDiff, reduceIte, AR, decide_true, Bool.not_true, Bool.not_false, decide_false, eq_self, hB1.cell, hB5.cell, hg12_19, GR]; exact tr_EqualV hT hD (decide_eq_true (eqR_refl hG2))) ?_
        intro h14 hx14
        replace hE := hE.trans hx14
        replace hEo5 := hEo5.trans hx14
        replace hB1 := hB1.ext hx14
        replace hT := hT.ext hx14
        replace hC := hC.ext hx14
        replace hD := hD.ext hx14
        refine WL.qq (by simp only [EN, Nat.reduceEqDiff, reduceIte, qv_pick, pk_and, pk_or, GR, decide_true, Bool.not_true, Bool.not_false, decide_false, eq_self, hB1.cell, hB5.cell]; rfl) ?_
        refine WL.qq (by simp only [EN, Nat.reduceEqDiff, reduceIte, qv_assign, decide_true, Bool.not_true, Bool.not_false, decide_false, eq_self, hB1.cell, hB5.cell]; rfl) ?_
        refine WL.nil ?_
        refine th_norm ?_
        refine hx_ret ?_
        refine fin_ret [.tmp 6] rfl rfl (by simp only [EN, Nat.reduceEqDiff, reduceIte, resv, e0, e1, e2, decide_true, Bool.not_true, Bool.not_false, decide_false, eq_self, hB1.cell, hB5.cell]; rfl) ?_  -- ret 2 r12
        exact ⟨by simp [retOf], hE⟩
theorem l_dups (w : Int) (al : Option Addr) (l : List M2) (cl : Nat) (x : M2) {h : Heap} (hl : SlG 2 msgL h al l) (ll : l.length ≤ 9223372036854775807) :
    HCalls Try.prog 5 #[iV w, .slice al l.length cl, .agg (msgL x).toArray] h (Grow (.bool true) h) := by
  by_cases hw : 1 ≤ w ∧ w ≤ 256
  · exact l_dup w hw al l cl x hl ll
  · exact l_dupN w hw al l cl x hl ll
end GL
namespace Go.Proofs.Ytmlhncifcaicpaa.sessionDuplicates
open Go.ChangeShapes Go.WideShapes Go.ChangeAt Go.RowKit
theorem own : ownKnob Try.prog.godebug = none := by kernel_rfl
theorem laid : laidOutB Try.prog = true := by kernel_rfl
set_option maxRecDepth 100000 in
theorem lifted (os : Os) (started : os.Started) (H : Type) (enc : TypeId × Value → H) :
    ReturnsInHanded {} Try.checked os 5 .any (Rows.sessionDuplicatesSpec.pre6 enc Try.prog Try.f5 Rows.sessionDuplicatesRow.domain false) (Rows.sessionDuplicatesSpec.post enc Try.prog Try.f5 false true false false) := by
  refine returnsInHanded_of_change (C := Try.checked) own started (by kernel_rfl) Try.func5
    (ChangeSpec.witness6 (enc := enc) (C := Try.checked) false ⟨#[], #[(.int .i64 0), (.slice none 0 0), (.agg #[(.int .i64 0), (.string ⟨#[]⟩)])], []⟩ 8 (by kernel_rfl) (by kernel_rfl) (by kernel_rfl) (by kernel_rfl)) ?_
  intro W base args ds gs before hval0 hW hcnd _
  have hval : ∀ (j : Nat) t v, Try.f5.params[j]? = some t → args[j]? = some v → Value.okWide Try.prog W .any base t v := hval0
  have hW' := hW
  obtain ⟨p, q, hA0, hV, rfl, hfz, hnd⟩ := hW
  have hA : DataW.TrodAll enc Try.prog W 0 (fun _ => true) true Try.f5.params.toList args.toList ds p := hA0
  rw [Try.params5] at hA hval
  obtain ⟨v0, vs0, d0, ds0, p0, q0, hargs, rfl, rfl, h0, r0⟩ := trodAll_cons hA
  obtain ⟨v1, vs1, d1, ds1, p1, q1, rfl, rfl, rfl, h1, r1⟩ := trodAll_cons r0
  obtain ⟨v2, vs2, d2, ds2, p2, q2, rfl, rfl, rfl, h2, r2⟩ := trodAll_cons r1
  obtain ⟨rfl, rfl, rfl⟩ := trodAll_nil r2
  obtain rfl : args = #[v0, v1, v2] := by cases args; simp_all
  obtain ⟨rfl, rfl⟩ := trodVars_none hV
  obtain ⟨w, rfl, _⟩ := GL.view_i (hval 0 3 v0 rfl rfl) h0
  obtain ⟨al, l, cl, rfl, hl, hlc, hcl, _, _⟩ := GL.view_ms (hval 1 22 v1 rfl rfl) h1
  obtain ⟨x, rfl, _⟩ := GL.view_m (hval 2 46 v2 rfl rfl) h2
  exact GL.law_done (tb := 4) laid (by kernel_rfl) rfl (by kernel_rfl) Try.underlying4 hW' rfl (GL.l_dups w al l cl x hl (Nat.le_trans hlc hcl))
theorem over : Rows.sessionDuplicatesRow.holds Try.pinned (OpenSpec.ofChange Rows.sessionDuplicatesSpec) :=
  OpenClaim.holds_of_wide 5 Try.f5 rfl rfl rfl rfl rfl rfl rfl ⟨rfl, rfl, rfl, rfl, rfl⟩ rfl rfl rfl rfl rfl (by kernel_rfl) Try.func5 (by kernel_rfl)
    (of_decide_eq_true (by kernel_rfl)) (by unfold Func.isWrapper; first | (rw [if_pos (by decide +kernel)]; kernel_rfl) | (rw [if_neg (by decide +kernel)]; exact ⟨rfl, rfl⟩))
    (fun os started H enc _ => lifted os started H enc)
theorem proved : Rows.SessionDuplicatesSaid := over
end Go.Proofs.Ytmlhncifcaicpaa.sessionDuplicates


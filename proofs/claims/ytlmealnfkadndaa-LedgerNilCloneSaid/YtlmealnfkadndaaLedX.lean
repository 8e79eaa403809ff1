/- Ledger: the statement on nil books and on clones. -/
import Derived.Test.YtlmealnfkadndaaLedW
set_option linter.unusedSimpArgs false
set_option linter.unusedVariables false
set_option linter.unnecessarySimpa false
namespace GL
open Go Go.Proofs
set_option maxRecDepth 8000
set_option maxHeartbeats 2000000 in
theorem l_nil (al : Option Addr) (l : List LOp) (cl : Nat) (am : Option Addr) (m : List E2) (cm : Nat) (q : K2) (fl : Int) {h : Heap} (hl : SlO h al l) (ll : l.length ≤ 9223372036854775807) (hu : ∀ o ∈ l, okE o.L)
    (hm : SlG 3 entL h am m) (hum : okE m) : HCalls Try.prog 10 #[.slice al l.length cl, .slice am m.length cm, kV q, iV fl] h (Grow (.bool true) h) := by
  refine hcalls2 Try.func10 rfl (by decide +kernel) (by simp only [Try.ntmps10]; exact of_decide_eq_true rfl) ?_
  intro e hin
  have e0 := hin 0 _ rfl
  have e1 := hin 1 _ rfl
  have e2 := hin 2 _ rfl
  have e3 := hin 3 _ rfl
  have hE := Ext.refl h; have km := hm; have kl := hl
  refine hx_seq ?_
  refine hx_region ?_
  refine WL.box2 (by simp only [EN, Nat.reduceEqDiff, reduceIte, Value.cells, e2, decide_true, Bool.not_true, Bool.not_false, decide_false, eq_self, if_true, if_false, Bool.or_true, Bool.and_true, Bool.or_false, Bool.and_self, Bool.false_or]; rfl) ?_
  intro h1 B1 hx1 hlt1 hB1
  replace hE := hE.ext hx1
  replace hl := hl.ext hx1
  replace hm := hm.ext hx1
  have hs1 := hE.size
  refine WL.alloc2 zr4 ?_
  intro h2 B2 hx2 hlt2 hB2
  replace hE := hE.ext hx2
  replace hl := hl.ext hx2
  replace hm := hm.ext hx2
  replace hB1 := hB1.ext hx2
  simp only [Value.cells] at hB2
  refine WL.nil ?_
  refine th_norm ?_
  refine hx_seq ?_
  refine hx_seq ?_
  refine hx_region ?_
  refine WL.qq (by simp only [EN, Nat.reduceEqDiff, reduceIte, qv_move, e0, decide_true, Bool.not_true, Bool.not_false, decide_false, eq_self, if_true, if_false, Bool.or_true, Bool.and_true, Bool.or_false, Bool.and_self, Bool.false_or, hB1.cell, hB2.cell]; rfl) ?_
  refine WL.cg Try.call11 (by simp only [EN, Nat.reduceEqDiff, reduceIte, AR, decide_true, Bool.not_true, Bool.not_false, decide_false, eq_self, if_true, if_false, Bool.or_true, Bool.and_true, Bool.or_false, Bool.and_self, Bool.false_or, hB1.cell, hB2.cell]; exact c_few al l cl ll hl.ops) ?_
  intro h3 hx3
  replace hE := hE.ext hx3
  replace hl := hl.ext hx3
  replace hm := hm.ext hx3
  replace hB1 := hB1.ext hx3
  replace hB2 := hB2.ext hx3
  refine WL.qq (by simp only [EN, Nat.reduceEqDiff, reduceIte, qv_unOp, unv_not, decide_true, Bool.not_true, Bool.not_false, decide_false, eq_self, if_true, if_false, Bool.or_true, Bool.and_true, Bool.or_false, Bool.and_self, Bool.false_or, hB1.cell, hB2.cell]; rfl) ?_
  refine WL.qq (by simp only [EN, Nat.reduceEqDiff, reduceIte, qv_move, decide_true, Bool.not_true, Bool.not_false, decide_false, eq_self, if_true, if_false, Bool.or_true, Bool.and_true, Bool.or_false, Bool.and_self, Bool.false_or, hB1.cell, hB2.cell]; rfl) ?_
  refine WL.cq (gd_at (t := 19) rfl (by simp only [EN, Nat.reduceEqDiff, reduceIte, e1, decide_true, Bool.not_true, Bool.not_false, decide_false, eq_self, if_true, if_false, Bool.or_true, Bool.and_true, Bool.or_false, Bool.and_self, Bool.false_or, hB1.cell, hB2.cell] <;> rfl)) (fun hg1_4 => by simp only [EN, Nat.reduceEqDiff, reduceIte, qv_move, e1, decide_true, Bool.not_true, Bool.not_false, decide_false, eq_self, if_true, if_false, Bool.or_true, Bool.and_true, Bool.or_false, Bool.and_self, Bool.false_or, hB1.cell, hB2.cell, hg1_4, GR]; rfl) ?_
  refine WL.cq (gd_at (t := 19) rfl (by simp only [EN, Nat.reduceEqDiff, reduceIte, decide_true, Bool.not_true, Bool.not_false, decide_false, eq_self, if_true, if_false, Bool.or_true, Bool.and_true, Bool.or_false, Bool.and_self, Bool.false_or, hB1.cell, hB2.cell] <;> rfl)) (fun hg1_5 => by simp only [EN, Nat.reduceEqDiff, reduceIte, qv_len, ln26, AR, decide_true, Bool.not_true, Bool.not_false, decide_false, eq_self, if_true, if_false, Bool.or_true, Bool.and_true, Bool.or_false, Bool.and_self, Bool.false_or, hB1.cell, hB2.cell, hg1_5, GR]; rfl) ?_
  refine WL.cq (gd_at (t := 19) rfl (by simp only [EN, Nat.reduceEqDiff, reduceIte, decide_true, Bool.not_true, Bool.not_false, decide_false, eq_self, if_true, if_false, Bool.or_true, Bool.and_true, Bool.or_false, Bool.and_self, Bool.false_or, hB1.cell, hB2.cell] <;> rfl)) (fun hg1_6 => by simp only [EN, Nat.reduceEqDiff, reduceIte, qv_binOp, binv_gtr, decide_true, Bool.not_true, Bool.not_false, decide_false, eq_self, if_true, if_false, Bool.or_true, Bool.and_true, Bool.or_false, Bool.and_self, Bool.false_or, hB1.cell, hB2.cell, hg1_6, GR]; rfl) ?_
  refine WL.qq (by simp only [EN, Nat.reduceEqDiff, reduceIte, qv_pick, pk_and, pk_or, GR, decide_true, Bool.not_true, Bool.not_false, decide_false, eq_self, if_true, if_false, Bool.or_true, Bool.and_true, Bool.or_false, Bool.and_self, Bool.false_or, hB1.cell, hB2.cell]; rfl) ?_
  refine WL.qq (by simp only [EN, Nat.reduceEqDiff, reduceIte, qv_move, decide_true, Bool.not_true, Bool.not_false, decide_false, eq_self, if_true, if_false, Bool.or_true, Bool.and_true, Bool.or_false, Bool.and_self, Bool.false_or, hB1.cell, hB2.cell]; rfl) ?_
  refine WL.ccg (gd_at (t := 24) rfl (by simp only [EN, Nat.reduceEqDiff, reduceIte, decide_true, Bool.not_true, Bool.not_false, decide_false, eq_self, if_true, if_false, Bool.or_true, Bool.and_true, Bool.or_false, Bool.and_self, Bool.false_or, hB1.cell, hB2.cell] <;> rfl)) Try.call12 (fun hg1_9 => by simp only [EN, Nat.reduceEqDiff, reduceIte, AR, decide_true, Bool.not_true, Bool.not_false, decide_false, eq_self, if_true, if_false, Bool.or_true, Bool.and_true, Bool.or_false, Bool.and_self, Bool.false_or, hB1.cell, hB2.cell, hg1_9, GR]; exact c_known13 _) ?_
  intro h4 hx4
  replace hE := hE.ext hx4
  replace hl := hl.ext hx4
  replace hm := hm.ext hx4
  replace hB1 := hB1.ext hx4
  replace hB2 := hB2.ext hx4
  refine WL.cq (gd_at (t := 24) rfl (by simp only [EN, Nat.reduceEqDiff, reduceIte, decide_true, Bool.not_true, Bool.not_false, decide_false, eq_self, if_true, if_false, Bool.or_true, Bool.and_true, Bool.or_false, Bool.and_self, Bool.false_or, hB1.cell, hB2.cell] <;> rfl)) (fun hg1_10 => by simp only [EN, Nat.reduceEqDiff, reduceIte, qv_unOp, unv_not, decide_true, Bool.not_true, Bool.not_false, decide_false, eq_self, if_true, if_false, Bool.or_true, Bool.and_true, Bool.or_false, Bool.and_self, Bool.false_or, hB1.cell, hB2.cell, hg1_10, GR]; rfl) ?_
  refine WL.qq (by simp only [EN, Nat.reduceEqDiff, reduceIte, qv_pick, pk_and, pk_or, GR, decide_true, Bool.not_true, Bool.not_false, decide_false, eq_self, if_true, if_false, Bool.or_true, Bool.and_true, Bool.or_false, Bool.and_self, Bool.false_or, hB1.cell, hB2.cell]; rfl) ?_
  refine WL.nil ?_
  refine th_norm ?_
  refine hx_cond (by simp only [EN, Nat.reduceEqDiff, reduceIte, e0, e1, e2, e3, decide_true, Bool.not_true, Bool.not_false, decide_false, eq_self, if_true, if_false, Bool.or_true, Bool.and_true, Bool.or_false, Bool.and_self, Bool.false_or, hB1.cell, hB2.cell]; rfl) (fun hct27 => ?_) (fun hct27 => ?_)
  ·
    try simp only [BD] at hct27
    refine hx_seq ?_
    refine hx_region ?_
    refine WL.cg Try.call12 (by simp only [EN, Nat.reduceEqDiff, reduceIte, AR, decide_true, Bool.not_true, Bool.not_false, decide_false, eq_self, if_true, if_false, Bool.or_true, Bool.and_true, Bool.or_false, Bool.and_self, Bool.false_or, hB1.cell, hB2.cell]; exact c_known13 _) ?_
    intro h5 hx5
    replace hE := hE.ext hx5
    replace hl := hl.ext hx5
    replace hm := hm.ext hx5
    replace hB1 := hB1.ext hx5
    replace hB2 := hB2.ext hx5
    refine WL.store (by simp only [EN, Nat.reduceEqDiff, reduceIte, decide_true, Bool.not_true, Bool.not_false, decide_false, eq_self, if_true, if_false, Bool.or_true, Bool.and_true, Bool.or_false, Bool.and_self, Bool.false_or, hB1.cell, hB2.cell] <;> rfl) sz4 (by simp only [EN, Nat.reduceEqDiff, reduceIte, Value.cells, decide_true, Bool.not_true, Bool.not_false, decide_false, eq_self, if_true, if_false, Bool.or_true, Bool.and_true, Bool.or_false, Bool.and_self, Bool.false_or, hB1.cell, hB2.cell] <;> rfl) rfl hB2 (by first | (simp [true_and]; done) | (simp [true_and]; omega) | omega) (by simp [Value.oneCell']) ?_
    intro h6 hw6
    have hE9 := hw6.ext hE (Nat.le_trans hs1 hlt2)
    replace hB2 := hw6.at_
    try simp only [splc, List.take_zero, List.nil_append, List.drop_succ_cons, List.drop_zero, List.length_cons, List.length_nil] at hB2
    refine WL.nil ?_
    refine th_norm ?_
    refine hx_ret ?_
    refine th_ret ?_
    refine fin_ret [.cell 8 4] rfl rfl (by simp only [EN, Nat.reduceEqDiff, reduceIte, resv, ld4, readN, AR, Nat.zero_add, Nat.reduceAdd, e0, e1, e2, e3, decide_true, Bool.not_true, Bool.not_false, decide_false, eq_self, if_true, if_false, Bool.or_true, Bool.and_true, Bool.or_false, Bool.and_self, Bool.false_or, hB1.cell, hB2.cell]; rfl) ?_  -- ret 0 r2
    exact ⟨by simp [retOf], hE9⟩
  ·
    try simp only [BD] at hct27
    have hfw : fewB l = true := (by cases h8 : fewB l; (rw [h8] at hct27; simp at hct27); rfl)
    have hml : m.length ≤ 12 := (by rw [hfw] at hct27; have h9 := hct27; simp at h9; omega)
    have ok : OkO l := few_ok hfw hu
    obtain ⟨s, hs⟩ : ∃ s, runB l = s := ⟨_, rfl⟩
    have hg : GoodB s 12 := hs ▸ (List.take_length (l := l) ▸ good_run ok l.length (Nat.le_refl _)).up ok.len
    have hgl := hg.lk_; have hgs := hg.sq_
    obtain ⟨r, hck⟩ : ∃ r, chkE (lk s.ks) (lk s.fs) m = r := ⟨_, rfl⟩
    refine hx_skip ?_
    refine th_norm ?_
    refine hx_seq ?_
    refine hx_region ?_
    refine WL.qq (by simp only [EN, Nat.reduceEqDiff, reduceIte, qv_assign, decide_true, Bool.not_true, Bool.not_false, decide_false, eq_self, if_true, if_false, Bool.or_true, Bool.and_true, Bool.or_false, Bool.and_self, Bool.false_or, hB1.cell, hB2.cell]; rfl) ?_
    refine WL.nil ?_
    refine th_norm ?_
    refine hx_seq ?_
    refine hx_region ?_
    refine WL.qq (by simp only [EN, Nat.reduceEqDiff, reduceIte, qv_assign, decide_true, Bool.not_true, Bool.not_false, decide_false, eq_self, if_true, if_false, Bool.or_true, Bool.and_true, Bool.or_false, Bool.and_self, Bool.false_or, hB1.cell, hB2.cell]; rfl) ?_
    refine WL.nil ?_
    refine th_norm ?_
    refine hx_seq ?_
    refine hx_region ?_
    refine WL.ck Try.call39 (by simp only [EN, Nat.reduceEqDiff, reduceIte, AR, decide_true, Bool.not_true, Bool.not_false, decide_false, eq_self, if_true, if_false, Bool.or_true, Bool.and_true, Bool.or_false, Bool.and_self, Bool.false_or, hB1.cell, hB2.cell]; exact n_new _) ?_
    refine WL.qq (by simp only [EN, Nat.reduceEqDiff, reduceIte, qv_move, decide_true, Bool.not_true, Bool.not_false, decide_false, eq_self, if_true, if_false, Bool.or_true, Bool.and_true, Bool.or_false, Bool.and_self, Bool.false_or, hB1.cell, hB2.cell]; rfl) ?_
    refine WL.qq (by simp only [EN, Nat.reduceEqDiff, reduceIte, qv_extract, AR, decide_true, Bool.not_true, Bool.not_false, decide_false, eq_self, if_true, if_false, Bool.or_true, Bool.and_true, Bool.or_false, Bool.and_self, Bool.false_or, hB1.cell, hB2.cell]; rfl) ?_
    refine WL.qq (by simp only [EN, Nat.reduceEqDiff, reduceIte, qv_extract, AR, decide_true, Bool.not_true, Bool.not_false, decide_false, eq_self, if_true, if_false, Bool.or_true, Bool.and_true, Bool.or_false, Bool.and_self, Bool.false_or, hB1.cell, hB2.cell]; rfl) ?_
    refine WL.qq (by simp only [EN, Nat.reduceEqDiff, reduceIte, qv_assign, decide_true, Bool.not_true, Bool.not_false, decide_false, eq_self, if_true, if_false, Bool.or_true, Bool.and_true, Bool.or_false, Bool.and_self, Bool.false_or, hB1.cell, hB2.cell]; rfl) ?_
    refine WL.qq (by simp only [EN, Nat.reduceEqDiff, reduceIte, qv_assign, decide_true, Bool.not_true, Bool.not_false, decide_false, eq_self, if_true, if_false, Bool.or_true, Bool.and_true, Bool.or_false, Bool.and_self, Bool.false_or, hB1.cell, hB2.cell]; rfl) ?_
    refine WL.nil ?_
    refine th_norm ?_
    refine hx_seq ?_
    refine hx_region ?_
    refine WL.qq (by simp only [EN, Nat.reduceEqDiff, reduceIte, qv_move, decide_true, Bool.not_true, Bool.not_false, decide_false, eq_self, if_true, if_false, Bool.or_true, Bool.and_true, Bool.or_false, Bool.and_self, Bool.false_or, hB1.cell, hB2.cell]; rfl) ?_
    refine WL.ck Try.call40 (by simp only [EN, Nat.reduceEqDiff, reduceIte, AR, decide_true, Bool.not_true, Bool.not_false, decide_false, eq_self, if_true, if_false, Bool.or_true, Bool.and_true, Bool.or_false, Bool.and_self, Bool.false_or, hB1.cell, hB2.cell]; exact n_rollback _) ?_
    refine WL.nil ?_
    refine th_norm ?_
    refine hx_seq ?_
    refine hx_seq ?_
    refine hx_region ?_
    refine WL.qq (by simp only [EN, Nat.reduceEqDiff, reduceIte, qv_move, decide_true, Bool.not_true, Bool.not_false, decide_false, eq_self, if_true, if_false, Bool.or_true, Bool.and_true, Bool.or_false, Bool.and_self, Bool.false_or, hB1.cell, hB2.cell]; rfl) ?_
    refine WL.ce Try.call15 (by simp only [EN, Nat.reduceEqDiff, reduceIte, AR, decide_true, Bool.not_true, Bool.not_false, decide_false, eq_self, if_true, if_false, Bool.or_true, Bool.and_true, Bool.or_false, Bool.and_self, Bool.false_or, hB1.cell, hB2.cell]; exact c_all _ rfl _) ?_
    rintro _ h9 ⟨B9, rfl, hx9, hlt9, hB9⟩
    simp only [put_some]
    replace hE := hE.ext hx9
    replace hB1 := hB1.ext hx9
    replace hB2 := hB2.ext hx9
    refine WL.nil ?_
    refine th_norm ?_
    refine hx_block ?_
    refine hx_range (by simp only [EN, Nat.reduceEqDiff, reduceIte, e0, e1, e2, e3, decide_true, Bool.not_true, Bool.not_false, decide_false, eq_self, if_true, if_false, Bool.or_true, Bool.and_true, Bool.or_false, Bool.and_self, Bool.false_or, hB1.cell, hB2.cell]; rfl) Try.call45 ?_
    intro fnR0 hR0 hxR0 hsR0 hdR0 hrR0
    have hlu1 : B1 < h9.size := (Array.getElem?_eq_some_iff.1 hB1).1
    have hlu2 : B2 < h9.size := (Array.getElem?_eq_some_iff.1 hB2).1
    refine (n_allYield B9 _ (hB9.ext hxR0)).mono ?_
    rintro v0 h3 rfl
    refine after_any hrR0 rfl (.inl ⟨rfl, ?_⟩)
    intro h31 o hw31
    replace hB1 := (hB1.ext hxR0).wr hw31 (by omega)
    replace hB2 := (hB2.ext hxR0).wr hw31 (by omega)
    have hd : Has h31 h9.size (.deferred (some [])) := by rw [Has, hw31.same _ (by omega)]; exact hdR0
    replace hE := hw31.ext (hE.trans hxR0) (by have := hE.size; omega)
    have hm := km.ext hE
    refine bl_norm ?_
    refine th_norm ?_
    refine hx_seq ?_
    refine hx_seq ?_
    refine hx_region ?_
    refine WL.qq (by simp only [EN, Nat.reduceEqDiff, reduceIte, qv_move, decide_true, Bool.not_true, Bool.not_false, decide_false, eq_self, if_true, if_false, Bool.or_true, Bool.and_true, Bool.or_false, Bool.and_self, Bool.false_or, hB1.cell, hB2.cell, hB1.cell, hB2.cell]; rfl) ?_
    refine WL.qq (by simp only [EN, Nat.reduceEqDiff, reduceIte, qv_binOp, binv_neq, eqz25, eqn25, eqm25, Option.map_some, decide_true, Bool.not_true, Bool.not_false, decide_false, eq_self, if_true, if_false, Bool.or_true, Bool.and_true, Bool.or_false, Bool.and_self, Bool.false_or, hB1.cell, hB2.cell, hB1.cell, hB2.cell]; rfl) ?_
    refine WL.qq (by simp only [EN, Nat.reduceEqDiff, reduceIte, qv_move, decide_true, Bool.not_true, Bool.not_false, decide_false, eq_self, if_true, if_false, Bool.or_true, Bool.and_true, Bool.or_false, Bool.and_self, Bool.false_or, hB1.cell, hB2.cell, hB1.cell, hB2.cell]; rfl) ?_
    refine WL.cq (gd_at (t := 41) rfl (by simp only [EN, Nat.reduceEqDiff, reduceIte, decide_true, Bool.not_true, Bool.not_false, decide_false, eq_self, if_true, if_false, Bool.or_true, Bool.and_true, Bool.or_false, Bool.and_self, Bool.false_or, hB1.cell, hB2.cell, hB1.cell, hB2.cell] <;> rfl)) (fun hg9_3 => by simp only [EN, Nat.reduceEqDiff, reduceIte, qv_move, decide_true, Bool.not_true, Bool.not_false, decide_false, eq_self, if_true, if_false, Bool.or_true, Bool.and_true, Bool.or_false, Bool.and_self, Bool.false_or, hB1.cell, hB2.cell, hB1.cell, hB2.cell, hg9_3, GR]; rfl) ?_
    refine WL.cq (gd_at (t := 41) rfl (by simp only [EN, Nat.reduceEqDiff, reduceIte, decide_true, Bool.not_true, Bool.not_false, decide_false, eq_self, if_true, if_false, Bool.or_true, Bool.and_true, Bool.or_false, Bool.and_self, Bool.false_or, hB1.cell, hB2.cell, hB1.cell, hB2.cell] <;> rfl)) (fun hg9_4 => by simp only [EN, Nat.reduceEqDiff, reduceIte, qv_binOp, binv_neq, eq45, Option.map_some, decide_true, Bool.not_true, Bool.not_false, decide_false, eq_self, if_true, if_false, Bool.or_true, Bool.and_true, Bool.or_false, Bool.and_self, Bool.false_or, hB1.cell, hB2.cell, hB1.cell, hB2.cell, hg9_4, GR]; rfl) ?_
    refine WL.qq (by simp only [EN, Nat.reduceEqDiff, reduceIte, qv_pick, pk_and, pk_or, GR, decide_true, Bool.not_true, Bool.not_false, decide_false, eq_self, if_true, if_false, Bool.or_true, Bool.and_true, Bool.or_false, Bool.and_self, Bool.false_or, hB1.cell, hB2.cell, hB1.cell, hB2.cell]; rfl) ?_
    refine WL.qq (by simp only [EN, Nat.reduceEqDiff, reduceIte, qv_move, decide_true, Bool.not_true, Bool.not_false, decide_false, eq_self, if_true, if_false, Bool.or_true, Bool.and_true, Bool.or_false, Bool.and_self, Bool.false_or, hB1.cell, hB2.cell, hB1.cell, hB2.cell]; rfl) ?_
    refine WL.cq (gd_at (t := 45) rfl (by simp only [EN, Nat.reduceEqDiff, reduceIte, decide_true, Bool.not_true, Bool.not_false, decide_false, eq_self, if_true, if_false, Bool.or_true, Bool.and_true, Bool.or_false, Bool.and_self, Bool.false_or, hB1.cell, hB2.cell, hB1.cell, hB2.cell] <;> rfl)) (fun hg9_7 => by simp only [EN, Nat.reduceEqDiff, reduceIte, qv_move, decide_true, Bool.not_true, Bool.not_false, decide_false, eq_self, if_true, if_false, Bool.or_true, Bool.and_true, Bool.or_false, Bool.and_self, Bool.false_or, hB1.cell, hB2.cell, hB1.cell, hB2.cell, hg9_7, GR]; rfl) ?_
    refine WL.cq (gd_at (t := 45) rfl (by simp only [EN, Nat.reduceEqDiff, reduceIte, e1, decide_true, Bool.not_true, Bool.not_false, decide_false, eq_self, if_true, if_false, Bool.or_true, Bool.and_true, Bool.or_false, Bool.and_self, Bool.false_or, hB1.cell, hB2.cell, hB1.cell, hB2.cell] <;> rfl)) (fun hg9_8 => by simp only [EN, Nat.reduceEqDiff, reduceIte, qv_move, e1, decide_true, Bool.not_true, Bool.not_false, decide_false, eq_self, if_true, if_false, Bool.or_true, Bool.and_true, Bool.or_false, Bool.and_self, Bool.false_or, hB1.cell, hB2.cell, hB1.cell, hB2.cell, hg9_8, GR]; rfl) ?_
    refine WL.gy _ (gd_at (t := 45) rfl (by simp only [EN, Nat.reduceEqDiff, reduceIte, decide_true, Bool.not_true, Bool.not_false, decide_false, eq_self, if_true, if_false, Bool.or_true, Bool.and_true, Bool.or_false, Bool.and_self, Bool.false_or, hB1.cell, hB2.cell, hB1.cell, hB2.cell] <;> rfl)) (e_call Try.call19 (by simp only [EN, Nat.reduceEqDiff, reduceIte, AR, decide_true, Bool.not_true, Bool.not_false, decide_false, eq_self, if_true, if_false, Bool.or_true, Bool.and_true, Bool.or_false, Bool.and_self, Bool.false_or, hB1.cell, hB2.cell, hB1.cell, hB2.cell]; exact c_entries am m cm (by omega) hm)) ?_
    rintro _ h7 ⟨hx7, -⟩
    replace hB1 := hB1.ext hx7
    replace hB2 := hB2.ext hx7
    replace hd := hd.ext hx7
    replace hE := hE.ext hx7
    replace hm := hm.ext hx7
    simp only [put_some]
    refine WL.cck (gd_at (t := 45) rfl (by simp only [EN, Nat.reduceEqDiff, reduceIte, decide_true, Bool.not_true, Bool.not_false, decide_false, eq_self, if_true, if_false, Bool.or_true, Bool.and_true, Bool.or_false, Bool.and_self, Bool.false_or, hB1.cell, hB2.cell, hB1.cell, hB2.cell] <;> rfl)) Try.call18 (fun hg9_10 => by simp only [EN, Nat.reduceEqDiff, reduceIte, AR, decide_true, Bool.not_true, Bool.not_false, decide_false, eq_self, if_true, if_false, Bool.or_true, Bool.and_true, Bool.or_false, Bool.and_self, Bool.false_or, hB1.cell, hB2.cell, hB1.cell, hB2.cell, hg9_10, GR]; exact n_post _ _) ?_
    refine WL.cq (gd_at (t := 45) rfl (by simp only [EN, Nat.reduceEqDiff, reduceIte, decide_true, Bool.not_true, Bool.not_false, decide_false, eq_self, if_true, if_false, Bool.or_true, Bool.and_true, Bool.or_false, Bool.and_self, Bool.false_or, hB1.cell, hB2.cell, hB1.cell, hB2.cell] <;> rfl)) (fun hg9_11 => by simp only [EN, Nat.reduceEqDiff, reduceIte, qv_binOp, binv_neq, eq45, Option.map_some, decide_true, Bool.not_true, Bool.not_false, decide_false, eq_self, if_true, if_false, Bool.or_true, Bool.and_true, Bool.or_false, Bool.and_self, Bool.false_or, hB1.cell, hB2.cell, hB1.cell, hB2.cell, hg9_11, GR]; rfl) ?_
    refine WL.qq (by simp only [EN, Nat.reduceEqDiff, reduceIte, qv_pick, pk_and, pk_or, GR, decide_true, Bool.not_true, Bool.not_false, decide_false, eq_self, if_true, if_false, Bool.or_true, Bool.and_true, Bool.or_false, Bool.and_self, Bool.false_or, hB1.cell, hB2.cell, hB1.cell, hB2.cell]; rfl) ?_
    refine WL.qq (by simp only [EN, Nat.reduceEqDiff, reduceIte, qv_move, decide_true, Bool.not_true, Bool.not_false, decide_false, eq_self, if_true, if_false, Bool.or_true, Bool.and_true, Bool.or_false, Bool.and_self, Bool.false_or, hB1.cell, hB2.cell, hB1.cell, hB2.cell]; rfl) ?_
    refine WL.cq (gd_at (t := 52) rfl (by simp only [EN, Nat.reduceEqDiff, reduceIte, decide_true, Bool.not_true, Bool.not_false, decide_false, eq_self, if_true, if_false, Bool.or_true, Bool.and_true, Bool.or_false, Bool.and_self, Bool.false_or, hB1.cell, hB2.cell, hB1.cell, hB2.cell] <;> rfl)) (fun hg9_14 => by simp only [EN, Nat.reduceEqDiff, reduceIte, qv_move, decide_true, Bool.not_true, Bool.not_false, decide_false, eq_self, if_true, if_false, Bool.or_true, Bool.and_true, Bool.or_false, Bool.and_self, Bool.false_or, hB1.cell, hB2.cell, hB1.cell, hB2.cell, hg9_14, GR]; rfl) ?_
    refine WL.cck (gd_at (t := 52) rfl (by simp only [EN, Nat.reduceEqDiff, reduceIte, decide_true, Bool.not_true, Bool.not_false, decide_false, eq_self, if_true, if_false, Bool.or_true, Bool.and_true, Bool.or_false, Bool.and_self, Bool.false_or, hB1.cell, hB2.cell, hB1.cell, hB2.cell] <;> rfl)) Try.call22 (fun hg9_15 => by simp only [EN, Nat.reduceEqDiff, reduceIte, AR, decide_true, Bool.not_true, Bool.not_false, decide_false, eq_self, if_true, if_false, Bool.or_true, Bool.and_true, Bool.or_false, Bool.and_self, Bool.false_or, hB1.cell, hB2.cell, hB1.cell, hB2.cell, hg9_15, GR]; exact n_check _ _) ?_
    refine WL.cq (gd_at (t := 52) rfl (by simp only [EN, Nat.reduceEqDiff, reduceIte, decide_true, Bool.not_true, Bool.not_false, decide_false, eq_self, if_true, if_false, Bool.or_true, Bool.and_true, Bool.or_false, Bool.and_self, Bool.false_or, hB1.cell, hB2.cell, hB1.cell, hB2.cell] <;> rfl)) (fun hg9_16 => by simp only [EN, Nat.reduceEqDiff, reduceIte, qv_binOp, binv_neq, eq45, Option.map_some, decide_true, Bool.not_true, Bool.not_false, decide_false, eq_self, if_true, if_false, Bool.or_true, Bool.and_true, Bool.or_false, Bool.and_self, Bool.false_or, hB1.cell, hB2.cell, hB1.cell, hB2.cell, hg9_16, GR]; rfl) ?_
    refine WL.qq (by simp only [EN, Nat.reduceEqDiff, reduceIte, qv_pick, pk_and, pk_or, GR, decide_true, Bool.not_true, Bool.not_false, decide_false, eq_self, if_true, if_false, Bool.or_true, Bool.and_true, Bool.or_false, Bool.and_self, Bool.false_or, hB1.cell, hB2.cell, hB1.cell, hB2.cell]; rfl) ?_
    refine WL.qq (by simp only [EN, Nat.reduceEqDiff, reduceIte, qv_move, decide_true, Bool.not_true, Bool.not_false, decide_false, eq_self, if_true, if_false, Bool.or_true, Bool.and_true, Bool.or_false, Bool.and_self, Bool.false_or, hB1.cell, hB2.cell, hB1.cell, hB2.cell]; rfl) ?_
    refine WL.cq (gd_at (t := 57) rfl (by simp only [EN, Nat.reduceEqDiff, reduceIte, decide_true, Bool.not_true, Bool.not_false, decide_false, eq_self, if_true, if_false, Bool.or_true, Bool.and_true, Bool.or_false, Bool.and_self, Bool.false_or, hB1.cell, hB2.cell, hB1.cell, hB2.cell] <;> rfl)) (fun hg9_19 => by simp only [EN, Nat.reduceEqDiff, reduceIte, qv_move, decide_true, Bool.not_true, Bool.not_false, decide_false, eq_self, if_true, if_false, Bool.or_true, Bool.and_true, Bool.or_false, Bool.and_self, Bool.false_or, hB1.cell, hB2.cell, hB1.cell, hB2.cell, hg9_19, GR]; rfl) ?_
    refine WL.cq (gd_at (t := 57) rfl (by simp only [EN, Nat.reduceEqDiff, reduceIte, decide_true, Bool.not_true, Bool.not_false, decide_false, eq_self, if_true, if_false, Bool.or_true, Bool.and_true, Bool.or_false, Bool.and_self, Bool.false_or, hB1.cell, hB2.cell, hB1.cell, hB2.cell] <;> rfl)) (fun hg9_20 => by simp only [EN, Nat.reduceEqDiff, reduceIte, qv_load, ld34, readN, AR, Nat.zero_add, Nat.reduceAdd, decide_true, Bool.not_true, Bool.not_false, decide_false, eq_self, if_true, if_false, Bool.or_true, Bool.and_true, Bool.or_false, Bool.and_self, Bool.false_or, hB1.cell, hB2.cell, hB1.cell, hB2.cell, hg9_20, GR]; rfl) ?_
    refine WL.cq (gd_at (t := 57) rfl (by simp only [EN, Nat.reduceEqDiff, reduceIte, e3, decide_true, Bool.not_true, Bool.not_false, decide_false, eq_self, if_true, if_false, Bool.or_true, Bool.and_true, Bool.or_false, Bool.and_self, Bool.false_or, hB1.cell, hB2.cell, hB1.cell, hB2.cell] <;> rfl)) (fun hg9_21 => by simp only [EN, Nat.reduceEqDiff, reduceIte, qv_move, e3, decide_true, Bool.not_true, Bool.not_false, decide_false, eq_self, if_true, if_false, Bool.or_true, Bool.and_true, Bool.or_false, Bool.and_self, Bool.false_or, hB1.cell, hB2.cell, hB1.cell, hB2.cell, hg9_21, GR]; rfl) ?_
    refine WL.ccg (gd_at (t := 57) rfl (by simp only [EN, Nat.reduceEqDiff, reduceIte, decide_true, Bool.not_true, Bool.not_false, decide_false, eq_self, if_true, if_false, Bool.or_true, Bool.and_true, Bool.or_false, Bool.and_self, Bool.false_or, hB1.cell, hB2.cell, hB1.cell, hB2.cell] <;> rfl)) Try.call41 (fun hg9_22 => by simp only [EN, Nat.reduceEqDiff, reduceIte, AR, decide_true, Bool.not_true, Bool.not_false, decide_false, eq_self, if_true, if_false, Bool.or_true, Bool.and_true, Bool.or_false, Bool.and_self, Bool.false_or, hB1.cell, hB2.cell, hB1.cell, hB2.cell, hg9_22, GR]; exact n_setFloor _ _ _) ?_
    intro h8 hx8
    replace hB1 := hB1.ext hx8
    replace hB2 := hB2.ext hx8
    replace hd := hd.ext hx8
    replace hE := hE.ext hx8
    replace hm := hm.ext hx8
    refine WL.cq (gd_at (t := 57) rfl (by simp only [EN, Nat.reduceEqDiff, reduceIte, decide_true, Bool.not_true, Bool.not_false, decide_false, eq_self, if_true, if_false, Bool.or_true, Bool.and_true, Bool.or_false, Bool.and_self, Bool.false_or, hB1.cell, hB2.cell, hB1.cell, hB2.cell] <;> rfl)) (fun hg9_23 => by simp only [EN, Nat.reduceEqDiff, reduceIte, qv_binOp, binv_neq, eq45, Option.map_some, decide_true, Bool.not_true, Bool.not_false, decide_false, eq_self, if_true, if_false, Bool.or_true, Bool.and_true, Bool.or_false, Bool.and_self, Bool.false_or, hB1.cell, hB2.cell, hB1.cell, hB2.cell, hg9_23, GR]; rfl) ?_
    refine WL.qq (by simp only [EN, Nat.reduceEqDiff, reduceIte, qv_pick, pk_and, pk_or, GR, decide_true, Bool.not_true, Bool.not_false, decide_false, eq_self, if_true, if_false, Bool.or_true, Bool.and_true, Bool.or_false, Bool.and_self, Bool.false_or, hB1.cell, hB2.cell, hB1.cell, hB2.cell]; rfl) ?_
    refine WL.qq (by simp only [EN, Nat.reduceEqDiff, reduceIte, qv_move, decide_true, Bool.not_true, Bool.not_false, decide_false, eq_self, if_true, if_false, Bool.or_true, Bool.and_true, Bool.or_false, Bool.and_self, Bool.false_or, hB1.cell, hB2.cell, hB1.cell, hB2.cell]; rfl) ?_
    refine WL.cq (gd_at (t := 64) rfl (by simp only [EN, Nat.reduceEqDiff, reduceIte, decide_true, Bool.not_true, Bool.not_false, decide_false, eq_self, if_true, if_false, Bool.or_true, Bool.and_true, Bool.or_false, Bool.and_self, Bool.false_or, hB1.cell, hB2.cell, hB1.cell, hB2.cell] <;> rfl)) (fun hg9_26 => by simp only [EN, Nat.reduceEqDiff, reduceIte, qv_move, decide_true, Bool.not_true, Bool.not_false, decide_false, eq_self, if_true, if_false, Bool.or_true, Bool.and_true, Bool.or_false, Bool.and_self, Bool.false_or, hB1.cell, hB2.cell, hB1.cell, hB2.cell, hg9_26, GR]; rfl) ?_
    refine WL.cq (gd_at (t := 64) rfl (by simp only [EN, Nat.reduceEqDiff, reduceIte, decide_true, Bool.not_true, Bool.not_false, decide_false, eq_self, if_true, if_false, Bool.or_true, Bool.and_true, Bool.or_false, Bool.and_self, Bool.false_or, hB1.cell, hB2.cell, hB1.cell, hB2.cell] <;> rfl)) (fun hg9_27 => by simp only [EN, Nat.reduceEqDiff, reduceIte, qv_load, ld34, readN, AR, Nat.zero_add, Nat.reduceAdd, decide_true, Bool.not_true, Bool.not_false, decide_false, eq_self, if_true, if_false, Bool.or_true, Bool.and_true, Bool.or_false, Bool.and_self, Bool.false_or, hB1.cell, hB2.cell, hB1.cell, hB2.cell, hg9_27, GR]; rfl) ?_
    refine WL.ccg (gd_at (t := 64) rfl (by simp only [EN, Nat.reduceEqDiff, reduceIte, decide_true, Bool.not_true, Bool.not_false, decide_false, eq_self, if_true, if_false, Bool.or_true, Bool.and_true, Bool.or_false, Bool.and_self, Bool.false_or, hB1.cell, hB2.cell, hB1.cell, hB2.cell] <;> rfl)) Try.call16 (fun hg9_28 => by simp only [EN, Nat.reduceEqDiff, reduceIte, AR, decide_true, Bool.not_true, Bool.not_false, decide_false, eq_self, if_true, if_false, Bool.or_true, Bool.and_true, Bool.or_false, Bool.and_self, Bool.false_or, hB1.cell, hB2.cell, hB1.cell, hB2.cell, hg9_28, GR]; exact n_floor _ _) ?_
    intro h9 hx9
    replace hB1 := hB1.ext hx9
    replace hB2 := hB2.ext hx9
    replace hd := hd.ext hx9
    replace hE := hE.ext hx9
    replace hm := hm.ext hx9
    refine WL.cq (gd_at (t := 64) rfl (by simp only [EN, Nat.reduceEqDiff, reduceIte, decide_true, Bool.not_true, Bool.not_false, decide_false, eq_self, if_true, if_false, Bool.or_true, Bool.and_true, Bool.or_false, Bool.and_self, Bool.false_or, hB1.cell, hB2.cell, hB1.cell, hB2.cell] <;> rfl)) (fun hg9_29 => by simp only [EN, Nat.reduceEqDiff, reduceIte, qv_binOp, binv_neq, eq2, Option.map_some, decide_true, Bool.not_true, Bool.not_false, decide_false, eq_self, if_true, if_false, Bool.or_true, Bool.and_true, Bool.or_false, Bool.and_self, Bool.false_or, hB1.cell, hB2.cell, hB1.cell, hB2.cell, hg9_29, GR]; rfl) ?_
    refine WL.qq (by simp only [EN, Nat.reduceEqDiff, reduceIte, qv_pick, pk_and, pk_or, GR, decide_true, Bool.not_true, Bool.not_false, decide_false, eq_self, if_true, if_false, Bool.or_true, Bool.and_true, Bool.or_false, Bool.and_self, Bool.false_or, hB1.cell, hB2.cell, hB1.cell, hB2.cell]; rfl) ?_
    refine WL.qq (by simp only [EN, Nat.reduceEqDiff, reduceIte, qv_move, decide_true, Bool.not_true, Bool.not_false, decide_false, eq_self, if_true, if_false, Bool.or_true, Bool.and_true, Bool.or_false, Bool.and_self, Bool.false_or, hB1.cell, hB2.cell, hB1.cell, hB2.cell]; rfl) ?_
    refine WL.cq (gd_at (t := 70) rfl (by simp only [EN, Nat.reduceEqDiff, reduceIte, decide_true, Bool.not_true, Bool.not_false, decide_false, eq_self, if_true, if_false, Bool.or_true, Bool.and_true, Bool.or_false, Bool.and_self, Bool.false_or, hB1.cell, hB2.cell, hB1.cell, hB2.cell] <;> rfl)) (fun hg9_32 => by simp only [EN, Nat.reduceEqDiff, reduceIte, qv_move, decide_true, Bool.not_true, Bool.not_false, decide_false, eq_self, if_true, if_false, Bool.or_true, Bool.and_true, Bool.or_false, Bool.and_self, Bool.false_or, hB1.cell, hB2.cell, hB1.cell, hB2.cell, hg9_32, GR]; rfl) ?_
    refine WL.cq (gd_at (t := 70) rfl (by simp only [EN, Nat.reduceEqDiff, reduceIte, decide_true, Bool.not_true, Bool.not_false, decide_false, eq_self, if_true, if_false, Bool.or_true, Bool.and_true, Bool.or_false, Bool.and_self, Bool.false_or, hB1.cell, hB2.cell, hB1.cell, hB2.cell] <;> rfl)) (fun hg9_33 => by simp only [EN, Nat.reduceEqDiff, reduceIte, qv_load, ld34, readN, AR, Nat.zero_add, Nat.reduceAdd, decide_true, Bool.not_true, Bool.not_false, decide_false, eq_self, if_true, if_false, Bool.or_true, Bool.and_true, Bool.or_false, Bool.and_self, Bool.false_or, hB1.cell, hB2.cell, hB1.cell, hB2.cell, hg9_33, GR]; rfl) ?_
    refine WL.ccg (gd_at (t := 70) rfl (by simp only [EN, Nat.reduceEqDiff, reduceIte, decide_true, Bool.not_true, Bool.not_false, decide_false, eq_self, if_true, if_false, Bool.or_true, Bool.and_true, Bool.or_false, Bool.and_self, Bool.false_or, hB1.cell, hB2.cell, hB1.cell, hB2.cell] <;> rfl)) Try.call21 (fun hg9_34 => by simp only [EN, Nat.reduceEqDiff, reduceIte, AR, decide_true, Bool.not_true, Bool.not_false, decide_false, eq_self, if_true, if_false, Bool.or_true, Bool.and_true, Bool.or_false, Bool.and_self, Bool.false_or, hB1.cell, hB2.cell, hB1.cell, hB2.cell, hg9_34, GR]; exact n_bal _ _) ?_
    intro h10 hx10
    replace hB1 := hB1.ext hx10
    replace hB2 := hB2.ext hx10
    replace hd := hd.ext hx10
    replace hE := hE.ext hx10
    replace hm := hm.ext hx10
    refine WL.cq (gd_at (t := 70) rfl (by simp only [EN, Nat.reduceEqDiff, reduceIte, decide_true, Bool.not_true, Bool.not_false, decide_false, eq_self, if_true, if_false, Bool.or_true, Bool.and_true, Bool.or_false, Bool.and_self, Bool.false_or, hB1.cell, hB2.cell, hB1.cell, hB2.cell] <;> rfl)) (fun hg9_35 => by simp only [EN, Nat.reduceEqDiff, reduceIte, qv_binOp, binv_neq, eq2, Option.map_some, decide_true, Bool.not_true, Bool.not_false, decide_false, eq_self, if_true, if_false, Bool.or_true, Bool.and_true, Bool.or_false, Bool.and_self, Bool.false_or, hB1.cell, hB2.cell, hB1.cell, hB2.cell, hg9_35, GR]; rfl) ?_
    refine WL.qq (by simp only [EN, Nat.reduceEqDiff, reduceIte, qv_pick, pk_and, pk_or, GR, decide_true, Bool.not_true, Bool.not_false, decide_false, eq_self, if_true, if_false, Bool.or_true, Bool.and_true, Bool.or_false, Bool.and_self, Bool.false_or, hB1.cell, hB2.cell, hB1.cell, hB2.cell]; rfl) ?_
    refine WL.qq (by simp only [EN, Nat.reduceEqDiff, reduceIte, qv_move, decide_true, Bool.not_true, Bool.not_false, decide_false, eq_self, if_true, if_false, Bool.or_true, Bool.and_true, Bool.or_false, Bool.and_self, Bool.false_or, hB1.cell, hB2.cell, hB1.cell, hB2.cell]; rfl) ?_
    refine WL.cq (gd_at (t := 76) rfl (by simp only [EN, Nat.reduceEqDiff, reduceIte, decide_true, Bool.not_true, Bool.not_false, decide_false, eq_self, if_true, if_false, Bool.or_true, Bool.and_true, Bool.or_false, Bool.and_self, Bool.false_or, hB1.cell, hB2.cell, hB1.cell, hB2.cell] <;> rfl)) (fun hg9_38 => by simp only [EN, Nat.reduceEqDiff, reduceIte, qv_move, decide_true, Bool.not_true, Bool.not_false, decide_false, eq_self, if_true, if_false, Bool.or_true, Bool.and_true, Bool.or_false, Bool.and_self, Bool.false_or, hB1.cell, hB2.cell, hB1.cell, hB2.cell, hg9_38, GR]; rfl) ?_
    refine WL.ccg (gd_at (t := 76) rfl (by simp only [EN, Nat.reduceEqDiff, reduceIte, decide_true, Bool.not_true, Bool.not_false, decide_false, eq_self, if_true, if_false, Bool.or_true, Bool.and_true, Bool.or_false, Bool.and_self, Bool.false_or, hB1.cell, hB2.cell, hB1.cell, hB2.cell] <;> rfl)) Try.call14 (fun hg9_39 => by simp only [EN, Nat.reduceEqDiff, reduceIte, AR, decide_true, Bool.not_true, Bool.not_false, decide_false, eq_self, if_true, if_false, Bool.or_true, Bool.and_true, Bool.or_false, Bool.and_self, Bool.false_or, hB1.cell, hB2.cell, hB1.cell, hB2.cell, hg9_39, GR]; exact n_total _ _) ?_
    intro h11 hx11
    replace hB1 := hB1.ext hx11
    replace hB2 := hB2.ext hx11
    replace hd := hd.ext hx11
    replace hE := hE.ext hx11
    replace hm := hm.ext hx11
    refine WL.cq (gd_at (t := 76) rfl (by simp only [EN, Nat.reduceEqDiff, reduceIte, decide_true, Bool.not_true, Bool.not_false, decide_false, eq_self, if_true, if_false, Bool.or_true, Bool.and_true, Bool.or_false, Bool.and_self, Bool.false_or, hB1.cell, hB2.cell, hB1.cell, hB2.cell] <;> rfl)) (fun hg9_40 => by simp only [EN, Nat.reduceEqDiff, reduceIte, qv_binOp, binv_neq, eq2, Option.map_some, decide_true, Bool.not_true, Bool.not_false, decide_false, eq_self, if_true, if_false, Bool.or_true, Bool.and_true, Bool.or_false, Bool.and_self, Bool.false_or, hB1.cell, hB2.cell, hB1.cell, hB2.cell, hg9_40, GR]; rfl) ?_
    refine WL.qq (by simp only [EN, Nat.reduceEqDiff, reduceIte, qv_pick, pk_and, pk_or, GR, decide_true, Bool.not_true, Bool.not_false, decide_false, eq_self, if_true, if_false, Bool.or_true, Bool.and_true, Bool.or_false, Bool.and_self, Bool.false_or, hB1.cell, hB2.cell, hB1.cell, hB2.cell]; rfl) ?_
    refine WL.qq (by simp only [EN, Nat.reduceEqDiff, reduceIte, qv_move, decide_true, Bool.not_true, Bool.not_false, decide_false, eq_self, if_true, if_false, Bool.or_true, Bool.and_true, Bool.or_false, Bool.and_self, Bool.false_or, hB1.cell, hB2.cell, hB1.cell, hB2.cell]; rfl) ?_
    refine WL.cq (gd_at (t := 81) rfl (by simp only [EN, Nat.reduceEqDiff, reduceIte, decide_true, Bool.not_true, Bool.not_false, decide_false, eq_self, if_true, if_false, Bool.or_true, Bool.and_true, Bool.or_false, Bool.and_self, Bool.false_or, hB1.cell, hB2.cell, hB1.cell, hB2.cell] <;> rfl)) (fun hg9_43 => by simp only [EN, Nat.reduceEqDiff, reduceIte, qv_move, decide_true, Bool.not_true, Bool.not_false, decide_false, eq_self, if_true, if_false, Bool.or_true, Bool.and_true, Bool.or_false, Bool.and_self, Bool.false_or, hB1.cell, hB2.cell, hB1.cell, hB2.cell, hg9_43, GR]; rfl) ?_
    refine WL.ccg (gd_at (t := 81) rfl (by simp only [EN, Nat.reduceEqDiff, reduceIte, decide_true, Bool.not_true, Bool.not_false, decide_false, eq_self, if_true, if_false, Bool.or_true, Bool.and_true, Bool.or_false, Bool.and_self, Bool.false_or, hB1.cell, hB2.cell, hB1.cell, hB2.cell] <;> rfl)) Try.call42 (fun hg9_44 => by simp only [EN, Nat.reduceEqDiff, reduceIte, AR, decide_true, Bool.not_true, Bool.not_false, decide_false, eq_self, if_true, if_false, Bool.or_true, Bool.and_true, Bool.or_false, Bool.and_self, Bool.false_or, hB1.cell, hB2.cell, hB1.cell, hB2.cell, hg9_44, GR]; exact n_groups _) ?_
    intro h12 hx12
    replace hB1 := hB1.ext hx12
    replace hB2 := hB2.ext hx12
    replace hd := hd.ext hx12
    replace hE := hE.ext hx12
    replace hm := hm.ext hx12
    refine WL.cq (gd_at (t := 81) rfl (by simp only [EN, Nat.reduceEqDiff, reduceIte, decide_true, Bool.not_true, Bool.not_false, decide_false, eq_self, if_true, if_false, Bool.or_true, Bool.and_true, Bool.or_false, Bool.and_self, Bool.false_or, hB1.cell, hB2.cell, hB1.cell, hB2.cell] <;> rfl)) (fun hg9_45 => by simp only [EN, Nat.reduceEqDiff, reduceIte, qv_len, ln73, AR, decide_true, Bool.not_true, Bool.not_false, decide_false, eq_self, if_true, if_false, Bool.or_true, Bool.and_true, Bool.or_false, Bool.and_self, Bool.false_or, hB1.cell, hB2.cell, hB1.cell, hB2.cell, hg9_45, GR]; rfl) ?_
    refine WL.cq (gd_at (t := 81) rfl (by simp only [EN, Nat.reduceEqDiff, reduceIte, decide_true, Bool.not_true, Bool.not_false, decide_false, eq_self, if_true, if_false, Bool.or_true, Bool.and_true, Bool.or_false, Bool.and_self, Bool.false_or, hB1.cell, hB2.cell, hB1.cell, hB2.cell] <;> rfl)) (fun hg9_46 => by simp only [EN, Nat.reduceEqDiff, reduceIte, qv_binOp, binv_neq, eq3, Option.map_some, decide_true, Bool.not_true, Bool.not_false, decide_false, eq_self, if_true, if_false, Bool.or_true, Bool.and_true, Bool.or_false, Bool.and_self, Bool.false_or, hB1.cell, hB2.cell, hB1.cell, hB2.cell, hg9_46, GR]; rfl) ?_
    refine WL.qq (by simp only [EN, Nat.reduceEqDiff, reduceIte, qv_pick, pk_and, pk_or, GR, decide_true, Bool.not_true, Bool.not_false, decide_false, eq_self, if_true, if_false, Bool.or_true, Bool.and_true, Bool.or_false, Bool.and_self, Bool.false_or, hB1.cell, hB2.cell, hB1.cell, hB2.cell]; rfl) ?_
    refine WL.qq (by simp only [EN, Nat.reduceEqDiff, reduceIte, qv_move, decide_true, Bool.not_true, Bool.not_false, decide_false, eq_self, if_true, if_false, Bool.or_true, Bool.and_true, Bool.or_false, Bool.and_self, Bool.false_or, hB1.cell, hB2.cell, hB1.cell, hB2.cell]; rfl) ?_
    refine WL.cq (gd_at (t := 87) rfl (by simp only [EN, Nat.reduceEqDiff, reduceIte, decide_true, Bool.not_true, Bool.not_false, decide_false, eq_self, if_true, if_false, Bool.or_true, Bool.and_true, Bool.or_false, Bool.and_self, Bool.false_or, hB1.cell, hB2.cell, hB1.cell, hB2.cell] <;> rfl)) (fun hg9_49 => by simp only [EN, Nat.reduceEqDiff, reduceIte, qv_move, decide_true, Bool.not_true, Bool.not_false, decide_false, eq_self, if_true, if_false, Bool.or_true, Bool.and_true, Bool.or_false, Bool.and_self, Bool.false_or, hB1.cell, hB2.cell, hB1.cell, hB2.cell, hg9_49, GR]; rfl) ?_
    refine WL.cck (gd_at (t := 87) rfl (by simp only [EN, Nat.reduceEqDiff, reduceIte, decide_true, Bool.not_true, Bool.not_false, decide_false, eq_self, if_true, if_false, Bool.or_true, Bool.and_true, Bool.or_false, Bool.and_self, Bool.false_or, hB1.cell, hB2.cell, hB1.cell, hB2.cell] <;> rfl)) Try.call20 (fun hg9_50 => by simp only [EN, Nat.reduceEqDiff, reduceIte, AR, decide_true, Bool.not_true, Bool.not_false, decide_false, eq_self, if_true, if_false, Bool.or_true, Bool.and_true, Bool.or_false, Bool.and_self, Bool.false_or, hB1.cell, hB2.cell, hB1.cell, hB2.cell, hg9_50, GR]; exact n_len _) ?_
    refine WL.cq (gd_at (t := 87) rfl (by simp only [EN, Nat.reduceEqDiff, reduceIte, decide_true, Bool.not_true, Bool.not_false, decide_false, eq_self, if_true, if_false, Bool.or_true, Bool.and_true, Bool.or_false, Bool.and_self, Bool.false_or, hB1.cell, hB2.cell, hB1.cell, hB2.cell] <;> rfl)) (fun hg9_51 => by simp only [EN, Nat.reduceEqDiff, reduceIte, qv_binOp, binv_neq, eq3, Option.map_some, decide_true, Bool.not_true, Bool.not_false, decide_false, eq_self, if_true, if_false, Bool.or_true, Bool.and_true, Bool.or_false, Bool.and_self, Bool.false_or, hB1.cell, hB2.cell, hB1.cell, hB2.cell, hg9_51, GR]; rfl) ?_
    refine WL.qq (by simp only [EN, Nat.reduceEqDiff, reduceIte, qv_pick, pk_and, pk_or, GR, decide_true, Bool.not_true, Bool.not_false, decide_false, eq_self, if_true, if_false, Bool.or_true, Bool.and_true, Bool.or_false, Bool.and_self, Bool.false_or, hB1.cell, hB2.cell, hB1.cell, hB2.cell]; rfl) ?_
    refine WL.qq (by simp only [EN, Nat.reduceEqDiff, reduceIte, qv_move, decide_true, Bool.not_true, Bool.not_false, decide_false, eq_self, if_true, if_false, Bool.or_true, Bool.and_true, Bool.or_false, Bool.and_self, Bool.false_or, hB1.cell, hB2.cell, hB1.cell, hB2.cell]; rfl) ?_
    refine WL.cq (gd_at (t := 92) rfl (by simp only [EN, Nat.reduceEqDiff, reduceIte, decide_true, Bool.not_true, Bool.not_false, decide_false, eq_self, if_true, if_false, Bool.or_true, Bool.and_true, Bool.or_false, Bool.and_self, Bool.false_or, hB1.cell, hB2.cell, hB1.cell, hB2.cell] <;> rfl)) (fun hg9_54 => by simp only [EN, Nat.reduceEqDiff, reduceIte, qv_move, decide_true, Bool.not_true, Bool.not_false, decide_false, eq_self, if_true, if_false, Bool.or_true, Bool.and_true, Bool.or_false, Bool.and_self, Bool.false_or, hB1.cell, hB2.cell, hB1.cell, hB2.cell, hg9_54, GR]; rfl) ?_
    refine WL.cck (gd_at (t := 92) rfl (by simp only [EN, Nat.reduceEqDiff, reduceIte, decide_true, Bool.not_true, Bool.not_false, decide_false, eq_self, if_true, if_false, Bool.or_true, Bool.and_true, Bool.or_false, Bool.and_self, Bool.false_or, hB1.cell, hB2.cell, hB1.cell, hB2.cell] <;> rfl)) Try.call24 (fun hg9_55 => by simp only [EN, Nat.reduceEqDiff, reduceIte, AR, decide_true, Bool.not_true, Bool.not_false, decide_false, eq_self, if_true, if_false, Bool.or_true, Bool.and_true, Bool.or_false, Bool.and_self, Bool.false_or, hB1.cell, hB2.cell, hB1.cell, hB2.cell, hg9_55, GR]; exact n_seq _) ?_
    refine WL.cq (gd_at (t := 92) rfl (by simp only [EN, Nat.reduceEqDiff, reduceIte, decide_true, Bool.not_true, Bool.not_false, decide_false, eq_self, if_true, if_false, Bool.or_true, Bool.and_true, Bool.or_false, Bool.and_self, Bool.false_or, hB1.cell, hB2.cell, hB1.cell, hB2.cell] <;> rfl)) (fun hg9_56 => by simp only [EN, Nat.reduceEqDiff, reduceIte, qv_binOp, binv_neq, eq3, Option.map_some, decide_true, Bool.not_true, Bool.not_false, decide_false, eq_self, if_true, if_false, Bool.or_true, Bool.and_true, Bool.or_false, Bool.and_self, Bool.false_or, hB1.cell, hB2.cell, hB1.cell, hB2.cell, hg9_56, GR]; rfl) ?_
    refine WL.qq (by simp only [EN, Nat.reduceEqDiff, reduceIte, qv_pick, pk_and, pk_or, GR, decide_true, Bool.not_true, Bool.not_false, decide_false, eq_self, if_true, if_false, Bool.or_true, Bool.and_true, Bool.or_false, Bool.and_self, Bool.false_or, hB1.cell, hB2.cell, hB1.cell, hB2.cell]; rfl) ?_
    refine WL.qq (by simp only [EN, Nat.reduceEqDiff, reduceIte, qv_move, decide_true, Bool.not_true, Bool.not_false, decide_false, eq_self, if_true, if_false, Bool.or_true, Bool.and_true, Bool.or_false, Bool.and_self, Bool.false_or, hB1.cell, hB2.cell, hB1.cell, hB2.cell]; rfl) ?_
    refine WL.cq (gd_at (t := 97) rfl (by simp only [EN, Nat.reduceEqDiff, reduceIte, decide_true, Bool.not_true, Bool.not_false, decide_false, eq_self, if_true, if_false, Bool.or_true, Bool.and_true, Bool.or_false, Bool.and_self, Bool.false_or, hB1.cell, hB2.cell, hB1.cell, hB2.cell] <;> rfl)) (fun hg9_59 => by simp only [EN, Nat.reduceEqDiff, reduceIte, qv_move, decide_true, Bool.not_true, Bool.not_false, decide_false, eq_self, if_true, if_false, Bool.or_true, Bool.and_true, Bool.or_false, Bool.and_self, Bool.false_or, hB1.cell, hB2.cell, hB1.cell, hB2.cell, hg9_59, GR]; rfl) ?_
    refine WL.cck (gd_at (t := 97) rfl (by simp only [EN, Nat.reduceEqDiff, reduceIte, decide_true, Bool.not_true, Bool.not_false, decide_false, eq_self, if_true, if_false, Bool.or_true, Bool.and_true, Bool.or_false, Bool.and_self, Bool.false_or, hB1.cell, hB2.cell, hB1.cell, hB2.cell] <;> rfl)) Try.call17 (fun hg9_60 => by simp only [EN, Nat.reduceEqDiff, reduceIte, AR, decide_true, Bool.not_true, Bool.not_false, decide_false, eq_self, if_true, if_false, Bool.or_true, Bool.and_true, Bool.or_false, Bool.and_self, Bool.false_or, hB1.cell, hB2.cell, hB1.cell, hB2.cell, hg9_60, GR]; exact n_clone _) ?_
    refine WL.cq (gd_at (t := 97) rfl (by simp only [EN, Nat.reduceEqDiff, reduceIte, decide_true, Bool.not_true, Bool.not_false, decide_false, eq_self, if_true, if_false, Bool.or_true, Bool.and_true, Bool.or_false, Bool.and_self, Bool.false_or, hB1.cell, hB2.cell, hB1.cell, hB2.cell] <;> rfl)) (fun hg9_61 => by simp only [EN, Nat.reduceEqDiff, reduceIte, qv_binOp, binv_neq, eqz25, eqn25, eqm25, Option.map_some, decide_true, Bool.not_true, Bool.not_false, decide_false, eq_self, if_true, if_false, Bool.or_true, Bool.and_true, Bool.or_false, Bool.and_self, Bool.false_or, hB1.cell, hB2.cell, hB1.cell, hB2.cell, hg9_61, GR]; rfl) ?_
    refine WL.qq (by simp only [EN, Nat.reduceEqDiff, reduceIte, qv_pick, pk_and, pk_or, GR, decide_true, Bool.not_true, Bool.not_false, decide_false, eq_self, if_true, if_false, Bool.or_true, Bool.and_true, Bool.or_false, Bool.and_self, Bool.false_or, hB1.cell, hB2.cell, hB1.cell, hB2.cell]; rfl) ?_
    refine WL.qq (by simp only [EN, Nat.reduceEqDiff, reduceIte, qv_move, decide_true, Bool.not_true, Bool.not_false, decide_false, eq_self, if_true, if_false, Bool.or_true, Bool.and_true, Bool.or_false, Bool.and_self, Bool.false_or, hB1.cell, hB2.cell, hB1.cell, hB2.cell]; rfl) ?_
    refine WL.cq (gd_at (t := 102) rfl (by simp only [EN, Nat.reduceEqDiff, reduceIte, decide_true, Bool.not_true, Bool.not_false, decide_false, eq_self, if_true, if_false, Bool.or_true, Bool.and_true, Bool.or_false, Bool.and_self, Bool.false_or, hB1.cell, hB2.cell, hB1.cell, hB2.cell] <;> rfl)) (fun hg9_64 => by simp only [EN, Nat.reduceEqDiff, reduceIte, qv_move, decide_true, Bool.not_true, Bool.not_false, decide_false, eq_self, if_true, if_false, Bool.or_true, Bool.and_true, Bool.or_false, Bool.and_self, Bool.false_or, hB1.cell, hB2.cell, hB1.cell, hB2.cell, hg9_64, GR]; rfl) ?_
    refine WL.cck (gd_at (t := 102) rfl (by simp only [EN, Nat.reduceEqDiff, reduceIte, decide_true, Bool.not_true, Bool.not_false, decide_false, eq_self, if_true, if_false, Bool.or_true, Bool.and_true, Bool.or_false, Bool.and_self, Bool.false_or, hB1.cell, hB2.cell, hB1.cell, hB2.cell] <;> rfl)) Try.call29 (fun hg9_65 => by simp only [EN, Nat.reduceEqDiff, reduceIte, AR, decide_true, Bool.not_true, Bool.not_false, decide_false, eq_self, if_true, if_false, Bool.or_true, Bool.and_true, Bool.or_false, Bool.and_self, Bool.false_or, hB1.cell, hB2.cell, hB1.cell, hB2.cell, hg9_65, GR]; exact n_begin _) ?_
    refine WL.cq (gd_at (t := 102) rfl (by simp only [EN, Nat.reduceEqDiff, reduceIte, decide_true, Bool.not_true, Bool.not_false, decide_false, eq_self, if_true, if_false, Bool.or_true, Bool.and_true, Bool.or_false, Bool.and_self, Bool.false_or, hB1.cell, hB2.cell, hB1.cell, hB2.cell] <;> rfl)) (fun hg9_66 => by simp only [EN, Nat.reduceEqDiff, reduceIte, qv_binOp, binv_neq, eqz58, eqn58, eqm58, Option.map_some, decide_true, Bool.not_true, Bool.not_false, decide_false, eq_self, if_true, if_false, Bool.or_true, Bool.and_true, Bool.or_false, Bool.and_self, Bool.false_or, hB1.cell, hB2.cell, hB1.cell, hB2.cell, hg9_66, GR]; rfl) ?_
    refine WL.qq (by simp only [EN, Nat.reduceEqDiff, reduceIte, qv_pick, pk_and, pk_or, GR, decide_true, Bool.not_true, Bool.not_false, decide_false, eq_self, if_true, if_false, Bool.or_true, Bool.and_true, Bool.or_false, Bool.and_self, Bool.false_or, hB1.cell, hB2.cell, hB1.cell, hB2.cell]; rfl) ?_
    refine WL.qq (by simp only [EN, Nat.reduceEqDiff, reduceIte, qv_move, decide_true, Bool.not_true, Bool.not_false, decide_false, eq_self, if_true, if_false, Bool.or_true, Bool.and_true, Bool.or_false, Bool.and_self, Bool.false_or, hB1.cell, hB2.cell, hB1.cell, hB2.cell]; rfl) ?_
    refine WL.cq (gd_at (t := 107) rfl (by simp only [EN, Nat.reduceEqDiff, reduceIte, decide_true, Bool.not_true, Bool.not_false, decide_false, eq_self, if_true, if_false, Bool.or_true, Bool.and_true, Bool.or_false, Bool.and_self, Bool.false_or, hB1.cell, hB2.cell, hB1.cell, hB2.cell] <;> rfl)) (fun hg9_69 => by simp only [EN, Nat.reduceEqDiff, reduceIte, qv_move, decide_true, Bool.not_true, Bool.not_false, decide_false, eq_self, if_true, if_false, Bool.or_true, Bool.and_true, Bool.or_false, Bool.and_self, Bool.false_or, hB1.cell, hB2.cell, hB1.cell, hB2.cell, hg9_69, GR]; rfl) ?_
    refine WL.cck (gd_at (t := 107) rfl (by simp only [EN, Nat.reduceEqDiff, reduceIte, decide_true, Bool.not_true, Bool.not_false, decide_false, eq_self, if_true, if_false, Bool.or_true, Bool.and_true, Bool.or_false, Bool.and_self, Bool.false_or, hB1.cell, hB2.cell, hB1.cell, hB2.cell] <;> rfl)) Try.call23 (fun hg9_70 => by simp only [EN, Nat.reduceEqDiff, reduceIte, AR, decide_true, Bool.not_true, Bool.not_false, decide_false, eq_self, if_true, if_false, Bool.or_true, Bool.and_true, Bool.or_false, Bool.and_self, Bool.false_or, hB1.cell, hB2.cell, hB1.cell, hB2.cell, hg9_70, GR]; exact n_equal _) ?_
    refine WL.cq (gd_at (t := 107) rfl (by simp only [EN, Nat.reduceEqDiff, reduceIte, decide_true, Bool.not_true, Bool.not_false, decide_false, eq_self, if_true, if_false, Bool.or_true, Bool.and_true, Bool.or_false, Bool.and_self, Bool.false_or, hB1.cell, hB2.cell, hB1.cell, hB2.cell] <;> rfl)) (fun hg9_71 => by simp only [EN, Nat.reduceEqDiff, reduceIte, qv_unOp, unv_not, decide_true, Bool.not_true, Bool.not_false, decide_false, eq_self, if_true, if_false, Bool.or_true, Bool.and_true, Bool.or_false, Bool.and_self, Bool.false_or, hB1.cell, hB2.cell, hB1.cell, hB2.cell, hg9_71, GR]; rfl) ?_
    refine WL.qq (by simp only [EN, Nat.reduceEqDiff, reduceIte, qv_pick, pk_and, pk_or, GR, decide_true, Bool.not_true, Bool.not_false, decide_false, eq_self, if_true, if_false, Bool.or_true, Bool.and_true, Bool.or_false, Bool.and_self, Bool.false_or, hB1.cell, hB2.cell, hB1.cell, hB2.cell]; rfl) ?_
    refine WL.nil ?_
    refine th_norm ?_
    refine hx_cond (by simp only [EN, Nat.reduceEqDiff, reduceIte, e0, e1, e2, e3, decide_true, Bool.not_true, Bool.not_false, decide_false, eq_self, if_true, if_false, Bool.or_true, Bool.and_true, Bool.or_false, Bool.and_self, Bool.false_or, hB1.cell, hB2.cell, hB1.cell, hB2.cell]; rfl) (fun hct111 => ?_) (fun hct111 => ?_)
    ·
      simp at hct111
    ·
      try simp only [BD] at hct111
      refine hx_skip ?_
      refine th_norm ?_
      refine hx_seq ?_
      refine hx_seq ?_
      refine hx_region ?_
      refine WL.qq (by simp only [EN, Nat.reduceEqDiff, reduceIte, qv_move, decide_true, Bool.not_true, Bool.not_false, decide_false, eq_self, if_true, if_false, Bool.or_true, Bool.and_true, Bool.or_false, Bool.and_self, Bool.false_or, hB1.cell, hB2.cell, hB1.cell, hB2.cell]; rfl) ?_
      refine WL.qq (by simp only [EN, Nat.reduceEqDiff, reduceIte, qv_move, e1, decide_true, Bool.not_true, Bool.not_false, decide_false, eq_self, if_true, if_false, Bool.or_true, Bool.and_true, Bool.or_false, Bool.and_self, Bool.false_or, hB1.cell, hB2.cell, hB1.cell, hB2.cell]; rfl) ?_
      refine WL.ce Try.call19 (by simp only [EN, Nat.reduceEqDiff, reduceIte, AR, decide_true, Bool.not_true, Bool.not_false, decide_false, eq_self, if_true, if_false, Bool.or_true, Bool.and_true, Bool.or_false, Bool.and_self, Bool.false_or, hB1.cell, hB2.cell, hB1.cell, hB2.cell]; exact c_entries am m cm (by omega) hm) ?_
      rintro _ h13 ⟨hx13, -⟩
      replace hB1 := hB1.ext hx13
      replace hB2 := hB2.ext hx13
      replace hd := hd.ext hx13
      replace hE := hE.ext hx13
      replace hm := hm.ext hx13
      simp only [put_some]
      refine WL.ck Try.call30 (by simp only [EN, Nat.reduceEqDiff, reduceIte, AR, decide_true, Bool.not_true, Bool.not_false, decide_false, eq_self, if_true, if_false, Bool.or_true, Bool.and_true, Bool.or_false, Bool.and_self, Bool.false_or, hB1.cell, hB2.cell, hB1.cell, hB2.cell]; exact n_add _ _) ?_
      refine WL.qq (by simp only [EN, Nat.reduceEqDiff, reduceIte, qv_binOp, binv_neq, eq45, Option.map_some, decide_true, Bool.not_true, Bool.not_false, decide_false, eq_self, if_true, if_false, Bool.or_true, Bool.and_true, Bool.or_false, Bool.and_self, Bool.false_or, hB1.cell, hB2.cell, hB1.cell, hB2.cell]; rfl) ?_
      refine WL.qq (by simp only [EN, Nat.reduceEqDiff, reduceIte, qv_move, decide_true, Bool.not_true, Bool.not_false, decide_false, eq_self, if_true, if_false, Bool.or_true, Bool.and_true, Bool.or_false, Bool.and_self, Bool.false_or, hB1.cell, hB2.cell, hB1.cell, hB2.cell]; rfl) ?_
      refine WL.cq (gd_at (t := 117) rfl (by simp only [EN, Nat.reduceEqDiff, reduceIte, decide_true, Bool.not_true, Bool.not_false, decide_false, eq_self, if_true, if_false, Bool.or_true, Bool.and_true, Bool.or_false, Bool.and_self, Bool.false_or, hB1.cell, hB2.cell, hB1.cell, hB2.cell] <;> rfl)) (fun hg11_6 => by simp only [EN, Nat.reduceEqDiff, reduceIte, qv_move, decide_true, Bool.not_true, Bool.not_false, decide_false, eq_self, if_true, if_false, Bool.or_true, Bool.and_true, Bool.or_false, Bool.and_self, Bool.false_or, hB1.cell, hB2.cell, hB1.cell, hB2.cell, hg11_6, GR]; rfl) ?_
      refine WL.ccg (gd_at (t := 117) rfl (by simp only [EN, Nat.reduceEqDiff, reduceIte, decide_true, Bool.not_true, Bool.not_false, decide_false, eq_self, if_true, if_false, Bool.or_true, Bool.and_true, Bool.or_false, Bool.and_self, Bool.false_or, hB1.cell, hB2.cell, hB1.cell, hB2.cell] <;> rfl)) Try.call31 (fun hg11_7 => by simp only [EN, Nat.reduceEqDiff, reduceIte, AR, decide_true, Bool.not_true, Bool.not_false, decide_false, eq_self, if_true, if_false, Bool.or_true, Bool.and_true, Bool.or_false, Bool.and_self, Bool.false_or, hB1.cell, hB2.cell, hB1.cell, hB2.cell, hg11_7, GR]; exact n_commit _) ?_
      intro h14 hx14
      replace hB1 := hB1.ext hx14
      replace hB2 := hB2.ext hx14
      replace hd := hd.ext hx14
      replace hE := hE.ext hx14
      replace hm := hm.ext hx14
      refine WL.cq (gd_at (t := 117) rfl (by simp only [EN, Nat.reduceEqDiff, reduceIte, decide_true, Bool.not_true, Bool.not_false, decide_false, eq_self, if_true, if_false, Bool.or_true, Bool.and_true, Bool.or_false, Bool.and_self, Bool.false_or, hB1.cell, hB2.cell, hB1.cell, hB2.cell] <;> rfl)) (fun hg11_8 => by simp only [EN, Nat.reduceEqDiff, reduceIte, qv_binOp, binv_neq, eq45, Option.map_some, decide_true, Bool.not_true, Bool.not_false, decide_false, eq_self, if_true, if_false, Bool.or_true, Bool.and_true, Bool.or_false, Bool.and_self, Bool.false_or, hB1.cell, hB2.cell, hB1.cell, hB2.cell, hg11_8, GR]; rfl) ?_
      refine WL.qq (by simp only [EN, Nat.reduceEqDiff, reduceIte, qv_pick, pk_and, pk_or, GR, decide_true, Bool.not_true, Bool.not_false, decide_false, eq_self, if_true, if_false, Bool.or_true, Bool.and_true, Bool.or_false, Bool.and_self, Bool.false_or, hB1.cell, hB2.cell, hB1.cell, hB2.cell]; rfl) ?_
      refine WL.qq (by simp only [EN, Nat.reduceEqDiff, reduceIte, qv_move, decide_true, Bool.not_true, Bool.not_false, decide_false, eq_self, if_true, if_false, Bool.or_true, Bool.and_true, Bool.or_false, Bool.and_self, Bool.false_or, hB1.cell, hB2.cell, hB1.cell, hB2.cell]; rfl) ?_
      refine WL.cq (gd_at (t := 122) rfl (by simp only [EN, Nat.reduceEqDiff, reduceIte, decide_true, Bool.not_true, Bool.not_false, decide_false, eq_self, if_true, if_false, Bool.or_true, Bool.and_true, Bool.or_false, Bool.and_self, Bool.false_or, hB1.cell, hB2.cell, hB1.cell, hB2.cell] <;> rfl)) (fun hg11_11 => by simp only [EN, Nat.reduceEqDiff, reduceIte, qv_move, decide_true, Bool.not_true, Bool.not_false, decide_false, eq_self, if_true, if_false, Bool.or_true, Bool.and_true, Bool.or_false, Bool.and_self, Bool.false_or, hB1.cell, hB2.cell, hB1.cell, hB2.cell, hg11_11, GR]; rfl) ?_
      refine WL.cck (gd_at (t := 122) rfl (by simp only [EN, Nat.reduceEqDiff, reduceIte, decide_true, Bool.not_true, Bool.not_false, decide_false, eq_self, if_true, if_false, Bool.or_true, Bool.and_true, Bool.or_false, Bool.and_self, Bool.false_or, hB1.cell, hB2.cell, hB1.cell, hB2.cell] <;> rfl)) Try.call32 (fun hg11_12 => by simp only [EN, Nat.reduceEqDiff, reduceIte, AR, decide_true, Bool.not_true, Bool.not_false, decide_false, eq_self, if_true, if_false, Bool.or_true, Bool.and_true, Bool.or_false, Bool.and_self, Bool.false_or, hB1.cell, hB2.cell, hB1.cell, hB2.cell, hg11_12, GR]; exact n_rollTo _ _) ?_
      refine WL.cq (gd_at (t := 122) rfl (by simp only [EN, Nat.reduceEqDiff, reduceIte, decide_true, Bool.not_true, Bool.not_false, decide_false, eq_self, if_true, if_false, Bool.or_true, Bool.and_true, Bool.or_false, Bool.and_self, Bool.false_or, hB1.cell, hB2.cell, hB1.cell, hB2.cell] <;> rfl)) (fun hg11_13 => by simp only [EN, Nat.reduceEqDiff, reduceIte, qv_binOp, binv_neq, eq45, Option.map_some, decide_true, Bool.not_true, Bool.not_false, decide_false, eq_self, if_true, if_false, Bool.or_true, Bool.and_true, Bool.or_false, Bool.and_self, Bool.false_or, hB1.cell, hB2.cell, hB1.cell, hB2.cell, hg11_13, GR]; rfl) ?_
      refine WL.qq (by simp only [EN, Nat.reduceEqDiff, reduceIte, qv_pick, pk_and, pk_or, GR, decide_true, Bool.not_true, Bool.not_false, decide_false, eq_self, if_true, if_false, Bool.or_true, Bool.and_true, Bool.or_false, Bool.and_self, Bool.false_or, hB1.cell, hB2.cell, hB1.cell, hB2.cell]; rfl) ?_
      refine WL.qq (by simp only [EN, Nat.reduceEqDiff, reduceIte, qv_move, decide_true, Bool.not_true, Bool.not_false, decide_false, eq_self, if_true, if_false, Bool.or_true, Bool.and_true, Bool.or_false, Bool.and_self, Bool.false_or, hB1.cell, hB2.cell, hB1.cell, hB2.cell]; rfl) ?_
      refine WL.cq (gd_at (t := 127) rfl (by simp only [EN, Nat.reduceEqDiff, reduceIte, decide_true, Bool.not_true, Bool.not_false, decide_false, eq_self, if_true, if_false, Bool.or_true, Bool.and_true, Bool.or_false, Bool.and_self, Bool.false_or, hB1.cell, hB2.cell, hB1.cell, hB2.cell] <;> rfl)) (fun hg11_16 => by simp only [EN, Nat.reduceEqDiff, reduceIte, qv_move, decide_true, Bool.not_true, Bool.not_false, decide_false, eq_self, if_true, if_false, Bool.or_true, Bool.and_true, Bool.or_false, Bool.and_self, Bool.false_or, hB1.cell, hB2.cell, hB1.cell, hB2.cell, hg11_16, GR]; rfl) ?_
      refine WL.cck (gd_at (t := 127) rfl (by simp only [EN, Nat.reduceEqDiff, reduceIte, decide_true, Bool.not_true, Bool.not_false, decide_false, eq_self, if_true, if_false, Bool.or_true, Bool.and_true, Bool.or_false, Bool.and_self, Bool.false_or, hB1.cell, hB2.cell, hB1.cell, hB2.cell] <;> rfl)) Try.call33 (fun hg11_17 => by simp only [EN, Nat.reduceEqDiff, reduceIte, AR, decide_true, Bool.not_true, Bool.not_false, decide_false, eq_self, if_true, if_false, Bool.or_true, Bool.and_true, Bool.or_false, Bool.and_self, Bool.false_or, hB1.cell, hB2.cell, hB1.cell, hB2.cell, hg11_17, GR]; exact n_save _) ?_
      refine WL.cq (gd_at (t := 127) rfl (by simp only [EN, Nat.reduceEqDiff, reduceIte, decide_true, Bool.not_true, Bool.not_false, decide_false, eq_self, if_true, if_false, Bool.or_true, Bool.and_true, Bool.or_false, Bool.and_self, Bool.false_or, hB1.cell, hB2.cell, hB1.cell, hB2.cell] <;> rfl)) (fun hg11_18 => by simp only [EN, Nat.reduceEqDiff, reduceIte, qv_binOp, binv_neq, eq3, Option.map_some, decide_true, Bool.not_true, Bool.not_false, decide_false, eq_self, if_true, if_false, Bool.or_true, Bool.and_true, Bool.or_false, Bool.and_self, Bool.false_or, hB1.cell, hB2.cell, hB1.cell, hB2.cell, hg11_18, GR]; rfl) ?_
      refine WL.qq (by simp only [EN, Nat.reduceEqDiff, reduceIte, qv_pick, pk_and, pk_or, GR, decide_true, Bool.not_true, Bool.not_false, decide_false, eq_self, if_true, if_false, Bool.or_true, Bool.and_true, Bool.or_false, Bool.and_self, Bool.false_or, hB1.cell, hB2.cell, hB1.cell, hB2.cell]; rfl) ?_
      refine WL.qq (by simp only [EN, Nat.reduceEqDiff, reduceIte, qv_move, decide_true, Bool.not_true, Bool.not_false, decide_false, eq_self, if_true, if_false, Bool.or_true, Bool.and_true, Bool.or_false, Bool.and_self, Bool.false_or, hB1.cell, hB2.cell, hB1.cell, hB2.cell]; rfl) ?_
      refine WL.cq (gd_at (t := 132) rfl (by simp only [EN, Nat.reduceEqDiff, reduceIte, decide_true, Bool.not_true, Bool.not_false, decide_false, eq_self, if_true, if_false, Bool.or_true, Bool.and_true, Bool.or_false, Bool.and_self, Bool.false_or, hB1.cell, hB2.cell, hB1.cell, hB2.cell] <;> rfl)) (fun hg11_21 => by simp only [EN, Nat.reduceEqDiff, reduceIte, qv_move, decide_true, Bool.not_true, Bool.not_false, decide_false, eq_self, if_true, if_false, Bool.or_true, Bool.and_true, Bool.or_false, Bool.and_self, Bool.false_or, hB1.cell, hB2.cell, hB1.cell, hB2.cell, hg11_21, GR]; rfl) ?_
      refine WL.cq (gd_at (t := 132) rfl (by simp only [EN, Nat.reduceEqDiff, reduceIte, decide_true, Bool.not_true, Bool.not_false, decide_false, eq_self, if_true, if_false, Bool.or_true, Bool.and_true, Bool.or_false, Bool.and_self, Bool.false_or, hB1.cell, hB2.cell, hB1.cell, hB2.cell] <;> rfl)) (fun hg11_22 => by simp only [EN, Nat.reduceEqDiff, reduceIte, qv_load, ld34, readN, AR, Nat.zero_add, Nat.reduceAdd, decide_true, Bool.not_true, Bool.not_false, decide_false, eq_self, if_true, if_false, Bool.or_true, Bool.and_true, Bool.or_false, Bool.and_self, Bool.false_or, hB1.cell, hB2.cell, hB1.cell, hB2.cell, hg11_22, GR]; rfl) ?_
      refine WL.ccg (gd_at (t := 132) rfl (by simp only [EN, Nat.reduceEqDiff, reduceIte, decide_true, Bool.not_true, Bool.not_false, decide_false, eq_self, if_true, if_false, Bool.or_true, Bool.and_true, Bool.or_false, Bool.and_self, Bool.false_or, hB1.cell, hB2.cell, hB1.cell, hB2.cell] <;> rfl)) Try.call36 (fun hg11_23 => by simp only [EN, Nat.reduceEqDiff, reduceIte, AR, decide_true, Bool.not_true, Bool.not_false, decide_false, eq_self, if_true, if_false, Bool.or_true, Bool.and_true, Bool.or_false, Bool.and_self, Bool.false_or, hB1.cell, hB2.cell, hB1.cell, hB2.cell, hg11_23, GR]; exact n_bbal _ _) ?_
      intro h15 hx15
      replace hB1 := hB1.ext hx15
      replace hB2 := hB2.ext hx15
      replace hd := hd.ext hx15
      replace hE := hE.ext hx15
      replace hm := hm.ext hx15
      refine WL.cq (gd_at (t := 132) rfl (by simp only [EN, Nat.reduceEqDiff, reduceIte, decide_true, Bool.not_true, Bool.not_false, decide_false, eq_self, if_true, if_false, Bool.or_true, Bool.and_true, Bool.or_false, Bool.and_self, Bool.false_or, hB1.cell, hB2.cell, hB1.cell, hB2.cell] <;> rfl)) (fun hg11_24 => by simp only [EN, Nat.reduceEqDiff, reduceIte, qv_binOp, binv_neq, eq2, Option.map_some, decide_true, Bool.not_true, Bool.not_false, decide_false, eq_self, if_true, if_false, Bool.or_true, Bool.and_true, Bool.or_false, Bool.and_self, Bool.false_or, hB1.cell, hB2.cell, hB1.cell, hB2.cell, hg11_24, GR]; rfl) ?_
      refine WL.qq (by simp only [EN, Nat.reduceEqDiff, reduceIte, qv_pick, pk_and, pk_or, GR, decide_true, Bool.not_true, Bool.not_false, decide_false, eq_self, if_true, if_false, Bool.or_true, Bool.and_true, Bool.or_false, Bool.and_self, Bool.false_or, hB1.cell, hB2.cell, hB1.cell, hB2.cell]; rfl) ?_
      refine WL.qq (by simp only [EN, Nat.reduceEqDiff, reduceIte, qv_move, decide_true, Bool.not_true, Bool.not_false, decide_false, eq_self, if_true, if_false, Bool.or_true, Bool.and_true, Bool.or_false, Bool.and_self, Bool.false_or, hB1.cell, hB2.cell, hB1.cell, hB2.cell]; rfl) ?_
      refine WL.cq (gd_at (t := 138) rfl (by simp only [EN, Nat.reduceEqDiff, reduceIte, decide_true, Bool.not_true, Bool.not_false, decide_false, eq_self, if_true, if_false, Bool.or_true, Bool.and_true, Bool.or_false, Bool.and_self, Bool.false_or, hB1.cell, hB2.cell, hB1.cell, hB2.cell] <;> rfl)) (fun hg11_27 => by simp only [EN, Nat.reduceEqDiff, reduceIte, qv_move, decide_true, Bool.not_true, Bool.not_false, decide_false, eq_self, if_true, if_false, Bool.or_true, Bool.and_true, Bool.or_false, Bool.and_self, Bool.false_or, hB1.cell, hB2.cell, hB1.cell, hB2.cell, hg11_27, GR]; rfl) ?_
      refine WL.cck (gd_at (t := 138) rfl (by simp only [EN, Nat.reduceEqDiff, reduceIte, decide_true, Bool.not_true, Bool.not_false, decide_false, eq_self, if_true, if_false, Bool.or_true, Bool.and_true, Bool.or_false, Bool.and_self, Bool.false_or, hB1.cell, hB2.cell, hB1.cell, hB2.cell] <;> rfl)) Try.call35 (fun hg11_28 => by simp only [EN, Nat.reduceEqDiff, reduceIte, AR, decide_true, Bool.not_true, Bool.not_false, decide_false, eq_self, if_true, if_false, Bool.or_true, Bool.and_true, Bool.or_false, Bool.and_self, Bool.false_or, hB1.cell, hB2.cell, hB1.cell, hB2.cell, hg11_28, GR]; exact n_ents _) ?_
      refine WL.cq (gd_at (t := 138) rfl (by simp only [EN, Nat.reduceEqDiff, reduceIte, decide_true, Bool.not_true, Bool.not_false, decide_false, eq_self, if_true, if_false, Bool.or_true, Bool.and_true, Bool.or_false, Bool.and_self, Bool.false_or, hB1.cell, hB2.cell, hB1.cell, hB2.cell] <;> rfl)) (fun hg11_29 => by simp only [EN, Nat.reduceEqDiff, reduceIte, qv_len, ln47, AR, decide_true, Bool.not_true, Bool.not_false, decide_false, eq_self, if_true, if_false, Bool.or_true, Bool.and_true, Bool.or_false, Bool.and_self, Bool.false_or, hB1.cell, hB2.cell, hB1.cell, hB2.cell, hg11_29, GR]; rfl) ?_
      refine WL.cq (gd_at (t := 138) rfl (by simp only [EN, Nat.reduceEqDiff, reduceIte, decide_true, Bool.not_true, Bool.not_false, decide_false, eq_self, if_true, if_false, Bool.or_true, Bool.and_true, Bool.or_false, Bool.and_self, Bool.false_or, hB1.cell, hB2.cell, hB1.cell, hB2.cell] <;> rfl)) (fun hg11_30 => by simp only [EN, Nat.reduceEqDiff, reduceIte, qv_binOp, binv_neq, eq3, Option.map_some, decide_true, Bool.not_true, Bool.not_false, decide_false, eq_self, if_true, if_false, Bool.or_true, Bool.and_true, Bool.or_false, Bool.and_self, Bool.false_or, hB1.cell, hB2.cell, hB1.cell, hB2.cell, hg11_30, GR]; rfl) ?_
      refine WL.qq (by simp only [EN, Nat.reduceEqDiff, reduceIte, qv_pick, pk_and, pk_or, GR, decide_true, Bool.not_true, Bool.not_false, decide_false, eq_self, if_true, if_false, Bool.or_true, Bool.and_true, Bool.or_false, Bool.and_self, Bool.false_or, hB1.cell, hB2.cell, hB1.cell, hB2.cell]; rfl) ?_
      refine WL.nil ?_
      refine th_norm ?_
      refine hx_cond (by simp only [EN, Nat.reduceEqDiff, reduceIte, e0, e1, e2, e3, decide_true, Bool.not_true, Bool.not_false, decide_false, eq_self, if_true, if_false, Bool.or_true, Bool.and_true, Bool.or_false, Bool.and_self, Bool.false_or, hB1.cell, hB2.cell, hB1.cell, hB2.cell]; rfl) (fun hct143 => ?_) (fun hct143 => ?_)
      ·
        simp at hct143
      ·
        try simp only [BD] at hct143
        refine hx_skip ?_
        refine th_norm ?_
        refine hx_seq ?_
        refine hx_region ?_
        refine WL.qq (by simp only [EN, Nat.reduceEqDiff, reduceIte, qv_move, e0, decide_true, Bool.not_true, Bool.not_false, decide_false, eq_self, if_true, if_false, Bool.or_true, Bool.and_true, Bool.or_false, Bool.and_self, Bool.false_or, hB1.cell, hB2.cell, hB1.cell, hB2.cell]; rfl) ?_
        refine WL.ce Try.call13 (by simp only [EN, Nat.reduceEqDiff, reduceIte, AR, decide_true, Bool.not_true, Bool.not_false, decide_false, eq_self, if_true, if_false, Bool.or_true, Bool.and_true, Bool.or_false, Bool.and_self, Bool.false_or, hB1.cell, hB2.cell, hB1.cell, hB2.cell]; exact hs ▸ c_made al l cl ok (kl.ext hE)) ?_
        rintro _ h40 ⟨hx40, p, bm, fm, vo, w, vk, vf, rfl, hbk, hrk, hfr⟩
        simp only [put_some]
        replace hfr := hfr.le hE.size
        obtain rfl := hrk.val
        replace hE := hE.ext hx40
        replace hB1 := hB1.ext hx40
        replace hB2 := hB2.ext hx40
        replace hd := hd.ext hx40
        refine WL.qq (by simp only [EN, Nat.reduceEqDiff, reduceIte, qv_move, decide_true, Bool.not_true, Bool.not_false, decide_false, eq_self, if_true, if_false, Bool.or_true, Bool.and_true, Bool.or_false, Bool.and_self, Bool.false_or, hB1.cell, hB2.cell, hB1.cell, hB2.cell]; rfl) ?_
        refine WL.qq (by simp only [EN, Nat.reduceEqDiff, reduceIte, qv_extract, AR, decide_true, Bool.not_true, Bool.not_false, decide_false, eq_self, if_true, if_false, Bool.or_true, Bool.and_true, Bool.or_false, Bool.and_self, Bool.false_or, hB1.cell, hB2.cell, hB1.cell, hB2.cell]; rfl) ?_
        refine WL.qq (by simp only [EN, Nat.reduceEqDiff, reduceIte, qv_extract, AR, decide_true, Bool.not_true, Bool.not_false, decide_false, eq_self, if_true, if_false, Bool.or_true, Bool.and_true, Bool.or_false, Bool.and_self, Bool.false_or, hB1.cell, hB2.cell, hB1.cell, hB2.cell]; rfl) ?_
        have hE40 := hE
        refine WL.alloc2 zr29 ?_
        intro h16 B16 hx16 hlt16 hB16
        replace hB1 := hB1.ext hx16
        replace hB2 := hB2.ext hx16
        replace hd := hd.ext hx16
        replace hbk := hbk.ext hx16
        replace hrk := hrk.ext hx16
        simp only [Value.cells] at hB16
        have hlt40 := hlt16; have hB40 := hB16; have hxa := hx16
        refine WL.qq (by simp only [EN, Nat.reduceEqDiff, reduceIte, qv_assign, decide_true, Bool.not_true, Bool.not_false, decide_false, eq_self, if_true, if_false, Bool.or_true, Bool.and_true, Bool.or_false, Bool.and_self, Bool.false_or, hB1.cell, hB2.cell, hB1.cell, hB2.cell, hB16.cell]; rfl) ?_
        refine WL.store (by simp only [EN, Nat.reduceEqDiff, reduceIte, e0, e1, e2, e3, decide_true, Bool.not_true, Bool.not_false, decide_false, eq_self, if_true, if_false, Bool.or_true, Bool.and_true, Bool.or_false, Bool.and_self, Bool.false_or, hB1.cell, hB2.cell, hB1.cell, hB2.cell, hB16.cell] <;> rfl) sz29 (by simp only [EN, Nat.reduceEqDiff, reduceIte, e0, e1, e2, e3, decide_true, Bool.not_true, Bool.not_false, decide_false, eq_self, if_true, if_false, Bool.or_true, Bool.and_true, Bool.or_false, Bool.and_self, Bool.false_or, hB1.cell, hB2.cell, hB1.cell, hB2.cell, hB16.cell, Value.cells]; rfl) rfl hB40 (by simp) (by have h8 := hrk.ks.one; have h9 := hrk.fs.one; intro u hu; simp at hu; rcases hu with rfl | rfl | rfl <;> first | exact h8 | exact h9 | rfl) ?_
        intro h41 hw41
        replace hE := hw41.ext (hE40.trans hxa) (Nat.le_trans hE40.size hlt40)
        have n2 : B2 ≠ B16 := hB2.ncell hB40 (by decide)
        have n1 : B1 ≠ B16 := hB1.ncell hB40 (by decide)
        replace hbk := hbk.st (.inr ⟨_, hw41⟩) hB40 (by decide) (by decide)
        replace hrk : IsRef h41 _ _ _ _ _ _ := ⟨hrk.val, hrk.ks.keep (fun c hc => hw41.same c fun hh => by subst hh; exact hrk.ks.ncell hB40 (by decide) hc), hrk.fs.keep (fun c hc => hw41.same c fun hh => by subst hh; exact hrk.fs.ncell hB40 (by decide) hc)⟩
        replace hB1 := hB1.wr hw41 n1
        replace hB2 := hB2.wr hw41 n2
        replace hd := hd.wr hw41 (fun hh => by have h9 := hd.un (hh ▸ hB40); cases h9)
        have hA := hw41.at_
        simp only [splc, List.take_zero, List.nil_append, List.drop_succ_cons, List.drop_zero, List.length_cons, List.length_nil, List.drop_nil, List.append_nil, Nat.zero_add, Nat.reduceAdd] at hA
        replace hm := km.ext hE
        refine WL.nil ?_
        refine th_norm ?_
        refine hx_seq ?_
        refine hx_seq ?_
        refine hx_region ?_
        refine WL.qq (by simp only [EN, Nat.reduceEqDiff, reduceIte, qv_move, decide_true, Bool.not_true, Bool.not_false, decide_false, eq_self, if_true, if_false, Bool.or_true, Bool.and_true, Bool.or_false, Bool.and_self, Bool.false_or, hB1.cell, hB2.cell, hB1.cell, hB2.cell, hB16.cell]; rfl) ?_
        refine WL.qq (by simp only [EN, Nat.reduceEqDiff, reduceIte, qv_binOp, binv_eql, eqz25, eqn25, eqm25, Option.map_some, decide_true, Bool.not_true, Bool.not_false, decide_false, eq_self, if_true, if_false, Bool.or_true, Bool.and_true, Bool.or_false, Bool.and_self, Bool.false_or, hB1.cell, hB2.cell, hB1.cell, hB2.cell, hB16.cell]; rfl) ?_
        refine WL.nil ?_
        refine th_norm ?_
        refine hx_cond (by simp only [EN, Nat.reduceEqDiff, reduceIte, e0, e1, e2, e3, decide_true, Bool.not_true, Bool.not_false, decide_false, eq_self, if_true, if_false, Bool.or_true, Bool.and_true, Bool.or_false, Bool.and_self, Bool.false_or, hB1.cell, hB2.cell, hB1.cell, hB2.cell, hB16.cell]; rfl) (fun hct150 => ?_) (fun hct150 => ?_)
        ·
          simp at hct150
        ·
          try simp only [BD] at hct150
          refine hx_skip ?_
          refine th_norm ?_
          refine hx_seq ?_
          refine hx_region ?_
          refine WL.qq (by simp only [EN, Nat.reduceEqDiff, reduceIte, qv_move, decide_true, Bool.not_true, Bool.not_false, decide_false, eq_self, if_true, if_false, Bool.or_true, Bool.and_true, Bool.or_false, Bool.and_self, Bool.false_or, hB1.cell, hB2.cell, hB1.cell, hB2.cell, hB16.cell]; rfl) ?_
          refine WL.ce Try.call17 (by simp only [EN, Nat.reduceEqDiff, reduceIte, AR, decide_true, Bool.not_true, Bool.not_false, decide_false, eq_self, if_true, if_false, Bool.or_true, Bool.and_true, Bool.or_false, Bool.and_self, Bool.false_or, hB1.cell, hB2.cell, hB1.cell, hB2.cell, hB16.cell]; exact c_bkClone (by omega) hbk) ?_
          rintro _ h42 ⟨hx42, p', bm', fm', vo', rfl, hck', hfc⟩
          simp only [put_some]
          have hdl := (Array.getElem?_eq_some_iff.1 hd).1
          have hcab : ∀ x ∈ foot p' bm' vo', h41.size ≤ x := (fun x hx => hfc.above x (foot_blks hx))
          have hblo := hbk.below
          have hab : ∀ x ∈ blks p bm fm vo, x ∉ foot p' bm' vo' := (fun x hx hf => by have h1 := hcab x hf; have h2 := hblo x hx; omega)
          have hab2 : ∀ x ∈ blks p bm fm vo, x ∉ [fm'] := (fun x hx hf => by simp at hf; have h1 := hfc.f; have h2 := hblo x hx; omega)
          have hf9 := hfc.f
          have hlo1 := (Array.getElem?_eq_some_iff.1 hB1).1
          have hlo2 := (Array.getElem?_eq_some_iff.1 hB2).1
          have hloA := (Array.getElem?_eq_some_iff.1 hA).1
          replace hfc := hfc.le hE.size
          replace hE := hE.ext hx42
          replace hB1 := hB1.ext hx42
          replace hB2 := hB2.ext hx42
          replace hd := hd.ext hx42
          replace hbk := hbk.ext hx42
          replace hrk := hrk.ext hx42
          replace hA := hA.ext hx42
          replace hm := km.ext hE
          refine WL.qq (by simp only [EN, Nat.reduceEqDiff, reduceIte, qv_assign, decide_true, Bool.not_true, Bool.not_false, decide_false, eq_self, if_true, if_false, Bool.or_true, Bool.and_true, Bool.or_false, Bool.and_self, Bool.false_or, hB1.cell, hB2.cell, hB1.cell, hB2.cell, hB16.cell]; rfl) ?_
          refine WL.nil ?_
          refine th_norm ?_
          refine hx_seq ?_
          refine hx_region ?_
          refine WL.qq (by simp only [EN, Nat.reduceEqDiff, reduceIte, qv_move, decide_true, Bool.not_true, Bool.not_false, decide_false, eq_self, if_true, if_false, Bool.or_true, Bool.and_true, Bool.or_false, Bool.and_self, Bool.false_or, hB1.cell, hB2.cell, hB1.cell, hB2.cell, hB16.cell]; rfl) ?_
          refine WL.qq (by simp only [EN, Nat.reduceEqDiff, reduceIte, qv_move, e1, decide_true, Bool.not_true, Bool.not_false, decide_false, eq_self, if_true, if_false, Bool.or_true, Bool.and_true, Bool.or_false, Bool.and_self, Bool.false_or, hB1.cell, hB2.cell, hB1.cell, hB2.cell, hB16.cell]; rfl) ?_
          refine WL.ce Try.call19 (by simp only [EN, Nat.reduceEqDiff, reduceIte, AR, decide_true, Bool.not_true, Bool.not_false, decide_false, eq_self, if_true, if_false, Bool.or_true, Bool.and_true, Bool.or_false, Bool.and_self, Bool.false_or, hB1.cell, hB2.cell, hB1.cell, hB2.cell, hB16.cell]; exact c_entries am m cm (by omega) hm) ?_
          rintro ve h43 ⟨hx43, hoe⟩
          simp only [put_some]
          obtain ⟨ae, ce, rfl, _, hse, _⟩ := Own.slG (f := entL) (sz := 3) (fun _ => rfl) hoe rfl
          replace hE := hE.ext hx43
          replace hB1 := hB1.ext hx43
          replace hB2 := hB2.ext hx43
          replace hd := hd.ext hx43
          replace hbk := hbk.ext hx43
          replace hck' := hck'.ext hx43
          replace hrk := hrk.ext hx43
          replace hA := hA.ext hx43
          refine WL.ce Try.call18 (by simp only [EN, Nat.reduceEqDiff, reduceIte, AR, decide_true, Bool.not_true, Bool.not_false, decide_false, eq_self, if_true, if_false, Bool.or_true, Bool.and_true, Bool.or_false, Bool.and_self, Bool.false_or, hB1.cell, hB2.cell, hB1.cell, hB2.cell, hB16.cell]; exact c_postF ae m ce (by omega) (by omega) (by omega) hg.val hum hck' (hoe.base (Nat.zero_le _)) hck hE hfc) ?_
          rintro _ h44 ⟨rfl, hE', hg44, vo2, hck2, hfc', _⟩
          simp only [put_some]
          replace hrk := hrk.gsP hck' hg44
          replace hbk := hbk.gsA hg44 hab
          replace hB1 := hB1.gs hg44 (fun hf => by have h1 := hcab _ hf; omega)
          replace hB2 := hB2.gs hg44 (fun hf => by have h1 := hcab _ hf; omega)
          replace hd := hd.gs hg44 (fun hf => by have h1 := hcab _ hf; omega)
          replace hA := hA.gs hg44 (fun hf => by have h1 := hcab _ hf; omega)
          replace hE := hE'
          refine WL.nil ?_
          refine th_norm ?_
          refine hx_seq ?_
          refine hx_region ?_
          refine WL.qq (by simp only [EN, Nat.reduceEqDiff, reduceIte, qv_move, decide_true, Bool.not_true, Bool.not_false, decide_false, eq_self, if_true, if_false, Bool.or_true, Bool.and_true, Bool.or_false, Bool.and_self, Bool.false_or, hB1.cell, hB2.cell, hB1.cell, hB2.cell, hB16.cell]; rfl) ?_
          refine WL.qq (by simp only [EN, Nat.reduceEqDiff, reduceIte, e0, e1, e2, e3, decide_true, Bool.not_true, Bool.not_false, decide_false, eq_self, if_true, if_false, Bool.or_true, Bool.and_true, Bool.or_false, Bool.and_self, Bool.false_or, hB1.cell, hB2.cell, hB1.cell, hB2.cell, hB16.cell, qv_load, ld34, readN, hB1.cell, AR, Nat.zero_add, Nat.reduceAdd]; rfl) ?_
          refine WL.qq (by simp only [EN, Nat.reduceEqDiff, reduceIte, qv_move, e3, decide_true, Bool.not_true, Bool.not_false, decide_false, eq_self, if_true, if_false, Bool.or_true, Bool.and_true, Bool.or_false, Bool.and_self, Bool.false_or, hB1.cell, hB2.cell, hB1.cell, hB2.cell, hB16.cell]; rfl) ?_
          refine WL.ce Try.call41 (by simp only [EN, Nat.reduceEqDiff, reduceIte, AR, decide_true, Bool.not_true, Bool.not_false, decide_false, eq_self, if_true, if_false, Bool.or_true, Bool.and_true, Bool.or_false, Bool.and_self, Bool.false_or, hB1.cell, hB2.cell, hB1.cell, hB2.cell, hB16.cell]; exact c_setF q fl hck2 rfl hE hfc') ?_
          rintro _ h45 ⟨rfl, hE', hg45, hck3⟩
          simp only [put_some]
          replace hrk := hrk.gsF hck2 hg45
          replace hbk := hbk.gsA hg45 hab2
          replace hB2 := hB2.gs hg45 (by simp; omega)
          replace hd := hd.gs hg45 (by simp; omega)
          replace hA := hA.gs hg45 (by simp; omega)
          replace hE := hE'
          refine WL.nil ?_
          refine th_norm ?_
          refine hx_seq ?_
          refine hx_region ?_
          refine WL.qq (by simp only [EN, Nat.reduceEqDiff, reduceIte, qv_move, decide_true, Bool.not_true, Bool.not_false, decide_false, eq_self, if_true, if_false, Bool.or_true, Bool.and_true, Bool.or_false, Bool.and_self, Bool.false_or, hB1.cell, hB2.cell, hB1.cell, hB2.cell, hB16.cell]; rfl) ?_
          refine WL.qq (by simp only [EN, Nat.reduceEqDiff, reduceIte, e0, e1, e2, e3, decide_true, Bool.not_true, Bool.not_false, decide_false, eq_self, if_true, if_false, Bool.or_true, Bool.and_true, Bool.or_false, Bool.and_self, Bool.false_or, hB1.cell, hB2.cell, hB1.cell, hB2.cell, hB16.cell, qv_load, ld29, readN, hA.cell, AR, Nat.zero_add, Nat.reduceAdd]; rfl) ?_
          refine WL.cg Try.call25 (by simp only [EN, Nat.reduceEqDiff, reduceIte, AR, decide_true, Bool.not_true, Bool.not_false, decide_false, eq_self, if_true, if_false, Bool.or_true, Bool.and_true, Bool.or_false, Bool.and_self, Bool.false_or, hB1.cell, hB2.cell, hB1.cell, hB2.cell, hB16.cell]; exact c_same (hg.up (by omega)) hbk hrk) ?_
          intro h17 hx17
          replace hE := hE.ext hx17
          replace hB2 := hB2.ext hx17
          replace hd := hd.ext hx17
          replace hbk := hbk.ext hx17
          replace hrk := hrk.ext hx17
          refine WL.qq (by simp only [EN, Nat.reduceEqDiff, reduceIte, qv_move, decide_true, Bool.not_true, Bool.not_false, decide_false, eq_self, if_true, if_false, Bool.or_true, Bool.and_true, Bool.or_false, Bool.and_self, Bool.false_or, hB1.cell, hB2.cell, hB1.cell, hB2.cell, hB16.cell]; rfl) ?_
          refine WL.cq (gd_at (t := 164) rfl (by simp only [EN, Nat.reduceEqDiff, reduceIte, decide_true, Bool.not_true, Bool.not_false, decide_false, eq_self, if_true, if_false, Bool.or_true, Bool.and_true, Bool.or_false, Bool.and_self, Bool.false_or, hB1.cell, hB2.cell, hB1.cell, hB2.cell, hB16.cell] <;> rfl)) (fun hg19_4 => by simp only [EN, Nat.reduceEqDiff, reduceIte, qv_move, decide_true, Bool.not_true, Bool.not_false, decide_false, eq_self, if_true, if_false, Bool.or_true, Bool.and_true, Bool.or_false, Bool.and_self, Bool.false_or, hB1.cell, hB2.cell, hB1.cell, hB2.cell, hB16.cell, hg19_4, GR]; rfl) ?_
          refine WL.cck (gd_at (t := 164) rfl (by simp only [EN, Nat.reduceEqDiff, reduceIte, decide_true, Bool.not_true, Bool.not_false, decide_false, eq_self, if_true, if_false, Bool.or_true, Bool.and_true, Bool.or_false, Bool.and_self, Bool.false_or, hB1.cell, hB2.cell, hB1.cell, hB2.cell, hB16.cell] <;> rfl)) Try.call23 (fun hg19_5 => by simp only [EN, Nat.reduceEqDiff, reduceIte, AR, decide_true, Bool.not_true, Bool.not_false, decide_false, eq_self, if_true, if_false, Bool.or_true, Bool.and_true, Bool.or_false, Bool.and_self, Bool.false_or, hB1.cell, hB2.cell, hB1.cell, hB2.cell, hB16.cell, hg19_5, GR]; exact n_equal1 _ _) ?_
          refine WL.cq (gd_at (t := 164) rfl (by simp only [EN, Nat.reduceEqDiff, reduceIte, decide_true, Bool.not_true, Bool.not_false, decide_false, eq_self, if_true, if_false, Bool.or_true, Bool.and_true, Bool.or_false, Bool.and_self, Bool.false_or, hB1.cell, hB2.cell, hB1.cell, hB2.cell, hB16.cell] <;> rfl)) (fun hg19_6 => by simp only [EN, Nat.reduceEqDiff, reduceIte, qv_unOp, unv_not, decide_true, Bool.not_true, Bool.not_false, decide_false, eq_self, if_true, if_false, Bool.or_true, Bool.and_true, Bool.or_false, Bool.and_self, Bool.false_or, hB1.cell, hB2.cell, hB1.cell, hB2.cell, hB16.cell, hg19_6, GR]; rfl) ?_
          refine WL.qq (by simp only [EN, Nat.reduceEqDiff, reduceIte, qv_pick, pk_and, pk_or, GR, decide_true, Bool.not_true, Bool.not_false, decide_false, eq_self, if_true, if_false, Bool.or_true, Bool.and_true, Bool.or_false, Bool.and_self, Bool.false_or, hB1.cell, hB2.cell, hB1.cell, hB2.cell, hB16.cell]; rfl) ?_
          refine WL.qq (by simp only [EN, Nat.reduceEqDiff, reduceIte, qv_move, decide_true, Bool.not_true, Bool.not_false, decide_false, eq_self, if_true, if_false, Bool.or_true, Bool.and_true, Bool.or_false, Bool.and_self, Bool.false_or, hB1.cell, hB2.cell, hB1.cell, hB2.cell, hB16.cell]; rfl) ?_
          refine WL.cq (gd_at (t := 169) rfl (by simp only [EN, Nat.reduceEqDiff, reduceIte, decide_true, Bool.not_true, Bool.not_false, decide_false, eq_self, if_true, if_false, Bool.or_true, Bool.and_true, Bool.or_false, Bool.and_self, Bool.false_or, hB1.cell, hB2.cell, hB1.cell, hB2.cell, hB16.cell] <;> rfl)) (fun hg19_9 => by simp only [EN, Nat.reduceEqDiff, reduceIte, qv_move, decide_true, Bool.not_true, Bool.not_false, decide_false, eq_self, if_true, if_false, Bool.or_true, Bool.and_true, Bool.or_false, Bool.and_self, Bool.false_or, hB1.cell, hB2.cell, hB1.cell, hB2.cell, hB16.cell, hg19_9, GR]; rfl) ?_
          refine WL.cq (gd_at (t := 169) rfl (by simp only [EN, Nat.reduceEqDiff, reduceIte, decide_true, Bool.not_true, Bool.not_false, decide_false, eq_self, if_true, if_false, Bool.or_true, Bool.and_true, Bool.or_false, Bool.and_self, Bool.false_or, hB1.cell, hB2.cell, hB1.cell, hB2.cell, hB16.cell] <;> rfl)) (fun hg19_10 => by simp only [EN, Nat.reduceEqDiff, reduceIte, qv_move, decide_true, Bool.not_true, Bool.not_false, decide_false, eq_self, if_true, if_false, Bool.or_true, Bool.and_true, Bool.or_false, Bool.and_self, Bool.false_or, hB1.cell, hB2.cell, hB1.cell, hB2.cell, hB16.cell, hg19_10, GR]; rfl) ?_
          refine WL.cck (gd_at (t := 169) rfl (by simp only [EN, Nat.reduceEqDiff, reduceIte, decide_true, Bool.not_true, Bool.not_false, decide_false, eq_self, if_true, if_false, Bool.or_true, Bool.and_true, Bool.or_false, Bool.and_self, Bool.false_or, hB1.cell, hB2.cell, hB1.cell, hB2.cell, hB16.cell] <;> rfl)) Try.call23 (fun hg19_11 => by simp only [EN, Nat.reduceEqDiff, reduceIte, AR, decide_true, Bool.not_true, Bool.not_false, decide_false, eq_self, if_true, if_false, Bool.or_true, Bool.and_true, Bool.or_false, Bool.and_self, Bool.false_or, hB1.cell, hB2.cell, hB1.cell, hB2.cell, hB16.cell, hg19_11, GR]; exact n_equal2 _ _) ?_
          refine WL.cq (gd_at (t := 169) rfl (by simp only [EN, Nat.reduceEqDiff, reduceIte, decide_true, Bool.not_true, Bool.not_false, decide_false, eq_self, if_true, if_false, Bool.or_true, Bool.and_true, Bool.or_false, Bool.and_self, Bool.false_or, hB1.cell, hB2.cell, hB1.cell, hB2.cell, hB16.cell] <;> rfl)) (fun hg19_12 => by simp only [EN, Nat.reduceEqDiff, reduceIte, qv_unOp, unv_not, decide_true, Bool.not_true, Bool.not_false, decide_false, eq_self, if_true, if_false, Bool.or_true, Bool.and_true, Bool.or_false, Bool.and_self, Bool.false_or, hB1.cell, hB2.cell, hB1.cell, hB2.cell, hB16.cell, hg19_12, GR]; rfl) ?_
          refine WL.qq (by simp only [EN, Nat.reduceEqDiff, reduceIte, qv_pick, pk_and, pk_or, GR, decide_true, Bool.not_true, Bool.not_false, decide_false, eq_self, if_true, if_false, Bool.or_true, Bool.and_true, Bool.or_false, Bool.and_self, Bool.false_or, hB1.cell, hB2.cell, hB1.cell, hB2.cell, hB16.cell]; rfl) ?_
          refine WL.store (by simp only [EN, Nat.reduceEqDiff, reduceIte, decide_true, Bool.not_true, Bool.not_false, decide_false, eq_self, if_true, if_false, Bool.or_true, Bool.and_true, Bool.or_false, Bool.and_self, Bool.false_or, hB1.cell, hB2.cell, hB1.cell, hB2.cell, hB16.cell] <;> rfl) sz4 (by simp only [EN, Nat.reduceEqDiff, reduceIte, Value.cells, decide_true, Bool.not_true, Bool.not_false, decide_false, eq_self, if_true, if_false, Bool.or_true, Bool.and_true, Bool.or_false, Bool.and_self, Bool.false_or, hB1.cell, hB2.cell, hB1.cell, hB2.cell, hB16.cell] <;> rfl) rfl hB2 (by first | (simp [true_and]; done) | (simp [true_and]; omega) | omega) (by simp [Value.oneCell']) ?_
          intro h18 hw18
          have hE9 := hw18.ext hE (Nat.le_trans hs1 hlt2)
          have hA4 := hw18.at_
          try simp only [splc, List.take_zero, List.nil_append, List.drop_succ_cons, List.drop_zero, List.length_cons, List.length_nil, List.drop_nil, List.append_nil, Nat.zero_add] at hA4
          have hd9 := hd.wr hw18 (by omega)
          refine WL.nil ?_
          refine th_norm ?_
          refine hx_ret ?_
          refine fin_mark (.inr rfl) [.cell 8 4] rfl rfl hd9 ?_
          intro h5 hw5
          have hA5 := hA4.wr hw5 (by omega)
          exact ⟨[.bool true], by simp only [EN, Nat.reduceEqDiff, reduceIte, e0, e1, e2, e3, decide_true, Bool.not_true, Bool.not_false, decide_false, eq_self, if_true, if_false, Bool.or_true, Bool.and_true, Bool.or_false, Bool.and_self, Bool.false_or, hB1.cell, hB2.cell, hB1.cell, hB2.cell, hB16.cell, resv, ld4, hA5.cell, AR] <;> rfl, rfl, hw5.ext hE9 (by omega)⟩
end GL


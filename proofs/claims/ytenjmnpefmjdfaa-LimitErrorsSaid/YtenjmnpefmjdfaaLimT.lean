/- Limits: the statements on operations, on Reset, on errors. -/
import Derived.Test.YtenjmnpefmjdfaaLimS
import Derived.Test.YtenjmnpefmjdfaaGl32
set_option linter.unusedSimpArgs false
set_option linter.unusedVariables false
set_option linter.unnecessarySimpa false
namespace GL
open Go Go.Proofs
set_option maxRecDepth 8000
theorem c_runM (al : Option Addr) (l : List LOp) (cl : Nat) (hsm : smallB l = true) {h : Heap} (hl : SlG 5 opL h al l) (hok : ∀ o ∈ l, LOk h o) :
    HCalls Try.prog 22 #[.slice al l.length cl] h fun v h' => Ext h h' ∧ ∃ p w, v = .tuple #[.pointer (some ⟨p, 0, none⟩), w, .bool true] ∧ TB h h' p (rS l).1 (rS l).2 ∧ RT h' w (rR l).1 (rR l).2 ∧ EQ (rS l).1 (rS l).2 (rR l).1 (rR l).2 l.length :=
  (c_run al l cl hsm hl hok).mono fun v h' ⟨p, w, h1, h2, h3, h4⟩ => ⟨h2.E, p, w, h1, h2, h3, h4⟩
section
variable {h0 h h' : Heap} {p : Nat} {ls ns : List L2}
theorem tb_Clone (ht : TB h0 h p ls ns) : HCalls Try.prog 23 #[.pointer (some ⟨p, 0, none⟩)] h fun v h' => Ext h h' ∧ ∃ p', v = .pointer (some ⟨p', 0, none⟩) ∧ TB h h' p' ls ns := by
  obtain ⟨⟨bl, bn, h1, h2, h3⟩, hE, hp⟩ := ht
  refine (c_Clone h1).mono ?_
  rintro v h' ⟨hx, p', bl', bn', rfl, hb, q1, q2, q3⟩
  exact ⟨hx, p', rfl, ⟨bl', bn', hb, q2, q3⟩, hx, q1⟩
theorem tb_Equal {h1 : Heap} {p' : Nat} {ls' ns' : List L2} (ht : TB h0 h p ls ns) (ht' : TB h1 h p' ls' ns') :
    HCalls Try.prog 24 #[.pointer (some ⟨p, 0, none⟩), .pointer (some ⟨p', 0, none⟩)] h (Grow (.bool (decide (mapEq ls ls') && decide (mapEq ns ns'))) h) := by
  obtain ⟨⟨bl, bn, h1, h2, h3⟩, hE, hp⟩ := ht
  obtain ⟨⟨bl', bn', h1', h2', h3'⟩, hE', hp'⟩ := ht'
  exact c_Equal h1 h1'
theorem tb_EqualS {h1 : Heap} {p' : Nat} (ht : TB h0 h p ls ns) (ht' : TB h1 h p' ls ns) :
    HCalls Try.prog 24 #[.pointer (some ⟨p, 0, none⟩), .pointer (some ⟨p', 0, none⟩)] h (Grow (.bool true) h) := by
  have hn := tb_nodup ht
  refine (tb_Equal ht ht').mono ?_
  rintro v h' ⟨rfl, hx⟩
  exact ⟨by rw [decide_eq_true (mapEq_refl hn.1), decide_eq_true (mapEq_refl hn.2)]; rfl, hx⟩
theorem tb_EqualU {h1 : Heap} {p' : Nat} {o : LOp} (he : ¬ eS o ls ns = 0) (ht : TB h0 h p (lS o ls ns) (nS o ls ns)) (ht' : TB h1 h p' ls ns) :
    HCalls Try.prog 24 #[.pointer (some ⟨p, 0, none⟩), .pointer (some ⟨p', 0, none⟩)] h (Grow (.bool true) h) := by
  obtain ⟨e1, e2⟩ := eS_no he
  rw [e1, e2] at ht
  exact tb_EqualS ht ht'
theorem c_small1 {o : LOp} {v : Value} (hv : ∃ B, v = .slice (some ⟨B, 0, none⟩) 1 1 ∧ Has h B (.cells (opL o).toArray 45)) : HCalls Try.prog 17 #[v] h (Pure (.bool (smallB [o])) h) := by
  obtain ⟨B, rfl, hB⟩ := hv
  exact c_small (some ⟨B, 0, none⟩) [o] 1 (by simp) (slG_has (f := opL) (sz := 5) (L := [o]) (fun _ => rfl) hB (by simp))
end
set_option maxHeartbeats 2000000 in
theorem l_oper (al : Option Addr) (l : List LOp) (cl : Nat) (am : Option Addr) (m : List ByteArray) (cm : Nat) {h : Heap} (hl : SlG 5 opL h al l) (ll : l.length ≤ 9223372036854775807) (hok : ∀ o ∈ l, LOk h o) (hm : SlG 1 stL h am m) :
    HCalls Try.prog 8 #[.slice al l.length cl, .slice am m.length cm] h (Grow (.bool true) h) := by
  refine hcalls2 Try.func8 rfl (by decide +kernel) (by simp only [Try.ntmps8]; exact of_decide_eq_true rfl) ?_
  intro e hin
  have e0 := hin 0 _ rfl
  have e1 := hin 1 _ rfl
  have hE : Ext h h := Ext.refl h
  refine hx_seq ?_
  refine hx_region ?_
  refine WL.qq (by simp only [EN, Nat.reduceEqDiff, reduceIte, qv_assign, Bool.not_true, Bool.not_false, decide_eq_true_eq]; rfl) ?_
  refine WL.nil ?_
  refine th_norm ?_
  refine hx_seq ?_
  refine hx_seq ?_
  refine hx_region ?_
  refine WL.cg Try.call11 (by simp only [EN, Nat.reduceEqDiff, reduceIte, AR, Bool.not_true, Bool.not_false, decide_eq_true_eq]; exact c_known16 _) ?_
  intro h1 hx1
  replace hE := hE.trans hx1
  replace hl := hl.ext hx1
  replace hm := hm.ext hx1
  refine WL.qq (by simp only [EN, Nat.reduceEqDiff, reduceIte, qv_unOp, unv_not, Bool.not_true, Bool.not_false, decide_eq_true_eq]; rfl) ?_
  refine WL.qq (by simp only [EN, Nat.reduceEqDiff, reduceIte, qv_move, Bool.not_true, Bool.not_false, decide_eq_true_eq]; rfl) ?_
  refine WL.cq (gd_at (t := 10) rfl (by simp only [EN, Nat.reduceEqDiff, reduceIte, e0, Bool.not_true, Bool.not_false, decide_eq_true_eq] <;> rfl)) (fun hg1_3 => by simp only [EN, Nat.reduceEqDiff, reduceIte, qv_move, e0, Bool.not_true, Bool.not_false, decide_eq_true_eq, hg1_3, GR]; rfl) ?_
  refine WL.cck (gd_at (t := 10) rfl (by simp only [EN, Nat.reduceEqDiff, reduceIte, Bool.not_true, Bool.not_false, decide_eq_true_eq] <;> rfl)) Try.call17 (fun hg1_4 => by simp only [EN, Nat.reduceEqDiff, reduceIte, AR, Bool.not_true, Bool.not_false, decide_eq_true_eq, hg1_4, GR]; exact c_small al l cl ll hl) ?_
  refine WL.cq (gd_at (t := 10) rfl (by simp only [EN, Nat.reduceEqDiff, reduceIte, Bool.not_true, Bool.not_false, decide_eq_true_eq] <;> rfl)) (fun hg1_5 => by simp only [EN, Nat.reduceEqDiff, reduceIte, qv_unOp, unv_not, Bool.not_true, Bool.not_false, decide_eq_true_eq, hg1_5, GR]; rfl) ?_
  refine WL.qq (by simp only [EN, Nat.reduceEqDiff, reduceIte, qv_pick, pk_and, pk_or, GR, Bool.not_true, Bool.not_false, decide_eq_true_eq]; rfl) ?_
  refine WL.qq (by simp only [EN, Nat.reduceEqDiff, reduceIte, qv_move, Bool.not_true, Bool.not_false, decide_eq_true_eq]; rfl) ?_
  refine WL.cq (gd_at (t := 15) rfl (by simp only [EN, Nat.reduceEqDiff, reduceIte, e1, Bool.not_true, Bool.not_false, decide_eq_true_eq] <;> rfl)) (fun hg1_8 => by simp only [EN, Nat.reduceEqDiff, reduceIte, qv_move, e1, Bool.not_true, Bool.not_false, decide_eq_true_eq, hg1_8, GR]; rfl) ?_
  refine WL.cq (gd_at (t := 15) rfl (by simp only [EN, Nat.reduceEqDiff, reduceIte, Bool.not_true, Bool.not_false, decide_eq_true_eq] <;> rfl)) (fun hg1_9 => by simp only [EN, Nat.reduceEqDiff, reduceIte, qv_len, ln37, AR, Bool.not_true, Bool.not_false, decide_eq_true_eq, hg1_9, GR]; rfl) ?_
  refine WL.cq (gd_at (t := 15) rfl (by simp only [EN, Nat.reduceEqDiff, reduceIte, Bool.not_true, Bool.not_false, decide_eq_true_eq] <;> rfl)) (fun hg1_10 => by simp only [EN, Nat.reduceEqDiff, reduceIte, qv_binOp, binv_gtr, Bool.not_true, Bool.not_false, decide_eq_true_eq, hg1_10, GR]; rfl) ?_
  refine WL.qq (by simp only [EN, Nat.reduceEqDiff, reduceIte, qv_pick, pk_and, pk_or, GR, Bool.not_true, Bool.not_false, decide_eq_true_eq]; rfl) ?_
  refine WL.nil ?_
  refine th_norm ?_
  refine hx_cond (by simp only [EN, Nat.reduceEqDiff, reduceIte, Bool.not_true, Bool.not_false, decide_eq_true_eq]; rfl) (fun hct19 => ?_) (fun hct19 => ?_)
  ·
    try simp only [BD] at hct19
    refine hx_seq ?_
    refine hx_region ?_
    refine WL.cg Try.call11 (by simp only [EN, Nat.reduceEqDiff, reduceIte, AR, Bool.not_true, Bool.not_false, decide_eq_true_eq]; exact c_known16 _) ?_
    intro h2 hx2
    replace hE := hE.trans hx2
    replace hl := hl.ext hx2
    replace hm := hm.ext hx2
    refine WL.qq (by simp only [EN, Nat.reduceEqDiff, reduceIte, qv_assign, Bool.not_true, Bool.not_false, decide_eq_true_eq]; rfl) ?_
    refine WL.nil ?_
    refine th_norm ?_
    refine hx_ret ?_
    refine th_ret ?_
    refine fin_ret [.tmp 4] rfl rfl (by simp only [EN, Nat.reduceEqDiff, reduceIte, resv, e0, e1, Bool.not_true, Bool.not_false, decide_eq_true_eq]; rfl) ?_  -- ret 0 r2
    exact ⟨by simp [retOf], hE⟩
  ·
    try simp only [BD] at hct19
    have hsm : smallB l = true := (by cases h8 : smallB l; (rw [h8] at hct19; simp at hct19); rfl)
    have hm12 : m.length ≤ 12 := (by rw [hsm] at hct19; simp at hct19; omega)
    obtain ⟨hl40, hl12⟩ := small_ok hsm
    refine hx_skip ?_
    refine th_norm ?_
    refine hx_seq ?_
    refine hx_region ?_
    refine WL.qq (by simp only [EN, Nat.reduceEqDiff, reduceIte, qv_move, e0, Bool.not_true, Bool.not_false, decide_eq_true_eq]; rfl) ?_
    refine WL.ce Try.call22 (by simp only [EN, Nat.reduceEqDiff, reduceIte, AR, Bool.not_true, Bool.not_false, decide_eq_true_eq]; exact c_runM al l cl hsm hl (fun o ho => (hok o ho).ext hE)) ?_
    rintro _ h3 ⟨hx3, p, w, rfl, hT, hR, hQ⟩
    replace hE := hE.trans hx3
    replace hl := hl.ext hx3
    replace hm := hm.ext hx3
    simp only [put_some]
    obtain ⟨a1, c1, a2, c2, rfl, _, _⟩ := hR.ex
    refine WL.qq (by simp only [EN, Nat.reduceEqDiff, reduceIte, qv_move, Bool.not_true, Bool.not_false, decide_eq_true_eq]; rfl) ?_
    refine WL.qq (by simp only [EN, Nat.reduceEqDiff, reduceIte, qv_extract, AR, Bool.not_true, Bool.not_false, decide_eq_true_eq]; rfl) ?_
    refine WL.qq (by simp only [EN, Nat.reduceEqDiff, reduceIte, qv_extract, AR, Bool.not_true, Bool.not_false, decide_eq_true_eq]; rfl) ?_
    refine WL.qq (by simp only [EN, Nat.reduceEqDiff, reduceIte, qv_extract, AR, Bool.not_true, Bool.not_false, decide_eq_true_eq]; rfl) ?_
    refine WL.alloc2 zr41 ?_
    intro h4 B4 hx4 hlt4 hB4
    have hb0_4 := Nat.le_trans hE.size hlt4
    have hl_s4 := hl
    have hm_s4 := hm
    have hT_s4 := hT
    have hR_s4 := hR
    replace hE := hE.trans hx4
    replace hl := hl.ext hx4
    replace hm := hm.ext hx4
    replace hT := hT.ext hx4
    replace hR := hR.ext hx4
    have hEo4 := hx4
    simp only [Value.cells] at hB4
    refine WL.qq (by simp only [EN, Nat.reduceEqDiff, reduceIte, qv_assign, Bool.not_true, Bool.not_false, decide_eq_true_eq, hB4.cell]; rfl) ?_
    refine WL.store (by simp only [EN, Nat.reduceEqDiff, reduceIte, Bool.not_true, Bool.not_false, decide_eq_true_eq, hB4.cell] <;> rfl) sz41 (by simp only [EN, Nat.reduceEqDiff, reduceIte, Value.cells, Bool.not_true, Bool.not_false, decide_eq_true_eq, hB4.cell] <;> rfl) rfl hB4 (by first | decide | (simp; done) | (simp; omega)) (by simp [Value.oneCell']) ?_
    intro h5 hw5
    replace hE := hw5.ext hE hb0_4
    replace hEo4 := hw5.ext hEo4 hlt4
    replace hl := hl_s4.ext hEo4
    replace hm := hm_s4.ext hEo4
    replace hT := hT_s4.ext hEo4
    replace hR := hR_s4.ext hEo4
    replace hB4 := hw5.at_
    try simp only [splc, List.take_succ_cons, List.take_zero, List.take_nil, List.drop_succ_cons, List.drop_zero, List.drop_nil, List.cons_append, List.nil_append, List.length_cons, List.length_nil, Nat.zero_add, Nat.add_zero, Nat.reduceAdd, List.append_nil] at hB4
    refine WL.qq (by simp only [EN, Nat.reduceEqDiff, reduceIte, qv_assign, Bool.not_true, Bool.not_false, decide_eq_true_eq, hB4.cell]; rfl) ?_
    refine WL.nil ?_
    refine th_norm ?_
    refine hx_seq ?_
    refine hx_region ?_
    refine WL.qq (by simp only [EN, Nat.reduceEqDiff, reduceIte, qv_move, Bool.not_true, Bool.not_false, decide_eq_true_eq, hB4.cell]; rfl) ?_
    refine WL.qq (by simp only [EN, Nat.reduceEqDiff, reduceIte, qv_move, Bool.not_true, Bool.not_false, decide_eq_true_eq, hB4.cell]; rfl) ?_
    refine WL.cq (gd_at (t := 28) rfl (by simp only [EN, Nat.reduceEqDiff, reduceIte, Bool.not_true, Bool.not_false, decide_eq_true_eq, hB4.cell] <;> rfl)) (fun hg4_2 => by simp only [EN, Nat.reduceEqDiff, reduceIte, qv_move, Bool.not_true, Bool.not_false, decide_eq_true_eq, hB4.cell, hg4_2, GR]; rfl) ?_
    refine WL.cq (gd_at (t := 28) rfl (by simp only [EN, Nat.reduceEqDiff, reduceIte, Bool.not_true, Bool.not_false, decide_eq_true_eq, hB4.cell] <;> rfl)) (fun hg4_3 => by simp only [EN, Nat.reduceEqDiff, reduceIte, qv_load, ld41, readN, AR, Nat.zero_add, Nat.reduceAdd, Bool.not_true, Bool.not_false, decide_eq_true_eq, hB4.cell, hg4_3, GR]; rfl) ?_
    refine WL.cq (gd_at (t := 28) rfl (by simp only [EN, Nat.reduceEqDiff, reduceIte, e1, Bool.not_true, Bool.not_false, decide_eq_true_eq, hB4.cell] <;> rfl)) (fun hg4_4 => by simp only [EN, Nat.reduceEqDiff, reduceIte, qv_move, e1, Bool.not_true, Bool.not_false, decide_eq_true_eq, hB4.cell, hg4_4, GR]; rfl) ?_
    refine WL.ccg (gd_at (t := 28) rfl (by simp only [EN, Nat.reduceEqDiff, reduceIte, Bool.not_true, Bool.not_false, decide_eq_true_eq, hB4.cell] <;> rfl)) Try.call31 (fun hg4_5 => by simp only [EN, Nat.reduceEqDiff, reduceIte, AR, Bool.not_true, Bool.not_false, decide_eq_true_eq, hB4.cell, hg4_5, GR]; exact c_agree hQ (by omega) hT hR am m cm (by omega) hm) ?_
    intro h6 hx6
    replace hE := hE.trans hx6
    replace hEo4 := hEo4.trans hx6
    replace hl := hl.ext hx6
    replace hm := hm.ext hx6
    replace hT := hT.ext hx6
    replace hR := hR.ext hx6
    replace hB4 := hB4.ext hx6
    refine WL.qq (by simp only [EN, Nat.reduceEqDiff, reduceIte, qv_pick, pk_and, pk_or, GR, Bool.not_true, Bool.not_false, decide_eq_true_eq, hB4.cell]; rfl) ?_
    refine WL.qq (by simp only [EN, Nat.reduceEqDiff, reduceIte, qv_assign, Bool.not_true, Bool.not_false, decide_eq_true_eq, hB4.cell]; rfl) ?_
    refine WL.nil ?_
    refine th_norm ?_
    refine hx_ret ?_
    refine fin_ret [.tmp 4] rfl rfl (by simp only [EN, Nat.reduceEqDiff, reduceIte, resv, e0, e1, Bool.not_true, Bool.not_false, decide_eq_true_eq, hB4.cell]; rfl) ?_  -- ret 1 r4
    exact ⟨by simp [retOf], hE⟩
/-- Reset of a table beside its clone. -/
theorem tb_ResetK {h0 h1 h : Heap} {p p2 : Nat} {ls ns ls' ns' : List L2} (k : TB h0 h1 p ls ns) (hC : TB h1 h p2 ls' ns') :
    HCalls Try.prog 32 #[.pointer (some ⟨p, 0, none⟩)] h fun v h' => v = iV 0 ∧ TB h0 h' p ls [] ∧ TB h0 h' p2 ls' ns' ∧ Turn p h h' := by
  have hq := hC.base k.E
  obtain ⟨⟨bl, bn, k1, k2, k3⟩, hE, hp⟩ := k
  obtain ⟨⟨bl', bn', c1, c2, c3⟩, hE2, hp2⟩ := hC
  have k1' := k1.ext hE2
  have hlt := k1.lts
  refine (c_Reset k1').mono ?_
  rintro v h' ⟨rfl, hg, hb⟩
  have hE3 : Ext h0 h' := hg.toExt (hE.trans hE2) (fun x hx => by simp at hx; subst hx; exact k3)
  have hz := hE.size
  exact ⟨rfl, ⟨⟨bl, bn, hb, k2, k3⟩, hE3, hp⟩, ⟨⟨bl', bn', c1.gs hg (by simp; omega) (by simp; omega) (by simp; omega), by omega, by omega⟩, hE3, by omega⟩, Turn.map hg k1'.net⟩
set_option maxHeartbeats 4000000 in
theorem l_reset (al : Option Addr) (l : List LOp) (cl : Nat) (am : Option Addr) (m : List ByteArray) (cm : Nat) {h : Heap} (hl : SlG 5 opL h al l) (ll : l.length ≤ 9223372036854775807) (hok : ∀ o ∈ l, LOk h o) (hm : SlG 1 stL h am m) :
    HCalls Try.prog 9 #[.slice al l.length cl, .slice am m.length cm] h (Grow (.bool true) h) := by
  refine hcalls2 Try.func9 rfl (by decide +kernel) (by simp only [Try.ntmps9]; exact of_decide_eq_true rfl) ?_
  intro e hin
  have e0 := hin 0 _ rfl
  have e1 := hin 1 _ rfl
  have hE : Ext h h := Ext.refl h
  refine hx_seq ?_
  refine hx_region ?_
  refine WL.qq (by simp only [EN, Nat.reduceEqDiff, reduceIte, qv_assign, Bool.not_true, Bool.not_false, decide_eq_true_eq]; rfl) ?_
  refine WL.nil ?_
  refine th_norm ?_
  refine hx_seq ?_
  refine hx_seq ?_
  refine hx_region ?_
  refine WL.cg Try.call11 (by simp only [EN, Nat.reduceEqDiff, reduceIte, AR, Bool.not_true, Bool.not_false, decide_eq_true_eq]; exact c_known16 _) ?_
  intro h1 hx1
  replace hE := hE.trans hx1
  replace hl := hl.ext hx1
  replace hm := hm.ext hx1
  refine WL.qq (by simp only [EN, Nat.reduceEqDiff, reduceIte, qv_unOp, unv_not, Bool.not_true, Bool.not_false, decide_eq_true_eq]; rfl) ?_
  refine WL.qq (by simp only [EN, Nat.reduceEqDiff, reduceIte, qv_move, Bool.not_true, Bool.not_false, decide_eq_true_eq]; rfl) ?_
  refine WL.cq (gd_at (t := 11) rfl (by simp only [EN, Nat.reduceEqDiff, reduceIte, e0, Bool.not_true, Bool.not_false, decide_eq_true_eq] <;> rfl)) (fun hg1_3 => by simp only [EN, Nat.reduceEqDiff, reduceIte, qv_move, e0, Bool.not_true, Bool.not_false, decide_eq_true_eq, hg1_3, GR]; rfl) ?_
  refine WL.cck (gd_at (t := 11) rfl (by simp only [EN, Nat.reduceEqDiff, reduceIte, Bool.not_true, Bool.not_false, decide_eq_true_eq] <;> rfl)) Try.call17 (fun hg1_4 => by simp only [EN, Nat.reduceEqDiff, reduceIte, AR, Bool.not_true, Bool.not_false, decide_eq_true_eq, hg1_4, GR]; exact c_small al l cl ll hl) ?_
  refine WL.cq (gd_at (t := 11) rfl (by simp only [EN, Nat.reduceEqDiff, reduceIte, Bool.not_true, Bool.not_false, decide_eq_true_eq] <;> rfl)) (fun hg1_5 => by simp only [EN, Nat.reduceEqDiff, reduceIte, qv_unOp, unv_not, Bool.not_true, Bool.not_false, decide_eq_true_eq, hg1_5, GR]; rfl) ?_
  refine WL.qq (by simp only [EN, Nat.reduceEqDiff, reduceIte, qv_pick, pk_and, pk_or, GR, Bool.not_true, Bool.not_false, decide_eq_true_eq]; rfl) ?_
  refine WL.qq (by simp only [EN, Nat.reduceEqDiff, reduceIte, qv_move, Bool.not_true, Bool.not_false, decide_eq_true_eq]; rfl) ?_
  refine WL.cq (gd_at (t := 16) rfl (by simp only [EN, Nat.reduceEqDiff, reduceIte, e1, Bool.not_true, Bool.not_false, decide_eq_true_eq] <;> rfl)) (fun hg1_8 => by simp only [EN, Nat.reduceEqDiff, reduceIte, qv_move, e1, Bool.not_true, Bool.not_false, decide_eq_true_eq, hg1_8, GR]; rfl) ?_
  refine WL.cq (gd_at (t := 16) rfl (by simp only [EN, Nat.reduceEqDiff, reduceIte, Bool.not_true, Bool.not_false, decide_eq_true_eq] <;> rfl)) (fun hg1_9 => by simp only [EN, Nat.reduceEqDiff, reduceIte, qv_len, ln37, AR, Bool.not_true, Bool.not_false, decide_eq_true_eq, hg1_9, GR]; rfl) ?_
  refine WL.cq (gd_at (t := 16) rfl (by simp only [EN, Nat.reduceEqDiff, reduceIte, Bool.not_true, Bool.not_false, decide_eq_true_eq] <;> rfl)) (fun hg1_10 => by simp only [EN, Nat.reduceEqDiff, reduceIte, qv_binOp, binv_gtr, Bool.not_true, Bool.not_false, decide_eq_true_eq, hg1_10, GR]; rfl) ?_
  refine WL.qq (by simp only [EN, Nat.reduceEqDiff, reduceIte, qv_pick, pk_and, pk_or, GR, Bool.not_true, Bool.not_false, decide_eq_true_eq]; rfl) ?_
  refine WL.nil ?_
  refine th_norm ?_
  refine hx_cond (by simp only [EN, Nat.reduceEqDiff, reduceIte, Bool.not_true, Bool.not_false, decide_eq_true_eq]; rfl) (fun hct20 => ?_) (fun hct20 => ?_)
  ·
    try simp only [BD] at hct20
    refine hx_seq ?_
    refine hx_region ?_
    refine WL.cg Try.call11 (by simp only [EN, Nat.reduceEqDiff, reduceIte, AR, Bool.not_true, Bool.not_false, decide_eq_true_eq]; exact c_known16 _) ?_
    intro h2 hx2
    replace hE := hE.trans hx2
    replace hl := hl.ext hx2
    replace hm := hm.ext hx2
    refine WL.qq (by simp only [EN, Nat.reduceEqDiff, reduceIte, qv_assign, Bool.not_true, Bool.not_false, decide_eq_true_eq]; rfl) ?_
    refine WL.nil ?_
    refine th_norm ?_
    refine hx_ret ?_
    refine th_ret ?_
    refine fin_ret [.tmp 4] rfl rfl (by simp only [EN, Nat.reduceEqDiff, reduceIte, resv, e0, e1, Bool.not_true, Bool.not_false, decide_eq_true_eq]; rfl) ?_  -- ret 0 r2
    exact ⟨by simp [retOf], hE⟩
  ·
    try simp only [BD] at hct20
    have hsm : smallB l = true := (by cases h8 : smallB l; (rw [h8] at hct20; simp at hct20); rfl)
    have hm12 : m.length ≤ 12 := (by rw [hsm] at hct20; simp at hct20; omega)
    obtain ⟨hl40, hl12⟩ := small_ok hsm
    refine hx_skip ?_
    refine th_norm ?_
    refine hx_seq ?_
    refine hx_region ?_
    have kE := hE; have km := hm
    refine WL.qq (by simp only [EN, Nat.reduceEqDiff, reduceIte, qv_move, e0, Bool.not_true, Bool.not_false, decide_eq_true_eq]; rfl) ?_
    refine WL.ce Try.call22 (by simp only [EN, Nat.reduceEqDiff, reduceIte, AR, Bool.not_true, Bool.not_false, decide_eq_true_eq]; exact c_runM al l cl hsm hl (fun o ho => (hok o ho).ext hE)) ?_
    rintro _ h3 ⟨hx3, p, w, rfl, hT, hR, hQ⟩
    replace hE := hE.trans hx3
    replace hl := hl.ext hx3
    replace hm := hm.ext hx3
    simp only [put_some]
    obtain ⟨a1, c1, a2, c2, rfl, hs1, hs2⟩ := hR.ex
    refine WL.qq (by simp only [EN, Nat.reduceEqDiff, reduceIte, qv_move, Bool.not_true, Bool.not_false, decide_eq_true_eq]; rfl) ?_
    refine WL.qq (by simp only [EN, Nat.reduceEqDiff, reduceIte, qv_extract, AR, Bool.not_true, Bool.not_false, decide_eq_true_eq]; rfl) ?_
    refine WL.qq (by simp only [EN, Nat.reduceEqDiff, reduceIte, qv_extract, AR, Bool.not_true, Bool.not_false, decide_eq_true_eq]; rfl) ?_
    refine WL.qq (by simp only [EN, Nat.reduceEqDiff, reduceIte, qv_extract, AR, Bool.not_true, Bool.not_false, decide_eq_true_eq]; rfl) ?_
    refine WL.alloc2 zr41 ?_
    intro h4 B4 hx4 hlt4 hB4
    have hb0_4 := Nat.le_trans hE.size hlt4
    have hl_s4 := hl
    have hm_s4 := hm
    have hT_s4 := hT
    have hR_s4 := hR
    have hs1_s4 := hs1
    replace hE := hE.trans hx4
    replace hl := hl.ext hx4
    replace hm := hm.ext hx4
    replace hT := hT.ext hx4
    replace hR := hR.ext hx4
    replace hs1 := hs1.ext hx4
    have hEo4 := hx4
    simp only [Value.cells] at hB4
    refine WL.qq (by simp only [EN, Nat.reduceEqDiff, reduceIte, qv_assign, Bool.not_true, Bool.not_false, decide_eq_true_eq, hB4.cell]; rfl) ?_
    refine WL.store (by simp only [EN, Nat.reduceEqDiff, reduceIte, Bool.not_true, Bool.not_false, decide_eq_true_eq, hB4.cell] <;> rfl) sz41 (by simp only [EN, Nat.reduceEqDiff, reduceIte, Value.cells, Bool.not_true, Bool.not_false, decide_eq_true_eq, hB4.cell] <;> rfl) rfl hB4 (by first | decide | (simp; done) | (simp; omega)) (by simp [Value.oneCell']) ?_
    intro h5 hw5
    replace hE := hw5.ext hE hb0_4
    replace hEo4 := hw5.ext hEo4 hlt4
    replace hl := hl_s4.ext hEo4
    replace hm := hm_s4.ext hEo4
    replace hT := hT_s4.ext hEo4
    replace hR := hR_s4.ext hEo4
    replace hs1 := hs1_s4.ext hEo4
    replace hB4 := hw5.at_
    try simp only [splc, List.take_succ_cons, List.take_zero, List.take_nil, List.drop_succ_cons, List.drop_zero, List.drop_nil, List.cons_append, List.nil_append, List.length_cons, List.length_nil, Nat.zero_add, Nat.add_zero, Nat.reduceAdd, List.append_nil] at hB4
    refine WL.qq (by simp only [EN, Nat.reduceEqDiff, reduceIte, qv_assign, Bool.not_true, Bool.not_false, decide_eq_true_eq, hB4.cell]; rfl) ?_
    refine WL.nil ?_
    refine th_norm ?_
    refine hx_seq ?_
    refine hx_region ?_
    have kT := hT
    refine WL.qq (by simp only [EN, Nat.reduceEqDiff, reduceIte, qv_move, Bool.not_true, Bool.not_false, decide_eq_true_eq, hB4.cell]; rfl) ?_
    refine WL.ce Try.call23 (by simp only [EN, Nat.reduceEqDiff, reduceIte, AR, Bool.not_true, Bool.not_false, decide_eq_true_eq, hB4.cell]; exact tb_Clone hT) ?_
    rintro _ h6 ⟨hx6, p2, rfl, hC⟩
    replace hE := hE.trans hx6
    replace hEo4 := hEo4.trans hx6
    replace hl := hl.ext hx6
    replace hm := hm.ext hx6
    replace hT := hT.ext hx6
    replace hR := hR.ext hx6
    replace hs1 := hs1.ext hx6
    replace hB4 := hB4.ext hx6
    simp only [put_some]
    refine WL.qq (by simp only [EN, Nat.reduceEqDiff, reduceIte, qv_assign, Bool.not_true, Bool.not_false, decide_eq_true_eq, hB4.cell]; rfl) ?_
    refine WL.nil ?_
    refine th_norm ?_
    refine hx_seq ?_
    refine hx_seq ?_
    refine hx_region ?_
    have hpB := hT.ne hB4 (by decide)
    refine WL.qq (by simp only [EN, Nat.reduceEqDiff, reduceIte, qv_move, Bool.not_true, Bool.not_false, decide_eq_true_eq, hB4.cell]; rfl) ?_
    refine WL.qq (by simp only [EN, Nat.reduceEqDiff, reduceIte, qv_unOp, unv_not, Bool.not_true, Bool.not_false, decide_eq_true_eq, hB4.cell]; rfl) ?_
    refine WL.qq (by simp only [EN, Nat.reduceEqDiff, reduceIte, qv_move, Bool.not_true, Bool.not_false, decide_eq_true_eq, hB4.cell]; rfl) ?_
    refine WL.cq (gd_at (t := 32) rfl (by simp only [EN, Nat.reduceEqDiff, reduceIte, Bool.not_true, Bool.not_false, decide_eq_true_eq, hB4.cell] <;> rfl)) (fun hg5_3 => by simp only [EN, Nat.reduceEqDiff, reduceIte, qv_move, Bool.not_true, Bool.not_false, decide_eq_true_eq, hB4.cell, hg5_3, GR]; rfl) ?_
    refine WL.cq (gd_at (t := 32) rfl (by simp only [EN, Nat.reduceEqDiff, reduceIte, Bool.not_true, Bool.not_false, decide_eq_true_eq, hB4.cell] <;> rfl)) (fun hg5_4 => by simp only [EN, Nat.reduceEqDiff, reduceIte, qv_binOp, binv_eql, eqz24, eqn24, eqm24, Option.map_some, Bool.not_true, Bool.not_false, decide_eq_true_eq, hB4.cell, hg5_4, GR]; rfl) ?_
    refine WL.qq (by simp only [EN, Nat.reduceEqDiff, reduceIte, qv_pick, pk_and, pk_or, GR, Bool.not_true, Bool.not_false, decide_eq_true_eq, hB4.cell]; rfl) ?_
    refine WL.qq (by simp only [EN, Nat.reduceEqDiff, reduceIte, qv_move, Bool.not_true, Bool.not_false, decide_eq_true_eq, hB4.cell]; rfl) ?_
    refine WL.cq (gd_at (t := 36) rfl (by simp only [EN, Nat.reduceEqDiff, reduceIte, Bool.not_true, Bool.not_false, decide_eq_true_eq, hB4.cell] <;> rfl)) (fun hg5_7 => by simp only [EN, Nat.reduceEqDiff, reduceIte, qv_move, Bool.not_true, Bool.not_false, decide_eq_true_eq, hB4.cell, hg5_7, GR]; rfl) ?_
    refine WL.gy _ (gd_at (t := 36) rfl (by simp only [EN, Nat.reduceEqDiff, reduceIte, Bool.not_true, Bool.not_false, decide_eq_true_eq, hB4.cell] <;> rfl)) (e_call Try.call32 (by simp only [EN, Nat.reduceEqDiff, reduceIte, AR, Bool.not_true, Bool.not_false, decide_eq_true_eq, hB4.cell]; exact tb_ResetK kT hC)) ?_
    rintro _ h30 ⟨rfl, hT2, hC2, hTu⟩
    simp only [put_some]
    replace hE := kE.trans hT2.E
    replace hm := km.ext hT2.E
    replace hR := hR.turn hTu hT.no
    replace hs1 := slG_turn hs1 hTu hT.no
    replace hB4 := hB4.turn hTu hpB
    replace hT := hT2
    replace hC := hC2
    replace hEo4 := Ext.refl h30
    refine WL.cq (gd_at (t := 36) rfl (by simp only [EN, Nat.reduceEqDiff, reduceIte, Bool.not_true, Bool.not_false, decide_eq_true_eq, hB4.cell] <;> rfl)) (fun hg5_9 => by simp only [EN, Nat.reduceEqDiff, reduceIte, qv_binOp, binv_neq, eq26, Option.map_some, Bool.not_true, Bool.not_false, decide_eq_true_eq, hB4.cell, hg5_9, GR]; rfl) ?_
    refine WL.qq (by simp only [EN, Nat.reduceEqDiff, reduceIte, qv_pick, pk_and, pk_or, GR, Bool.not_true, Bool.not_false, decide_eq_true_eq, hB4.cell]; rfl) ?_
    refine WL.nil ?_
    refine th_norm ?_
    refine hx_cond (by simp only [EN, Nat.reduceEqDiff, reduceIte, Bool.not_true, Bool.not_false, decide_eq_true_eq, hB4.cell]; rfl) (fun hct40 => ?_) (fun hct40 => ?_)
    ·
      simp at hct40
    ·
      try simp only [BD] at hct40
      refine hx_skip ?_
      refine th_norm ?_
      refine hx_seq ?_
      refine hx_region ?_
      refine WL.qq (by simp only [EN, Nat.reduceEqDiff, reduceIte, qv_move, Bool.not_true, Bool.not_false, decide_eq_true_eq, hB4.cell]; rfl) ?_
      refine WL.qq (by simp only [EN, Nat.reduceEqDiff, reduceIte, qv_load, ld41, readN, AR, Nat.zero_add, Nat.reduceAdd, Bool.not_true, Bool.not_false, decide_eq_true_eq, hB4.cell]; rfl) ?_
      refine WL.qq (by simp only [EN, Nat.reduceEqDiff, reduceIte, qv_move, e1, Bool.not_true, Bool.not_false, decide_eq_true_eq, hB4.cell]; rfl) ?_
      refine WL.cg Try.call31 (by simp only [EN, Nat.reduceEqDiff, reduceIte, AR, Bool.not_true, Bool.not_false, decide_eq_true_eq, hB4.cell]; exact c_agree hQ (by omega) hC hR am m cm (by omega) hm) ?_
      intro h7 hx7
      replace hE := hE.trans hx7
      replace hEo4 := hEo4.trans hx7
      replace hm := hm.ext hx7
      replace hT := hT.ext hx7
      replace hR := hR.ext hx7
      replace hs1 := hs1.ext hx7
      replace hB4 := hB4.ext hx7
      replace hC := hC.ext hx7
      refine WL.qq (by simp only [EN, Nat.reduceEqDiff, reduceIte, qv_move, Bool.not_true, Bool.not_false, decide_eq_true_eq, hB4.cell]; rfl) ?_
      refine WL.cq (gd_at (t := 45) rfl (by simp only [EN, Nat.reduceEqDiff, reduceIte, Bool.not_true, Bool.not_false, decide_eq_true_eq, hB4.cell] <;> rfl)) (fun hg7_5 => by simp only [EN, Nat.reduceEqDiff, reduceIte, qv_move, Bool.not_true, Bool.not_false, decide_eq_true_eq, hB4.cell, hg7_5, GR]; rfl) ?_
      refine WL.cq (gd_at (t := 45) rfl (by simp only [EN, Nat.reduceEqDiff, reduceIte, Bool.not_true, Bool.not_false, decide_eq_true_eq, hB4.cell] <;> rfl)) (fun hg7_6 => by simp only [EN, Nat.reduceEqDiff, reduceIte, qv_fieldAddr, fa41_0, Nat.zero_add, Nat.reduceAdd, Bool.not_true, Bool.not_false, decide_eq_true_eq, hB4.cell, hg7_6, GR]; rfl) ?_
      refine WL.cq (gd_at (t := 45) rfl (by simp only [EN, Nat.reduceEqDiff, reduceIte, Bool.not_true, Bool.not_false, decide_eq_true_eq, hB4.cell] <;> rfl)) (fun hg7_7 => by simp only [EN, Nat.reduceEqDiff, reduceIte, qv_load, ld38, readN, AR, Nat.zero_add, Nat.reduceAdd, Bool.not_true, Bool.not_false, decide_eq_true_eq, hB4.cell, hg7_7, GR]; rfl) ?_
      refine WL.cq (gd_at (t := 45) rfl (by simp only [EN, Nat.reduceEqDiff, reduceIte, Bool.not_true, Bool.not_false, decide_eq_true_eq, hB4.cell] <;> rfl)) (fun hg7_8 => by refine qv_bld (by simp only [EN, Nat.reduceEqDiff, reduceIte, AR, Bool.not_true, Bool.not_false, decide_eq_true_eq, hB4.cell, hg7_8, GR] <;> rfl) (by rw [bl41]; simp [Instr.fill, Value.cells]; rfl)) ?_
      refine WL.cq (gd_at (t := 45) rfl (by simp only [EN, Nat.reduceEqDiff, reduceIte, e1, Bool.not_true, Bool.not_false, decide_eq_true_eq, hB4.cell] <;> rfl)) (fun hg7_9 => by simp only [EN, Nat.reduceEqDiff, reduceIte, qv_move, e1, Bool.not_true, Bool.not_false, decide_eq_true_eq, hB4.cell, hg7_9, GR]; rfl) ?_
      refine WL.ccg (gd_at (t := 45) rfl (by simp only [EN, Nat.reduceEqDiff, reduceIte, Bool.not_true, Bool.not_false, decide_eq_true_eq, hB4.cell] <;> rfl)) Try.call31 (fun hg7_10 => by simp only [EN, Nat.reduceEqDiff, reduceIte, AR, Bool.not_true, Bool.not_false, decide_eq_true_eq, hB4.cell, hg7_10, GR]; exact c_agree hQ.reset (by omega) hT (w := rfV a1 (rR l).1.length c1 none ([] : List L2).length 0) ⟨a1, c1, none, 0, rfl, hs1, (fun i x hx => by simp at hx)⟩ am m cm (by omega) hm) ?_
      intro h8 hx8
      replace hE := hE.trans hx8
      replace hEo4 := hEo4.trans hx8
      replace hm := hm.ext hx8
      replace hT := hT.ext hx8
      replace hR := hR.ext hx8
      replace hs1 := hs1.ext hx8
      replace hB4 := hB4.ext hx8
      replace hC := hC.ext hx8
      refine WL.qq (by simp only [EN, Nat.reduceEqDiff, reduceIte, qv_pick, pk_and, pk_or, GR, Bool.not_true, Bool.not_false, decide_eq_true_eq, hB4.cell]; rfl) ?_
      refine WL.qq (by simp only [EN, Nat.reduceEqDiff, reduceIte, qv_assign, Bool.not_true, Bool.not_false, decide_eq_true_eq, hB4.cell]; rfl) ?_
      refine WL.nil ?_
      refine th_norm ?_
      refine hx_ret ?_
      refine fin_ret [.tmp 4] rfl rfl (by simp only [EN, Nat.reduceEqDiff, reduceIte, resv, e0, e1, Bool.not_true, Bool.not_false, decide_eq_true_eq, hB4.cell]; rfl) ?_  -- ret 1 r7
      exact ⟨by simp [retOf], hE⟩
set_option maxHeartbeats 4000000 in
theorem l_err (al : Option Addr) (l : List LOp) (cl : Nat) (o : LOp) {h : Heap} (hl : SlG 5 opL h al l) (ll : l.length ≤ 9223372036854775807) (hok : ∀ o ∈ l, LOk h o) (ho : LOk h o) :
    HCalls Try.prog 5 #[.slice al l.length cl, .agg (opL o).toArray] h (Grow (.bool true) h) := by
  have hfl := ho.x.rd
  refine hcalls2 Try.func5 rfl (by decide +kernel) (by simp only [Try.ntmps5]; exact of_decide_eq_true rfl) ?_
  intro e hin
  have e0 := hin 0 _ rfl
  have e1 := hin 1 _ rfl
  have hE : Ext h h := Ext.refl h
  refine hx_seq ?_
  refine hx_region ?_
  refine WL.box2 (by simp only [EN, Nat.reduceEqDiff, reduceIte, Value.cells, e1, Bool.not_true, Bool.not_false, decide_eq_true_eq]; rfl) ?_
  intro h1 B1 hx1 hlt1 hB1
  replace hE := hE.trans hx1
  replace hl := hl.ext hx1
  replace hfl := hfl.ext hx1
  refine WL.qq (by simp only [EN, Nat.reduceEqDiff, reduceIte, qv_assign, Bool.not_true, Bool.not_false, decide_eq_true_eq, hB1.cell]; rfl) ?_
  refine WL.nil ?_
  refine th_norm ?_
  refine hx_seq ?_
  refine hx_seq ?_
  refine hx_region ?_
  refine WL.cg Try.call11 (by simp only [EN, Nat.reduceEqDiff, reduceIte, AR, Bool.not_true, Bool.not_false, decide_eq_true_eq, hB1.cell]; exact c_known16 _) ?_
  intro h2 hx2
  replace hE := hE.trans hx2
  replace hl := hl.ext hx2
  replace hfl := hfl.ext hx2
  replace hB1 := hB1.ext hx2
  refine WL.qq (by simp only [EN, Nat.reduceEqDiff, reduceIte, qv_unOp, unv_not, Bool.not_true, Bool.not_false, decide_eq_true_eq, hB1.cell]; rfl) ?_
  refine WL.qq (by simp only [EN, Nat.reduceEqDiff, reduceIte, qv_move, Bool.not_true, Bool.not_false, decide_eq_true_eq, hB1.cell]; rfl) ?_
  refine WL.cq (gd_at (t := 18) rfl (by simp only [EN, Nat.reduceEqDiff, reduceIte, e0, Bool.not_true, Bool.not_false, decide_eq_true_eq, hB1.cell] <;> rfl)) (fun hg1_3 => by simp only [EN, Nat.reduceEqDiff, reduceIte, qv_move, e0, Bool.not_true, Bool.not_false, decide_eq_true_eq, hB1.cell, hg1_3, GR]; rfl) ?_
  refine WL.cck (gd_at (t := 18) rfl (by simp only [EN, Nat.reduceEqDiff, reduceIte, Bool.not_true, Bool.not_false, decide_eq_true_eq, hB1.cell] <;> rfl)) Try.call17 (fun hg1_4 => by simp only [EN, Nat.reduceEqDiff, reduceIte, AR, Bool.not_true, Bool.not_false, decide_eq_true_eq, hB1.cell, hg1_4, GR]; exact c_small al l cl ll hl) ?_
  refine WL.cq (gd_at (t := 18) rfl (by simp only [EN, Nat.reduceEqDiff, reduceIte, Bool.not_true, Bool.not_false, decide_eq_true_eq, hB1.cell] <;> rfl)) (fun hg1_5 => by simp only [EN, Nat.reduceEqDiff, reduceIte, qv_unOp, unv_not, Bool.not_true, Bool.not_false, decide_eq_true_eq, hB1.cell, hg1_5, GR]; rfl) ?_
  refine WL.qq (by simp only [EN, Nat.reduceEqDiff, reduceIte, qv_pick, pk_and, pk_or, GR, Bool.not_true, Bool.not_false, decide_eq_true_eq, hB1.cell]; rfl) ?_
  refine WL.qq (by simp only [EN, Nat.reduceEqDiff, reduceIte, qv_move, Bool.not_true, Bool.not_false, decide_eq_true_eq, hB1.cell]; rfl) ?_
  refine WL.cq (gd_at (t := 23) rfl (by simp only [EN, Nat.reduceEqDiff, reduceIte, Bool.not_true, Bool.not_false, decide_eq_true_eq, hB1.cell] <;> rfl)) (fun hg1_8 => by simp only [EN, Nat.reduceEqDiff, reduceIte, qv_load, ld45, readN, AR, Nat.zero_add, Nat.reduceAdd, Bool.not_true, Bool.not_false, decide_eq_true_eq, hB1.cell, hg1_8, GR]; rfl) ?_
  refine WL.geX (gd_at (t := 23) rfl (by simp only [EN, Nat.reduceEqDiff, reduceIte, Bool.not_true, Bool.not_false, decide_eq_true_eq, hB1.cell] <;> rfl)) (fun hg1_9 => e_lit1X Try.underlying35 sz45 zr45 (by decide) (by simp only [EN, Nat.reduceEqDiff, reduceIte, Value.cells, Bool.not_true, Bool.not_false, decide_eq_true_eq, hB1.cell, hg1_9, GR]; rfl) rfl) ?_
  intro v1_9 h3 hx3 w1_9 n1_9
  replace hE := hE.trans hx3
  replace hl := hl.ext hx3
  replace hfl := hfl.ext hx3
  replace hB1 := hB1.ext hx3
  refine WL.cck (gd_at (t := 23) rfl (by simp only [EN, Nat.reduceEqDiff, reduceIte, Bool.not_true, Bool.not_false, decide_eq_true_eq, hB1.cell] <;> rfl)) Try.call17 (fun hg1_10 => by simp only [EN, Nat.reduceEqDiff, reduceIte, AR, Bool.not_true, Bool.not_false, decide_eq_true_eq, hB1.cell, hg1_10, GR]; exact c_small1 (w1_9 (by simpa using hg1_10))) ?_
  refine WL.cq (gd_at (t := 23) rfl (by simp only [EN, Nat.reduceEqDiff, reduceIte, Bool.not_true, Bool.not_false, decide_eq_true_eq, hB1.cell] <;> rfl)) (fun hg1_11 => by simp only [EN, Nat.reduceEqDiff, reduceIte, qv_unOp, unv_not, Bool.not_true, Bool.not_false, decide_eq_true_eq, hB1.cell, hg1_11, GR]; rfl) ?_
  refine WL.qq (by simp only [EN, Nat.reduceEqDiff, reduceIte, qv_pick, pk_and, pk_or, GR, Bool.not_true, Bool.not_false, decide_eq_true_eq, hB1.cell]; rfl) ?_
  refine WL.nil ?_
  refine th_norm ?_
  refine hx_cond (by simp only [EN, Nat.reduceEqDiff, reduceIte, Bool.not_true, Bool.not_false, decide_eq_true_eq, hB1.cell]; rfl) (fun hct28 => ?_) (fun hct28 => ?_)
  ·
    try simp only [BD] at hct28
    refine hx_seq ?_
    refine hx_region ?_
    refine WL.cg Try.call11 (by simp only [EN, Nat.reduceEqDiff, reduceIte, AR, Bool.not_true, Bool.not_false, decide_eq_true_eq, hB1.cell]; exact c_known16 _) ?_
    intro h4 hx4
    replace hE := hE.trans hx4
    replace hl := hl.ext hx4
    replace hfl := hfl.ext hx4
    replace hB1 := hB1.ext hx4
    refine WL.qq (by simp only [EN, Nat.reduceEqDiff, reduceIte, qv_assign, Bool.not_true, Bool.not_false, decide_eq_true_eq, hB1.cell]; rfl) ?_
    refine WL.nil ?_
    refine th_norm ?_
    refine hx_ret ?_
    refine th_ret ?_
    refine fin_ret [.tmp 4] rfl rfl (by simp only [EN, Nat.reduceEqDiff, reduceIte, resv, e0, e1, Bool.not_true, Bool.not_false, decide_eq_true_eq, hB1.cell]; rfl) ?_  -- ret 0 r2
    exact ⟨by simp [retOf], hE⟩
  ·
    try simp only [BD] at hct28
    have hsm : smallB l = true := (by cases h8 : smallB l; (rw [h8] at hct28; simp at hct28); rfl)
    have hsm1 : smallB [o] = true := (by rw [hsm] at hct28; simpa using hct28)
    obtain ⟨hl40, hl12⟩ := small_ok hsm
    have hle12 := (small_ok hsm1).2 o (by simp)
    refine hx_skip ?_
    refine th_norm ?_
    refine hx_seq ?_
    refine hx_region ?_
    have kE := hE; have kl := hl; have kfl := hfl; have kB1 := hB1
    refine WL.qq (by simp only [EN, Nat.reduceEqDiff, reduceIte, qv_move, e0, Bool.not_true, Bool.not_false, decide_eq_true_eq, hB1.cell]; rfl) ?_
    refine WL.ce Try.call22 (by simp only [EN, Nat.reduceEqDiff, reduceIte, AR, Bool.not_true, Bool.not_false, decide_eq_true_eq, hB1.cell]; exact c_runM al l cl hsm hl (fun o ho => (hok o ho).ext hE)) ?_
    rintro _ h5 ⟨hx5, p, w, rfl, hT, hR, hQ⟩
    replace hE := hE.trans hx5
    replace hl := hl.ext hx5
    replace hfl := hfl.ext hx5
    replace hB1 := hB1.ext hx5
    simp only [put_some]
    obtain ⟨a1, c1, a2, c2, rfl, hs1, hs2⟩ := hR.ex
    refine WL.qq (by simp only [EN, Nat.reduceEqDiff, reduceIte, qv_move, Bool.not_true, Bool.not_false, decide_eq_true_eq, hB1.cell]; rfl) ?_
    refine WL.qq (by simp only [EN, Nat.reduceEqDiff, reduceIte, qv_extract, AR, Bool.not_true, Bool.not_false, decide_eq_true_eq, hB1.cell]; rfl) ?_
    refine WL.qq (by simp only [EN, Nat.reduceEqDiff, reduceIte, qv_extract, AR, Bool.not_true, Bool.not_false, decide_eq_true_eq, hB1.cell]; rfl) ?_
    refine WL.qq (by simp only [EN, Nat.reduceEqDiff, reduceIte, qv_extract, AR, Bool.not_true, Bool.not_false, decide_eq_true_eq, hB1.cell]; rfl) ?_
    refine WL.alloc2 zr41 ?_
    intro h6 B6 hx6 hlt6 hB6
    have hne1_6 : B6 ≠ B1 := by have := (Array.getElem?_eq_some_iff.1 hB1).1; omega
    have hb0_6 := Nat.le_trans hE.size hlt6
    have hl_s6 := hl
    have hfl_s6 := hfl
    have hB1_s6 := hB1
    have hT_s6 := hT
    have hR_s6 := hR
    replace hE := hE.trans hx6
    replace hl := hl.ext hx6
    replace hfl := hfl.ext hx6
    replace hB1 := hB1.ext hx6
    replace hT := hT.ext hx6
    replace hR := hR.ext hx6
    have hEo6 := hx6
    simp only [Value.cells] at hB6
    refine WL.qq (by simp only [EN, Nat.reduceEqDiff, reduceIte, qv_assign, Bool.not_true, Bool.not_false, decide_eq_true_eq, hB1.cell, hB6.cell]; rfl) ?_
    refine WL.store (by simp only [EN, Nat.reduceEqDiff, reduceIte, Bool.not_true, Bool.not_false, decide_eq_true_eq, hB1.cell, hB6.cell] <;> rfl) sz41 (by simp only [EN, Nat.reduceEqDiff, reduceIte, Value.cells, Bool.not_true, Bool.not_false, decide_eq_true_eq, hB1.cell, hB6.cell] <;> rfl) rfl hB6 (by first | decide | (simp; done) | (simp; omega)) (by simp [Value.oneCell']) ?_
    intro h7 hw7
    replace hE := hw7.ext hE hb0_6
    replace hEo6 := hw7.ext hEo6 hlt6
    replace hl := hl_s6.ext hEo6
    replace hfl := hfl_s6.ext hEo6
    replace hB1 := hB1_s6.ext hEo6
    replace hT := hT_s6.ext hEo6
    replace hR := hR_s6.ext hEo6
    replace hB6 := hw7.at_
    try simp only [splc, List.take_succ_cons, List.take_zero, List.take_nil, List.drop_succ_cons, List.drop_zero, List.drop_nil, List.cons_append, List.nil_append, List.length_cons, List.length_nil, Nat.zero_add, Nat.add_zero, Nat.reduceAdd, List.append_nil] at hB6
    refine WL.qq (by simp only [EN, Nat.reduceEqDiff, reduceIte, qv_assign, Bool.not_true, Bool.not_false, decide_eq_true_eq, hB1.cell, hB6.cell]; rfl) ?_
    refine WL.nil ?_
    refine th_norm ?_
    refine hx_seq ?_
    refine hx_region ?_
    have jE := hE; have jT := hT; have jR := hR; have jB1 := hB1; have jB6 := hB6; have jfl := hfl; have jl := hl; have jEo6 := hEo6
    have q1 := hQ.ll; have q2 := hQ.ln; have q3 := hQ.lF; have q4 := hQ.pm.length_eq; have hcm : cntM (rS l).1 (aftS (rS l).2 o.x.L) ≤ 9223372036854775807 := (by have := cnt_len (rS l).1 (aftS (rS l).2 o.x.L); have := aft_len (rS l).2 o.x.L; omega)
    refine WL.qq (by simp only [EN, Nat.reduceEqDiff, reduceIte, qv_move, Bool.not_true, Bool.not_false, decide_eq_true_eq, hB1.cell, hB6.cell]; rfl) ?_
    refine WL.ce Try.call23 (by simp only [EN, Nat.reduceEqDiff, reduceIte, AR, Bool.not_true, Bool.not_false, decide_eq_true_eq, hB1.cell, hB6.cell]; exact tb_Clone hT) ?_
    rintro _ h8 ⟨hx8, p2, rfl, hC⟩
    replace hE := hE.trans hx8
    replace hEo6 := hEo6.trans hx8
    replace hl := hl.ext hx8
    replace hfl := hfl.ext hx8
    replace hB1 := hB1.ext hx8
    replace hT := hT.ext hx8
    replace hR := hR.ext hx8
    replace hB6 := hB6.ext hx8
    simp only [put_some]
    refine WL.qq (by simp only [EN, Nat.reduceEqDiff, reduceIte, qv_assign, Bool.not_true, Bool.not_false, decide_eq_true_eq, hB1.cell, hB6.cell]; rfl) ?_
    refine WL.nil ?_
    refine th_norm ?_
    refine hx_seq ?_
    refine hx_seq ?_
    refine hx_region ?_
    refine WL.qq (by simp only [EN, Nat.reduceEqDiff, reduceIte, qv_move, Bool.not_true, Bool.not_false, decide_eq_true_eq, hB1.cell, hB6.cell]; rfl) ?_
    refine WL.qq (by simp only [EN, Nat.reduceEqDiff, reduceIte, qv_unOp, unv_not, Bool.not_true, Bool.not_false, decide_eq_true_eq, hB1.cell, hB6.cell]; rfl) ?_
    refine WL.qq (by simp only [EN, Nat.reduceEqDiff, reduceIte, qv_move, Bool.not_true, Bool.not_false, decide_eq_true_eq, hB1.cell, hB6.cell]; rfl) ?_
    refine WL.cq (gd_at (t := 40) rfl (by simp only [EN, Nat.reduceEqDiff, reduceIte, Bool.not_true, Bool.not_false, decide_eq_true_eq, hB1.cell, hB6.cell] <;> rfl)) (fun hg5_3 => by simp only [EN, Nat.reduceEqDiff, reduceIte, qv_move, Bool.not_true, Bool.not_false, decide_eq_true_eq, hB1.cell, hB6.cell, hg5_3, GR]; rfl) ?_
    refine WL.cq (gd_at (t := 40) rfl (by simp only [EN, Nat.reduceEqDiff, reduceIte, Bool.not_true, Bool.not_false, decide_eq_true_eq, hB1.cell, hB6.cell] <;> rfl)) (fun hg5_4 => by simp only [EN, Nat.reduceEqDiff, reduceIte, qv_binOp, binv_eql, eqz24, eqn24, eqm24, Option.map_some, Bool.not_true, Bool.not_false, decide_eq_true_eq, hB1.cell, hB6.cell, hg5_4, GR]; rfl) ?_
    refine WL.qq (by simp only [EN, Nat.reduceEqDiff, reduceIte, qv_pick, pk_and, pk_or, GR, Bool.not_true, Bool.not_false, decide_eq_true_eq, hB1.cell, hB6.cell]; rfl) ?_
    refine WL.qq (by simp only [EN, Nat.reduceEqDiff, reduceIte, qv_move, Bool.not_true, Bool.not_false, decide_eq_true_eq, hB1.cell, hB6.cell]; rfl) ?_
    refine WL.cq (gd_at (t := 44) rfl (by simp only [EN, Nat.reduceEqDiff, reduceIte, Bool.not_true, Bool.not_false, decide_eq_true_eq, hB1.cell, hB6.cell] <;> rfl)) (fun hg5_7 => by simp only [EN, Nat.reduceEqDiff, reduceIte, qv_move, Bool.not_true, Bool.not_false, decide_eq_true_eq, hB1.cell, hB6.cell, hg5_7, GR]; rfl) ?_
    refine WL.cq (gd_at (t := 44) rfl (by simp only [EN, Nat.reduceEqDiff, reduceIte, Bool.not_true, Bool.not_false, decide_eq_true_eq, hB1.cell, hB6.cell] <;> rfl)) (fun hg5_8 => by simp only [EN, Nat.reduceEqDiff, reduceIte, qv_move, Bool.not_true, Bool.not_false, decide_eq_true_eq, hB1.cell, hB6.cell, hg5_8, GR]; rfl) ?_
    refine WL.ccg (gd_at (t := 44) rfl (by simp only [EN, Nat.reduceEqDiff, reduceIte, Bool.not_true, Bool.not_false, decide_eq_true_eq, hB1.cell, hB6.cell] <;> rfl)) Try.call24 (fun hg5_9 => by simp only [EN, Nat.reduceEqDiff, reduceIte, AR, Bool.not_true, Bool.not_false, decide_eq_true_eq, hB1.cell, hB6.cell, hg5_9, GR]; exact tb_EqualS hC hT) ?_
    intro h9 hx9
    replace hE := hE.trans hx9
    replace hEo6 := hEo6.trans hx9
    replace hl := hl.ext hx9
    replace hfl := hfl.ext hx9
    replace hB1 := hB1.ext hx9
    replace hT := hT.ext hx9
    replace hR := hR.ext hx9
    replace hB6 := hB6.ext hx9
    replace hC := hC.ext hx9
    refine WL.cq (gd_at (t := 44) rfl (by simp only [EN, Nat.reduceEqDiff, reduceIte, Bool.not_true, Bool.not_false, decide_eq_true_eq, hB1.cell, hB6.cell] <;> rfl)) (fun hg5_10 => by simp only [EN, Nat.reduceEqDiff, reduceIte, qv_unOp, unv_not, Bool.not_true, Bool.not_false, decide_eq_true_eq, hB1.cell, hB6.cell, hg5_10, GR]; rfl) ?_
    refine WL.qq (by simp only [EN, Nat.reduceEqDiff, reduceIte, qv_pick, pk_and, pk_or, GR, Bool.not_true, Bool.not_false, decide_eq_true_eq, hB1.cell, hB6.cell]; rfl) ?_
    refine WL.nil ?_
    refine th_norm ?_
    refine hx_cond (by simp only [EN, Nat.reduceEqDiff, reduceIte, Bool.not_true, Bool.not_false, decide_eq_true_eq, hB1.cell, hB6.cell]; rfl) (fun hct49 => ?_) (fun hct49 => ?_)
    ·
      simp at hct49
    ·
      try simp only [BD] at hct49
      refine hx_skip ?_
      refine th_norm ?_
      refine hx_seq ?_
      refine hx_seq ?_
      refine hx_region ?_
      refine WL.qq (by simp only [EN, Nat.reduceEqDiff, reduceIte, qv_move, Bool.not_true, Bool.not_false, decide_eq_true_eq, hB1.cell, hB6.cell]; rfl) ?_
      refine WL.qq (by simp only [EN, Nat.reduceEqDiff, reduceIte, qv_fieldAddr, fa45_4, Nat.zero_add, Nat.reduceAdd, Bool.not_true, Bool.not_false, decide_eq_true_eq, hB1.cell, hB6.cell]; rfl) ?_
      refine WL.qq (by simp only [EN, Nat.reduceEqDiff, reduceIte, qv_load, ld39, readN, AR, Nat.zero_add, Nat.reduceAdd, Bool.not_true, Bool.not_false, decide_eq_true_eq, hB1.cell, hB6.cell]; rfl) ?_
      refine WL.ce Try.call26 (by simp only [EN, Nat.reduceEqDiff, reduceIte, AR, Bool.not_true, Bool.not_false, decide_eq_true_eq, hB1.cell, hB6.cell]; exact c_flows o.x.a o.x.L o.x.c (by omega) hfl) ?_
      rintro _ h10 ⟨hx10, hoe⟩
      replace hE := hE.trans hx10
      replace hEo6 := hEo6.trans hx10
      replace hl := hl.ext hx10
      replace hfl := hfl.ext hx10
      replace hB1 := hB1.ext hx10
      replace hT := hT.ext hx10
      replace hR := hR.ext hx10
      replace hB6 := hB6.ext hx10
      replace hC := hC.ext hx10
      simp only [put_some]
      obtain ⟨ae, ce, rfl, _, hse, _⟩ := Own.slG (f := limL) (sz := 3) (fun _ => rfl) hoe rfl
      refine WL.cg Try.call25 (by simp only [EN, Nat.reduceEqDiff, reduceIte, AR, Bool.not_true, Bool.not_false, decide_eq_true_eq, hB1.cell, hB6.cell]; exact tb_Check ae o.x.L ce (by omega) hcm hT hse) ?_
      intro h11 hx11
      replace hE := hE.trans hx11
      replace hEo6 := hEo6.trans hx11
      replace hl := hl.ext hx11
      replace hfl := hfl.ext hx11
      replace hB1 := hB1.ext hx11
      replace hT := hT.ext hx11
      replace hR := hR.ext hx11
      replace hB6 := hB6.ext hx11
      replace hC := hC.ext hx11
      refine WL.qq (by simp only [EN, Nat.reduceEqDiff, reduceIte, qv_assign, Bool.not_true, Bool.not_false, decide_eq_true_eq, hB1.cell, hB6.cell]; rfl) ?_
      refine WL.nil ?_
      refine th_norm ?_
      refine hx_seq ?_
      refine hx_region ?_
      refine WL.qq (by simp only [EN, Nat.reduceEqDiff, reduceIte, qv_move, Bool.not_true, Bool.not_false, decide_eq_true_eq, hB1.cell, hB6.cell]; rfl) ?_
      refine WL.qq (by simp only [EN, Nat.reduceEqDiff, reduceIte, qv_move, Bool.not_true, Bool.not_false, decide_eq_true_eq, hB1.cell, hB6.cell]; rfl) ?_
      refine WL.cg Try.call24 (by simp only [EN, Nat.reduceEqDiff, reduceIte, AR, Bool.not_true, Bool.not_false, decide_eq_true_eq, hB1.cell, hB6.cell]; exact tb_EqualS hC hT) ?_
      intro h12 hx12
      replace hE := hE.trans hx12
      replace hEo6 := hEo6.trans hx12
      replace hl := hl.ext hx12
      replace hfl := hfl.ext hx12
      replace hB1 := hB1.ext hx12
      replace hT := hT.ext hx12
      replace hR := hR.ext hx12
      replace hB6 := hB6.ext hx12
      replace hC := hC.ext hx12
      refine WL.qq (by simp only [EN, Nat.reduceEqDiff, reduceIte, qv_unOp, unv_not, Bool.not_true, Bool.not_false, decide_eq_true_eq, hB1.cell, hB6.cell]; rfl) ?_
      refine WL.qq (by simp only [EN, Nat.reduceEqDiff, reduceIte, qv_move, Bool.not_true, Bool.not_false, decide_eq_true_eq, hB1.cell, hB6.cell]; rfl) ?_
      refine WL.cq (gd_at (t := 59) rfl (by simp only [EN, Nat.reduceEqDiff, reduceIte, Bool.not_true, Bool.not_false, decide_eq_true_eq, hB1.cell, hB6.cell] <;> rfl)) (fun hg8_5 => by simp only [EN, Nat.reduceEqDiff, reduceIte, qv_move, Bool.not_true, Bool.not_false, decide_eq_true_eq, hB1.cell, hB6.cell, hg8_5, GR]; rfl) ?_
      refine WL.cq (gd_at (t := 59) rfl (by simp only [EN, Nat.reduceEqDiff, reduceIte, Bool.not_true, Bool.not_false, decide_eq_true_eq, hB1.cell, hB6.cell] <;> rfl)) (fun hg8_6 => by simp only [EN, Nat.reduceEqDiff, reduceIte, qv_move, Bool.not_true, Bool.not_false, decide_eq_true_eq, hB1.cell, hB6.cell, hg8_6, GR]; rfl) ?_
      refine WL.cq (gd_at (t := 59) rfl (by simp only [EN, Nat.reduceEqDiff, reduceIte, Bool.not_true, Bool.not_false, decide_eq_true_eq, hB1.cell, hB6.cell] <;> rfl)) (fun hg8_7 => by simp only [EN, Nat.reduceEqDiff, reduceIte, qv_fieldAddr, fa45_4, Nat.zero_add, Nat.reduceAdd, Bool.not_true, Bool.not_false, decide_eq_true_eq, hB1.cell, hB6.cell, hg8_7, GR]; rfl) ?_
      refine WL.cq (gd_at (t := 59) rfl (by simp only [EN, Nat.reduceEqDiff, reduceIte, Bool.not_true, Bool.not_false, decide_eq_true_eq, hB1.cell, hB6.cell] <;> rfl)) (fun hg8_8 => by simp only [EN, Nat.reduceEqDiff, reduceIte, qv_load, ld39, readN, AR, Nat.zero_add, Nat.reduceAdd, Bool.not_true, Bool.not_false, decide_eq_true_eq, hB1.cell, hB6.cell, hg8_8, GR]; rfl) ?_
      refine WL.gy _ (gd_at (t := 59) rfl (by simp only [EN, Nat.reduceEqDiff, reduceIte, Bool.not_true, Bool.not_false, decide_eq_true_eq, hB1.cell, hB6.cell] <;> rfl)) (e_call Try.call26 (by simp only [EN, Nat.reduceEqDiff, reduceIte, AR, Bool.not_true, Bool.not_false, decide_eq_true_eq, hB1.cell, hB6.cell]; exact c_flows o.x.a o.x.L o.x.c (by omega) hfl)) ?_
      rintro _ h13 ⟨hx13, hog⟩
      replace hE := hE.trans hx13
      replace hEo6 := hEo6.trans hx13
      replace hl := hl.ext hx13
      replace hfl := hfl.ext hx13
      replace hB1 := hB1.ext hx13
      replace hT := hT.ext hx13
      replace hR := hR.ext hx13
      replace hB6 := hB6.ext hx13
      replace hC := hC.ext hx13
      simp only [put_some]
      obtain ⟨ag, cg, rfl, _, hsg, _⟩ := Own.slG (f := limL) (sz := 3) (fun _ => rfl) hog rfl
      refine WL.gy _ (gd_at (t := 59) rfl (by simp only [EN, Nat.reduceEqDiff, reduceIte, Bool.not_true, Bool.not_false, decide_eq_true_eq, hB1.cell, hB6.cell] <;> rfl)) (e_call Try.call15 (by simp only [EN, Nat.reduceEqDiff, reduceIte, AR, Bool.not_true, Bool.not_false, decide_eq_true_eq, hB1.cell, hB6.cell]; exact tb_Record ag o.x.L cg (by omega) hcm hC hsg rfl)) ?_
      rintro _ h30 ⟨rfl, hC2⟩
      simp only [put_some]
      replace hE := jE.trans hC2.E
      replace hT := jT.ext hC2.E
      replace hR := jR.ext hC2.E
      replace hB1 := jB1.ext hC2.E
      replace hB6 := jB6.ext hC2.E
      replace hfl := jfl.ext hC2.E
      replace hl := jl.ext hC2.E
      replace hEo6 := jEo6.trans hC2.E
      replace hC := hC2
      refine WL.cq (gd_at (t := 59) rfl (by simp only [EN, Nat.reduceEqDiff, reduceIte, Bool.not_true, Bool.not_false, decide_eq_true_eq, hB1.cell, hB6.cell] <;> rfl)) (fun hg8_11 => by simp only [EN, Nat.reduceEqDiff, reduceIte, qv_binOp, binv_neq, eq26, Option.map_some, Bool.not_true, Bool.not_false, decide_eq_true_eq, hB1.cell, hB6.cell, hg8_11, GR]; rfl) ?_
      refine WL.qq (by simp only [EN, Nat.reduceEqDiff, reduceIte, qv_pick, pk_and, pk_or, GR, Bool.not_true, Bool.not_false, decide_eq_true_eq, hB1.cell, hB6.cell]; rfl) ?_
      refine WL.nil ?_
      refine th_norm ?_
      refine hx_cond (by simp only [EN, Nat.reduceEqDiff, reduceIte, Bool.not_true, Bool.not_false, decide_eq_true_eq, hB1.cell, hB6.cell]; rfl) (fun hct67 => ?_) (fun hct67 => ?_)
      ·
        simp at hct67
      ·
        try simp only [BD] at hct67
        refine hx_skip ?_
        refine th_norm ?_
        refine hx_seq ?_
        refine hx_region ?_
        have hst := hQ.step o hle12
        refine WL.qq (by simp only [EN, Nat.reduceEqDiff, reduceIte, qv_move, Bool.not_true, Bool.not_false, decide_eq_true_eq, hB1.cell, hB6.cell]; rfl) ?_
        refine WL.qq (by simp only [EN, Nat.reduceEqDiff, reduceIte, qv_load, ld41, readN, AR, Nat.zero_add, Nat.reduceAdd, Bool.not_true, Bool.not_false, decide_eq_true_eq, hB1.cell, hB6.cell]; rfl) ?_
        refine WL.qq (by simp only [EN, Nat.reduceEqDiff, reduceIte, qv_load, ld45, readN, AR, Nat.zero_add, Nat.reduceAdd, Bool.not_true, Bool.not_false, decide_eq_true_eq, hB1.cell, hB6.cell]; rfl) ?_
        refine WL.ce Try.call18 (by simp only [EN, Nat.reduceEqDiff, reduceIte, AR, Bool.not_true, Bool.not_false, decide_eq_true_eq, hB1.cell, hB6.cell]; exact c_do o ho.k hT hR hfl hle12 (by omega) (by omega) (by omega) (by omega)) ?_
        rintro _ h40 ⟨w2, rfl, hT2, hR2, hTu⟩
        simp only [put_some]
        obtain ⟨a3, c3, a4, c4, rfl, _, _⟩ := hR2.ex
        replace hE := kE.trans hT2.E
        replace hl := kl.ext hT2.E
        replace hfl := kfl.ext hT2.E
        replace hB6 := hB6.turn hTu (hT.ne hB6 (by decide))
        replace hB1 := kB1.ext hT2.E
        replace hT := hT2
        replace hEo6 := Ext.refl h40
        refine WL.qq (by simp only [EN, Nat.reduceEqDiff, reduceIte, qv_move, Bool.not_true, Bool.not_false, decide_eq_true_eq, hB1.cell, hB6.cell]; rfl) ?_
        refine WL.qq (by simp only [EN, Nat.reduceEqDiff, reduceIte, qv_extract, AR, Bool.not_true, Bool.not_false, decide_eq_true_eq, hB1.cell, hB6.cell]; rfl) ?_
        refine WL.qq (by simp only [EN, Nat.reduceEqDiff, reduceIte, qv_extract, AR, Bool.not_true, Bool.not_false, decide_eq_true_eq, hB1.cell, hB6.cell]; rfl) ?_
        refine WL.qq (by simp only [EN, Nat.reduceEqDiff, reduceIte, qv_extract, AR, Bool.not_true, Bool.not_false, decide_eq_true_eq, hB1.cell, hB6.cell]; rfl) ?_
        refine WL.allocSt zr41 sz41 (fun u => by simp only [EN, Nat.reduceEqDiff, reduceIte, Value.cells, Bool.not_true, Bool.not_false, decide_eq_true_eq, hB1.cell, hB6.cell]; rfl) ⟨rfl, rfl⟩ (by simp [Value.oneCell']) ?_
        intro h14 B14 hx14 hlt14 hB14
        have hne6_14 : B14 ≠ B6 := by have := (Array.getElem?_eq_some_iff.1 hB6).1; omega
        replace hE := hE.trans hx14
        replace hEo6 := hEo6.trans hx14
        replace hl := hl.ext hx14
        replace hfl := hfl.ext hx14
        replace hB1 := hB1.ext hx14
        replace hT := hT.ext hx14
        replace hB6 := hB6.ext hx14
        refine WL.qq (by simp only [EN, Nat.reduceEqDiff, reduceIte, qv_assign, Bool.not_true, Bool.not_false, decide_eq_true_eq, hB1.cell, hB6.cell, hB14.cell]; rfl) ?_
        refine WL.qq (by simp only [EN, Nat.reduceEqDiff, reduceIte, qv_assign, Bool.not_true, Bool.not_false, decide_eq_true_eq, hB1.cell, hB6.cell, hB14.cell]; rfl) ?_
        refine WL.nil ?_
        refine th_norm ?_
        refine hx_seq ?_
        refine hx_seq ?_
        refine hx_region ?_
        refine WL.qq (by simp only [EN, Nat.reduceEqDiff, reduceIte, qv_move, Bool.not_true, Bool.not_false, decide_eq_true_eq, hB1.cell, hB6.cell, hB14.cell]; rfl) ?_
        refine WL.qq (by simp only [EN, Nat.reduceEqDiff, reduceIte, qv_move, Bool.not_true, Bool.not_false, decide_eq_true_eq, hB1.cell, hB6.cell, hB14.cell]; rfl) ?_
        refine WL.qq (by simp only [EN, Nat.reduceEqDiff, reduceIte, qv_binOp, binv_neq, eq3, Option.map_some, Bool.not_true, Bool.not_false, decide_eq_true_eq, hB1.cell, hB6.cell, hB14.cell]; rfl) ?_
        refine WL.nil ?_
        refine th_norm ?_
        refine hx_cond (by simp only [EN, Nat.reduceEqDiff, reduceIte, Bool.not_true, Bool.not_false, decide_eq_true_eq, hB1.cell, hB6.cell, hB14.cell]; rfl) (fun hct78 => ?_) (fun hct78 => ?_)
        ·
          simp [hst.1] at hct78
        ·
          try simp only [BD] at hct78
          refine hx_skip ?_
          refine th_norm ?_
          refine hx_seq ?_
          refine hx_region ?_
          refine WL.qq (by simp only [EN, Nat.reduceEqDiff, reduceIte, qv_move, e0, Bool.not_true, Bool.not_false, decide_eq_true_eq, hB1.cell, hB6.cell, hB14.cell]; rfl) ?_
          refine WL.ce Try.call22 (by simp only [EN, Nat.reduceEqDiff, reduceIte, AR, Bool.not_true, Bool.not_false, decide_eq_true_eq, hB1.cell, hB6.cell, hB14.cell]; exact c_runM al l cl hsm hl (fun o ho => (hok o ho).ext hE)) ?_
          rintro _ h15 ⟨hx15, p3, w3, rfl, hT3, hR3, _⟩
          replace hE := hE.trans hx15
          replace hEo6 := hEo6.trans hx15
          replace hl := hl.ext hx15
          replace hfl := hfl.ext hx15
          replace hB1 := hB1.ext hx15
          replace hT := hT.ext hx15
          replace hB6 := hB6.ext hx15
          replace hB14 := hB14.ext hx15
          simp only [put_some]
          obtain ⟨a5, c5, a6, c6, rfl, _, _⟩ := hR3.ex
          refine WL.qq (by simp only [EN, Nat.reduceEqDiff, reduceIte, qv_move, Bool.not_true, Bool.not_false, decide_eq_true_eq, hB1.cell, hB6.cell, hB14.cell]; rfl) ?_
          refine WL.qq (by simp only [EN, Nat.reduceEqDiff, reduceIte, qv_extract, AR, Bool.not_true, Bool.not_false, decide_eq_true_eq, hB1.cell, hB6.cell, hB14.cell]; rfl) ?_
          refine WL.qq (by simp only [EN, Nat.reduceEqDiff, reduceIte, qv_extract, AR, Bool.not_true, Bool.not_false, decide_eq_true_eq, hB1.cell, hB6.cell, hB14.cell]; rfl) ?_
          refine WL.qq (by simp only [EN, Nat.reduceEqDiff, reduceIte, qv_extract, AR, Bool.not_true, Bool.not_false, decide_eq_true_eq, hB1.cell, hB6.cell, hB14.cell]; rfl) ?_
          refine WL.alloc2 zr41 ?_
          intro h16 B16 hx16 hlt16 hB16
          have hne1_16 : B16 ≠ B1 := by have := (Array.getElem?_eq_some_iff.1 hB1).1; omega
          have hne6_16 : B16 ≠ B6 := by have := (Array.getElem?_eq_some_iff.1 hB6).1; omega
          have hne14_16 : B16 ≠ B14 := by have := (Array.getElem?_eq_some_iff.1 hB14).1; omega
          have hb0_16 := Nat.le_trans hE.size hlt16
          have hbo6_16 := Nat.le_trans hEo6.size hlt16
          have hl_s16 := hl
          have hfl_s16 := hfl
          have hB1_s16 := hB1
          have hT_s16 := hT
          have hB6_s16 := hB6
          have hB14_s16 := hB14
          have hT3_s16 := hT3
          replace hE := hE.trans hx16
          replace hEo6 := hEo6.trans hx16
          replace hl := hl.ext hx16
          replace hfl := hfl.ext hx16
          replace hB1 := hB1.ext hx16
          replace hT := hT.ext hx16
          replace hB6 := hB6.ext hx16
          replace hB14 := hB14.ext hx16
          replace hT3 := hT3.ext hx16
          have hEo16 := hx16
          simp only [Value.cells] at hB16
          refine WL.qq (by simp only [EN, Nat.reduceEqDiff, reduceIte, qv_assign, Bool.not_true, Bool.not_false, decide_eq_true_eq, hB1.cell, hB6.cell, hB14.cell, hB16.cell]; rfl) ?_
          refine WL.store (by simp only [EN, Nat.reduceEqDiff, reduceIte, Bool.not_true, Bool.not_false, decide_eq_true_eq, hB1.cell, hB6.cell, hB14.cell, hB16.cell] <;> rfl) sz41 (by simp only [EN, Nat.reduceEqDiff, reduceIte, Value.cells, Bool.not_true, Bool.not_false, decide_eq_true_eq, hB1.cell, hB6.cell, hB14.cell, hB16.cell] <;> rfl) rfl hB16 (by first | decide | (simp; done) | (simp; omega)) (by simp [Value.oneCell']) ?_
          intro h17 hw17
          replace hE := hw17.ext hE hb0_16
          replace hEo6 := hw17.ext hEo6 hbo6_16
          replace hEo16 := hw17.ext hEo16 hlt16
          replace hl := hl_s16.ext hEo16
          replace hfl := hfl_s16.ext hEo16
          replace hB1 := hB1_s16.ext hEo16
          replace hT := hT_s16.ext hEo16
          replace hB6 := hB6_s16.ext hEo16
          replace hB14 := hB14_s16.ext hEo16
          replace hT3 := hT3_s16.ext hEo16
          replace hB16 := hw17.at_
          try simp only [splc, List.take_succ_cons, List.take_zero, List.take_nil, List.drop_succ_cons, List.drop_zero, List.drop_nil, List.cons_append, List.nil_append, List.length_cons, List.length_nil, Nat.zero_add, Nat.add_zero, Nat.reduceAdd, List.append_nil] at hB16
          refine WL.qq (by simp only [EN, Nat.reduceEqDiff, reduceIte, qv_assign, Bool.not_true, Bool.not_false, decide_eq_true_eq, hB1.cell, hB6.cell, hB14.cell, hB16.cell]; rfl) ?_
          refine WL.nil ?_
          refine th_norm ?_
          refine hx_seq ?_
          refine hx_region ?_
          refine WL.qq (by simp only [EN, Nat.reduceEqDiff, reduceIte, qv_move, Bool.not_true, Bool.not_false, decide_eq_true_eq, hB1.cell, hB6.cell, hB14.cell, hB16.cell]; rfl) ?_
          refine WL.qq (by simp only [EN, Nat.reduceEqDiff, reduceIte, qv_move, Bool.not_true, Bool.not_false, decide_eq_true_eq, hB1.cell, hB6.cell, hB14.cell, hB16.cell]; rfl) ?_
          refine WL.cq (gd_at (t := 86) rfl (by simp only [EN, Nat.reduceEqDiff, reduceIte, Bool.not_true, Bool.not_false, decide_eq_true_eq, hB1.cell, hB6.cell, hB14.cell, hB16.cell] <;> rfl)) (fun hg14_2 => by simp only [EN, Nat.reduceEqDiff, reduceIte, qv_move, Bool.not_true, Bool.not_false, decide_eq_true_eq, hB1.cell, hB6.cell, hB14.cell, hB16.cell, hg14_2, GR]; rfl) ?_
          refine WL.cq (gd_at (t := 86) rfl (by simp only [EN, Nat.reduceEqDiff, reduceIte, Bool.not_true, Bool.not_false, decide_eq_true_eq, hB1.cell, hB6.cell, hB14.cell, hB16.cell] <;> rfl)) (fun hg14_3 => by simp only [EN, Nat.reduceEqDiff, reduceIte, qv_binOp, binv_eql, eq3, Option.map_some, Bool.not_true, Bool.not_false, decide_eq_true_eq, hB1.cell, hB6.cell, hB14.cell, hB16.cell, hg14_3, GR]; rfl) ?_
          refine WL.cq (gd_at (t := 86) rfl (by simp only [EN, Nat.reduceEqDiff, reduceIte, Bool.not_true, Bool.not_false, decide_eq_true_eq, hB1.cell, hB6.cell, hB14.cell, hB16.cell] <;> rfl)) (fun hg14_4 => by simp only [EN, Nat.reduceEqDiff, reduceIte, qv_move, Bool.not_true, Bool.not_false, decide_eq_true_eq, hB1.cell, hB6.cell, hB14.cell, hB16.cell, hg14_4, GR]; rfl) ?_
          refine WL.cq (gd_at (t := 89) rfl (by simp only [EN, Nat.reduceEqDiff, reduceIte, Bool.not_true, Bool.not_false, decide_eq_true_eq, hB1.cell, hB6.cell, hB14.cell, hB16.cell] <;> rfl)) (fun hg14_5 => by simp only [EN, Nat.reduceEqDiff, reduceIte, qv_move, Bool.not_true, Bool.not_false, decide_eq_true_eq, hB1.cell, hB6.cell, hB14.cell, hB16.cell, hg14_5, GR]; rfl) ?_
          refine WL.cq (gd_at (t := 89) rfl (by simp only [EN, Nat.reduceEqDiff, reduceIte, Bool.not_true, Bool.not_false, decide_eq_true_eq, hB1.cell, hB6.cell, hB14.cell, hB16.cell] <;> rfl)) (fun hg14_6 => by simp only [EN, Nat.reduceEqDiff, reduceIte, qv_move, Bool.not_true, Bool.not_false, decide_eq_true_eq, hB1.cell, hB6.cell, hB14.cell, hB16.cell, hg14_6, GR]; rfl) ?_
          refine WL.ccg (gd_at (t := 89) rfl (by simp only [EN, Nat.reduceEqDiff, reduceIte, Bool.not_true, Bool.not_false, decide_eq_true_eq, hB1.cell, hB6.cell, hB14.cell, hB16.cell] <;> rfl)) Try.call24 (fun hg14_7 => by simp only [EN, Nat.reduceEqDiff, reduceIte, AR, Bool.not_true, Bool.not_false, decide_eq_true_eq, hB1.cell, hB6.cell, hB14.cell, hB16.cell, hg14_7, GR]; exact tb_EqualU (by simpa using hg14_7) hT hT3) ?_
          intro h18 hx18
          replace hE := hE.trans hx18
          replace hEo6 := hEo6.trans hx18
          replace hEo16 := hEo16.trans hx18
          replace hl := hl.ext hx18
          replace hfl := hfl.ext hx18
          replace hB1 := hB1.ext hx18
          replace hT := hT.ext hx18
          replace hB6 := hB6.ext hx18
          replace hB14 := hB14.ext hx18
          replace hT3 := hT3.ext hx18
          replace hB16 := hB16.ext hx18
          refine WL.cq (gd_at (t := 86) rfl (by simp only [EN, Nat.reduceEqDiff, reduceIte, Bool.not_true, Bool.not_false, decide_eq_true_eq, hB1.cell, hB6.cell, hB14.cell, hB16.cell] <;> rfl)) (fun hg14_8 => by simp only [EN, Nat.reduceEqDiff, reduceIte, qv_pick, pk_and, pk_or, GR, Bool.not_true, Bool.not_false, decide_eq_true_eq, hB1.cell, hB6.cell, hB14.cell, hB16.cell, hg14_8, GR]; rfl) ?_
          refine WL.qq (by simp only [EN, Nat.reduceEqDiff, reduceIte, qv_pick, pk_and, pk_or, GR, Bool.not_true, Bool.not_false, decide_eq_true_eq, hB1.cell, hB6.cell, hB14.cell, hB16.cell]; rfl) ?_
          refine WL.qq (by simp only [EN, Nat.reduceEqDiff, reduceIte, qv_assign, Bool.not_true, Bool.not_false, decide_eq_true_eq, hB1.cell, hB6.cell, hB14.cell, hB16.cell]; rfl) ?_
          refine WL.nil ?_
          refine th_norm ?_
          refine hx_ret ?_
          refine fin_ret [.tmp 4] rfl rfl (by simp only [EN, Nat.reduceEqDiff, reduceIte, resv, e0, e1, Bool.not_true, Bool.not_false, decide_eq_true_eq, hB1.cell, hB6.cell, hB14.cell, hB16.cell]; rfl) ?_  -- ret 1 r14
          exact ⟨by simp [retOf]; by_cases hz : eS o (rS l).1 (rS l).2 = 0 <;> simp [hz], hE⟩
end GL


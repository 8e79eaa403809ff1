/- Limits: the statement on the order of flows. -/
import Derived.Test.YtenjmnpefmjdfaaLimT
set_option linter.unusedSimpArgs false
set_option linter.unusedVariables false
set_option linter.unnecessarySimpa false
namespace GL
open Go Go.Proofs
set_option maxRecDepth 8000
/-- Two tables that share nothing. -/
structure T2 (h0 h : Heap) (p p2 : Nat) (ls ns ls2 ns2 : List L2) : Prop where
  ex : ∃ bl bn bl2 bn2, IsTb h p bl bn ls ns ∧ IsTb h p2 bl2 bn2 ls2 ns2 ∧ (p ≠ p2 ∧ p ≠ bl2 ∧ p ≠ bn2 ∧ p2 ≠ bl ∧ p2 ≠ bn) ∧ h0.size ≤ bl ∧ h0.size ≤ bn ∧ h0.size ≤ bl2 ∧ h0.size ≤ bn2
  E : Ext h0 h
  hp : h0.size ≤ p
  hp2 : h0.size ≤ p2
section
variable {h0 h h' : Heap} {p p2 : Nat} {ls ns ls2 ns2 : List L2}
theorem T2.of {h1 : Heap} (k : TB h0 h1 p ls ns) (hT : TB h0 h p ls ns) (hC : TB h1 h p2 ls2 ns2) : T2 h0 h p p2 ls ns ls2 ns2 := by
  have hz := k.E.size
  obtain ⟨⟨bl, bn, k1, k2, k3⟩, hE, hp⟩ := k
  obtain ⟨⟨bl2, bn2, c1, c2, c3⟩, hE2, hp2⟩ := hC
  have hlt := k1.lts
  exact ⟨⟨bl, bn, bl2, bn2, k1.ext hE2, c1, ⟨by omega, by omega, by omega, by omega, by omega⟩, k2, k3, by omega, by omega⟩, hE.trans hE2, hp, by omega⟩
theorem T2.sw (t : T2 h0 h p p2 ls ns ls2 ns2) : T2 h0 h p2 p ls2 ns2 ls ns := by
  obtain ⟨⟨bl, bn, bl2, bn2, h1, h2, ⟨q1, q2, q3, q4, q5⟩, r1, r2, r3, r4⟩, hE, hp, hp2⟩ := t
  exact ⟨⟨bl2, bn2, bl, bn, h2, h1, ⟨Ne.symm q1, q4, q5, q2, q3⟩, r3, r4, r1, r2⟩, hE, hp2, hp⟩
theorem T2.ext (t : T2 h0 h p p2 ls ns ls2 ns2) (hx : Ext h h') : T2 h0 h' p p2 ls ns ls2 ns2 := by
  obtain ⟨⟨bl, bn, bl2, bn2, h1, h2, q, r⟩, hE, hp, hp2⟩ := t
  exact ⟨⟨bl, bn, bl2, bn2, h1.ext hx, h2.ext hx, q, r⟩, hE.trans hx, hp, hp2⟩
theorem T2.a (t : T2 h0 h p p2 ls ns ls2 ns2) : TB h0 h p ls ns := by
  obtain ⟨⟨bl, bn, bl2, bn2, h1, h2, q, r⟩, hE, hp, hp2⟩ := t
  exact ⟨⟨bl, bn, h1, r.1, r.2.1⟩, hE, hp⟩
theorem t2_Record (al : Option Addr) (F : List L2) (cl : Nat) (ll : F.length ≤ 9223372036854775807) (hcm : cntM ls (aftS ns F) ≤ 9223372036854775807) (t : T2 h0 h p p2 ls ns ls2 ns2) (hl : SlG 3 limL h al F) {r : Int} (hr : chkS ls ns F = r) :
    HCalls Try.prog 15 #[.pointer (some ⟨p, 0, none⟩), .slice al F.length cl] h fun v h' => v = iV r ∧ T2 h0 h' p p2 ls (if r = 0 then aftS ns F else ns) ls2 ns2 ∧ Gs h h' [p] := by
  obtain ⟨⟨bl, bn, bl2, bn2, h1, h2, ⟨q1, q2, q3, q4, q5⟩, r1, r2, r3, r4⟩, hE, hp, hp2⟩ := t
  refine (c_Record al F cl ll hcm h1 hl hr).mono ?_
  rintro v h' ⟨rfl, hg, _, bn', hb', hd⟩
  have hlt := h2.lts
  have hz := hE.size
  refine ⟨rfl, ⟨⟨bl, bn', bl2, bn2, hb', h2.gs hg (by simp; omega) (by simp; omega) (by simp; omega), ⟨q1, q2, q3, q4, ?_⟩, r1, ?_, r3, r4⟩, hg.toExt hE (fun x hx => by simp at hx; subst hx; exact hp), hp, hp2⟩, hg⟩
  · rcases hd with hh | hh
    · rw [hh]; exact q5
    · omega
  · rcases hd with hh | hh
    · rw [hh]; exact r2
    · omega
theorem t2_Equal (t : T2 h0 h p p2 ls ns ls2 ns2) (h1 : mapEq ls ls2) (h2 : mapEq ns ns2) :
    HCalls Try.prog 24 #[.pointer (some ⟨p, 0, none⟩), .pointer (some ⟨p2, 0, none⟩)] h (Grow (.bool true) h) := by
  refine (tb_Equal t.a t.sw.a).mono ?_
  rintro v h' ⟨rfl, hx⟩
  exact ⟨by rw [decide_eq_true h1, decide_eq_true h2]; rfl, hx⟩
end
theorem T2.nown {h0 h : Heap} {p p2 : Nat} {ls ns ls2 ns2 : List L2} {N : Nat} {el sz n : Nat} {v : Value} {xs : List Value} (t : T2 h0 h p p2 ls ns ls2 ns2) (ho : Own h N el sz v n xs) (hel : 73 ≠ el) : ∀ c, v.ownBlock = some c → c ∉ [p] := by
  intro c hc hh
  obtain ⟨⟨bl, bn, h1, _⟩, _⟩ := t.a
  simp at hh
  subst hh
  exact ho.ncell h1.blk hel hc
theorem eq_nets {ns A B : List L2} {r1 r2 : Int} (hn : (ns.map Prod.fst).Nodup) (h : (r1 = 0 ↔ r2 = 0) ∧ (r1 = 0 → mapEq A B)) : mapEq (if r1 = 0 then A else ns) (if r2 = 0 then B else ns) := by
  by_cases h1 : r1 = 0
  · rw [if_pos h1, if_pos (h.1.1 h1)]; exact h.2 h1
  · rw [if_neg h1, if_neg (fun hh => h1 (h.1.2 hh))]; exact mapEq_refl hn
set_option maxHeartbeats 8000000 in
theorem l_order (al : Option Addr) (l : List LOp) (cl : Nat) (X : AV) (part : Int) {h : Heap} (hl : SlG 5 opL h al l) (ll : l.length ≤ 9223372036854775807) (hok : ∀ o ∈ l, LOk h o) (hX : AVok h X) (hpt : i64K part) :
    HCalls Try.prog 6 #[.slice al l.length cl, .slice X.a X.L.length X.c, iV part] h (Grow (.bool true) h) := by
  obtain ⟨aG, G, cG⟩ := X
  have hG := hX.rd
  have hGa := hX.amt
  obtain ⟨hpt1, hpt2⟩ := hpt
  simp only at hG hGa ⊢
  refine hcalls2 Try.func6 rfl (by decide +kernel) (by simp only [Try.ntmps6]; exact of_decide_eq_true rfl) ?_
  intro e hin
  have e0 := hin 0 _ rfl
  have e1 := hin 1 _ rfl
  have e2 := hin 2 _ rfl
  have hE : Ext h h := Ext.refl h
  refine hx_seq ?_
  refine hx_region ?_
  refine WL.qq (by simp only [EN, Nat.reduceEqDiff, reduceIte, qv_assign, Bool.not_true, Bool.not_false]; rfl) ?_
  refine WL.nil ?_
  refine th_norm ?_
  refine hx_seq ?_
  refine hx_seq ?_
  refine hx_region ?_
  refine WL.cg Try.call11 (by simp only [EN, Nat.reduceEqDiff, reduceIte, AR, Bool.not_true, Bool.not_false]; exact c_known16 _) ?_
  intro h1 hx1
  replace hE := hE.trans hx1
  replace hl := hl.ext hx1
  replace hG := hG.ext hx1
  refine WL.qq (by simp only [EN, Nat.reduceEqDiff, reduceIte, qv_unOp, unv_not, Bool.not_true, Bool.not_false]; rfl) ?_
  refine WL.qq (by simp only [EN, Nat.reduceEqDiff, reduceIte, qv_move, Bool.not_true, Bool.not_false]; rfl) ?_
  refine WL.cq (gd_at (t := 18) rfl (by simp only [EN, Nat.reduceEqDiff, reduceIte, e0, Bool.not_true, Bool.not_false] <;> rfl)) (fun hg1_3 => by simp only [EN, Nat.reduceEqDiff, reduceIte, qv_move, e0, Bool.not_true, Bool.not_false, hg1_3, GR]; rfl) ?_
  refine WL.cck (gd_at (t := 18) rfl (by simp only [EN, Nat.reduceEqDiff, reduceIte, Bool.not_true, Bool.not_false] <;> rfl)) Try.call17 (fun hg1_4 => by simp only [EN, Nat.reduceEqDiff, reduceIte, AR, Bool.not_true, Bool.not_false, hg1_4, GR]; exact c_small al l cl ll hl) ?_
  refine WL.cq (gd_at (t := 18) rfl (by simp only [EN, Nat.reduceEqDiff, reduceIte, Bool.not_true, Bool.not_false] <;> rfl)) (fun hg1_5 => by simp only [EN, Nat.reduceEqDiff, reduceIte, qv_unOp, unv_not, Bool.not_true, Bool.not_false, hg1_5, GR]; rfl) ?_
  refine WL.qq (by simp only [EN, Nat.reduceEqDiff, reduceIte, qv_pick, pk_and, pk_or, GR, Bool.not_true, Bool.not_false]; rfl) ?_
  refine WL.qq (by simp only [EN, Nat.reduceEqDiff, reduceIte, qv_move, Bool.not_true, Bool.not_false]; rfl) ?_
  refine WL.cq (gd_at (t := 23) rfl (by simp only [EN, Nat.reduceEqDiff, reduceIte, e1, Bool.not_true, Bool.not_false] <;> rfl)) (fun hg1_8 => by simp only [EN, Nat.reduceEqDiff, reduceIte, qv_move, e1, Bool.not_true, Bool.not_false, hg1_8, GR]; rfl) ?_
  refine WL.cq (gd_at (t := 23) rfl (by simp only [EN, Nat.reduceEqDiff, reduceIte, Bool.not_true, Bool.not_false] <;> rfl)) (fun hg1_9 => by simp only [EN, Nat.reduceEqDiff, reduceIte, qv_len, ln39, AR, Bool.not_true, Bool.not_false, hg1_9, GR]; rfl) ?_
  refine WL.cq (gd_at (t := 23) rfl (by simp only [EN, Nat.reduceEqDiff, reduceIte, Bool.not_true, Bool.not_false] <;> rfl)) (fun hg1_10 => by simp only [EN, Nat.reduceEqDiff, reduceIte, qv_binOp, binv_gtr, Bool.not_true, Bool.not_false, hg1_10, GR]; rfl) ?_
  refine WL.qq (by simp only [EN, Nat.reduceEqDiff, reduceIte, qv_pick, pk_and, pk_or, GR, Bool.not_true, Bool.not_false]; rfl) ?_
  refine WL.nil ?_
  refine th_norm ?_
  refine hx_cond (by simp only [EN, Nat.reduceEqDiff, reduceIte, Bool.not_true, Bool.not_false]; rfl) (fun hct27 => ?_) (fun hct27 => ?_)
  ·
    try simp only [BD] at hct27
    refine hx_seq ?_
    refine hx_region ?_
    refine WL.cg Try.call11 (by simp only [EN, Nat.reduceEqDiff, reduceIte, AR, Bool.not_true, Bool.not_false]; exact c_known16 _) ?_
    intro h2 hx2
    replace hE := hE.trans hx2
    replace hl := hl.ext hx2
    replace hG := hG.ext hx2
    refine WL.qq (by simp only [EN, Nat.reduceEqDiff, reduceIte, qv_assign, Bool.not_true, Bool.not_false]; rfl) ?_
    refine WL.nil ?_
    refine th_norm ?_
    refine hx_ret ?_
    refine th_ret ?_
    refine fin_ret [.tmp 6] rfl rfl (by simp only [EN, Nat.reduceEqDiff, reduceIte, resv, e0, e1, e2, Bool.not_true, Bool.not_false]; rfl) ?_  -- ret 0 r2
    exact ⟨by simp [retOf], hE⟩
  ·
    try simp only [BD] at hct27
    have hsm : smallB l = true := (by cases h8 : smallB l; (rw [h8] at hct27; simp at hct27); rfl)
    have hG12 : G.length ≤ 12 := (by rw [hsm] at hct27; simp at hct27; omega)
    obtain ⟨hl40, hl12⟩ := small_ok hsm
    refine hx_skip ?_
    refine th_norm ?_
    refine hx_seq ?_
    refine hx_region ?_
    have kE := hE
    refine WL.qq (by simp only [EN, Nat.reduceEqDiff, reduceIte, qv_move, e0, Bool.not_true, Bool.not_false]; rfl) ?_
    refine WL.ce Try.call22 (by simp only [EN, Nat.reduceEqDiff, reduceIte, AR, Bool.not_true, Bool.not_false]; exact c_runM al l cl hsm hl (fun o ho => (hok o ho).ext hE)) ?_
    rintro _ h3 ⟨hx3, p, w, rfl, hT, hR, hQ⟩
    replace hE := hE.trans hx3
    replace hl := hl.ext hx3
    replace hG := hG.ext hx3
    simp only [put_some]
    obtain ⟨a1, c1, a2, c2, rfl, _, _⟩ := hR.ex
    refine WL.qq (by simp only [EN, Nat.reduceEqDiff, reduceIte, qv_move, Bool.not_true, Bool.not_false]; rfl) ?_
    refine WL.qq (by simp only [EN, Nat.reduceEqDiff, reduceIte, qv_extract, AR, Bool.not_true, Bool.not_false]; rfl) ?_
    refine WL.qq (by simp only [EN, Nat.reduceEqDiff, reduceIte, qv_extract, AR, Bool.not_true, Bool.not_false]; rfl) ?_
    refine WL.qq (by simp only [EN, Nat.reduceEqDiff, reduceIte, qv_extract, AR, Bool.not_true, Bool.not_false]; rfl) ?_
    refine WL.alloc2 zr41 ?_
    intro h4 B4 hx4 hlt4 hB4
    have hb0_4 := Nat.le_trans hE.size hlt4
    have hl_s4 := hl
    have hG_s4 := hG
    have hT_s4 := hT
    replace hE := hE.trans hx4
    replace hl := hl.ext hx4
    replace hG := hG.ext hx4
    replace hT := hT.ext hx4
    have hEo4 := hx4
    simp only [Value.cells] at hB4
    refine WL.qq (by simp only [EN, Nat.reduceEqDiff, reduceIte, qv_assign, Bool.not_true, Bool.not_false, hB4.cell]; rfl) ?_
    refine WL.store (by simp only [EN, Nat.reduceEqDiff, reduceIte, Bool.not_true, Bool.not_false, hB4.cell] <;> rfl) sz41 (by simp only [EN, Nat.reduceEqDiff, reduceIte, Value.cells, Bool.not_true, Bool.not_false, hB4.cell] <;> rfl) rfl hB4 (by first | decide | (simp; done) | (simp; omega)) (by simp [Value.oneCell']) ?_
    intro h5 hw5
    replace hE := hw5.ext hE hb0_4
    replace hEo4 := hw5.ext hEo4 hlt4
    replace hl := hl_s4.ext hEo4
    replace hG := hG_s4.ext hEo4
    replace hT := hT_s4.ext hEo4
    replace hB4 := hw5.at_
    try simp only [splc, List.take_succ_cons, List.take_zero, List.take_nil, List.drop_succ_cons, List.drop_zero, List.drop_nil, List.cons_append, List.nil_append, List.length_cons, List.length_nil, Nat.zero_add, Nat.add_zero, Nat.reduceAdd, List.append_nil] at hB4
    refine WL.qq (by simp only [EN, Nat.reduceEqDiff, reduceIte, qv_assign, Bool.not_true, Bool.not_false, hB4.cell]; rfl) ?_
    refine WL.nil ?_
    refine th_norm ?_
    refine hx_seq ?_
    refine hx_seq ?_
    refine hx_region ?_
    refine WL.qq (by simp only [EN, Nat.reduceEqDiff, reduceIte, qv_move, Bool.not_true, Bool.not_false, hB4.cell]; rfl) ?_
    refine WL.qq (by simp only [EN, Nat.reduceEqDiff, reduceIte, qv_unOp, unv_not, Bool.not_true, Bool.not_false, hB4.cell]; rfl) ?_
    refine WL.nil ?_
    refine th_norm ?_
    refine hx_cond (by simp only [EN, Nat.reduceEqDiff, reduceIte, Bool.not_true, Bool.not_false, hB4.cell]; rfl) (fun hct36 => ?_) (fun hct36 => ?_)
    ·
      simp at hct36
    ·
      try simp only [BD] at hct36
      refine hx_skip ?_
      refine th_norm ?_
      refine hx_seq ?_
      refine hx_region ?_
      have kT := hT
      refine WL.qq (by simp only [EN, Nat.reduceEqDiff, reduceIte, qv_move, Bool.not_true, Bool.not_false, hB4.cell]; rfl) ?_
      refine WL.ce Try.call23 (by simp only [EN, Nat.reduceEqDiff, reduceIte, AR, Bool.not_true, Bool.not_false, hB4.cell]; exact tb_Clone hT) ?_
      rintro _ h6 ⟨hx6, p2, rfl, hC⟩
      replace hE := hE.trans hx6
      replace hEo4 := hEo4.trans hx6
      replace hl := hl.ext hx6
      replace hG := hG.ext hx6
      replace hT := hT.ext hx6
      replace hB4 := hB4.ext hx6
      simp only [put_some]
      refine WL.qq (by simp only [EN, Nat.reduceEqDiff, reduceIte, qv_assign, Bool.not_true, Bool.not_false, hB4.cell]; rfl) ?_
      refine WL.nil ?_
      refine th_norm ?_
      refine hx_seq ?_
      refine hx_region ?_
      refine WL.qq (by simp only [EN, Nat.reduceEqDiff, reduceIte, qv_assign, Bool.not_true, Bool.not_false, hB4.cell]; rfl) ?_
      refine WL.nil ?_
      refine th_norm ?_
      refine hx_seq ?_
      refine hx_seq ?_
      refine hx_region ?_
      have hT2 := T2.of kT hT hC; have kG := hG; have kE8 := hE; have kT2 := hT2
      have hE : Ext h6 h6 := Ext.refl _
      refine WL.qq (by simp only [EN, Nat.reduceEqDiff, reduceIte, qv_move, e1, Bool.not_true, Bool.not_false, hB4.cell]; rfl) ?_
      refine WL.qq (by simp only [EN, Nat.reduceEqDiff, reduceIte, qv_len, ln39, AR, Bool.not_true, Bool.not_false, hB4.cell]; rfl) ?_
      refine WL.qq (by simp only [EN, Nat.reduceEqDiff, reduceIte, qv_binOp, binv_sub, Bool.not_true, Bool.not_false, hB4.cell]; (try simp (disch := omega) only [w64, w8, wu64]); rfl) ?_
      refine WL.qq (by simp only [EN, Nat.reduceEqDiff, reduceIte, qv_assign, Bool.not_true, Bool.not_false, hB4.cell]; rfl) ?_
      refine WL.nil ?_
      refine th_norm ?_
      refine hx_block ?_
      refine hx_loopG [11, 12, 13, 42, 43, 44, 45, 46, 47, 48, 49, 50, 51, 52, 53, 54, 55, 56, 57, 58, 59, 60, 61, 62, 63, 64, 65, 66, 67, 68, 69, 70, 71, 72, 73, 74, 75, 76, 77, 78, 79, 80] (fun k e hL0 => ∃ (n : Nat) (v : Value), n = k ∧ (n ≤ G.length) ∧ (Ext h6 hL0) ∧ (Own hL0 h6.size 47 3 v (ordF part (G.drop n)).length ((ordF part (G.drop n)).flatMap limL)) ∧ e 12 = .int .i64 ((n : Int) - 1) ∧ e 11 = v) _ ⟨G.length, .slice none 0 0, rfl, ?_, ?_, ?_, ?_, ?_⟩ ?_
      · omega
      · exact hE
      · rw [List.drop_length]; exact Own.nil
      · simp only [EN, Nat.reduceEqDiff, reduceIte, e0, e1, e2, Bool.not_true, Bool.not_false, hB4.cell] <;> rfl
      · simp only [EN, Nat.reduceEqDiff, reduceIte, e0, e1, e2, Bool.not_true, Bool.not_false, hB4.cell] <;> rfl
      ·
        rintro k e0L hL0 hfr0 ⟨n, v, rfl, hk, hE, ho, i12_0, i11_0⟩
        have k1_0 := hfr0 1 rfl; try simp only [EN, Nat.reduceEqDiff, reduceIte, e1, Bool.not_true, Bool.not_false, hB4.cell] at k1_0
        have k2_0 := hfr0 2 rfl; try simp only [EN, Nat.reduceEqDiff, reduceIte, e2, Bool.not_true, Bool.not_false, hB4.cell] at k2_0
        have k7_0 := hfr0 7 rfl; try simp only [EN, Nat.reduceEqDiff, reduceIte, Bool.not_true, Bool.not_false, hB4.cell] at k7_0
        have k10_0 := hfr0 10 rfl; try simp only [EN, Nat.reduceEqDiff, reduceIte, Bool.not_true, Bool.not_false, hB4.cell] at k10_0
        have hG := kG.ext hE
        refine hx_seq ?_
        refine hx_seq ?_
        refine hx_region ?_
        refine WL.qq (by simp only [EN, Nat.reduceEqDiff, reduceIte, qv_move, i12_0, Bool.not_true, Bool.not_false, hB4.cell]; rfl) ?_
        refine WL.qq (by simp only [EN, Nat.reduceEqDiff, reduceIte, qv_binOp, binv_geq, Bool.not_true, Bool.not_false, hB4.cell]; rfl) ?_
        refine WL.nil ?_
        refine th_norm ?_
        refine hx_cond (by simp only [EN, Nat.reduceEqDiff, reduceIte, Bool.not_true, Bool.not_false, hB4.cell]; rfl) (fun hct43 => ?_) (fun hct43 => ?_)
        ·
          try simp only [BD] at hct43
          obtain ⟨n, rfl⟩ : ∃ i, n = i + 1 := ⟨n - 1, by omega⟩
          obtain ⟨x, hx⟩ := atG (l := G) (i := n) (by omega)
          have hxa := hGa x (List.mem_of_getElem? hx); obtain ⟨hxa1, hxa2⟩ := hxa
          obtain ⟨b, off, rfl, hr3, _⟩ := lim_rd hG hx
          have hoN := ordF_len part (G.drop (n + 1)); have hdl : (G.drop (n + 1)).length ≤ 12 := (by rw [List.length_drop]; omega)
          have hos := ordF_step (part := part) hx
          obtain ⟨O1, hO1⟩ : ∃ O1, ordF part (G.drop (n + 1)) = O1 := ⟨_, rfl⟩
          rw [hO1] at ho hoN hos
          have ho0 := ho
          refine hx_skip ?_
          refine th_norm ?_
          refine hx_seq ?_
          refine hx_block ?_
          refine hx_seq ?_
          refine hx_region ?_
          refine WL.qq (by simp only [EN, Nat.reduceEqDiff, reduceIte, qv_move, k1_0, Bool.not_true, Bool.not_false, hB4.cell]; rfl) ?_
          refine WL.qq (by simp only [EN, Nat.reduceEqDiff, reduceIte, qv_move, i12_0, Bool.not_true, Bool.not_false, hB4.cell]; rfl) ?_
          refine WL.qq (by simp only [EN, Nat.reduceEqDiff, reduceIte, k1_0, k2_0, k7_0, k10_0, i12_0, i11_0, Bool.not_true, Bool.not_false, hB4.cell, qv_indexAddr]; rw [show ((n + 1 : Nat) : Int) - 1 = (n : Int) from by omega]; (try simp (disch := omega) only [ix39, Int.toNat_natCast]); rfl) ?_
          refine WL.qq (by simp only [EN, Nat.reduceEqDiff, reduceIte, k1_0, k2_0, k7_0, k10_0, i12_0, i11_0, Bool.not_true, Bool.not_false, hB4.cell, qv_load, ld47, Int.toNat_natCast, hr3]; rfl) ?_
          refine WL.allocSt zr47 sz47 (fun u => by simp only [EN, Nat.reduceEqDiff, reduceIte, Value.cells, Bool.not_true, Bool.not_false, hB4.cell]; rfl) ⟨rfl, rfl⟩ (by simp [Value.oneCell']) ?_
          intro h7 B7 hx7 hlt7 hB7
          have hb0_7 := Nat.le_trans hE.size hlt7
          have ho_s7 := ho
          replace hE := hE.trans hx7
          replace ho := ho.ext hx7
          have hEo7 := hx7
          refine WL.nil ?_
          refine th_norm ?_
          refine hx_cutG [11, 50, 51, 52, 53, 54, 55, 56, 57, 58, 59, 60, 61, 62, 63, 64, 65, 66, 67, 68, 69, 70, 71, 72, 73, 74, 75, 76] (fun e hC12 => ∃ (O2 : List L2) (y : Int) (v2 : Value), (Ext h6 hC12) ∧ (Has hC12 B7 (.cells #[.string x.1.f, .string x.1.t, iV y] 47)) ∧ (Own hC12 h6.size 47 3 v2 O2.length (O2.flatMap limL)) ∧ (O2 ++ [(x.1, y)] = O1 ++ pc part x) ∧ (O2.length ≤ 30) ∧ e 11 = v2) ?_ ?_
          ·
            refine hx_seq ?_
            refine hx_region ?_
            refine WL.qq (by simp only [EN, Nat.reduceEqDiff, reduceIte, qv_move, k2_0, Bool.not_true, Bool.not_false, hB4.cell, hB7.cell]; rfl) ?_
            refine WL.qq (by simp only [EN, Nat.reduceEqDiff, reduceIte, qv_binOp, binv_gtr, Bool.not_true, Bool.not_false, hB4.cell, hB7.cell]; rfl) ?_
            refine WL.qq (by simp only [EN, Nat.reduceEqDiff, reduceIte, qv_move, Bool.not_true, Bool.not_false, hB4.cell, hB7.cell]; rfl) ?_
            refine WL.cq (gd_at (t := 52) rfl (by simp only [EN, Nat.reduceEqDiff, reduceIte, k2_0, Bool.not_true, Bool.not_false, hB4.cell, hB7.cell] <;> rfl)) (fun hg12_3 => by simp only [EN, Nat.reduceEqDiff, reduceIte, qv_move, k2_0, Bool.not_true, Bool.not_false, hB4.cell, hB7.cell, hg12_3, GR]; rfl) ?_
            refine WL.cq (gd_at (t := 52) rfl (by simp only [EN, Nat.reduceEqDiff, reduceIte, Bool.not_true, Bool.not_false, hB4.cell, hB7.cell] <;> rfl)) (fun hg12_4 => by simp only [EN, Nat.reduceEqDiff, reduceIte, qv_fieldAddr, fa47_2, Nat.zero_add, Nat.reduceAdd, Bool.not_true, Bool.not_false, hB4.cell, hB7.cell, hg12_4, GR]; rfl) ?_
            refine WL.cq (gd_at (t := 52) rfl (by simp only [EN, Nat.reduceEqDiff, reduceIte, Bool.not_true, Bool.not_false, hB4.cell, hB7.cell] <;> rfl)) (fun hg12_5 => by simp only [EN, Nat.reduceEqDiff, reduceIte, qv_load, ld2, readN, AR, Nat.zero_add, Nat.reduceAdd, Bool.not_true, Bool.not_false, hB4.cell, hB7.cell, hg12_5, GR]; rfl) ?_
            refine WL.cq (gd_at (t := 52) rfl (by simp only [EN, Nat.reduceEqDiff, reduceIte, Bool.not_true, Bool.not_false, hB4.cell, hB7.cell] <;> rfl)) (fun hg12_6 => by simp only [EN, Nat.reduceEqDiff, reduceIte, qv_binOp, binv_lss, Bool.not_true, Bool.not_false, hB4.cell, hB7.cell, hg12_6, GR]; rfl) ?_
            refine WL.qq (by simp only [EN, Nat.reduceEqDiff, reduceIte, qv_pick, pk_and, pk_or, GR, Bool.not_true, Bool.not_false, hB4.cell, hB7.cell]; rfl) ?_
            refine WL.qq (by simp only [EN, Nat.reduceEqDiff, reduceIte, qv_move, Bool.not_true, Bool.not_false, hB4.cell, hB7.cell]; rfl) ?_
            refine WL.cq (gd_at (t := 58) rfl (by simp only [EN, Nat.reduceEqDiff, reduceIte, Bool.not_true, Bool.not_false, hB4.cell, hB7.cell] <;> rfl)) (fun hg12_9 => by simp only [EN, Nat.reduceEqDiff, reduceIte, qv_fieldAddr, fa47_2, Nat.zero_add, Nat.reduceAdd, Bool.not_true, Bool.not_false, hB4.cell, hB7.cell, hg12_9, GR]; rfl) ?_
            refine WL.cq (gd_at (t := 58) rfl (by simp only [EN, Nat.reduceEqDiff, reduceIte, Bool.not_true, Bool.not_false, hB4.cell, hB7.cell] <;> rfl)) (fun hg12_10 => by simp only [EN, Nat.reduceEqDiff, reduceIte, qv_load, ld2, readN, AR, Nat.zero_add, Nat.reduceAdd, Bool.not_true, Bool.not_false, hB4.cell, hB7.cell, hg12_10, GR]; rfl) ?_
            refine WL.cq (gd_at (t := 58) rfl (by simp only [EN, Nat.reduceEqDiff, reduceIte, Bool.not_true, Bool.not_false, hB4.cell, hB7.cell] <;> rfl)) (fun hg12_11 => by simp only [EN, Nat.reduceEqDiff, reduceIte, qv_binOp, binv_leq, Bool.not_true, Bool.not_false, hB4.cell, hB7.cell, hg12_11, GR]; rfl) ?_
            refine WL.qq (by simp only [EN, Nat.reduceEqDiff, reduceIte, qv_pick, pk_and, pk_or, GR, Bool.not_true, Bool.not_false, hB4.cell, hB7.cell]; rfl) ?_
            refine WL.nil ?_
            refine th_norm ?_
            refine hx_cond (by simp only [EN, Nat.reduceEqDiff, reduceIte, Bool.not_true, Bool.not_false, hB4.cell, hB7.cell]; rfl) (fun hct62 => ?_) (fun hct62 => ?_)
            ·
              try simp only [BD] at hct62
              refine hx_seq ?_
              refine hx_region ?_
              refine WL.qq (by simp only [EN, Nat.reduceEqDiff, reduceIte, qv_move, i11_0, Bool.not_true, Bool.not_false, hB4.cell, hB7.cell]; rfl) ?_
              refine WL.qq (by simp only [EN, Nat.reduceEqDiff, reduceIte, qv_fieldAddr, fa47_0, Nat.zero_add, Nat.reduceAdd, Bool.not_true, Bool.not_false, hB4.cell, hB7.cell]; rfl) ?_
              refine WL.qq (by simp only [EN, Nat.reduceEqDiff, reduceIte, qv_load, ld9, readN, AR, Nat.zero_add, Nat.reduceAdd, Bool.not_true, Bool.not_false, hB4.cell, hB7.cell]; rfl) ?_
              refine WL.qq (by simp only [EN, Nat.reduceEqDiff, reduceIte, qv_fieldAddr, fa47_1, Nat.zero_add, Nat.reduceAdd, Bool.not_true, Bool.not_false, hB4.cell, hB7.cell]; rfl) ?_
              refine WL.qq (by simp only [EN, Nat.reduceEqDiff, reduceIte, qv_load, ld9, readN, AR, Nat.zero_add, Nat.reduceAdd, Bool.not_true, Bool.not_false, hB4.cell, hB7.cell]; rfl) ?_
              refine WL.qq (by simp only [EN, Nat.reduceEqDiff, reduceIte, qv_move, k2_0, Bool.not_true, Bool.not_false, hB4.cell, hB7.cell]; rfl) ?_
              refine WL.qq (by refine qv_bld (by simp only [EN, Nat.reduceEqDiff, reduceIte, AR, Bool.not_true, Bool.not_false, hB4.cell, hB7.cell] <;> rfl) (by rw [bl47]; simp [Instr.fill, Value.cells]; rfl)) ?_
              refine WL.push (bytes := 40) Try.underlying39 (inf_of Try.type47) rfl rfl rfl rfl (by decide) (by decide) sz47 zr47 (fun u => by simp only [EN, Nat.reduceEqDiff, reduceIte, k1_0, k2_0, k7_0, k10_0, i12_0, i11_0, Bool.not_true, Bool.not_false, hB4.cell, hB7.cell]) ho (by simp only [EN, Nat.reduceEqDiff, reduceIte, k1_0, k2_0, k7_0, k10_0, i12_0, i11_0, Bool.not_true, Bool.not_false, hB4.cell, hB7.cell, Value.cells]; rfl) rfl (by intro u hu; simp at hu; rcases hu with rfl | rfl | rfl <;> rfl) (by simp only [maxLen]; omega) (by omega) hE.size ?_
              intro h40 v40 B40 ho40 hg40 hp40 hn40
              have hB7lt := (Array.getElem?_eq_some_iff.1 hB7).1
              have hn7 : ∀ c, v40.ownBlock = some c → c ≠ B7 := (fun c hc hh => by rcases hp40 with q | q; (rw [q] at hc; have h9 := (ho0.block _ hc).2; omega); (rw [q] at hc; cases hc; omega))
              replace hB7 := hB7.gr hg40 (fun hh => by have h9 := (ho0.block _ hh).2; omega)
              replace hE := hg40.ext hE (fun c hc => (ho.block c hc).1)
              skip
              refine WL.qq (by simp only [EN, Nat.reduceEqDiff, reduceIte, qv_assign, Bool.not_true, Bool.not_false, hB4.cell, hB7.cell]; rfl) ?_
              refine WL.nil ?_
              refine th_norm ?_
              refine hx_region ?_
              refine WL.qq (by simp only [EN, Nat.reduceEqDiff, reduceIte, qv_fieldAddr, fa47_2, Nat.zero_add, Nat.reduceAdd, Bool.not_true, Bool.not_false, hB4.cell, hB7.cell]; rfl) ?_
              refine WL.qq (by simp only [EN, Nat.reduceEqDiff, reduceIte, qv_load, ld2, readN, AR, Nat.zero_add, Nat.reduceAdd, Bool.not_true, Bool.not_false, hB4.cell, hB7.cell]; rfl) ?_
              refine WL.qq (by simp only [EN, Nat.reduceEqDiff, reduceIte, qv_move, k2_0, Bool.not_true, Bool.not_false, hB4.cell, hB7.cell]; rfl) ?_
              refine WL.qq (by simp only [EN, Nat.reduceEqDiff, reduceIte, qv_binOp, binv_sub, Bool.not_true, Bool.not_false, hB4.cell, hB7.cell]; (try simp (disch := omega) only [w64, w8, wu64]); rfl) ?_
              refine WL.qq (by simp only [EN, Nat.reduceEqDiff, reduceIte, qv_fieldAddr, fa47_2, Nat.zero_add, Nat.reduceAdd, Bool.not_true, Bool.not_false, hB4.cell, hB7.cell]; rfl) ?_
              refine WL.store (by simp only [EN, Nat.reduceEqDiff, reduceIte, Bool.not_true, Bool.not_false, hB4.cell, hB7.cell] <;> rfl) sz2 (by simp only [EN, Nat.reduceEqDiff, reduceIte, Value.cells, Bool.not_true, Bool.not_false, hB4.cell, hB7.cell] <;> rfl) rfl hB7 (by first | (simp [true_and]; done) | (simp [true_and]; omega) | omega) (by simp [Value.oneCell']) ?_
              intro h8 hw8
              replace hE := hw8.ext hE hb0_7
              replace ho40 := ho40.keep (fun c hc => hw8.same c (hn7 c hc))
              replace hB7 := hw8.at_
              try simp only [splc, List.take_succ_cons, List.take_zero, List.take_nil, List.drop_succ_cons, List.drop_zero, List.drop_nil, List.cons_append, List.nil_append, List.length_cons, List.length_nil, Nat.zero_add, Nat.add_zero, Nat.reduceAdd, List.append_nil] at hB7
              refine WL.nil ?_
              refine th_norm ?_
              refine ⟨rfl, ?_, O1 ++ [(x.1, part)], x.2 - part, v40, ?_, ?_, ?_, ?_, ?_, ?_⟩  -- meet 0 of cut 12
              · (repeat (first | exact Fr.refl _ _ | refine Fr.set rfl ?_ | refine Fr.put rfl ?_ | with_reducible refine Fr.put0 ?_))
              · exact hE
              · exact hB7
              · rw [List.length_append, List.flatMap_append]; exact ho40
              · have hpc : pc part x = [(x.1, part), (x.1, x.2 - part)] := if_pos ⟨hct62.1.1, hct62.1.2, hct62.2⟩; rw [hpc, List.append_assoc]; rfl
              · rw [List.length_append, List.length_singleton]; omega
              · simp only [EN, Nat.reduceEqDiff, reduceIte, k1_0, k2_0, k7_0, k10_0, i12_0, i11_0, Bool.not_true, Bool.not_false, hB4.cell, hB7.cell] <;> first | rfl | (congr 1; omega)
            ·
              try simp only [BD] at hct62
              refine hx_skip ?_
              refine th_norm ?_
              refine ⟨rfl, ?_, O1, x.2, v, ?_, ?_, ?_, ?_, ?_, ?_⟩  -- meet 1 of cut 12
              · (repeat (first | exact Fr.refl _ _ | refine Fr.set rfl ?_ | refine Fr.put rfl ?_ | with_reducible refine Fr.put0 ?_))
              · exact hE
              · exact hB7
              · exact ho
              · have hpc : pc part x = [x] := if_neg (fun hh => by omega); rw [hpc]
              · omega
              · simp only [EN, Nat.reduceEqDiff, reduceIte, k1_0, k2_0, k7_0, k10_0, i12_0, i11_0, Bool.not_true, Bool.not_false, hB4.cell, hB7.cell] <;> first | rfl | (congr 1; omega)
          ·
            rintro ec12 hC12 hfc12 ⟨O2, y, v2, hE, hB7, ho, hO2, hO2l, i11_c12⟩
            have k1_c12 := hfc12 1 rfl; try simp only [EN, Nat.reduceEqDiff, reduceIte, k1_0, Bool.not_true, Bool.not_false, hB4.cell, hB7.cell] at k1_c12
            have k2_c12 := hfc12 2 rfl; try simp only [EN, Nat.reduceEqDiff, reduceIte, k2_0, Bool.not_true, Bool.not_false, hB4.cell, hB7.cell] at k2_c12
            have k7_c12 := hfc12 7 rfl; try simp only [EN, Nat.reduceEqDiff, reduceIte, k7_0, Bool.not_true, Bool.not_false, hB4.cell, hB7.cell] at k7_c12
            have k10_c12 := hfc12 10 rfl; try simp only [EN, Nat.reduceEqDiff, reduceIte, k10_0, Bool.not_true, Bool.not_false, hB4.cell, hB7.cell] at k10_c12
            have k12_c12 := hfc12 12 rfl; try simp only [EN, Nat.reduceEqDiff, reduceIte, i12_0, Bool.not_true, Bool.not_false, hB4.cell, hB7.cell] at k12_c12
            have k13_c12 := hfc12 13 rfl; try simp only [EN, Nat.reduceEqDiff, reduceIte, Bool.not_true, Bool.not_false, hB4.cell, hB7.cell] at k13_c12
            refine hx_region ?_
            refine WL.qq (by simp only [EN, Nat.reduceEqDiff, reduceIte, qv_move, i11_c12, Bool.not_true, Bool.not_false, hB4.cell, hB7.cell]; rfl) ?_
            refine WL.qq (by simp only [EN, Nat.reduceEqDiff, reduceIte, qv_load, ld47, readN, AR, Nat.zero_add, Nat.reduceAdd, k13_c12, Bool.not_true, Bool.not_false, hB4.cell, hB7.cell]; rfl) ?_
            refine WL.push (bytes := 40) Try.underlying39 (inf_of Try.type47) rfl rfl rfl rfl (by decide) (by decide) sz47 zr47 (fun u => by simp only [EN, Nat.reduceEqDiff, reduceIte, k1_c12, k2_c12, k7_c12, k10_c12, k12_c12, k13_c12, i11_c12, Bool.not_true, Bool.not_false, hB4.cell, hB7.cell]) ho (by simp only [EN, Nat.reduceEqDiff, reduceIte, k1_c12, k2_c12, k7_c12, k10_c12, k12_c12, k13_c12, i11_c12, Bool.not_true, Bool.not_false, hB4.cell, hB7.cell, Value.cells]; rfl) rfl (by intro u hu; simp at hu; rcases hu with rfl | rfl | rfl <;> rfl) (by simp only [maxLen]; omega) (by omega) hE.size ?_
            intro h41 v41 B41 ho41 hg41 hp41 hn41
            replace hE := hg41.ext hE (fun c hc => (ho.block c hc).1)
            skip
            refine WL.qq (by simp only [EN, Nat.reduceEqDiff, reduceIte, qv_assign, Bool.not_true, Bool.not_false, hB4.cell, hB7.cell]; rfl) ?_
            refine WL.nil ?_
            refine bl_norm ?_
            refine th_norm ?_
            refine hx_region ?_
            refine WL.qq (by simp only [EN, Nat.reduceEqDiff, reduceIte, qv_move, k12_c12, Bool.not_true, Bool.not_false, hB4.cell, hB7.cell]; rfl) ?_
            refine WL.qq (by simp only [EN, Nat.reduceEqDiff, reduceIte, qv_binOp, binv_sub, Bool.not_true, Bool.not_false, hB4.cell, hB7.cell]; (try simp (disch := omega) only [w64, w8, wu64]); rfl) ?_
            refine WL.qq (by simp only [EN, Nat.reduceEqDiff, reduceIte, qv_assign, Bool.not_true, Bool.not_false, hB4.cell, hB7.cell]; rfl) ?_
            refine WL.nil ?_
            refine th_norm ?_
            refine ⟨rfl, ?_, _, ?_, n, v41, rfl, ?_, ?_, ?_, ?_, ?_⟩  -- again 0 of loop 0
            · (repeat (first | exact Fr.refl _ _ | refine Fr.set rfl ?_ | refine Fr.put rfl ?_ | with_reducible refine Fr.put0 ?_ | refine Fr.trans ?_ (Fr.of hfc12 rfl)))
            · omega
            · omega
            · exact hE
            · rw [hos, ← hO2, List.length_append, List.flatMap_append]; exact ho41
            · simp only [EN, Nat.reduceEqDiff, reduceIte, k1_c12, k2_c12, k7_c12, k10_c12, k12_c12, k13_c12, i11_c12, Bool.not_true, Bool.not_false, hB4.cell, hB7.cell] <;> first | rfl | (congr 1; omega)
            · simp only [EN, Nat.reduceEqDiff, reduceIte, k1_c12, k2_c12, k7_c12, k10_c12, k12_c12, k13_c12, i11_c12, Bool.not_true, Bool.not_false, hB4.cell, hB7.cell] <;> first | rfl | (congr 1; omega)
        ·
          try simp only [BD] at hct43
          have hn0 : n = 0 := (by omega)
          subst hn0
          rw [List.drop_zero] at ho
          have hT2 := hT2.ext hE; have hG := kG.ext hE
          have hoN := ordF_len part G; have hoe := hQ.order part hG12
          have q1 := hQ.ll; have q2 := hQ.ln; have hcm1 : cntM (rS l).1 (aftS (rS l).2 G) ≤ 9223372036854775807 := (by have := cnt_len (rS l).1 (aftS (rS l).2 G); have := aft_len (rS l).2 G; omega)
          have hcm2 : cntM (rS l).1 (aftS (rS l).2 (ordF part G)) ≤ 9223372036854775807 := (by have := cnt_len (rS l).1 (aftS (rS l).2 (ordF part G)); have := aft_len (rS l).2 (ordF part G); omega)
          have hnd := tb_nodup hT2.a
          obtain ⟨O, hO⟩ : ∃ O, ordF part G = O := ⟨_, rfl⟩
          rw [hO] at ho hoN hoe hcm2
          obtain ⟨aO, cO, rfl, _, hsO, _⟩ := Own.slG (f := limL) (sz := 3) (fun _ => rfl) ho rfl
          obtain ⟨r1, hr1⟩ : ∃ r1, chkS (rS l).1 (rS l).2 G = r1 := ⟨_, rfl⟩
          obtain ⟨r2, hr2⟩ : ∃ r2, chkS (rS l).1 (rS l).2 O = r2 := ⟨_, rfl⟩
          rw [hr1, hr2] at hoe
          refine hx_exit ?_
          refine th_exit ?_
          refine th_exit ?_
          refine bl_hit ?_
          refine th_norm ?_
          refine hx_seq ?_
          refine hx_region ?_
          refine WL.qq (by simp only [EN, Nat.reduceEqDiff, reduceIte, qv_move, k7_0, Bool.not_true, Bool.not_false, hB4.cell]; rfl) ?_
          refine WL.qq (by simp only [EN, Nat.reduceEqDiff, reduceIte, qv_move, k1_0, Bool.not_true, Bool.not_false, hB4.cell]; rfl) ?_
          refine WL.ce Try.call26 (by simp only [EN, Nat.reduceEqDiff, reduceIte, AR, Bool.not_true, Bool.not_false, hB4.cell]; exact c_flows _ G cG (by omega) hG) ?_
          rintro _ h9 ⟨hx9, hof1⟩
          replace hE := hE.trans hx9
          replace ho := ho.ext hx9
          replace hT2 := hT2.ext hx9
          replace hG := hG.ext hx9
          simp only [put_some]
          obtain ⟨af1, cf1, rfl, _, hs1, _⟩ := Own.slG (f := limL) (sz := 3) (fun _ => rfl) hof1 rfl
          refine WL.ce Try.call15 (by simp only [EN, Nat.reduceEqDiff, reduceIte, AR, Bool.not_true, Bool.not_false, hB4.cell]; exact t2_Record af1 G cf1 (by omega) hcm1 hT2 hs1 hr1) ?_
          rintro _ h50 ⟨rfl, hT3, hgs⟩
          simp only [put_some]
          replace ho := ho.gs hgs (hT2.nown ho (by decide))
          have hE : Ext h50 h50 := Ext.refl _
          replace hT2 := hT3
          refine WL.qq (by simp only [EN, Nat.reduceEqDiff, reduceIte, qv_move, k10_0, Bool.not_true, Bool.not_false, hB4.cell]; rfl) ?_
          refine WL.qq (by simp only [EN, Nat.reduceEqDiff, reduceIte, qv_move, i11_0, Bool.not_true, Bool.not_false, hB4.cell]; rfl) ?_
          refine WL.ce Try.call26 (by simp only [EN, Nat.reduceEqDiff, reduceIte, AR, Bool.not_true, Bool.not_false, hB4.cell]; exact c_flows aO O cO (by omega) (slG_own (f := limL) (sz := 3) (fun _ => rfl) ho rfl)) ?_
          rintro _ h10 ⟨hx10, hof2⟩
          replace hE := hE.trans hx10
          replace ho := ho.ext hx10
          replace hT2 := hT2.ext hx10
          simp only [put_some]
          obtain ⟨af2, cf2, rfl, _, hs2, _⟩ := Own.slG (f := limL) (sz := 3) (fun _ => rfl) hof2 rfl
          refine WL.ce Try.call15 (by simp only [EN, Nat.reduceEqDiff, reduceIte, AR, Bool.not_true, Bool.not_false, hB4.cell]; exact t2_Record af2 O cf2 (by omega) hcm2 hT2.sw hs2 hr2) ?_
          rintro _ h60 ⟨rfl, hT4, _⟩
          simp only [put_some]
          have hE : Ext h60 h60 := Ext.refl _
          replace hT2 := hT4.sw
          refine WL.qq (by simp only [EN, Nat.reduceEqDiff, reduceIte, qv_assign, Bool.not_true, Bool.not_false, hB4.cell]; rfl) ?_
          refine WL.qq (by simp only [EN, Nat.reduceEqDiff, reduceIte, qv_assign, Bool.not_true, Bool.not_false, hB4.cell]; rfl) ?_
          refine WL.nil ?_
          refine th_norm ?_
          refine hx_seq ?_
          refine hx_seq ?_
          refine hx_region ?_
          refine WL.qq (by simp only [EN, Nat.reduceEqDiff, reduceIte, qv_move, Bool.not_true, Bool.not_false, hB4.cell]; rfl) ?_
          refine WL.qq (by simp only [EN, Nat.reduceEqDiff, reduceIte, qv_binOp, binv_eql, eq26, Option.map_some, Bool.not_true, Bool.not_false, hB4.cell]; rfl) ?_
          refine WL.qq (by simp only [EN, Nat.reduceEqDiff, reduceIte, qv_move, Bool.not_true, Bool.not_false, hB4.cell]; rfl) ?_
          refine WL.qq (by simp only [EN, Nat.reduceEqDiff, reduceIte, qv_binOp, binv_eql, eq26, Option.map_some, Bool.not_true, Bool.not_false, hB4.cell]; rfl) ?_
          refine WL.qq (by simp only [EN, Nat.reduceEqDiff, reduceIte, qv_binOp, binv_neq, eq4, Option.map_some, Bool.not_true, Bool.not_false, hB4.cell]; rfl) ?_
          refine WL.nil ?_
          refine th_norm ?_
          refine hx_cond (by simp only [EN, Nat.reduceEqDiff, reduceIte, Bool.not_true, Bool.not_false, hB4.cell]; rfl) (fun hct93 => ?_) (fun hct93 => ?_)
          ·
            exfalso; have h9 : decide (r1 = 0) = decide (r2 = 0) := decide_eq_decide.2 hoe.1; simp [h9] at hct93
          ·
            try simp only [BD] at hct93
            refine hx_skip ?_
            refine th_norm ?_
            refine hx_seq ?_
            refine hx_region ?_
            refine WL.qq (by simp only [EN, Nat.reduceEqDiff, reduceIte, qv_move, k7_0, Bool.not_true, Bool.not_false, hB4.cell]; rfl) ?_
            refine WL.qq (by simp only [EN, Nat.reduceEqDiff, reduceIte, qv_move, k10_0, Bool.not_true, Bool.not_false, hB4.cell]; rfl) ?_
            refine WL.cg Try.call24 (by simp only [EN, Nat.reduceEqDiff, reduceIte, AR, Bool.not_true, Bool.not_false, hB4.cell]; exact t2_Equal hT2 (mapEq_refl hnd.1) (eq_nets hnd.2 hoe)) ?_
            intro h11 hx11
            replace hE := hE.trans hx11
            replace hT2 := hT2.ext hx11
            refine WL.qq (by simp only [EN, Nat.reduceEqDiff, reduceIte, qv_assign, Bool.not_true, Bool.not_false, hB4.cell]; rfl) ?_
            refine WL.nil ?_
            refine th_norm ?_
            refine hx_ret ?_
            refine fin_ret [.tmp 6] rfl rfl (by simp only [EN, Nat.reduceEqDiff, reduceIte, resv, k1_0, k2_0, k7_0, k10_0, i12_0, i11_0, Bool.not_true, Bool.not_false, hB4.cell]; rfl) ?_  -- ret 1 r19
            exact ⟨rfl, kE.trans hT2.E⟩
end GL


/- Session: the reference's Accept. -/
import Derived.Test.YtmlhncifcaicpaaSesE
import Derived.Test.YtmlhncifcaicpaaGl26
import Derived.Test.YtmlhncifcaicpaaGl33
set_option linter.unusedSimpArgs false
set_option linter.unusedVariables false
set_option linter.unnecessarySimpa false
namespace GL
open Go Go.Proofs
set_option maxRecDepth 8000
theorem idxV_ge {l : List M2} {n : Int} : 0 ≤ idxV l n ↔ (l.lookup n).isSome = true := by
  unfold idxV
  cases h : idx l n with
  | none => rw [idx_none.1 h]; simp
  | some i => obtain ⟨x, _, _, hx⟩ := idx_some h; rw [hx]; simp
theorem idxV_some {l : List M2} {n : Int} (h : 0 ≤ idxV l n) : ∃ i x, idx l n = some i ∧ idxV l n = i ∧ l[i]? = some x ∧ x.1 = n ∧ l.lookup n = some x.2 := by
  unfold idxV at h ⊢
  cases hi : idx l n with
  | none => rw [hi] at h; simp at h
  | some i => obtain ⟨x, h1, h2, h3⟩ := idx_some hi; exact ⟨i, x, rfl, rfl, h1, h2, h3⟩
set_option maxHeartbeats 1000000 in
theorem c_rAccept {h : Heap} {w n : Int} {bf : List M2} (ar : Option Addr) (cr : Nat) (m : M2) (hG : RG w n bf) (hs : SlR 46 2 msgL h ar bf) (hcr : bf.length ≤ cr) :
    HCalls Try.prog 35 #[rrV w n ar bf.length cr, .agg (msgL m).toArray] h fun v h' => Ext h h' ∧ ∃ u ao co, v = .tuple #[u, .slice ao (accO w n bf m).length co, iV (accE w n bf m)] ∧ RT h' u w (accN w n bf m) (accB w n bf m) ∧ SlR 9 1 strL h' ao (accO w n bf m) := by
  have hnd := hG.nd; have hn1 := hG.n1; have hn2 := hG.n2; have hw1 := hG.w1; have hw2 := hG.w2; have hgl := hG.len
  refine hcalls2 Try.func35 rfl (by decide +kernel) (by simp only [Try.ntmps35]; exact of_decide_eq_true rfl) ?_
  intro e hin
  have e0 := hin 0 _ rfl
  have e1 := hin 1 _ rfl
  have ks := hs
  refine hx_seq ?_
  refine hx_region ?_
  refine WL.box2 (by simp only [EN, Nat.reduceEqDiff, reduceIte, Value.cells, e0]; rfl) ?_
  intro h1 B1 hx1 hlt1 hB1
  replace hs := hs.ext hx1
  refine WL.box2 (by simp only [EN, Nat.reduceEqDiff, reduceIte, Value.cells, e1, hB1.cell]; rfl) ?_
  intro h2 B2 hx2 hlt2 hB2
  replace hs := hs.ext hx2
  replace hB1 := hB1.ext hx2
  refine WL.alloc2 zr27 ?_
  intro h3 B3 hx3 hlt3 hB3
  replace hs := hs.ext hx3
  replace hB1 := hB1.ext hx3
  replace hB2 := hB2.ext hx3
  simp only [Value.cells] at hB3
  refine WL.qq (by simp only [EN, Nat.reduceEqDiff, reduceIte, qv_assign, hB1.cell, hB2.cell, hB3.cell]; rfl) ?_
  refine WL.qq (by simp only [EN, Nat.reduceEqDiff, reduceIte, qv_assign, hB1.cell, hB2.cell, hB3.cell]; rfl) ?_
  refine WL.nil ?_
  refine th_norm ?_
  refine hx_seq ?_
  refine hx_seq ?_
  refine hx_region ?_
  have hz1 := hx1.size; have hz2 := hx2.size; have hn3 : h.size ≤ B3 := (by omega)
  refine WL.qq (by simp only [EN, Nat.reduceEqDiff, reduceIte, qv_fieldAddr, fa46_0, Nat.zero_add, Nat.reduceAdd, hB1.cell, hB2.cell, hB3.cell]; rfl) ?_
  refine WL.qq (by simp only [EN, Nat.reduceEqDiff, reduceIte, qv_load, ld3, readN, AR, Nat.zero_add, Nat.reduceAdd, hB1.cell, hB2.cell, hB3.cell]; rfl) ?_
  refine WL.qq (by simp only [EN, Nat.reduceEqDiff, reduceIte, qv_binOp, binv_lss, hB1.cell, hB2.cell, hB3.cell]; rfl) ?_
  refine WL.qq (by simp only [EN, Nat.reduceEqDiff, reduceIte, qv_move, hB1.cell, hB2.cell, hB3.cell]; rfl) ?_
  refine WL.cq (gd_at (t := 13) rfl (by simp only [EN, Nat.reduceEqDiff, reduceIte, hB1.cell, hB2.cell, hB3.cell] <;> rfl)) (fun hg1_4 => by simp only [EN, Nat.reduceEqDiff, reduceIte, qv_fieldAddr, fa46_0, Nat.zero_add, Nat.reduceAdd, hB1.cell, hB2.cell, hB3.cell, hg1_4, GR]; rfl) ?_
  refine WL.cq (gd_at (t := 13) rfl (by simp only [EN, Nat.reduceEqDiff, reduceIte, hB1.cell, hB2.cell, hB3.cell] <;> rfl)) (fun hg1_5 => by simp only [EN, Nat.reduceEqDiff, reduceIte, qv_load, ld3, readN, AR, Nat.zero_add, Nat.reduceAdd, hB1.cell, hB2.cell, hB3.cell, hg1_5, GR]; rfl) ?_
  refine WL.cq (gd_at (t := 13) rfl (by simp only [EN, Nat.reduceEqDiff, reduceIte, hB1.cell, hB2.cell, hB3.cell] <;> rfl)) (fun hg1_6 => by simp only [EN, Nat.reduceEqDiff, reduceIte, qv_binOp, binv_gtr, hB1.cell, hB2.cell, hB3.cell, hg1_6, GR]; rfl) ?_
  refine WL.qq (by simp only [EN, Nat.reduceEqDiff, reduceIte, qv_pick, pk_and, pk_or, GR, hB1.cell, hB2.cell, hB3.cell]; rfl) ?_
  refine WL.nil ?_
  refine th_norm ?_
  refine hx_cond (by simp only [EN, Nat.reduceEqDiff, reduceIte, hB1.cell, hB2.cell, hB3.cell]; rfl) (fun hct17 => ?_) (fun hct17 => ?_)
  ·
    try simp only [BD] at hct17
    refine hx_seq ?_
    refine hx_region ?_
    refine WL.qq (by simp only [EN, Nat.reduceEqDiff, reduceIte, qv_load, ld27, readN, AR, Nat.zero_add, Nat.reduceAdd, hB1.cell, hB2.cell, hB3.cell]; rfl) ?_
    refine WL.store (by simp only [EN, Nat.reduceEqDiff, reduceIte, e0, e1, hB1.cell, hB2.cell, hB3.cell] <;> rfl) sz27 (by simp only [EN, Nat.reduceEqDiff, reduceIte, e0, e1, hB1.cell, hB2.cell, hB3.cell, Value.cells]; rfl) rfl hB3 (by simp) (by intro u hu; simp at hu; rcases hu with rfl | rfl | rfl <;> rfl) ?_
    intro h20 hw20
    have hE9 := hw20.ext ((hx1).trans ((hx2).trans (hx3))) hn3
    replace hB3 := hw20.at_
    refine WL.qq (by simp only [EN, Nat.reduceEqDiff, reduceIte, qv_assign, hB1.cell, hB2.cell, hB3.cell]; rfl) ?_
    refine WL.qq (by simp only [EN, Nat.reduceEqDiff, reduceIte, qv_assign, hB1.cell, hB2.cell, hB3.cell]; rfl) ?_
    refine WL.nil ?_
    refine th_norm ?_
    refine hx_ret ?_
    refine th_ret ?_
    refine fin_ret [.cell 4 27, .tmp 5, .tmp 6] rfl rfl (by simp only [EN, Nat.reduceEqDiff, reduceIte, resv, ld27, readN, AR, Nat.zero_add, Nat.reduceAdd, e0, e1, hB1.cell, hB2.cell, hB3.cell]; rfl) ?_  -- ret 0 r2
    have he : accE w n bf m = 2 := (if_pos (by omega))
    have hne : ¬ accE w n bf m = 0 := (by rw [he]; decide)
    rw [accO, accN, accB, if_neg hne, if_neg hne, if_neg hne, he]
    exact ⟨hE9, _, none, 0, rfl, ⟨ar, cr, rfl, ks.ext hE9, hcr⟩, slR_nil⟩
  ·
    try simp only [BD] at hct17
    have e1 : ¬ (m.1 < 1 ∨ 1000000000 < m.1) := (by omega)
    refine hx_skip ?_
    refine th_norm ?_
    refine hx_seq ?_
    refine hx_seq ?_
    refine hx_region ?_
    refine WL.qq (by simp only [EN, Nat.reduceEqDiff, reduceIte, qv_fieldAddr, fa46_1, Nat.zero_add, Nat.reduceAdd, hB1.cell, hB2.cell, hB3.cell]; rfl) ?_
    refine WL.qq (by simp only [EN, Nat.reduceEqDiff, reduceIte, qv_load, ld9, readN, AR, Nat.zero_add, Nat.reduceAdd, hB1.cell, hB2.cell, hB3.cell]; rfl) ?_
    refine WL.qq (by simp only [EN, Nat.reduceEqDiff, reduceIte, qv_len, ln9, AR, hB1.cell, hB2.cell, hB3.cell]; rfl) ?_
    refine WL.qq (by simp only [EN, Nat.reduceEqDiff, reduceIte, qv_binOp, binv_gtr, hB1.cell, hB2.cell, hB3.cell]; rfl) ?_
    refine WL.nil ?_
    refine th_norm ?_
    refine hx_cond (by simp only [EN, Nat.reduceEqDiff, reduceIte, hB1.cell, hB2.cell, hB3.cell]; rfl) (fun hct22 => ?_) (fun hct22 => ?_)
    ·
      try simp only [BD] at hct22
      refine hx_seq ?_
      refine hx_region ?_
      refine WL.qq (by simp only [EN, Nat.reduceEqDiff, reduceIte, qv_load, ld27, readN, AR, Nat.zero_add, Nat.reduceAdd, hB1.cell, hB2.cell, hB3.cell]; rfl) ?_
      refine WL.store (by simp only [EN, Nat.reduceEqDiff, reduceIte, e0, e1, hB1.cell, hB2.cell, hB3.cell] <;> rfl) sz27 (by simp only [EN, Nat.reduceEqDiff, reduceIte, e0, e1, hB1.cell, hB2.cell, hB3.cell, Value.cells]; rfl) rfl hB3 (by simp) (by intro u hu; simp at hu; rcases hu with rfl | rfl | rfl <;> rfl) ?_
      intro h21 hw21
      have hE9 := hw21.ext ((hx1).trans ((hx2).trans (hx3))) hn3
      replace hB3 := hw21.at_
      refine WL.qq (by simp only [EN, Nat.reduceEqDiff, reduceIte, qv_assign, hB1.cell, hB2.cell, hB3.cell]; rfl) ?_
      refine WL.qq (by simp only [EN, Nat.reduceEqDiff, reduceIte, qv_assign, hB1.cell, hB2.cell, hB3.cell]; rfl) ?_
      refine WL.nil ?_
      refine th_norm ?_
      refine hx_ret ?_
      refine th_ret ?_
      refine fin_ret [.cell 4 27, .tmp 5, .tmp 6] rfl rfl (by simp only [EN, Nat.reduceEqDiff, reduceIte, resv, ld27, readN, AR, Nat.zero_add, Nat.reduceAdd, e0, e1, hB1.cell, hB2.cell, hB3.cell]; rfl) ?_  -- ret 1 r4
      have he : accE w n bf m = 5 := ((if_neg e1).trans (if_pos (by omega)))
      have hne : ¬ accE w n bf m = 0 := (by rw [he]; decide)
      rw [accO, accN, accB, if_neg hne, if_neg hne, if_neg hne, he]
      exact ⟨hE9, _, none, 0, rfl, ⟨ar, cr, rfl, ks.ext hE9, hcr⟩, slR_nil⟩
    ·
      try simp only [BD] at hct22
      have e2 : ¬ 4096 < m.2.size := (by omega)
      refine hx_skip ?_
      refine th_norm ?_
      refine hx_seq ?_
      refine hx_seq ?_
      refine hx_region ?_
      refine WL.qq (by simp only [EN, Nat.reduceEqDiff, reduceIte, qv_fieldAddr, fa46_0, Nat.zero_add, Nat.reduceAdd, hB1.cell, hB2.cell, hB3.cell]; rfl) ?_
      refine WL.qq (by simp only [EN, Nat.reduceEqDiff, reduceIte, qv_load, ld3, readN, AR, Nat.zero_add, Nat.reduceAdd, hB1.cell, hB2.cell, hB3.cell]; rfl) ?_
      refine WL.qq (by simp only [EN, Nat.reduceEqDiff, reduceIte, qv_fieldAddr, fa27_1, Nat.zero_add, Nat.reduceAdd, hB1.cell, hB2.cell, hB3.cell]; rfl) ?_
      refine WL.qq (by simp only [EN, Nat.reduceEqDiff, reduceIte, qv_load, ld3, readN, AR, Nat.zero_add, Nat.reduceAdd, hB1.cell, hB2.cell, hB3.cell]; rfl) ?_
      refine WL.qq (by simp only [EN, Nat.reduceEqDiff, reduceIte, qv_binOp, binv_lss, hB1.cell, hB2.cell, hB3.cell]; rfl) ?_
      refine WL.qq (by simp only [EN, Nat.reduceEqDiff, reduceIte, qv_move, hB1.cell, hB2.cell, hB3.cell]; rfl) ?_
      refine WL.cq (gd_at (t := 29) rfl (by simp only [EN, Nat.reduceEqDiff, reduceIte, hB1.cell, hB2.cell, hB3.cell] <;> rfl)) (fun hg5_6 => by simp only [EN, Nat.reduceEqDiff, reduceIte, qv_fieldAddr, fa27_2, Nat.zero_add, Nat.reduceAdd, hB1.cell, hB2.cell, hB3.cell, hg5_6, GR]; rfl) ?_
      refine WL.cq (gd_at (t := 29) rfl (by simp only [EN, Nat.reduceEqDiff, reduceIte, hB1.cell, hB2.cell, hB3.cell] <;> rfl)) (fun hg5_7 => by simp only [EN, Nat.reduceEqDiff, reduceIte, qv_load, ld22, readN, AR, Nat.zero_add, Nat.reduceAdd, hB1.cell, hB2.cell, hB3.cell, hg5_7, GR]; rfl) ?_
      refine WL.cq (gd_at (t := 29) rfl (by simp only [EN, Nat.reduceEqDiff, reduceIte, hB1.cell, hB2.cell, hB3.cell] <;> rfl)) (fun hg5_8 => by simp only [EN, Nat.reduceEqDiff, reduceIte, qv_fieldAddr, fa46_0, Nat.zero_add, Nat.reduceAdd, hB1.cell, hB2.cell, hB3.cell, hg5_8, GR]; rfl) ?_
      refine WL.cq (gd_at (t := 29) rfl (by simp only [EN, Nat.reduceEqDiff, reduceIte, hB1.cell, hB2.cell, hB3.cell] <;> rfl)) (fun hg5_9 => by simp only [EN, Nat.reduceEqDiff, reduceIte, qv_load, ld3, readN, AR, Nat.zero_add, Nat.reduceAdd, hB1.cell, hB2.cell, hB3.cell, hg5_9, GR]; rfl) ?_
      refine WL.cck (gd_at (t := 29) rfl (by simp only [EN, Nat.reduceEqDiff, reduceIte, hB1.cell, hB2.cell, hB3.cell] <;> rfl)) Try.call49 (fun hg5_10 => by simp only [EN, Nat.reduceEqDiff, reduceIte, AR, hB1.cell, hB2.cell, hB3.cell, hg5_10, GR]; exact c_find ar bf cr m.1 (by omega) hs.rd) ?_
      refine WL.cq (gd_at (t := 29) rfl (by simp only [EN, Nat.reduceEqDiff, reduceIte, hB1.cell, hB2.cell, hB3.cell] <;> rfl)) (fun hg5_11 => by simp only [EN, Nat.reduceEqDiff, reduceIte, qv_binOp, binv_geq, hB1.cell, hB2.cell, hB3.cell, hg5_11, GR]; rfl) ?_
      refine WL.qq (by simp only [EN, Nat.reduceEqDiff, reduceIte, qv_pick, pk_and, pk_or, GR, hB1.cell, hB2.cell, hB3.cell]; rfl) ?_
      refine WL.nil ?_
      refine th_norm ?_
      refine hx_cond (by simp only [EN, Nat.reduceEqDiff, reduceIte, hB1.cell, hB2.cell, hB3.cell]; rfl) (fun hct36 => ?_) (fun hct36 => ?_)
      ·
        try simp only [BD] at hct36
        refine hx_seq ?_
        refine hx_region ?_
        refine WL.qq (by simp only [EN, Nat.reduceEqDiff, reduceIte, qv_load, ld27, readN, AR, Nat.zero_add, Nat.reduceAdd, hB1.cell, hB2.cell, hB3.cell]; rfl) ?_
        refine WL.store (by simp only [EN, Nat.reduceEqDiff, reduceIte, e0, e1, hB1.cell, hB2.cell, hB3.cell] <;> rfl) sz27 (by simp only [EN, Nat.reduceEqDiff, reduceIte, e0, e1, hB1.cell, hB2.cell, hB3.cell, Value.cells]; rfl) rfl hB3 (by simp) (by intro u hu; simp at hu; rcases hu with rfl | rfl | rfl <;> rfl) ?_
        intro h22 hw22
        have hE9 := hw22.ext ((hx1).trans ((hx2).trans (hx3))) hn3
        replace hB3 := hw22.at_
        refine WL.qq (by simp only [EN, Nat.reduceEqDiff, reduceIte, qv_assign, hB1.cell, hB2.cell, hB3.cell]; rfl) ?_
        refine WL.qq (by simp only [EN, Nat.reduceEqDiff, reduceIte, qv_assign, hB1.cell, hB2.cell, hB3.cell]; rfl) ?_
        refine WL.nil ?_
        refine th_norm ?_
        refine hx_ret ?_
        refine th_ret ?_
        refine fin_ret [.cell 4 27, .tmp 5, .tmp 6] rfl rfl (by simp only [EN, Nat.reduceEqDiff, reduceIte, resv, ld27, readN, AR, Nat.zero_add, Nat.reduceAdd, e0, e1, hB1.cell, hB2.cell, hB3.cell]; rfl) ?_  -- ret 2 r6
        have he : accE w n bf m = 7 := ((if_neg e1).trans ((if_neg e2).trans (if_pos (hct36.imp id idxV_ge.1))))
        have hne : ¬ accE w n bf m = 0 := (by rw [he]; decide)
        rw [accO, accN, accB, if_neg hne, if_neg hne, if_neg hne, he]
        exact ⟨hE9, _, none, 0, rfl, ⟨ar, cr, rfl, ks.ext hE9, hcr⟩, slR_nil⟩
      ·
        try simp only [BD] at hct36
        have e3 : ¬ (m.1 < n ∨ (bf.lookup m.1).isSome = true) := (fun hh => hh.elim hct36.1 (fun h2 => hct36.2 (idxV_ge.2 h2)))
        refine hx_skip ?_
        refine th_norm ?_
        refine hx_seq ?_
        refine hx_seq ?_
        refine hx_region ?_
        refine WL.qq (by simp only [EN, Nat.reduceEqDiff, reduceIte, qv_fieldAddr, fa46_0, Nat.zero_add, Nat.reduceAdd, hB1.cell, hB2.cell, hB3.cell]; rfl) ?_
        refine WL.qq (by simp only [EN, Nat.reduceEqDiff, reduceIte, qv_load, ld3, readN, AR, Nat.zero_add, Nat.reduceAdd, hB1.cell, hB2.cell, hB3.cell]; rfl) ?_
        refine WL.qq (by simp only [EN, Nat.reduceEqDiff, reduceIte, qv_fieldAddr, fa27_1, Nat.zero_add, Nat.reduceAdd, hB1.cell, hB2.cell, hB3.cell]; rfl) ?_
        refine WL.qq (by simp only [EN, Nat.reduceEqDiff, reduceIte, qv_load, ld3, readN, AR, Nat.zero_add, Nat.reduceAdd, hB1.cell, hB2.cell, hB3.cell]; rfl) ?_
        refine WL.qq (by simp only [EN, Nat.reduceEqDiff, reduceIte, qv_fieldAddr, fa27_0, Nat.zero_add, Nat.reduceAdd, hB1.cell, hB2.cell, hB3.cell]; rfl) ?_
        refine WL.qq (by simp only [EN, Nat.reduceEqDiff, reduceIte, qv_load, ld3, readN, AR, Nat.zero_add, Nat.reduceAdd, hB1.cell, hB2.cell, hB3.cell]; rfl) ?_
        refine WL.qq (by simp only [EN, Nat.reduceEqDiff, reduceIte, qv_binOp, binv_add, hB1.cell, hB2.cell, hB3.cell]; (try simp (disch := omega) only [w64, w8, wu64]); rfl) ?_
        refine WL.qq (by simp only [EN, Nat.reduceEqDiff, reduceIte, qv_binOp, binv_sub, hB1.cell, hB2.cell, hB3.cell]; (try simp (disch := omega) only [w64, w8, wu64]); rfl) ?_
        refine WL.qq (by simp only [EN, Nat.reduceEqDiff, reduceIte, qv_binOp, binv_gtr, hB1.cell, hB2.cell, hB3.cell]; rfl) ?_
        refine WL.nil ?_
        refine th_norm ?_
        refine hx_cond (by simp only [EN, Nat.reduceEqDiff, reduceIte, hB1.cell, hB2.cell, hB3.cell]; rfl) (fun hct46 => ?_) (fun hct46 => ?_)
        ·
          try simp only [BD] at hct46
          refine hx_seq ?_
          refine hx_region ?_
          refine WL.qq (by simp only [EN, Nat.reduceEqDiff, reduceIte, qv_load, ld27, readN, AR, Nat.zero_add, Nat.reduceAdd, hB1.cell, hB2.cell, hB3.cell]; rfl) ?_
          refine WL.store (by simp only [EN, Nat.reduceEqDiff, reduceIte, e0, e1, hB1.cell, hB2.cell, hB3.cell] <;> rfl) sz27 (by simp only [EN, Nat.reduceEqDiff, reduceIte, e0, e1, hB1.cell, hB2.cell, hB3.cell, Value.cells]; rfl) rfl hB3 (by simp) (by intro u hu; simp at hu; rcases hu with rfl | rfl | rfl <;> rfl) ?_
          intro h23 hw23
          have hE9 := hw23.ext ((hx1).trans ((hx2).trans (hx3))) hn3
          replace hB3 := hw23.at_
          refine WL.qq (by simp only [EN, Nat.reduceEqDiff, reduceIte, qv_assign, hB1.cell, hB2.cell, hB3.cell]; rfl) ?_
          refine WL.qq (by simp only [EN, Nat.reduceEqDiff, reduceIte, qv_assign, hB1.cell, hB2.cell, hB3.cell]; rfl) ?_
          refine WL.nil ?_
          refine th_norm ?_
          refine hx_ret ?_
          refine th_ret ?_
          refine fin_ret [.cell 4 27, .tmp 5, .tmp 6] rfl rfl (by simp only [EN, Nat.reduceEqDiff, reduceIte, resv, ld27, readN, AR, Nat.zero_add, Nat.reduceAdd, e0, e1, hB1.cell, hB2.cell, hB3.cell]; rfl) ?_  -- ret 3 r8
          have he : accE w n bf m = 8 := ((if_neg e1).trans ((if_neg e2).trans ((if_neg e3).trans (if_pos (by omega)))))
          have hne : ¬ accE w n bf m = 0 := (by rw [he]; decide)
          rw [accO, accN, accB, if_neg hne, if_neg hne, if_neg hne, he]
          exact ⟨hE9, _, none, 0, rfl, ⟨ar, cr, rfl, ks.ext hE9, hcr⟩, slR_nil⟩
        ·
          try simp only [BD] at hct46
          have he : accE w n bf m = 0 := ((if_neg e1).trans ((if_neg e2).trans ((if_neg e3).trans (if_neg (by omega)))))
          have hGa := hG.add he
          rw [accO, accN, accB, if_pos he, if_pos he, if_pos he]
          refine hx_skip ?_
          refine th_norm ?_
          refine hx_seq ?_
          apply hx_draw2R (Rel.ap1 (Array.size h3) 46 2 bf.length 1 (bf.flatMap msgL) (([m] : List M2).flatMap msgL)) [13] [4, 7, 9, 10, 12] [(4, Spec.ls (Array.size h3) #[] 46 0), (7, Spec.ownZ (Array.size h3) 46 2 bf.length (bf.flatMap msgL)), (9, Spec.ls (Array.size h3) (msgL m).toArray 46 1), (10, Spec.own (Array.size h3) 46 2 (bf.length + 1) (bf.flatMap msgL ++ ([m] : List M2).flatMap msgL)), (12, Spec.blk (Array.size h3) #[iV 0, iV 0, .slice none 0 0] 27)] rfl (by decide +kernel) rfl (ap1_stable (by decide) rfl)
          have hzs := Ext.size ((hx1).trans ((hx2).trans (hx3))); have hB3lt := (Array.getElem?_eq_some_iff.1 hB3).1
          refine LD.qr rfl rfl (fun hD hr => by have hX : Ext _ _ := ap1_ext hr; have hB1 := hB1.ext hX; have hB2 := hB2.ext hX; simp only [EN, Nat.reduceEqDiff, reduceIte, qv_fieldAddr, fa27_0, Nat.zero_add, Nat.reduceAdd, hB1.cell, hB2.cell, hB3.cell]; rfl) ?_
          refine LD.qr rfl rfl (fun hD hr => by have hX : Ext _ _ := ap1_ext hr; have hB1 := hB1.ext hX; have hB2 := hB2.ext hX; simp only [EN, Nat.reduceEqDiff, reduceIte, qv_load, ld3, readN, AR, Nat.zero_add, Nat.reduceAdd, hB1.cell, hB2.cell, hB3.cell]; rfl) ?_
          refine LD.qr rfl rfl (fun hD hr => by have hX : Ext _ _ := ap1_ext hr; have hB1 := hB1.ext hX; have hB2 := hB2.ext hX; simp only [EN, Nat.reduceEqDiff, reduceIte, qv_fieldAddr, fa27_1, Nat.zero_add, Nat.reduceAdd, hB1.cell, hB2.cell, hB3.cell]; rfl) ?_
          refine LD.qr rfl rfl (fun hD hr => by have hX : Ext _ _ := ap1_ext hr; have hB1 := hB1.ext hX; have hB2 := hB2.ext hX; simp only [EN, Nat.reduceEqDiff, reduceIte, qv_load, ld3, readN, AR, Nat.zero_add, Nat.reduceAdd, hB1.cell, hB2.cell, hB3.cell]; rfl) ?_
          refine LD.es rfl rfl (by intro hD hr hf; have hX : Ext _ _ := ap1_ext hr; have hB1 := hB1.ext hX; have hB2 := hB2.ext hX; exact (e_lit0 hX.size Try.underlying22 sz46).mono (fun _ _ hh => ⟨ap1_of_ext hh.1, hh.2⟩)) ?_
          intro u9_4 w9_4
          obtain ⟨B30, hlt30, rfl⟩ := w9_4
          refine LD.qr rfl rfl (fun hD hr => by have hX : Ext _ _ := ap1_ext hr; have hB1 := hB1.ext hX; have hB2 := hB2.ext hX; simp only [EN, Nat.reduceEqDiff, reduceIte, qv_fieldAddr, fa27_2, Nat.zero_add, Nat.reduceAdd, hB1.cell, hB2.cell, hB3.cell]; rfl) ?_
          refine LD.qr rfl rfl (fun hD hr => by have hX : Ext _ _ := ap1_ext hr; have hB1 := hB1.ext hX; have hB2 := hB2.ext hX; simp only [EN, Nat.reduceEqDiff, reduceIte, qv_load, ld22, readN, AR, Nat.zero_add, Nat.reduceAdd, hB1.cell, hB2.cell, hB3.cell]; rfl) ?_
          refine LD.es rfl rfl (by intro hD hr hf; have hX : Ext _ _ := ap1_ext hr; have hB1 := hB1.ext hX; have hB2 := hB2.ext hX; have hB30 := hf (4, .slice (some ⟨B30, 0, none⟩) 0 0) (by simp) (by show tb _ _ 4 = true; decide +kernel) _ rfl B30 rfl; exact (e_copyZ (f := msgL) (L := bf) (bytes := 24) Try.underlying22 (inf_of Try.type46) rfl rfl rfl rfl (by decide) (fun _ => rfl) (by simp only [EN, Nat.reduceEqDiff, reduceIte, e0, e1, hB1.cell, hB2.cell, hB3.cell]) hB30 hlt30 (by simp only [EN, Nat.reduceEqDiff, reduceIte, e0, e1, hB1.cell, hB2.cell, hB3.cell]; rfl) rfl (hs.ext hX).rd (by simp only [maxLen]; omega) (by omega) hX.size).mono (fun _ _ hh => ⟨ap1_of_ext hh.1, hh.2⟩)) ?_
          intro u9_7 w9_7
          obtain ⟨a31, c31, rfl, hz31⟩ := w9_7
          refine LD.qr rfl rfl (fun hD hr => by have hX : Ext _ _ := ap1_ext hr; have hB1 := hB1.ext hX; have hB2 := hB2.ext hX; simp only [EN, Nat.reduceEqDiff, reduceIte, qv_load, ld46, readN, AR, Nat.zero_add, Nat.reduceAdd, hB1.cell, hB2.cell, hB3.cell]; rfl) ?_
          refine LD.es rfl rfl (by intro hD hr hf; have hX : Ext _ _ := ap1_ext hr; have hB1 := hB1.ext hX; have hB2 := hB2.ext hX; exact (e_lit1 hX.size Try.underlying22 sz46 zr46 (by decide) (by simp only [EN, Nat.reduceEqDiff, reduceIte, e0, e1, hB1.cell, hB2.cell, hB3.cell, Value.cells] <;> rfl) rfl).mono (fun _ _ hh => ⟨ap1_of_ext hh.1, hh.2⟩)) ?_
          intro u9_9 w9_9
          obtain ⟨B33, hlt33, rfl⟩ := w9_9
          refine LD.es rfl rfl (by intro hD hr hf; have hX : Ext _ _ := ap1_ext hr; have hB1 := hB1.ext hX; have hB2 := hB2.ext hX; have ho31 := hf (7, .slice a31 bf.length c31) (by simp) (by show tb _ _ 7 = true; decide +kernel) _ rfl; have hB33 := hf (9, .slice (some ⟨B33, 0, none⟩) 1 1) (by simp) (by show tb _ _ 9 = true; decide +kernel) _ rfl B33 rfl; exact e_appIn1 (f := msgL) (L := bf) (M := [m]) (bytes := 24) Try.underlying22 (inf_of Try.type46) rfl rfl rfl rfl (by decide) (fun _ => rfl) (fun x u hu => by simp at hu; rcases hu with rfl | rfl <;> rfl) (by simp only [EN, Nat.reduceEqDiff, reduceIte, e0, e1, hB1.cell, hB2.cell, hB3.cell]) ho31 (by simp only [EN, Nat.reduceEqDiff, reduceIte, e0, e1, hB1.cell, hB2.cell, hB3.cell]; rfl) rfl (slG_has (f := msgL) (sz := 2) (L := [m]) (fun _ => rfl) hB33 rfl) (fun hh a cap hv => by cases hv; exact hz31 hh) (by simp only [maxLen]; omega) (by omega) hX.size) ?_
          intro u9_10 w9_10
          obtain ⟨a32, c32, rfl⟩ := w9_10
          refine LD.qr rfl rfl (fun hD hr => by have hX : Ext _ _ := ap1_ext hr; have hB1 := hB1.ext hX; have hB2 := hB2.ext hX; refine qv_bld (by simp only [EN, Nat.reduceEqDiff, reduceIte, AR, hB1.cell, hB2.cell, hB3.cell] <;> rfl) (by rw [bl27]; simp [Instr.fill, Value.cells]; rfl)) ?_
          refine LD.es rfl rfl (by intro hD hr hf; have hX : Ext _ _ := ap1_ext hr; have hB1 := hB1.ext hX; have hB2 := hB2.ext hX; exact (e_alloc zr27).mono (fun _ _ hh => by obtain ⟨B, rfl, hn⟩ := hh; exact ⟨ap1_of_ext hn.ext, ⟨B, Nat.le_trans hX.size hn.fresh, rfl⟩, fun B' hB' => by cases hB'; exact hn.at_⟩)) ?_
          intro u9_12 w9_12
          obtain ⟨B7, hlt7, rfl⟩ := w9_12
          refine LD.skip rfl ?_
          refine LD.nil ?_
          rintro h4 hr9 hF9
          have hx4 : Ext _ _ := ap1_ext hr9
          replace hs := hs.ext hx4
          replace hB1 := hB1.ext hx4
          replace hB2 := hB2.ext hx4
          replace hB3 := hB3.ext hx4
          have hB7 : Has h4 B7 (.cells #[iV 0, iV 0, .slice none 0 0] 27) := hF9 (12, .pointer (some ⟨B7, 0, none⟩)) (by simp) _ rfl B7 rfl
          have ho32 : Own h4 _ 46 2 (.slice a32 (bf.length + 1) c32) (bf.length + 1) (bf.flatMap msgL ++ ([m] : List M2).flatMap msgL) := hF9 (10, .slice a32 (bf.length + 1) c32) (by simp) _ rfl
          have hl2 : bf.length + 1 = (bf ++ [m]).length := (by rw [List.length_append]; rfl)
          rw [← List.flatMap_append] at ho32
          obtain ⟨_, _, hq32, hc32, _⟩ := Own.shape ho32
          cases hq32
          have hn37 : B3 ≠ B7 := (by omega)
          have hn7b : h.size ≤ B7 := Nat.le_trans hzs hlt7
          refine WL.store (by simp only [EN, Nat.reduceEqDiff, reduceIte, e0, e1, hB1.cell, hB2.cell, hB3.cell] <;> rfl) sz27 (by simp only [EN, Nat.reduceEqDiff, reduceIte, e0, e1, hB1.cell, hB2.cell, hB3.cell, Value.cells]; rfl) rfl hB7 (by simp) (by intro u hu; simp at hu; rcases hu with rfl | rfl | rfl <;> rfl) ?_
          intro h40 hw40
          have hE := hw40.ext ((hx1).trans ((hx2).trans ((hx3).trans (hx4)))) (Nat.le_trans hzs hlt7)
          have ho40 := ho32.keep (h' := h40) (fun c hc => hw40.same c fun hh => by subst hh; exact ho32.ncell hB7 (by decide) hc)
          replace hB3 := hB3.wr hw40 (by omega)
          replace hB7 := hw40.at_
          simp only [splc, List.take_zero, List.nil_append, List.drop_succ_cons, List.drop_zero, List.length_cons, List.length_nil, List.drop_nil, List.append_nil, Nat.zero_add, Nat.reduceAdd] at hB7
          have hs7 := SlR.own (f := msgL) (sz := 2) (fun _ => rfl) ho40 hl2
          rw [hl2] at hB7 hc32
          refine WL.nil ?_
          refine th_norm ?_
          refine hx_seq ?_
          refine hx_region ?_
          refine WL.qq (by simp only [EN, Nat.reduceEqDiff, reduceIte, qv_assign, hB1.cell, hB2.cell, hB3.cell]; rfl) ?_
          refine WL.nil ?_
          refine th_norm ?_
          refine hx_seq ?_
          refine hx_seq ?_
          refine hx_region ?_
          refine WL.qq (by simp only [EN, Nat.reduceEqDiff, reduceIte, qv_fieldAddr, fa27_2, Nat.zero_add, Nat.reduceAdd, hB1.cell, hB2.cell, hB3.cell]; rfl) ?_
          refine WL.qq (by simp only [EN, Nat.reduceEqDiff, reduceIte, e0, e1, hB1.cell, hB2.cell, hB3.cell, qv_load, ld22, hB7.cell, AR, Nat.zero_add, Nat.reduceAdd]; rfl) ?_
          refine WL.qq (by simp only [EN, Nat.reduceEqDiff, reduceIte, qv_fieldAddr, fa27_1, Nat.zero_add, Nat.reduceAdd, hB1.cell, hB2.cell, hB3.cell]; rfl) ?_
          refine WL.qq (by simp only [EN, Nat.reduceEqDiff, reduceIte, e0, e1, hB1.cell, hB2.cell, hB3.cell, qv_load, ld3, hB7.cell, AR, Nat.zero_add, Nat.reduceAdd]; rfl) ?_
          refine WL.ck Try.call49 (by simp only [EN, Nat.reduceEqDiff, reduceIte, AR, hB1.cell, hB2.cell, hB3.cell]; exact c_find a32 (bf ++ [m]) c32 n (by rw [← hl2]; omega) hs7.rd) ?_
          refine WL.qq (by simp only [EN, Nat.reduceEqDiff, reduceIte, qv_assign, hB1.cell, hB2.cell, hB3.cell]; rfl) ?_
          refine WL.nil ?_
          refine th_norm ?_
          refine hx_block ?_
          refine hx_loopG [8, 9, 65, 66, 67, 68, 69, 70, 71, 72, 73, 74, 75, 76, 77, 78, 79, 80, 81, 82, 83, 84, 85, 86, 87, 88, 89, 90, 91, 92, 93, 94, 95, 96, 97] (fun k e hL0 => ∃ (n2 : Int) (b2 : List M2) (out : List ByteArray) (v : Value) (a2 : Option Addr) (c2 : Nat), b2.length = k ∧ (Ext h hL0) ∧ (Has hL0 B3 (.cells #[iV 0, iV 0, .slice none 0 0] 27)) ∧ (Has hL0 B7 (.cells #[iV w, iV n2, .slice a2 b2.length c2] 27)) ∧ (SlR 46 2 msgL hL0 a2 b2) ∧ (b2.length ≤ c2) ∧ (RG w n2 b2) ∧ (Own hL0 h.size 9 1 v out.length (out.flatMap strL)) ∧ (GL.dr n (bf ++ [m]) = ((GL.dr n2 b2).1, (GL.dr n2 b2).2.1, out ++ (GL.dr n2 b2).2.2)) ∧ ((out.length : Int) + b2.length ≤ 300) ∧ e 8 = v ∧ e 9 = iV (idxV b2 n2)) _ ⟨n, bf ++ [m], [], .slice none 0 0, a32, c32, rfl, ?_, ?_, ?_, ?_, ?_, ?_, ?_, ?_, ?_, ?_, ?_⟩ ?_
          · exact hE
          · exact hB3
          · exact hB7
          · exact hs7
          · exact hc32
          · exact hGa
          · exact Own.nil
          · rfl
          · have := hGa.len; simp at this ⊢; omega
          · simp only [EN, Nat.reduceEqDiff, reduceIte, e0, e1, hB1.cell, hB2.cell, hB3.cell] <;> rfl
          · simp only [EN, Nat.reduceEqDiff, reduceIte, e0, e1, hB1.cell, hB2.cell, hB3.cell] <;> rfl
          ·
            rintro k e0L hL0 hfr0 ⟨n2, b2, out, v, a2, c2, rfl, hE, hB3, hB7, hs7, hc2, hG2, ho, hd, hol, i8_0, i9_0⟩
            have k4_0 := hfr0 4 rfl; try simp only [EN, Nat.reduceEqDiff, reduceIte, hB1.cell, hB2.cell, hB3.cell] at k4_0
            have k7_0 := hfr0 7 rfl; try simp only [EN, Nat.reduceEqDiff, reduceIte, hB1.cell, hB2.cell, hB3.cell] at k7_0
            refine hx_seq ?_
            refine hx_seq ?_
            refine hx_region ?_
            refine WL.qq (by simp only [EN, Nat.reduceEqDiff, reduceIte, qv_move, i9_0, hB1.cell, hB2.cell, hB3.cell, hB7.cell]; rfl) ?_
            refine WL.qq (by simp only [EN, Nat.reduceEqDiff, reduceIte, qv_binOp, binv_geq, hB1.cell, hB2.cell, hB3.cell, hB7.cell]; rfl) ?_
            refine WL.nil ?_
            refine th_norm ?_
            refine hx_cond (by simp only [EN, Nat.reduceEqDiff, reduceIte, hB1.cell, hB2.cell, hB3.cell, hB7.cell]; rfl) (fun hct66 => ?_) (fun hct66 => ?_)
            ·
              try simp only [BD] at hct66
              obtain ⟨i, x, hix, hiv, hx, hxn, hlx⟩ := idxV_some hct66
              rw [hiv] at i9_0
              obtain ⟨b, off, rfl, hr2, hc0, hc1⟩ := msg_rd hs7.rd hx
              have hil := idx_lt hix
              rw [dr_some hG2.nd hlx] at hd
              have hml := mdel_len hG2.nd hlx; have hG3 := hG2.mdel_ hlx; have hn2b := hG3.n2; have hn2c := hG2.n1; have hcm := cut_mdel hG2.nd hix
              refine hx_skip ?_
              refine th_norm ?_
              refine hx_seq ?_
              refine hx_block ?_
              refine hx_seq ?_
              refine hx_region ?_
              refine WL.qq (by simp only [EN, Nat.reduceEqDiff, reduceIte, qv_move, i8_0, hB1.cell, hB2.cell, hB3.cell, hB7.cell]; rfl) ?_
              refine WL.qq (by simp only [EN, Nat.reduceEqDiff, reduceIte, qv_fieldAddr, fa27_2, Nat.zero_add, Nat.reduceAdd, k7_0, hB1.cell, hB2.cell, hB3.cell, hB7.cell]; rfl) ?_
              refine WL.qq (by simp only [EN, Nat.reduceEqDiff, reduceIte, qv_load, ld22, readN, AR, Nat.zero_add, Nat.reduceAdd, hB1.cell, hB2.cell, hB3.cell, hB7.cell]; rfl) ?_
              refine WL.qq (by simp only [EN, Nat.reduceEqDiff, reduceIte, qv_move, i9_0, hB1.cell, hB2.cell, hB3.cell, hB7.cell]; rfl) ?_
              refine WL.qq (by simp only [EN, Nat.reduceEqDiff, reduceIte, qv_indexAddr, hB1.cell, hB2.cell, hB3.cell, hB7.cell]; (try simp (disch := omega) only [ix22, Int.toNat_natCast]); rfl) ?_
              refine WL.qq (by simp only [EN, Nat.reduceEqDiff, reduceIte, qv_fieldAddr, fa46_1, Nat.zero_add, Nat.reduceAdd, hB1.cell, hB2.cell, hB3.cell, hB7.cell]; rfl) ?_
              refine WL.qq (by simp only [EN, Nat.reduceEqDiff, reduceIte, k4_0, k7_0, i8_0, i9_0, hB1.cell, hB2.cell, hB3.cell, hB7.cell, qv_load, ld9, Int.toNat_natCast, hc1]; rfl) ?_
              have hne7 := ho.ncell hB7 (by decide)
              have hne3 := ho.ncell hB3 (by decide)
              refine WL.push (bytes := 16) Try.underlying31 (inf_of Try.type9) rfl rfl rfl rfl (by decide) (by decide) sz9 zr9 (fun u => by simp only [EN, Nat.reduceEqDiff, reduceIte, k4_0, k7_0, i8_0, i9_0, hB1.cell, hB2.cell, hB3.cell, hB7.cell]) ho (by simp only [EN, Nat.reduceEqDiff, reduceIte, k4_0, k7_0, i8_0, i9_0, hB1.cell, hB2.cell, hB3.cell, hB7.cell, Value.cells]; rfl) rfl (by simp [Value.oneCell']) (by simp only [maxLen]; omega) (by omega) hE.size ?_
              intro h41 v41 B41 ho41 hg41 hp41 hn41
              replace hE := hg41.ext hE (fun c hc => (ho.block c hc).1)
              replace hB7 := hB7.gr hg41 hne7
              replace hB3 := hB3.gr hg41 hne3
              replace hs7 := hs7.gro hg41 ho (by decide)
              skip
              obtain ⟨T1, hT1⟩ : ∃ T1, b2.take i = T1 := ⟨_, rfl⟩
              obtain ⟨T2, hT2⟩ : ∃ T2, b2.drop (i + 1) = T2 := ⟨_, rfl⟩
              have hl1 : T1.length = i := (by rw [← hT1, List.length_take]; omega)
              have hl2b : T2.length = b2.length - (i + 1) := (by rw [← hT2, List.length_drop])
              have hsT1 : SlG 2 msgL h41 (some ⟨b, off, none⟩) T1 := hT1 ▸ hs7.rd.pre i
              have hsT2 : SlG 2 msgL h41 _ T2 := hT2 ▸ hs7.rd.drop (i + 1) hc2
              rw [hT1, hT2] at hcm
              have hzs := hE.size; have hlb := hG2.len
              refine WL.qq (by simp only [EN, Nat.reduceEqDiff, reduceIte, qv_assign, hB1.cell, hB2.cell, hB3.cell, hB7.cell]; rfl) ?_
              refine WL.nil ?_
              refine th_norm ?_
              refine hx_seq ?_
              apply hx_draw2R (Rel.app (Array.size h41) 46 2 T1.length T2.length (T1.flatMap msgL) (T2.flatMap msgL)) [13] [0, 5, 11] [(0, Spec.ls (Array.size h41) #[] 46 0), (5, Spec.own (Array.size h41) 46 2 T1.length (T1.flatMap msgL)), (11, Spec.own (Array.size h41) 46 2 (T1.length + T2.length) (T1.flatMap msgL ++ T2.flatMap msgL))] rfl (by decide +kernel) rfl app_stable2
              refine LD.es rfl rfl (by intro hD hr hf; have hX : Ext _ _ := app_ext hr; have hB7 := hB7.ext hX; exact (e_lit0 hX.size Try.underlying22 sz46).mono (fun _ _ hh => ⟨app_of_ext hh.1, hh.2⟩)) ?_
              intro u15_0 w15_0
              obtain ⟨B50, hlt50, rfl⟩ := w15_0
              refine LD.qr rfl rfl (fun hD hr => by have hX : Ext _ _ := app_ext hr; have hB7 := hB7.ext hX; simp only [EN, Nat.reduceEqDiff, reduceIte, qv_fieldAddr, fa27_2, Nat.zero_add, Nat.reduceAdd, k7_0, hB1.cell, hB2.cell, hB3.cell, hB7.cell]; rfl) ?_
              refine LD.qr rfl rfl (fun hD hr => by have hX : Ext _ _ := app_ext hr; have hB7 := hB7.ext hX; simp only [EN, Nat.reduceEqDiff, reduceIte, qv_load, ld22, readN, AR, Nat.zero_add, Nat.reduceAdd, hB1.cell, hB2.cell, hB3.cell, hB7.cell]; rfl) ?_
              refine LD.qr rfl rfl (fun hD hr => by have hX : Ext _ _ := app_ext hr; have hB7 := hB7.ext hX; simp only [EN, Nat.reduceEqDiff, reduceIte, qv_move, i9_0, hB1.cell, hB2.cell, hB3.cell, hB7.cell]; rfl) ?_
              refine LD.qr rfl rfl (fun hD hr => by have hX : Ext _ _ := app_ext hr; have hB7 := hB7.ext hX; simp only [EN, Nat.reduceEqDiff, reduceIte, k4_0, k7_0, i8_0, i9_0, hB1.cell, hB2.cell, hB3.cell, hB7.cell, qv_slice, Option.map_some, Option.map_none]; rw [slicev_h Try.underlying22 sz46 (some ⟨b, off, none⟩) (fun x hx => by cases hx; rfl) b2.length c2 .i64 (i : Int) (by omega) (by omega), Int.toNat_natCast, ← hl1]) ?_
              refine LD.es rfl rfl (by intro hD hr hf; have hX : Ext _ _ := app_ext hr; have hB7 := hB7.ext hX; have hB50 := hf (0, .slice (some ⟨B50, 0, none⟩) 0 0) (by simp) (by show tb _ _ 0 = true; decide +kernel) _ rfl B50 rfl; exact (e_copyG (f := msgL) (L := T1) (bytes := 24) Try.underlying22 (inf_of Try.type46) rfl rfl rfl rfl (by decide) (fun _ => rfl) (by simp only [EN, Nat.reduceEqDiff, reduceIte, k4_0, k7_0, i8_0, i9_0, hB1.cell, hB2.cell, hB3.cell, hB7.cell]) hB50 hlt50 (by simp only [EN, Nat.reduceEqDiff, reduceIte, k4_0, k7_0, i8_0, i9_0, hB1.cell, hB2.cell, hB3.cell, hB7.cell]; rfl) rfl (hsT1.ext hX) (by simp only [maxLen]; omega) (by omega) hX.size).mono (fun _ _ hh => ⟨app_of_ext hh.1, hh.2⟩)) ?_
              intro u15_5 w15_5
              obtain ⟨a51, c51, rfl⟩ := w15_5
              refine LD.qr rfl rfl (fun hD hr => by have hX : Ext _ _ := app_ext hr; have hB7 := hB7.ext hX; simp only [EN, Nat.reduceEqDiff, reduceIte, qv_fieldAddr, fa27_2, Nat.zero_add, Nat.reduceAdd, k7_0, hB1.cell, hB2.cell, hB3.cell, hB7.cell]; rfl) ?_
              refine LD.qr rfl rfl (fun hD hr => by have hX : Ext _ _ := app_ext hr; have hB7 := hB7.ext hX; simp only [EN, Nat.reduceEqDiff, reduceIte, qv_load, ld22, readN, AR, Nat.zero_add, Nat.reduceAdd, hB1.cell, hB2.cell, hB3.cell, hB7.cell]; rfl) ?_
              refine LD.qr rfl rfl (fun hD hr => by have hX : Ext _ _ := app_ext hr; have hB7 := hB7.ext hX; simp only [EN, Nat.reduceEqDiff, reduceIte, qv_move, i9_0, hB1.cell, hB2.cell, hB3.cell, hB7.cell]; rfl) ?_
              refine LD.qr rfl rfl (fun hD hr => by have hX : Ext _ _ := app_ext hr; have hB7 := hB7.ext hX; simp only [EN, Nat.reduceEqDiff, reduceIte, qv_binOp, binv_add, hB1.cell, hB2.cell, hB3.cell, hB7.cell]; (try simp (disch := omega) only [w64, w8, wu64]); rfl) ?_
              refine LD.qr rfl rfl (fun hD hr => by have hX : Ext _ _ := app_ext hr; have hB7 := hB7.ext hX; simp only [EN, Nat.reduceEqDiff, reduceIte, k4_0, k7_0, i8_0, i9_0, hB1.cell, hB2.cell, hB3.cell, hB7.cell, qv_slice, Option.map_some, Option.map_none]; rw [slicev_l Try.underlying22 sz46 b off b2.length c2 .i64 ((i : Int) + 1) (by omega) (by omega), show ((i : Int) + 1).toNat = i + 1 from by omega, ← hl2b]) ?_
              refine LD.es rfl rfl (by intro hD hr hf; have hX : Ext _ _ := app_ext hr; have hB7 := hB7.ext hX; have ho51 := hf (5, .slice a51 T1.length c51) (by simp) (by show tb _ _ 5 = true; decide +kernel) _ rfl; exact e_appIn (f := msgL) (L := T1) (M := T2) (bytes := 24) Try.underlying22 (inf_of Try.type46) rfl rfl rfl rfl (by decide) (fun _ => rfl) (fun x u hu => by simp at hu; rcases hu with rfl | rfl <;> rfl) (by simp only [EN, Nat.reduceEqDiff, reduceIte, k4_0, k7_0, i8_0, i9_0, hB1.cell, hB2.cell, hB3.cell, hB7.cell]) ho51 (by simp only [EN, Nat.reduceEqDiff, reduceIte, k4_0, k7_0, i8_0, i9_0, hB1.cell, hB2.cell, hB3.cell, hB7.cell]; rfl) rfl (hsT2.ext hX) (by simp only [maxLen]; omega) (by omega) hX.size) ?_
              intro u15_11 w15_11
              obtain ⟨a52, c52, rfl⟩ := w15_11
              refine LD.qr rfl rfl (fun hD hr => by have hX : Ext _ _ := app_ext hr; have hB7 := hB7.ext hX; simp only [EN, Nat.reduceEqDiff, reduceIte, qv_fieldAddr, fa27_2, Nat.zero_add, Nat.reduceAdd, k7_0, hB1.cell, hB2.cell, hB3.cell, hB7.cell]; rfl) ?_
              refine LD.skip rfl ?_
              refine LD.nil ?_
              rintro h5 hr15 hF15
              have hx5 : Ext _ _ := app_ext hr15
              replace hE := hE.ext hx5
              replace hB3 := hB3.ext hx5
              replace hB7 := hB7.ext hx5
              have ho52 : Own h5 _ 46 2 (.slice a52 (T1.length + T2.length) c52) (T1.length + T2.length) (T1.flatMap msgL ++ T2.flatMap msgL) := hF15 (11, .slice a52 (T1.length + T2.length) c52) (by simp) _ rfl
              have hl3 : T1.length + T2.length = (mdel b2 n2).length := (by rw [← hcm, List.length_append])
              rw [← List.flatMap_append, hcm] at ho52
              obtain ⟨_, _, hq52, hc52, _⟩ := Own.shape ho52
              cases hq52
              replace ho41 := ho41.ext (app_ext hr15)
              refine WL.store (by simp only [EN, Nat.reduceEqDiff, reduceIte, hB1.cell, hB2.cell, hB3.cell, hB7.cell] <;> rfl) sz22 (by simp only [EN, Nat.reduceEqDiff, reduceIte, Value.cells, hB1.cell, hB2.cell, hB3.cell, hB7.cell] <;> rfl) rfl hB7 (by first | (simp [true_and]; done) | (simp [true_and]; omega) | omega) (by simp [Value.oneCell']) ?_
              intro h6 hw6
              have hn7 := ho41.ncell hB7 (by decide)
              have hn52 := ho52.ncell hB7 (by decide)
              replace hE := hw6.ext hE hn7b
              replace ho41 := ho41.keep (fun c hc => hw6.same c fun hh => by subst hh; exact hn7 hc)
              replace ho52 := ho52.keep (fun c hc => hw6.same c fun hh => by subst hh; exact hn52 hc)
              replace hB3 := hB3.wr hw6 hn37
              replace hB7 := hw6.at_
              simp only [splc, List.take_succ_cons, List.take_zero, List.take_nil, List.drop_succ_cons, List.drop_zero, List.drop_nil, List.cons_append, List.nil_append, List.length_cons, List.length_nil, Nat.zero_add, Nat.add_zero, Nat.reduceAdd, List.append_nil] at hB7
              refine WL.nil ?_
              refine th_norm ?_
              refine hx_region ?_
              refine WL.qq (by simp only [EN, Nat.reduceEqDiff, reduceIte, qv_fieldAddr, fa27_1, Nat.zero_add, Nat.reduceAdd, k7_0, hB1.cell, hB2.cell, hB3.cell, hB7.cell]; rfl) ?_
              refine WL.qq (by simp only [EN, Nat.reduceEqDiff, reduceIte, qv_load, ld3, readN, AR, Nat.zero_add, Nat.reduceAdd, hB1.cell, hB2.cell, hB3.cell, hB7.cell]; rfl) ?_
              refine WL.qq (by simp only [EN, Nat.reduceEqDiff, reduceIte, qv_binOp, binv_add, hB1.cell, hB2.cell, hB3.cell, hB7.cell]; (try simp (disch := omega) only [w64, w8, wu64]); rfl) ?_
              refine WL.qq (by simp only [EN, Nat.reduceEqDiff, reduceIte, qv_fieldAddr, fa27_1, Nat.zero_add, Nat.reduceAdd, k7_0, hB1.cell, hB2.cell, hB3.cell, hB7.cell]; rfl) ?_
              refine WL.store (by simp only [EN, Nat.reduceEqDiff, reduceIte, hB1.cell, hB2.cell, hB3.cell, hB7.cell] <;> rfl) sz3 (by simp only [EN, Nat.reduceEqDiff, reduceIte, Value.cells, hB1.cell, hB2.cell, hB3.cell, hB7.cell] <;> rfl) rfl hB7 (by first | (simp [true_and]; done) | (simp [true_and]; omega) | omega) (by simp [Value.oneCell']) ?_
              intro h7 hw7
              have hn7 := ho41.ncell hB7 (by decide)
              have hn52 := ho52.ncell hB7 (by decide)
              replace hE := hw7.ext hE hn7b
              replace ho41 := ho41.keep (fun c hc => hw7.same c fun hh => by subst hh; exact hn7 hc)
              replace ho52 := ho52.keep (fun c hc => hw7.same c fun hh => by subst hh; exact hn52 hc)
              replace hB3 := hB3.wr hw7 hn37
              replace hB7 := hw7.at_
              simp only [splc, List.take_succ_cons, List.take_zero, List.take_nil, List.drop_succ_cons, List.drop_zero, List.drop_nil, List.cons_append, List.nil_append, List.length_cons, List.length_nil, Nat.zero_add, Nat.add_zero, Nat.reduceAdd, List.append_nil] at hB7
              have hs52 := SlR.own (f := msgL) (sz := 2) (fun _ => rfl) ho52 hl3
              rw [hl3] at hB7 hc52
              refine WL.nil ?_
              refine bl_norm ?_
              refine th_norm ?_
              refine hx_region ?_
              refine WL.qq (by simp only [EN, Nat.reduceEqDiff, reduceIte, qv_fieldAddr, fa27_2, Nat.zero_add, Nat.reduceAdd, k7_0, hB1.cell, hB2.cell, hB3.cell, hB7.cell]; rfl) ?_
              refine WL.qq (by simp only [EN, Nat.reduceEqDiff, reduceIte, qv_load, ld22, readN, AR, Nat.zero_add, Nat.reduceAdd, hB1.cell, hB2.cell, hB3.cell, hB7.cell]; rfl) ?_
              refine WL.qq (by simp only [EN, Nat.reduceEqDiff, reduceIte, qv_fieldAddr, fa27_1, Nat.zero_add, Nat.reduceAdd, k7_0, hB1.cell, hB2.cell, hB3.cell, hB7.cell]; rfl) ?_
              refine WL.qq (by simp only [EN, Nat.reduceEqDiff, reduceIte, qv_load, ld3, readN, AR, Nat.zero_add, Nat.reduceAdd, hB1.cell, hB2.cell, hB3.cell, hB7.cell]; rfl) ?_
              refine WL.ck Try.call49 (by simp only [EN, Nat.reduceEqDiff, reduceIte, AR, hB1.cell, hB2.cell, hB3.cell, hB7.cell]; exact c_find a52 (mdel b2 n2) c52 (n2 + 1) (by omega) hs52.rd) ?_
              refine WL.qq (by simp only [EN, Nat.reduceEqDiff, reduceIte, qv_assign, hB1.cell, hB2.cell, hB3.cell, hB7.cell]; rfl) ?_
              refine WL.nil ?_
              refine th_norm ?_
              refine ⟨rfl, ?_, _, ?_, n2 + 1, mdel b2 n2, out ++ [x.2], v41, a52, c52, rfl, ?_, ?_, ?_, ?_, ?_, ?_, ?_, ?_, ?_, ?_, ?_⟩  -- again 0 of loop 0
              · (repeat (first | exact Fr.refl _ _ | refine Fr.set rfl ?_ | refine Fr.put rfl ?_ | with_reducible refine Fr.put0 ?_))
              · omega
              · exact hE
              · exact hB3
              · exact hB7
              · exact hs52
              · exact hc52
              · exact hG3
              · rw [List.length_append, List.flatMap_append]; exact ho41
              · rw [hd, List.append_assoc]; rfl
              · rw [List.length_append, List.length_singleton]; omega
              · simp only [EN, Nat.reduceEqDiff, reduceIte, k4_0, k7_0, i8_0, i9_0, hB1.cell, hB2.cell, hB3.cell, hB7.cell] <;> first | rfl | (congr 1; omega)
              · simp only [EN, Nat.reduceEqDiff, reduceIte, k4_0, k7_0, i8_0, i9_0, hB1.cell, hB2.cell, hB3.cell, hB7.cell] <;> first | rfl | (congr 1; omega)
            ·
              try simp only [BD] at hct66
              have hl0 : b2.lookup n2 = none := (by cases hq : b2.lookup n2; rfl; exact absurd (idxV_ge.2 (by rw [hq]; rfl)) hct66)
              rw [dr_none hl0] at hd; rw [hd]; simp only [List.append_nil]
              refine hx_exit ?_
              refine th_exit ?_
              refine th_exit ?_
              refine bl_hit ?_
              refine th_norm ?_
              refine hx_seq ?_
              refine hx_region ?_
              refine WL.qq (by simp only [EN, Nat.reduceEqDiff, reduceIte, qv_load, ld27, readN, AR, Nat.zero_add, Nat.reduceAdd, k7_0, hB1.cell, hB2.cell, hB3.cell, hB7.cell]; rfl) ?_
              refine WL.qq (by simp only [EN, Nat.reduceEqDiff, reduceIte, qv_move, i8_0, hB1.cell, hB2.cell, hB3.cell, hB7.cell]; rfl) ?_
              have hno := ho.ncell hB3 (by decide)
              refine WL.store (by simp only [EN, Nat.reduceEqDiff, reduceIte, k4_0, k7_0, i8_0, i9_0, hB1.cell, hB2.cell, hB3.cell, hB7.cell] <;> rfl) sz27 (by simp only [EN, Nat.reduceEqDiff, reduceIte, k4_0, k7_0, i8_0, i9_0, hB1.cell, hB2.cell, hB3.cell, hB7.cell, Value.cells]; rfl) rfl hB3 (by simp) (by intro u hu; simp at hu; rcases hu with rfl | rfl | rfl <;> rfl) ?_
              intro h60 hw60
              have hE9 := hw60.ext hE hn3
              have ho9 := ho.keep (h' := h60) (fun c hc => hw60.same c fun hh => by subst hh; exact hno hc)
              replace hB7 := hB7.wr hw60 (Ne.symm hn37)
              have hs9 := hs7.wr hw60 hB3 (by decide)
              replace hB3 := hw60.at_
              refine WL.qq (by simp only [EN, Nat.reduceEqDiff, reduceIte, qv_assign, hB1.cell, hB2.cell, hB3.cell, hB7.cell]; rfl) ?_
              refine WL.qq (by simp only [EN, Nat.reduceEqDiff, reduceIte, qv_assign, hB1.cell, hB2.cell, hB3.cell, hB7.cell]; rfl) ?_
              refine WL.nil ?_
              refine th_norm ?_
              refine hx_ret ?_
              refine fin_ret [.cell 4 27, .tmp 5, .tmp 6] rfl rfl (by simp only [EN, Nat.reduceEqDiff, reduceIte, resv, ld27, readN, AR, Nat.zero_add, Nat.reduceAdd, k4_0, k7_0, i8_0, i9_0, hB1.cell, hB2.cell, hB3.cell, hB7.cell]; rfl) ?_  -- ret 4 r17
              obtain ⟨ao, co, hv, _, _, _⟩ := Own.slG (f := strL) (sz := 1) (fun _ => rfl) ho9 rfl
              subst hv
              have hso := SlR.own (f := strL) (sz := 1) (fun _ => rfl) ho9 rfl
              exact ⟨hE9, _, ao, co, by rw [he]; rfl, ⟨a2, c2, rfl, hs9, hc2⟩, hso⟩
end GL


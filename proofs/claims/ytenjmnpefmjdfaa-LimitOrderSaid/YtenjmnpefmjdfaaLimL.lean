/- Limits: the reference's Set. -/
import Derived.Test.YtenjmnpefmjdfaaLimK
import Derived.Test.YtenjmnpefmjdfaaGl31
set_option linter.unusedSimpArgs false
set_option linter.unusedVariables false
set_option linter.unnecessarySimpa false
namespace GL
open Go Go.Proofs
set_option maxRecDepth 8000
/-- A table of the reference. -/
structure RT (h : Heap) (w : Value) (Ls F : List L2) : Prop where
  ex : ∃ al cl af cf, w = rfV al Ls.length cl af F.length cf ∧ SlG 3 limL h al Ls ∧ SlG 3 limL h af F
theorem RT.ext {h h' : Heap} {w : Value} {Ls F : List L2} (hr : RT h w Ls F) (hx : Ext h h') : RT h' w Ls F := by
  obtain ⟨al, cl, af, cf, h1, h2, h3⟩ := hr.ex
  exact ⟨al, cl, af, cf, h1, h2.ext hx, h3.ext hx⟩
/-- The error with which the reference rejects a limit. -/
def rsetE (Ls F : List L2) (f t : ByteArray) (a : Int) (ml : Bool) : Int :=
  if f = em ∨ (ml = false ∧ t = em) then 6 else if ml = false ∧ f = t then 7 else if 1000000000000000 < a then 2 else
  if 256 < cntR (insR ⟨f, if ml = true then em else t⟩ a (decide (a < 0)) Ls) F then 8 else 0
theorem c_rSet (al : Option Addr) (Ls : List L2) (cl : Nat) (af : Option Addr) (F : List L2) (cf : Nat) (f t : ByteArray) (a : Int) (ml : Bool) (hlL : Ls.length ≤ 1000) (hlF : F.length ≤ 100000) {h : Heap} (hs1 : SlG 3 limL h al Ls) (hs2 : SlG 3 limL h af F)
    {r : Int} (hr : rsetE Ls F f t a ml = r) :
    HCalls Try.prog 36 #[rfV al Ls.length cl af F.length cf, .string f, .string t, iV a, .bool ml] h fun v h' => Ext h h' ∧ ∃ w, v = .tuple #[w, iV r] ∧ RT h' w (if r = 0 then insR ⟨f, if ml = true then em else t⟩ a (decide (a < 0)) Ls else Ls) F := by
  refine hcalls2 Try.func36 rfl (by decide +kernel) (by simp only [Try.ntmps36]; exact of_decide_eq_true rfl) ?_
  intro e hin
  have e0 := hin 0 _ rfl
  have e1 := hin 1 _ rfl
  have e2 := hin 2 _ rfl
  have e3 := hin 3 _ rfl
  have e4 := hin 4 _ rfl
  have k1 := hs1; have k2 := hs2
  obtain ⟨t2, ht2⟩ : ∃ t2, (if ml = true then em else t) = t2 := ⟨_, rfl⟩
  rw [ht2]
  refine hx_seq ?_
  refine hx_region ?_
  refine WL.box2 (by simp only [EN, Nat.reduceEqDiff, reduceIte, Value.cells, e0, strEq]; rfl) ?_
  intro h1 B1 hx1 hlt1 hB1
  replace hs1 := hs1.ext hx1
  replace hs2 := hs2.ext hx1
  refine WL.alloc2 zr41 ?_
  intro h2 B2 hx2 hlt2 hB2
  replace hs1 := hs1.ext hx2
  replace hs2 := hs2.ext hx2
  replace hB1 := hB1.ext hx2
  simp only [Value.cells] at hB2
  refine WL.qq (by simp only [EN, Nat.reduceEqDiff, reduceIte, qv_assign, strEq, hB1.cell, hB2.cell]; rfl) ?_
  refine WL.nil ?_
  refine th_norm ?_
  refine hx_seq ?_
  refine hx_block ?_
  refine hx_seq ?_
  refine hx_region ?_
  have hz1 := hx1.size; have hn2 : h.size ≤ B2 := (by omega)
  refine WL.qq (by simp only [EN, Nat.reduceEqDiff, reduceIte, qv_move, e1, strEq, hB1.cell, hB2.cell]; rfl) ?_
  refine WL.qq (by simp only [EN, Nat.reduceEqDiff, reduceIte, qv_binOp, binv_eql, eq9, Option.map_some, strEq, hB1.cell, hB2.cell]; rfl) ?_
  refine WL.qq (by simp only [EN, Nat.reduceEqDiff, reduceIte, qv_move, strEq, hB1.cell, hB2.cell]; rfl) ?_
  refine WL.cq (gd_at (t := 16) rfl (by simp only [EN, Nat.reduceEqDiff, reduceIte, e4, strEq, hB1.cell, hB2.cell] <;> rfl)) (fun hg1_3 => by simp only [EN, Nat.reduceEqDiff, reduceIte, qv_move, e4, strEq, hB1.cell, hB2.cell, hg1_3, GR]; rfl) ?_
  refine WL.cq (gd_at (t := 16) rfl (by simp only [EN, Nat.reduceEqDiff, reduceIte, strEq, hB1.cell, hB2.cell] <;> rfl)) (fun hg1_4 => by simp only [EN, Nat.reduceEqDiff, reduceIte, qv_unOp, unv_not, strEq, hB1.cell, hB2.cell, hg1_4, GR]; rfl) ?_
  refine WL.cq (gd_at (t := 16) rfl (by simp only [EN, Nat.reduceEqDiff, reduceIte, strEq, hB1.cell, hB2.cell] <;> rfl)) (fun hg1_5 => by simp only [EN, Nat.reduceEqDiff, reduceIte, qv_move, strEq, hB1.cell, hB2.cell, hg1_5, GR]; rfl) ?_
  refine WL.cq2 (t := 19) rfl (by simp only [EN, Nat.reduceEqDiff, reduceIte, e2, strEq, hB1.cell, hB2.cell]; rfl) (fun hC1_6 hg1_6 => by simp only [EN, Nat.reduceEqDiff, reduceIte, qv_move, e2, strEq, hB1.cell, hB2.cell, hC1_6, hg1_6, GR]; rfl) ?_
  refine WL.cq2 (t := 19) rfl (by simp only [EN, Nat.reduceEqDiff, reduceIte, strEq, hB1.cell, hB2.cell]; rfl) (fun hC1_7 hg1_7 => by have hC1_7o := hC1_7; (try simp only [hg1_7] at hC1_7); simp only [EN, Nat.reduceEqDiff, reduceIte, qv_binOp, binv_eql, eq9, Option.map_some, strEq, hB1.cell, hB2.cell, hC1_7o, hC1_7, hg1_7, GR]; rfl) ?_
  refine WL.cq (gd_at (t := 16) rfl (by simp only [EN, Nat.reduceEqDiff, reduceIte, strEq, hB1.cell, hB2.cell] <;> rfl)) (fun hg1_8 => by simp only [EN, Nat.reduceEqDiff, reduceIte, qv_pick, pk_and, pk_or, GR, strEq, hB1.cell, hB2.cell, hg1_8, GR]; rfl) ?_
  refine WL.qq (by simp only [EN, Nat.reduceEqDiff, reduceIte, qv_pick, pk_and, pk_or, GR, strEq, hB1.cell, hB2.cell]; rfl) ?_
  refine WL.qq (by simp only [EN, Nat.reduceEqDiff, reduceIte, qv_assign, strEq, hB1.cell, hB2.cell]; rfl) ?_
  refine WL.nil ?_
  refine th_norm ?_
  refine hx_cond (by simp only [EN, Nat.reduceEqDiff, reduceIte, strEq, hB1.cell, hB2.cell]; rfl) (fun hct13 => ?_) (fun hct13 => ?_)
  ·
    try simp only [BD] at hct13
    refine hx_seq ?_
    refine hx_region ?_
    refine WL.qq (by simp only [EN, Nat.reduceEqDiff, reduceIte, qv_load, ld41, readN, AR, Nat.zero_add, Nat.reduceAdd, strEq, hB1.cell, hB2.cell]; rfl) ?_
    refine WL.store (by simp only [EN, Nat.reduceEqDiff, reduceIte, e0, e1, e2, e3, e4, strEq, hB1.cell, hB2.cell] <;> rfl) sz41 (by simp only [EN, Nat.reduceEqDiff, reduceIte, e0, e1, e2, e3, e4, strEq, hB1.cell, hB2.cell, Value.cells]; rfl) rfl hB2 (by simp) (by intro u hu; simp at hu; rcases hu with rfl | rfl <;> rfl) ?_
    intro h20 hw20
    have hE9 := hw20.ext ((hx1).trans (hx2)) hn2
    replace hB2 := hw20.at_
    refine WL.qq (by simp only [EN, Nat.reduceEqDiff, reduceIte, qv_assign, strEq, hB1.cell, hB2.cell]; rfl) ?_
    refine WL.nil ?_
    refine th_norm ?_
    refine hx_ret ?_
    refine bl_ret ?_
    refine th_ret ?_
    refine fin_ret [.cell 10 41, .tmp 11] rfl rfl (by simp only [EN, Nat.reduceEqDiff, reduceIte, resv, ld41, readN, AR, Nat.zero_add, Nat.reduceAdd, e0, e1, e2, e3, e4, strEq, hB1.cell, hB2.cell]; rfl) ?_  -- ret 0 r2
    have h6 : f = em ∨ (ml = false ∧ t = em) := (by cases ml <;> simpa using hct13)
    rw [rsetE, if_pos h6] at hr
    subst hr
    exact ⟨hE9, _, rfl, ⟨al, cl, af, cf, rfl, k1.ext hE9, k2.ext hE9⟩⟩
  ·
    try simp only [BD] at hct13
    have h6 : ¬ (f = em ∨ (ml = false ∧ t = em)) := (by cases ml <;> simpa using hct13)
    rw [rsetE, if_neg h6] at hr
    refine hx_seq ?_
    refine hx_region ?_
    refine WL.qq (by simp only [EN, Nat.reduceEqDiff, reduceIte, qv_move, e4, strEq, hB1.cell, hB2.cell]; rfl) ?_
    refine WL.qq (by simp only [EN, Nat.reduceEqDiff, reduceIte, qv_unOp, unv_not, strEq, hB1.cell, hB2.cell]; rfl) ?_
    refine WL.qq (by simp only [EN, Nat.reduceEqDiff, reduceIte, qv_move, strEq, hB1.cell, hB2.cell]; rfl) ?_
    refine WL.cq (gd_at (t := 28) rfl (by simp only [EN, Nat.reduceEqDiff, reduceIte, e1, strEq, hB1.cell, hB2.cell] <;> rfl)) (fun hg3_3 => by simp only [EN, Nat.reduceEqDiff, reduceIte, qv_move, e1, strEq, hB1.cell, hB2.cell, hg3_3, GR]; rfl) ?_
    refine WL.cq (gd_at (t := 28) rfl (by simp only [EN, Nat.reduceEqDiff, reduceIte, e2, strEq, hB1.cell, hB2.cell] <;> rfl)) (fun hg3_4 => by simp only [EN, Nat.reduceEqDiff, reduceIte, qv_move, e2, strEq, hB1.cell, hB2.cell, hg3_4, GR]; rfl) ?_
    refine WL.cq (gd_at (t := 28) rfl (by simp only [EN, Nat.reduceEqDiff, reduceIte, strEq, hB1.cell, hB2.cell] <;> rfl)) (fun hg3_5 => by simp only [EN, Nat.reduceEqDiff, reduceIte, qv_binOp, binv_eql, eq9, Option.map_some, strEq, hB1.cell, hB2.cell, hg3_5, GR]; rfl) ?_
    refine WL.qq (by simp only [EN, Nat.reduceEqDiff, reduceIte, qv_pick, pk_and, pk_or, GR, strEq, hB1.cell, hB2.cell]; rfl) ?_
    refine WL.qq (by simp only [EN, Nat.reduceEqDiff, reduceIte, qv_assign, strEq, hB1.cell, hB2.cell]; rfl) ?_
    refine WL.nil ?_
    refine th_norm ?_
    refine hx_cond (by simp only [EN, Nat.reduceEqDiff, reduceIte, strEq, hB1.cell, hB2.cell]; rfl) (fun hct25 => ?_) (fun hct25 => ?_)
    ·
      try simp only [BD] at hct25
      refine hx_seq ?_
      refine hx_region ?_
      refine WL.qq (by simp only [EN, Nat.reduceEqDiff, reduceIte, qv_load, ld41, readN, AR, Nat.zero_add, Nat.reduceAdd, strEq, hB1.cell, hB2.cell]; rfl) ?_
      refine WL.store (by simp only [EN, Nat.reduceEqDiff, reduceIte, e0, e1, e2, e3, e4, strEq, hB1.cell, hB2.cell] <;> rfl) sz41 (by simp only [EN, Nat.reduceEqDiff, reduceIte, e0, e1, e2, e3, e4, strEq, hB1.cell, hB2.cell, Value.cells]; rfl) rfl hB2 (by simp) (by intro u hu; simp at hu; rcases hu with rfl | rfl <;> rfl) ?_
      intro h21 hw21
      have hE9 := hw21.ext ((hx1).trans (hx2)) hn2
      replace hB2 := hw21.at_
      refine WL.qq (by simp only [EN, Nat.reduceEqDiff, reduceIte, qv_assign, strEq, hB1.cell, hB2.cell]; rfl) ?_
      refine WL.nil ?_
      refine th_norm ?_
      refine hx_ret ?_
      refine bl_ret ?_
      refine th_ret ?_
      refine fin_ret [.cell 10 41, .tmp 11] rfl rfl (by simp only [EN, Nat.reduceEqDiff, reduceIte, resv, ld41, readN, AR, Nat.zero_add, Nat.reduceAdd, e0, e1, e2, e3, e4, strEq, hB1.cell, hB2.cell]; rfl) ?_  -- ret 1 r4
      have h7 : ml = false ∧ f = t := (by cases ml <;> simpa using hct25)
      rw [if_pos h7] at hr
      subst hr
      exact ⟨hE9, _, rfl, ⟨al, cl, af, cf, rfl, k1.ext hE9, k2.ext hE9⟩⟩
    ·
      try simp only [BD] at hct25
      have h7 : ¬ (ml = false ∧ f = t) := (by cases ml <;> simpa using hct25)
      rw [if_neg h7] at hr
      refine hx_seq ?_
      refine hx_region ?_
      refine WL.qq (by simp only [EN, Nat.reduceEqDiff, reduceIte, qv_move, e3, strEq, hB1.cell, hB2.cell]; rfl) ?_
      refine WL.qq (by simp only [EN, Nat.reduceEqDiff, reduceIte, qv_binOp, binv_gtr, strEq, hB1.cell, hB2.cell]; rfl) ?_
      refine WL.qq (by simp only [EN, Nat.reduceEqDiff, reduceIte, qv_assign, strEq, hB1.cell, hB2.cell]; rfl) ?_
      refine WL.nil ?_
      refine th_norm ?_
      refine hx_cond (by simp only [EN, Nat.reduceEqDiff, reduceIte, strEq, hB1.cell, hB2.cell]; rfl) (fun hct34 => ?_) (fun hct34 => ?_)
      ·
        try simp only [BD] at hct34
        refine hx_seq ?_
        refine hx_region ?_
        refine WL.qq (by simp only [EN, Nat.reduceEqDiff, reduceIte, qv_load, ld41, readN, AR, Nat.zero_add, Nat.reduceAdd, strEq, hB1.cell, hB2.cell]; rfl) ?_
        refine WL.store (by simp only [EN, Nat.reduceEqDiff, reduceIte, e0, e1, e2, e3, e4, strEq, hB1.cell, hB2.cell] <;> rfl) sz41 (by simp only [EN, Nat.reduceEqDiff, reduceIte, e0, e1, e2, e3, e4, strEq, hB1.cell, hB2.cell, Value.cells]; rfl) rfl hB2 (by simp) (by intro u hu; simp at hu; rcases hu with rfl | rfl <;> rfl) ?_
        intro h22 hw22
        have hE9 := hw22.ext ((hx1).trans (hx2)) hn2
        replace hB2 := hw22.at_
        refine WL.qq (by simp only [EN, Nat.reduceEqDiff, reduceIte, qv_assign, strEq, hB1.cell, hB2.cell]; rfl) ?_
        refine WL.nil ?_
        refine th_norm ?_
        refine hx_ret ?_
        refine bl_ret ?_
        refine th_ret ?_
        refine fin_ret [.cell 10 41, .tmp 11] rfl rfl (by simp only [EN, Nat.reduceEqDiff, reduceIte, resv, ld41, readN, AR, Nat.zero_add, Nat.reduceAdd, e0, e1, e2, e3, e4, strEq, hB1.cell, hB2.cell]; rfl) ?_  -- ret 2 r6
        rw [if_pos (by omega)] at hr
        subst hr
        exact ⟨hE9, _, rfl, ⟨al, cl, af, cf, rfl, k1.ext hE9, k2.ext hE9⟩⟩
      ·
        try simp only [BD] at hct34
        rw [if_neg (by omega)] at hr
        refine hx_skip ?_
        refine bl_norm ?_
        refine th_norm ?_
        refine hx_cutS [2, 38] (fun e => e 2 = .string t2) ?_ ?_
        ·
          refine hx_seq ?_
          refine hx_region ?_
          refine WL.qq (by simp only [EN, Nat.reduceEqDiff, reduceIte, qv_move, e4, strEq, hB1.cell, hB2.cell]; rfl) ?_
          refine WL.nil ?_
          refine th_norm ?_
          refine hx_cond (by simp only [EN, Nat.reduceEqDiff, reduceIte, strEq, hB1.cell, hB2.cell]; rfl) (fun hct38 => ?_) (fun hct38 => ?_)
          ·
            try simp only [BD] at hct38
            refine hx_region ?_
            refine WL.qq (by simp only [EN, Nat.reduceEqDiff, reduceIte, qv_assign, strEq, hB1.cell, hB2.cell]; rfl) ?_
            refine WL.nil ?_
            refine th_norm ?_
            refine ⟨rfl, rfl, ?_, ?_⟩  -- meet 0 of cut 7
            · (repeat (first | exact Fr.refl _ _ | refine Fr.set rfl ?_ | refine Fr.put rfl ?_ | with_reducible refine Fr.put0 ?_))
            · simp only [EN, Nat.reduceEqDiff, reduceIte, e0, e1, e2, e3, e4, strEq, hB1.cell, hB2.cell] <;> first | (rw [← ht2, if_pos hct38]; done) | (rw [← ht2, if_neg (by simp [hct38])]; done)
          ·
            try simp only [BD] at hct38
            refine hx_skip ?_
            refine th_norm ?_
            refine ⟨rfl, rfl, ?_, ?_⟩  -- meet 1 of cut 7
            · (repeat (first | exact Fr.refl _ _ | refine Fr.set rfl ?_ | refine Fr.put rfl ?_ | with_reducible refine Fr.put0 ?_))
            · simp only [EN, Nat.reduceEqDiff, reduceIte, e0, e1, e2, e3, e4, strEq, hB1.cell, hB2.cell] <;> first | (rw [← ht2, if_pos hct38]; done) | (rw [← ht2, if_neg (by simp [hct38])]; done)
        ·
          rintro ec7 hfc7 i2_c7
          have k1_c7 := hfc7 1 rfl; try simp only [EN, Nat.reduceEqDiff, reduceIte, e1, strEq, hB1.cell, hB2.cell] at k1_c7
          have k3_c7 := hfc7 3 rfl; try simp only [EN, Nat.reduceEqDiff, reduceIte, e3, strEq, hB1.cell, hB2.cell] at k3_c7
          have k5_c7 := hfc7 5 rfl; try simp only [EN, Nat.reduceEqDiff, reduceIte, strEq, hB1.cell, hB2.cell] at k5_c7
          have k10_c7 := hfc7 10 rfl; try simp only [EN, Nat.reduceEqDiff, reduceIte, strEq, hB1.cell, hB2.cell] at k10_c7
          rw [ht2] at hr
          refine hx_seq ?_
          refine hx_region ?_
          refine WL.qq (by simp only [EN, Nat.reduceEqDiff, reduceIte, qv_load, ld41, readN, AR, Nat.zero_add, Nat.reduceAdd, k5_c7, strEq, hB1.cell, hB2.cell]; rfl) ?_
          refine WL.qq (by simp only [EN, Nat.reduceEqDiff, reduceIte, qv_move, k1_c7, strEq, hB1.cell, hB2.cell]; rfl) ?_
          refine WL.qq (by simp only [EN, Nat.reduceEqDiff, reduceIte, qv_move, i2_c7, strEq, hB1.cell, hB2.cell]; rfl) ?_
          refine WL.qq (by simp only [EN, Nat.reduceEqDiff, reduceIte, qv_move, k3_c7, strEq, hB1.cell, hB2.cell]; rfl) ?_
          refine WL.ce Try.call57 (by simp only [EN, Nat.reduceEqDiff, reduceIte, AR, strEq, hB1.cell, hB2.cell]; exact c_rset al Ls cl af F.length cf ⟨f, t2⟩ a (by omega) hs1) ?_
          rintro _ h3 ⟨hx3, vl, rfl, hov⟩
          replace hs1 := hs1.ext hx3
          replace hs2 := hs2.ext hx3
          replace hB1 := hB1.ext hx3
          replace hB2 := hB2.ext hx3
          simp only [put_some]
          have hln := insR_len ⟨f, t2⟩ a Ls (decide (a < 0))
          obtain ⟨L9, hL9⟩ : ∃ L9, insR ⟨f, t2⟩ a (decide (a < 0)) Ls = L9 := ⟨_, rfl⟩
          rw [hL9] at hr hov hln ⊢
          obtain ⟨a9, c9, rfl, _, _, _⟩ := Own.slG (f := limL) (sz := 3) (fun _ => rfl) hov rfl
          refine WL.allocSt zr41 sz41 (fun u => by simp only [EN, Nat.reduceEqDiff, reduceIte, Value.cells, strEq, hB1.cell, hB2.cell]; rfl) ⟨rfl, rfl⟩ (by simp [Value.oneCell']) ?_
          intro h4 B4 hx4 hlt4 hB4
          replace hs1 := hs1.ext hx4
          replace hs2 := hs2.ext hx4
          replace hB1 := hB1.ext hx4
          replace hB2 := hB2.ext hx4
          replace hov := hov.ext hx4
          refine WL.nil ?_
          refine th_norm ?_
          refine hx_seq ?_
          refine hx_seq ?_
          refine hx_region ?_
          refine WL.qq (by simp only [EN, Nat.reduceEqDiff, reduceIte, qv_load, ld41, readN, AR, Nat.zero_add, Nat.reduceAdd, strEq, hB1.cell, hB2.cell, hB4.cell]; rfl) ?_
          refine WL.cg Try.call58 (by simp only [EN, Nat.reduceEqDiff, reduceIte, AR, strEq, hB1.cell, hB2.cell, hB4.cell]; exact c_rMent a9 L9 c9 af F cf (by omega) (by omega) (slG_own (f := limL) (sz := 3) (fun _ => rfl) hov rfl) hs2) ?_
          intro h5 hx5
          replace hs1 := hs1.ext hx5
          replace hs2 := hs2.ext hx5
          replace hB1 := hB1.ext hx5
          replace hB2 := hB2.ext hx5
          replace hov := hov.ext hx5
          replace hB4 := hB4.ext hx5
          refine WL.qq (by simp only [EN, Nat.reduceEqDiff, reduceIte, qv_binOp, binv_gtr, strEq, hB1.cell, hB2.cell, hB4.cell]; rfl) ?_
          refine WL.nil ?_
          refine th_norm ?_
          refine hx_cond (by simp only [EN, Nat.reduceEqDiff, reduceIte, strEq, hB1.cell, hB2.cell, hB4.cell]; rfl) (fun hct46 => ?_) (fun hct46 => ?_)
          ·
            try simp only [BD] at hct46
            refine hx_seq ?_
            refine hx_region ?_
            refine WL.qq (by simp only [EN, Nat.reduceEqDiff, reduceIte, qv_load, ld41, readN, AR, Nat.zero_add, Nat.reduceAdd, k5_c7, strEq, hB1.cell, hB2.cell, hB4.cell]; rfl) ?_
            refine WL.store (by simp only [EN, Nat.reduceEqDiff, reduceIte, k1_c7, k3_c7, k5_c7, k10_c7, i2_c7, strEq, hB1.cell, hB2.cell, hB4.cell] <;> rfl) sz41 (by simp only [EN, Nat.reduceEqDiff, reduceIte, k1_c7, k3_c7, k5_c7, k10_c7, i2_c7, strEq, hB1.cell, hB2.cell, hB4.cell, Value.cells]; rfl) rfl hB2 (by simp) (by intro u hu; simp at hu; rcases hu with rfl | rfl <;> rfl) ?_
            intro h23 hw23
            have hE9 := hw23.ext ((hx1).trans ((hx2).trans ((hx3).trans ((hx4).trans (hx5))))) hn2
            replace hB2 := hw23.at_
            refine WL.qq (by simp only [EN, Nat.reduceEqDiff, reduceIte, qv_assign, strEq, hB1.cell, hB2.cell, hB4.cell]; rfl) ?_
            refine WL.nil ?_
            refine th_norm ?_
            refine hx_ret ?_
            refine th_ret ?_
            refine fin_ret [.cell 10 41, .tmp 11] rfl rfl (by simp only [EN, Nat.reduceEqDiff, reduceIte, resv, ld41, readN, AR, Nat.zero_add, Nat.reduceAdd, k1_c7, k3_c7, k5_c7, k10_c7, i2_c7, strEq, hB1.cell, hB2.cell, hB4.cell]; rfl) ?_  -- ret 3 r11
            rw [if_pos (by omega)] at hr
            subst hr
            exact ⟨hE9, _, rfl, ⟨al, cl, af, cf, rfl, k1.ext hE9, k2.ext hE9⟩⟩
          ·
            try simp only [BD] at hct46
            rw [if_neg (by omega)] at hr
            refine hx_skip ?_
            refine th_norm ?_
            refine hx_seq ?_
            refine hx_region ?_
            refine WL.qq (by simp only [EN, Nat.reduceEqDiff, reduceIte, qv_load, ld41, readN, AR, Nat.zero_add, Nat.reduceAdd, strEq, hB1.cell, hB2.cell, hB4.cell]; rfl) ?_
            refine WL.store (by simp only [EN, Nat.reduceEqDiff, reduceIte, k1_c7, k3_c7, k5_c7, k10_c7, i2_c7, strEq, hB1.cell, hB2.cell, hB4.cell] <;> rfl) sz41 (by simp only [EN, Nat.reduceEqDiff, reduceIte, k1_c7, k3_c7, k5_c7, k10_c7, i2_c7, strEq, hB1.cell, hB2.cell, hB4.cell, Value.cells]; rfl) rfl hB2 (by simp) (by intro u hu; simp at hu; rcases hu with rfl | rfl <;> rfl) ?_
            intro h24 hw24
            have hE9 := hw24.ext ((hx1).trans ((hx2).trans ((hx3).trans ((hx4).trans (hx5))))) hn2
            replace hov := hov.keep (h' := h24) (fun c hc => hw24.same c fun hh => by subst hh; exact hov.ncell hB2 (by decide) hc)
            replace hB2 := hw24.at_
            refine WL.qq (by simp only [EN, Nat.reduceEqDiff, reduceIte, qv_assign, strEq, hB1.cell, hB2.cell, hB4.cell]; rfl) ?_
            refine WL.nil ?_
            refine th_norm ?_
            refine hx_ret ?_
            refine fin_ret [.cell 10 41, .tmp 11] rfl rfl (by simp only [EN, Nat.reduceEqDiff, reduceIte, resv, ld41, readN, AR, Nat.zero_add, Nat.reduceAdd, k1_c7, k3_c7, k5_c7, k10_c7, i2_c7, strEq, hB1.cell, hB2.cell, hB4.cell]; rfl) ?_  -- ret 4 r12
            subst hr
            exact ⟨hE9, _, rfl, ⟨a9, c9, af, cf, rfl, slG_own (f := limL) (sz := 3) (fun _ => rfl) hov rfl, k2.ext hE9⟩⟩
end GL


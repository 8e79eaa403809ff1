/- History: Same; At. -/
import Derived.Test.YtklhfckdifkpaaaHisJ
set_option linter.unusedSimpArgs false
set_option linter.unusedVariables false
set_option linter.unnecessarySimpa false
namespace GL
open Go Go.Proofs
set_option maxRecDepth 8000
theorem bd_iff {x y : BX} : x.bd = y.bd ↔ x.s = y.s ∧ x.day = y.day ∧ x.mn = y.mn ∧ x.ps.map PX.pt = y.ps.map PX.pt := by
  simp only [BX.bd, HB.mk.injEq]
theorem po_iff {a b : PO} : a = b ↔ a.c.o = b.c.o ∧ a.c.k = b.c.k ∧ a.c.a = b.c.a ∧ a.d = b.d := by
  obtain ⟨⟨a1, a2, a3⟩, a4⟩ := a
  obtain ⟨⟨b1, b2, b3⟩, b4⟩ := b
  simp [and_assoc]
theorem pt_ne {x y : BX} {i : Nat} {q r : PX} (hx : x.ps[i]? = some q) (hy : y.ps[i]? = some r) (h : q.pt ≠ r.pt) : x.bd ≠ y.bd := fun hh => by
  have h1 := (bd_iff.1 hh).2.2.2
  have h2 : (x.ps.map PX.pt)[i]? = some q.pt := by rw [List.getElem?_map, hx]; rfl
  have h3 : (y.ps.map PX.pt)[i]? = some r.pt := by rw [List.getElem?_map, hy]; rfl
  rw [h1, h3] at h2
  exact h (Option.some.inj h2).symm
set_option maxHeartbeats 2000000 in
theorem c_same (x y : BX) (hlx : x.ps.length ≤ 1000000 ∧ ∀ p ∈ x.ps, p.ps.length ≤ 1000000) {h : Heap} (hbx : BXin h x) (hby : BXin h y) :
    HCalls Try.prog 25 #[.agg (bdL x).toArray, .agg (bdL y).toArray] h (Grow (.bool (decide (x.bd = y.bd))) h) := by
  refine hcalls2 Try.func25 rfl (by decide +kernel) (by simp only [Try.ntmps25]; exact of_decide_eq_true rfl) ?_
  intro e hin
  have e0 := hin 0 _ rfl
  have e1 := hin 1 _ rfl
  refine hx_seq ?_
  refine hx_region ?_
  refine WL.box2 (by simp only [EN, Nat.reduceEqDiff, reduceIte, Value.cells, e0, strEq]; rfl) ?_
  intro h1 B1 hx1 hlt1 hB1
  replace hbx := hbx.ext hx1
  replace hby := hby.ext hx1
  refine WL.box2 (by simp only [EN, Nat.reduceEqDiff, reduceIte, Value.cells, e1, strEq, hB1.cell]; rfl) ?_
  intro h2 B2 hx2 hlt2 hB2
  replace hbx := hbx.ext hx2
  replace hby := hby.ext hx2
  replace hB1 := hB1.ext hx2
  refine WL.qq (by simp only [EN, Nat.reduceEqDiff, reduceIte, qv_assign, strEq, hB1.cell, hB2.cell]; rfl) ?_
  refine WL.nil ?_
  refine th_norm ?_
  refine hx_seq ?_
  refine hx_seq ?_
  refine hx_region ?_
  refine WL.qq (by simp only [EN, Nat.reduceEqDiff, reduceIte, qv_fieldAddr, fa45_0, Nat.zero_add, Nat.reduceAdd, strEq, hB1.cell, hB2.cell]; rfl) ?_
  refine WL.qq (by simp only [EN, Nat.reduceEqDiff, reduceIte, qv_load, ld3, readN, AR, Nat.zero_add, Nat.reduceAdd, strEq, hB1.cell, hB2.cell]; rfl) ?_
  refine WL.qq (by simp only [EN, Nat.reduceEqDiff, reduceIte, qv_fieldAddr, fa45_0, Nat.zero_add, Nat.reduceAdd, strEq, hB1.cell, hB2.cell]; rfl) ?_
  refine WL.qq (by simp only [EN, Nat.reduceEqDiff, reduceIte, qv_load, ld3, readN, AR, Nat.zero_add, Nat.reduceAdd, strEq, hB1.cell, hB2.cell]; rfl) ?_
  refine WL.qq (by simp only [EN, Nat.reduceEqDiff, reduceIte, qv_binOp, binv_neq, eq3, Option.map_some, strEq, hB1.cell, hB2.cell]; rfl) ?_
  refine WL.qq (by simp only [EN, Nat.reduceEqDiff, reduceIte, qv_move, strEq, hB1.cell, hB2.cell]; rfl) ?_
  refine WL.cq (gd_at (t := 14) rfl (by simp only [EN, Nat.reduceEqDiff, reduceIte, strEq, hB1.cell, hB2.cell] <;> rfl)) (fun hg1_6 => by simp only [EN, Nat.reduceEqDiff, reduceIte, qv_fieldAddr, fa45_1, Nat.zero_add, Nat.reduceAdd, strEq, hB1.cell, hB2.cell, hg1_6, GR]; rfl) ?_
  refine WL.cq (gd_at (t := 14) rfl (by simp only [EN, Nat.reduceEqDiff, reduceIte, strEq, hB1.cell, hB2.cell] <;> rfl)) (fun hg1_7 => by simp only [EN, Nat.reduceEqDiff, reduceIte, qv_load, ld3, readN, AR, Nat.zero_add, Nat.reduceAdd, strEq, hB1.cell, hB2.cell, hg1_7, GR]; rfl) ?_
  refine WL.cq (gd_at (t := 14) rfl (by simp only [EN, Nat.reduceEqDiff, reduceIte, strEq, hB1.cell, hB2.cell] <;> rfl)) (fun hg1_8 => by simp only [EN, Nat.reduceEqDiff, reduceIte, qv_fieldAddr, fa45_1, Nat.zero_add, Nat.reduceAdd, strEq, hB1.cell, hB2.cell, hg1_8, GR]; rfl) ?_
  refine WL.cq (gd_at (t := 14) rfl (by simp only [EN, Nat.reduceEqDiff, reduceIte, strEq, hB1.cell, hB2.cell] <;> rfl)) (fun hg1_9 => by simp only [EN, Nat.reduceEqDiff, reduceIte, qv_load, ld3, readN, AR, Nat.zero_add, Nat.reduceAdd, strEq, hB1.cell, hB2.cell, hg1_9, GR]; rfl) ?_
  refine WL.cq (gd_at (t := 14) rfl (by simp only [EN, Nat.reduceEqDiff, reduceIte, strEq, hB1.cell, hB2.cell] <;> rfl)) (fun hg1_10 => by simp only [EN, Nat.reduceEqDiff, reduceIte, qv_binOp, binv_neq, eq3, Option.map_some, strEq, hB1.cell, hB2.cell, hg1_10, GR]; rfl) ?_
  refine WL.qq (by simp only [EN, Nat.reduceEqDiff, reduceIte, qv_pick, pk_and, pk_or, GR, strEq, hB1.cell, hB2.cell]; rfl) ?_
  refine WL.qq (by simp only [EN, Nat.reduceEqDiff, reduceIte, qv_move, strEq, hB1.cell, hB2.cell]; rfl) ?_
  refine WL.cq (gd_at (t := 21) rfl (by simp only [EN, Nat.reduceEqDiff, reduceIte, strEq, hB1.cell, hB2.cell] <;> rfl)) (fun hg1_13 => by simp only [EN, Nat.reduceEqDiff, reduceIte, qv_fieldAddr, fa45_2, Nat.zero_add, Nat.reduceAdd, strEq, hB1.cell, hB2.cell, hg1_13, GR]; rfl) ?_
  refine WL.cq (gd_at (t := 21) rfl (by simp only [EN, Nat.reduceEqDiff, reduceIte, strEq, hB1.cell, hB2.cell] <;> rfl)) (fun hg1_14 => by simp only [EN, Nat.reduceEqDiff, reduceIte, qv_load, ld3, readN, AR, Nat.zero_add, Nat.reduceAdd, strEq, hB1.cell, hB2.cell, hg1_14, GR]; rfl) ?_
  refine WL.cq (gd_at (t := 21) rfl (by simp only [EN, Nat.reduceEqDiff, reduceIte, strEq, hB1.cell, hB2.cell] <;> rfl)) (fun hg1_15 => by simp only [EN, Nat.reduceEqDiff, reduceIte, qv_fieldAddr, fa45_2, Nat.zero_add, Nat.reduceAdd, strEq, hB1.cell, hB2.cell, hg1_15, GR]; rfl) ?_
  refine WL.cq (gd_at (t := 21) rfl (by simp only [EN, Nat.reduceEqDiff, reduceIte, strEq, hB1.cell, hB2.cell] <;> rfl)) (fun hg1_16 => by simp only [EN, Nat.reduceEqDiff, reduceIte, qv_load, ld3, readN, AR, Nat.zero_add, Nat.reduceAdd, strEq, hB1.cell, hB2.cell, hg1_16, GR]; rfl) ?_
  refine WL.cq (gd_at (t := 21) rfl (by simp only [EN, Nat.reduceEqDiff, reduceIte, strEq, hB1.cell, hB2.cell] <;> rfl)) (fun hg1_17 => by simp only [EN, Nat.reduceEqDiff, reduceIte, qv_binOp, binv_neq, eq3, Option.map_some, strEq, hB1.cell, hB2.cell, hg1_17, GR]; rfl) ?_
  refine WL.qq (by simp only [EN, Nat.reduceEqDiff, reduceIte, qv_pick, pk_and, pk_or, GR, strEq, hB1.cell, hB2.cell]; rfl) ?_
  refine WL.qq (by simp only [EN, Nat.reduceEqDiff, reduceIte, qv_move, strEq, hB1.cell, hB2.cell]; rfl) ?_
  refine WL.cq (gd_at (t := 28) rfl (by simp only [EN, Nat.reduceEqDiff, reduceIte, strEq, hB1.cell, hB2.cell] <;> rfl)) (fun hg1_20 => by simp only [EN, Nat.reduceEqDiff, reduceIte, qv_fieldAddr, fa45_3, Nat.zero_add, Nat.reduceAdd, strEq, hB1.cell, hB2.cell, hg1_20, GR]; rfl) ?_
  refine WL.cq (gd_at (t := 28) rfl (by simp only [EN, Nat.reduceEqDiff, reduceIte, strEq, hB1.cell, hB2.cell] <;> rfl)) (fun hg1_21 => by simp only [EN, Nat.reduceEqDiff, reduceIte, qv_load, ld43, readN, AR, Nat.zero_add, Nat.reduceAdd, strEq, hB1.cell, hB2.cell, hg1_21, GR]; rfl) ?_
  refine WL.cq (gd_at (t := 28) rfl (by simp only [EN, Nat.reduceEqDiff, reduceIte, strEq, hB1.cell, hB2.cell] <;> rfl)) (fun hg1_22 => by simp only [EN, Nat.reduceEqDiff, reduceIte, qv_len, ln43, AR, strEq, hB1.cell, hB2.cell, hg1_22, GR]; rfl) ?_
  refine WL.cq (gd_at (t := 28) rfl (by simp only [EN, Nat.reduceEqDiff, reduceIte, strEq, hB1.cell, hB2.cell] <;> rfl)) (fun hg1_23 => by simp only [EN, Nat.reduceEqDiff, reduceIte, qv_fieldAddr, fa45_3, Nat.zero_add, Nat.reduceAdd, strEq, hB1.cell, hB2.cell, hg1_23, GR]; rfl) ?_
  refine WL.cq (gd_at (t := 28) rfl (by simp only [EN, Nat.reduceEqDiff, reduceIte, strEq, hB1.cell, hB2.cell] <;> rfl)) (fun hg1_24 => by simp only [EN, Nat.reduceEqDiff, reduceIte, qv_load, ld43, readN, AR, Nat.zero_add, Nat.reduceAdd, strEq, hB1.cell, hB2.cell, hg1_24, GR]; rfl) ?_
  refine WL.cq (gd_at (t := 28) rfl (by simp only [EN, Nat.reduceEqDiff, reduceIte, strEq, hB1.cell, hB2.cell] <;> rfl)) (fun hg1_25 => by simp only [EN, Nat.reduceEqDiff, reduceIte, qv_len, ln43, AR, strEq, hB1.cell, hB2.cell, hg1_25, GR]; rfl) ?_
  refine WL.cq (gd_at (t := 28) rfl (by simp only [EN, Nat.reduceEqDiff, reduceIte, strEq, hB1.cell, hB2.cell] <;> rfl)) (fun hg1_26 => by simp only [EN, Nat.reduceEqDiff, reduceIte, qv_binOp, binv_neq, eq3, Option.map_some, strEq, hB1.cell, hB2.cell, hg1_26, GR]; rfl) ?_
  refine WL.qq (by simp only [EN, Nat.reduceEqDiff, reduceIte, qv_pick, pk_and, pk_or, GR, strEq, hB1.cell, hB2.cell]; rfl) ?_
  refine WL.nil ?_
  refine th_norm ?_
  refine hx_cond (by simp only [EN, Nat.reduceEqDiff, reduceIte, strEq, hB1.cell, hB2.cell]; rfl) (fun hct36 => ?_) (fun hct36 => ?_)
  ·
    try simp only [BD] at hct36
    refine hx_seq ?_
    refine hx_region ?_
    refine WL.qq (by simp only [EN, Nat.reduceEqDiff, reduceIte, qv_assign, strEq, hB1.cell, hB2.cell]; rfl) ?_
    refine WL.nil ?_
    refine th_norm ?_
    refine hx_ret ?_
    refine th_ret ?_
    refine fin_ret [.tmp 4] rfl rfl (by simp only [EN, Nat.reduceEqDiff, reduceIte, resv, e0, e1, strEq, hB1.cell, hB2.cell]; rfl) ?_  -- ret 0 r2
    have hne : x.bd ≠ y.bd := (fun hh => by have h1 := bd_iff.1 hh; have h2 : x.ps.length = y.ps.length := (by have := congrArg List.length h1.2.2.2; simpa using this); omega)
    exact ⟨by simp only [retOf]; congr 1; exact (decide_eq_false hne).symm, ((hx1).trans (hx2))⟩
  ·
    try simp only [BD] at hct36
    have hle : x.ps.length = y.ps.length := (by omega)
    have he1 : x.s = y.s ∧ x.day = y.day ∧ x.mn = y.mn := (by omega)
    refine hx_skip ?_
    refine th_norm ?_
    refine hx_seq ?_
    refine hx_seq ?_
    refine hx_region ?_
    refine WL.qq (by simp only [EN, Nat.reduceEqDiff, reduceIte, qv_assign, strEq, hB1.cell, hB2.cell]; rfl) ?_
    refine WL.nil ?_
    refine th_norm ?_
    refine hx_block ?_
    refine hx_loopX [4, 5, 6, 7, 8, 37, 38, 39, 40, 41, 42, 43, 44, 45, 46, 47, 48, 49, 50, 51, 52, 53, 54, 55, 56, 57, 58, 59, 60, 61, 62, 63, 64, 65, 66, 67, 68, 69, 70, 71, 72, 73, 74, 75, 76, 77, 78, 79, 80, 81, 82, 83, 84, 85] (fun k e => ∃ (i : Nat), x.ps.length - i = k ∧ (i ≤ x.ps.length) ∧ ((x.ps.map PX.pt).take i = (y.ps.map PX.pt).take i) ∧ e 5 = .int .i64 i) _ ⟨0, rfl, ?_, ?_, ?_⟩ ?_
    · omega
    · rfl
    · simp only [EN, Nat.reduceEqDiff, reduceIte, e0, e1, strEq, hB1.cell, hB2.cell] <;> rfl
    ·
      rintro k e0L hL0 hX0 hfr0 ⟨i, rfl, hi, hz, i5_0⟩
      replace hbx := hbx.ext hX0
      replace hby := hby.ext hX0
      replace hB1 := hB1.ext hX0
      replace hB2 := hB2.ext hX0
      have k2_0 := hfr0 2 rfl; try simp only [EN, Nat.reduceEqDiff, reduceIte, strEq, hB1.cell, hB2.cell] at k2_0
      have k3_0 := hfr0 3 rfl; try simp only [EN, Nat.reduceEqDiff, reduceIte, strEq, hB1.cell, hB2.cell] at k3_0
      refine hx_seq ?_
      refine hx_seq ?_
      refine hx_region ?_
      refine WL.qq (by simp only [EN, Nat.reduceEqDiff, reduceIte, qv_move, i5_0, strEq, hB1.cell, hB2.cell]; rfl) ?_
      refine WL.qq (by simp only [EN, Nat.reduceEqDiff, reduceIte, qv_fieldAddr, fa45_3, Nat.zero_add, Nat.reduceAdd, k2_0, strEq, hB1.cell, hB2.cell]; rfl) ?_
      refine WL.qq (by simp only [EN, Nat.reduceEqDiff, reduceIte, qv_load, ld43, readN, AR, Nat.zero_add, Nat.reduceAdd, strEq, hB1.cell, hB2.cell]; rfl) ?_
      refine WL.qq (by simp only [EN, Nat.reduceEqDiff, reduceIte, qv_len, ln43, AR, strEq, hB1.cell, hB2.cell]; rfl) ?_
      refine WL.qq (by simp only [EN, Nat.reduceEqDiff, reduceIte, qv_binOp, binv_lss, strEq, hB1.cell, hB2.cell]; rfl) ?_
      refine WL.nil ?_
      refine th_norm ?_
      refine hx_cond (by simp only [EN, Nat.reduceEqDiff, reduceIte, strEq, hB1.cell, hB2.cell]; rfl) (fun hct41 => ?_) (fun hct41 => ?_)
      ·
        try simp only [BD] at hct41
        obtain ⟨q, hq⟩ := atG (l := x.ps) (i := i) (by omega)
        obtain ⟨r, hr⟩ := atG (l := y.ps) (i := i) (by omega)
        obtain ⟨b1, o1, ha1, hq2, _⟩ := pt_rd hbx.1 hq
        obtain ⟨b2, o2, ha2, hr2, _⟩ := pt_rd hby.1 hr
        have kbx := hbx; have kby := hby
        have hqs : SlG 4 poL _ q.a q.ps := hbx.2 q (List.mem_of_getElem? hq); have hrs : SlG 4 poL _ r.a r.ps := hby.2 r (List.mem_of_getElem? hr); have hql := hlx.2 q (List.mem_of_getElem? hq)
        refine hx_skip ?_
        refine th_norm ?_
        refine hx_seq ?_
        refine hx_block ?_
        refine hx_seq ?_
        apply hx_drawT [10, 11] [5, 6, 7, 8, 9] [12, 13] [10, 11] [(10, Spec.blk _ _ 79), (11, Spec.blk _ _ 79)] rfl (by decide +kernel) rfl (FrS.two (by intro k hk; simp at hk; rcases hk with rfl | rfl <;> exact ⟨_, _, _, rfl⟩))
        refine LD.qq rfl rfl (by simp only [EN, Nat.reduceEqDiff, reduceIte, qv_fieldAddr, fa45_3, Nat.zero_add, Nat.reduceAdd, k2_0, strEq, hB1.cell, hB2.cell]; rfl) ?_
        refine LD.qq rfl rfl (by simp only [EN, Nat.reduceEqDiff, reduceIte, qv_load, ld43, readN, AR, Nat.zero_add, Nat.reduceAdd, strEq, hB1.cell, hB2.cell]; rfl) ?_
        refine LD.qq rfl rfl (by simp only [EN, Nat.reduceEqDiff, reduceIte, qv_move, i5_0, strEq, hB1.cell, hB2.cell]; rfl) ?_
        refine LD.qq rfl rfl (by simp only [EN, Nat.reduceEqDiff, reduceIte, qv_indexAddr, strEq, hB1.cell, hB2.cell, ha1]; (try simp (disch := omega) only [ix43, Int.toNat_natCast]); rfl) ?_
        refine LD.qq rfl rfl (by simp only [EN, Nat.reduceEqDiff, reduceIte, k2_0, k3_0, i5_0, strEq, hB1.cell, hB2.cell, qv_load, ld79, Int.toNat_natCast, hq2]; rfl) ?_
        refine LD.qq rfl rfl (by simp only [EN, Nat.reduceEqDiff, reduceIte, qv_fieldAddr, fa45_3, Nat.zero_add, Nat.reduceAdd, k3_0, strEq, hB1.cell, hB2.cell]; rfl) ?_
        refine LD.qq rfl rfl (by simp only [EN, Nat.reduceEqDiff, reduceIte, qv_load, ld43, readN, AR, Nat.zero_add, Nat.reduceAdd, strEq, hB1.cell, hB2.cell]; rfl) ?_
        refine LD.qq rfl rfl (by simp only [EN, Nat.reduceEqDiff, reduceIte, qv_move, i5_0, strEq, hB1.cell, hB2.cell]; rfl) ?_
        refine LD.qq rfl rfl (by simp only [EN, Nat.reduceEqDiff, reduceIte, qv_indexAddr, strEq, hB1.cell, hB2.cell, ha2]; (try simp (disch := omega) only [ix43, Int.toNat_natCast]); rfl) ?_
        refine LD.qq rfl rfl (by simp only [EN, Nat.reduceEqDiff, reduceIte, k2_0, k3_0, i5_0, strEq, hB1.cell, hB2.cell, qv_load, ld79, Int.toNat_natCast, hr2]; rfl) ?_
        refine LD.alT rfl rfl zr79 (Nat.le_refl _) ?_
        intro B3 hlt3
        refine LD.alT rfl rfl zr79 (Nat.le_refl _) ?_
        intro B4 hlt4
        refine LD.skip rfl ?_
        refine LD.skip rfl ?_
        refine LD.nilJ ?_
        rintro h5 hx5 hF6 hD6
        replace hx5 : Ext _ _ := hx5
        replace hbx := hbx.ext hx5
        replace hby := hby.ext hx5
        replace hB1 := hB1.ext hx5
        replace hB2 := hB2.ext hx5
        have hB3 := hF6 (10, .pointer (some ⟨B3, 0, none⟩)) (by simp) _ rfl B3 rfl
        simp only [Value.cells] at hB3
        have hB4 := hF6 (11, .pointer (some ⟨B4, 0, none⟩)) (by simp) _ rfl B4 rfl
        simp only [Value.cells] at hB4
        have hne3_4 : B4 ≠ B3 := fun hh => hD6 (10, .pointer (some ⟨B3, 0, none⟩)) (by simp) (11, .pointer (some ⟨B4, 0, none⟩)) (by simp) (by simp) rfl rfl B3 rfl (congrArg some hh)
        have hn43 : B4 ≠ B3 := hne3_4
        refine WLJ.store (by simp only [EN, Nat.reduceEqDiff, reduceIte, k2_0, k3_0, i5_0, strEq, hB1.cell, hB2.cell, hB3.cell, hB4.cell] <;> rfl) sz79 (by simp only [EN, Nat.reduceEqDiff, reduceIte, k2_0, k3_0, i5_0, strEq, hB1.cell, hB2.cell, hB3.cell, hB4.cell, Value.cells] <;> rfl) rfl hB3 (by simp) (by simp [Value.oneCell']) ?_
        intro h21 hw21
        have hE21 := hw21.ext hx5 (by omega)
        refine ⟨hE21, ?_⟩
        replace hB4 := hB4.wr hw21 hn43
        replace hB3 := hw21.at_
        refine WLJ.store (by simp only [EN, Nat.reduceEqDiff, reduceIte, k2_0, k3_0, i5_0, strEq, hB1.cell, hB2.cell, hB3.cell, hB4.cell] <;> rfl) sz79 (by simp only [EN, Nat.reduceEqDiff, reduceIte, k2_0, k3_0, i5_0, strEq, hB1.cell, hB2.cell, hB3.cell, hB4.cell, Value.cells] <;> rfl) rfl hB4 (by simp) (by simp [Value.oneCell']) ?_
        intro h22 hw22
        have hE22 := hw22.ext hE21 (by omega)
        refine ⟨hE22, ?_⟩
        replace hB3 := hB3.wr hw22 (Ne.symm hn43)
        replace hB4 := hw22.at_
        simp only [splc, List.take_succ_cons, List.take_zero, List.take_nil, List.drop_succ_cons, List.drop_zero, List.drop_nil, List.cons_append, List.nil_append, List.length_cons, List.length_nil, Nat.zero_add, Nat.add_zero, Nat.reduceAdd, List.append_nil] at hB3 hB4
        replace hx5 := hE22
        replace hbx := kbx.ext hE22
        replace hby := kby.ext hE22
        refine WLJ.nil ?_
        refine th_norm ?_
        refine hx_seq ?_
        refine hx_seq ?_
        refine hx_region ?_
        refine WL.qq (by simp only [EN, Nat.reduceEqDiff, reduceIte, qv_fieldAddr, fa79_0, Nat.zero_add, Nat.reduceAdd, strEq, hB1.cell, hB2.cell, hB3.cell, hB4.cell]; rfl) ?_
        refine WL.qq (by simp only [EN, Nat.reduceEqDiff, reduceIte, qv_load, ld9, readN, AR, Nat.zero_add, Nat.reduceAdd, strEq, hB1.cell, hB2.cell, hB3.cell, hB4.cell]; rfl) ?_
        refine WL.qq (by simp only [EN, Nat.reduceEqDiff, reduceIte, qv_fieldAddr, fa79_0, Nat.zero_add, Nat.reduceAdd, strEq, hB1.cell, hB2.cell, hB3.cell, hB4.cell]; rfl) ?_
        refine WL.qq (by simp only [EN, Nat.reduceEqDiff, reduceIte, qv_load, ld9, readN, AR, Nat.zero_add, Nat.reduceAdd, strEq, hB1.cell, hB2.cell, hB3.cell, hB4.cell]; rfl) ?_
        refine WL.qq (by simp only [EN, Nat.reduceEqDiff, reduceIte, qv_binOp, binv_neq, eq9, Option.map_some, strEq, hB1.cell, hB2.cell, hB3.cell, hB4.cell]; rfl) ?_
        refine WL.qq (by simp only [EN, Nat.reduceEqDiff, reduceIte, qv_move, strEq, hB1.cell, hB2.cell, hB3.cell, hB4.cell]; rfl) ?_
        refine WL.cq (gd_at (t := 59) rfl (by simp only [EN, Nat.reduceEqDiff, reduceIte, strEq, hB1.cell, hB2.cell, hB3.cell, hB4.cell] <;> rfl)) (fun hg7_6 => by simp only [EN, Nat.reduceEqDiff, reduceIte, qv_fieldAddr, fa79_1, Nat.zero_add, Nat.reduceAdd, strEq, hB1.cell, hB2.cell, hB3.cell, hB4.cell, hg7_6, GR]; rfl) ?_
        refine WL.cq (gd_at (t := 59) rfl (by simp only [EN, Nat.reduceEqDiff, reduceIte, strEq, hB1.cell, hB2.cell, hB3.cell, hB4.cell] <;> rfl)) (fun hg7_7 => by simp only [EN, Nat.reduceEqDiff, reduceIte, qv_load, ld77, readN, AR, Nat.zero_add, Nat.reduceAdd, strEq, hB1.cell, hB2.cell, hB3.cell, hB4.cell, hg7_7, GR]; rfl) ?_
        refine WL.cq (gd_at (t := 59) rfl (by simp only [EN, Nat.reduceEqDiff, reduceIte, strEq, hB1.cell, hB2.cell, hB3.cell, hB4.cell] <;> rfl)) (fun hg7_8 => by simp only [EN, Nat.reduceEqDiff, reduceIte, qv_len, ln77, AR, strEq, hB1.cell, hB2.cell, hB3.cell, hB4.cell, hg7_8, GR]; rfl) ?_
        refine WL.cq (gd_at (t := 59) rfl (by simp only [EN, Nat.reduceEqDiff, reduceIte, strEq, hB1.cell, hB2.cell, hB3.cell, hB4.cell] <;> rfl)) (fun hg7_9 => by simp only [EN, Nat.reduceEqDiff, reduceIte, qv_fieldAddr, fa79_1, Nat.zero_add, Nat.reduceAdd, strEq, hB1.cell, hB2.cell, hB3.cell, hB4.cell, hg7_9, GR]; rfl) ?_
        refine WL.cq (gd_at (t := 59) rfl (by simp only [EN, Nat.reduceEqDiff, reduceIte, strEq, hB1.cell, hB2.cell, hB3.cell, hB4.cell] <;> rfl)) (fun hg7_10 => by simp only [EN, Nat.reduceEqDiff, reduceIte, qv_load, ld77, readN, AR, Nat.zero_add, Nat.reduceAdd, strEq, hB1.cell, hB2.cell, hB3.cell, hB4.cell, hg7_10, GR]; rfl) ?_
        refine WL.cq (gd_at (t := 59) rfl (by simp only [EN, Nat.reduceEqDiff, reduceIte, strEq, hB1.cell, hB2.cell, hB3.cell, hB4.cell] <;> rfl)) (fun hg7_11 => by simp only [EN, Nat.reduceEqDiff, reduceIte, qv_len, ln77, AR, strEq, hB1.cell, hB2.cell, hB3.cell, hB4.cell, hg7_11, GR]; rfl) ?_
        refine WL.cq (gd_at (t := 59) rfl (by simp only [EN, Nat.reduceEqDiff, reduceIte, strEq, hB1.cell, hB2.cell, hB3.cell, hB4.cell] <;> rfl)) (fun hg7_12 => by simp only [EN, Nat.reduceEqDiff, reduceIte, qv_binOp, binv_neq, eq3, Option.map_some, strEq, hB1.cell, hB2.cell, hB3.cell, hB4.cell, hg7_12, GR]; rfl) ?_
        refine WL.qq (by simp only [EN, Nat.reduceEqDiff, reduceIte, qv_pick, pk_and, pk_or, GR, strEq, hB1.cell, hB2.cell, hB3.cell, hB4.cell]; rfl) ?_
        refine WL.nil ?_
        refine th_norm ?_
        refine hx_cond (by simp only [EN, Nat.reduceEqDiff, reduceIte, strEq, hB1.cell, hB2.cell, hB3.cell, hB4.cell]; rfl) (fun hct67 => ?_) (fun hct67 => ?_)
        ·
          try simp only [BD] at hct67
          refine hx_seq ?_
          refine hx_region ?_
          refine WL.qq (by simp only [EN, Nat.reduceEqDiff, reduceIte, qv_assign, strEq, hB1.cell, hB2.cell, hB3.cell, hB4.cell]; rfl) ?_
          refine WL.nil ?_
          refine th_norm ?_
          refine hx_ret ?_
          refine th_ret ?_
          refine bl_ret ?_
          refine th_ret ?_
          refine th_ret ?_
          refine bl_ret ?_
          refine th_ret ?_
          refine fin_ret [.tmp 4] rfl rfl (by simp only [EN, Nat.reduceEqDiff, reduceIte, resv, k2_0, k3_0, i5_0, strEq, hB1.cell, hB2.cell, hB3.cell, hB4.cell]; rfl) ?_  -- ret 1 r8
          have hne : q.pt ≠ r.pt := (fun hh => by simp only [PX.pt, PT.mk.injEq] at hh; have h3 := congrArg List.length hh.2; rcases hct67 with h4 | h4; exact h4 hh.1; omega)
          exact ⟨by simp only [retOf]; congr 1; exact (decide_eq_false (pt_ne hq hr hne)).symm, ((hx1).trans ((hx2).trans ((hX0).trans (hx5))))⟩
        ·
          try simp only [BD] at hct67
          have hre : q.r = r.r := (by simpa using hct67.1); have hlr : q.ps.length = r.ps.length := (by omega)
          replace hqs := SlG.ext hqs hE22; replace hrs := SlG.ext hrs hE22
          refine hx_skip ?_
          refine th_norm ?_
          refine hx_seq ?_
          refine hx_region ?_
          refine WL.qq (by simp only [EN, Nat.reduceEqDiff, reduceIte, qv_assign, strEq, hB1.cell, hB2.cell, hB3.cell, hB4.cell]; rfl) ?_
          refine WL.nil ?_
          refine th_norm ?_
          refine hx_block ?_
          refine hx_loopS [4, 8, 68, 69, 70, 71, 72, 73, 74, 75, 76, 77, 78, 79, 80, 81, 82, 83, 84, 85] (fun k e => ∃ (j : Nat), q.ps.length - j = k ∧ (j ≤ q.ps.length) ∧ (q.ps.take j = r.ps.take j) ∧ e 8 = .int .i64 j) _ ⟨0, rfl, ?_, ?_, ?_⟩ ?_
          · omega
          · rfl
          · simp only [EN, Nat.reduceEqDiff, reduceIte, k2_0, k3_0, i5_0, strEq, hB1.cell, hB2.cell, hB3.cell, hB4.cell] <;> rfl
          ·
            rintro k e1L hfr1 ⟨j, rfl, hj, hz2, i8_1⟩
            have k2_1 := hfr1 2 rfl; try simp only [EN, Nat.reduceEqDiff, reduceIte, k2_0, strEq, hB1.cell, hB2.cell, hB3.cell, hB4.cell] at k2_1
            have k3_1 := hfr1 3 rfl; try simp only [EN, Nat.reduceEqDiff, reduceIte, k3_0, strEq, hB1.cell, hB2.cell, hB3.cell, hB4.cell] at k3_1
            have k5_1 := hfr1 5 rfl; try simp only [EN, Nat.reduceEqDiff, reduceIte, i5_0, strEq, hB1.cell, hB2.cell, hB3.cell, hB4.cell] at k5_1
            have k6_1 := hfr1 6 rfl; try simp only [EN, Nat.reduceEqDiff, reduceIte, strEq, hB1.cell, hB2.cell, hB3.cell, hB4.cell] at k6_1
            have k7_1 := hfr1 7 rfl; try simp only [EN, Nat.reduceEqDiff, reduceIte, strEq, hB1.cell, hB2.cell, hB3.cell, hB4.cell] at k7_1
            refine hx_seq ?_
            refine hx_seq ?_
            refine hx_region ?_
            refine WL.qq (by simp only [EN, Nat.reduceEqDiff, reduceIte, qv_move, i8_1, strEq, hB1.cell, hB2.cell, hB3.cell, hB4.cell]; rfl) ?_
            refine WL.qq (by simp only [EN, Nat.reduceEqDiff, reduceIte, qv_fieldAddr, fa79_1, Nat.zero_add, Nat.reduceAdd, k6_1, strEq, hB1.cell, hB2.cell, hB3.cell, hB4.cell]; rfl) ?_
            refine WL.qq (by simp only [EN, Nat.reduceEqDiff, reduceIte, qv_load, ld77, readN, AR, Nat.zero_add, Nat.reduceAdd, strEq, hB1.cell, hB2.cell, hB3.cell, hB4.cell]; rfl) ?_
            refine WL.qq (by simp only [EN, Nat.reduceEqDiff, reduceIte, qv_len, ln77, AR, strEq, hB1.cell, hB2.cell, hB3.cell, hB4.cell]; rfl) ?_
            refine WL.qq (by simp only [EN, Nat.reduceEqDiff, reduceIte, qv_binOp, binv_lss, strEq, hB1.cell, hB2.cell, hB3.cell, hB4.cell]; rfl) ?_
            refine WL.nil ?_
            refine th_norm ?_
            refine hx_cond (by simp only [EN, Nat.reduceEqDiff, reduceIte, strEq, hB1.cell, hB2.cell, hB3.cell, hB4.cell]; rfl) (fun hct72 => ?_) (fun hct72 => ?_)
            ·
              try simp only [BD] at hct72
              obtain ⟨a, haq⟩ := atG (l := q.ps) (i := j) (by omega)
              obtain ⟨b, hbr⟩ := atG (l := r.ps) (i := j) (by omega)
              obtain ⟨b3, o3, ha3, ha4, _⟩ := po_rd hqs haq
              obtain ⟨b5, o5, ha5, ha6, _⟩ := po_rd hrs hbr
              refine hx_skip ?_
              refine th_norm ?_
              refine hx_seq ?_
              refine hx_block ?_
              refine hx_seq ?_
              apply hx_draw2 Rel.same [] [] [] rfl (by decide +kernel) rfl
              refine LD.qq rfl rfl (by simp only [EN, Nat.reduceEqDiff, reduceIte, qv_fieldAddr, fa79_1, Nat.zero_add, Nat.reduceAdd, k6_1, strEq, hB1.cell, hB2.cell, hB3.cell, hB4.cell]; rfl) ?_
              refine LD.qq rfl rfl (by simp only [EN, Nat.reduceEqDiff, reduceIte, qv_load, ld77, readN, AR, Nat.zero_add, Nat.reduceAdd, strEq, hB1.cell, hB2.cell, hB3.cell, hB4.cell]; rfl) ?_
              refine LD.qq rfl rfl (by simp only [EN, Nat.reduceEqDiff, reduceIte, qv_move, i8_1, strEq, hB1.cell, hB2.cell, hB3.cell, hB4.cell]; rfl) ?_
              refine LD.qq rfl rfl (by simp only [EN, Nat.reduceEqDiff, reduceIte, qv_indexAddr, strEq, hB1.cell, hB2.cell, hB3.cell, hB4.cell, ha3]; (try simp (disch := omega) only [ix77, Int.toNat_natCast]); rfl) ?_
              refine LD.qq rfl rfl (by simp only [EN, Nat.reduceEqDiff, reduceIte, k2_1, k3_1, k5_1, k6_1, k7_1, i8_1, strEq, hB1.cell, hB2.cell, hB3.cell, hB4.cell, qv_load, ld76, Int.toNat_natCast, ha4]; rfl) ?_
              refine LD.qq rfl rfl (by simp only [EN, Nat.reduceEqDiff, reduceIte, qv_fieldAddr, fa79_1, Nat.zero_add, Nat.reduceAdd, k7_1, strEq, hB1.cell, hB2.cell, hB3.cell, hB4.cell]; rfl) ?_
              refine LD.qq rfl rfl (by simp only [EN, Nat.reduceEqDiff, reduceIte, qv_load, ld77, readN, AR, Nat.zero_add, Nat.reduceAdd, strEq, hB1.cell, hB2.cell, hB3.cell, hB4.cell]; rfl) ?_
              refine LD.qq rfl rfl (by simp only [EN, Nat.reduceEqDiff, reduceIte, qv_move, i8_1, strEq, hB1.cell, hB2.cell, hB3.cell, hB4.cell]; rfl) ?_
              refine LD.qq rfl rfl (by simp only [EN, Nat.reduceEqDiff, reduceIte, qv_indexAddr, strEq, hB1.cell, hB2.cell, hB3.cell, hB4.cell, ha5]; (try simp (disch := omega) only [ix77, Int.toNat_natCast]); rfl) ?_
              refine LD.qq rfl rfl (by simp only [EN, Nat.reduceEqDiff, reduceIte, k2_1, k3_1, k5_1, k6_1, k7_1, i8_1, strEq, hB1.cell, hB2.cell, hB3.cell, hB4.cell, qv_load, ld76, Int.toNat_natCast, ha6]; rfl) ?_
              refine LD.qq rfl rfl (by simp only [EN, Nat.reduceEqDiff, reduceIte, qv_binOp, binv_neq, eqs76, Option.map_some, strEq, hB1.cell, hB2.cell, hB3.cell, hB4.cell]; rfl) ?_
              refine LD.nil ?_
              rintro _ rfl -
              refine WL.nil ?_
              refine th_norm ?_
              refine hx_cond (by simp only [EN, Nat.reduceEqDiff, reduceIte, strEq, hB1.cell, hB2.cell, hB3.cell, hB4.cell]; rfl) (fun hct85 => ?_) (fun hct85 => ?_)
              ·
                try simp only [BD] at hct85
                refine hx_seq ?_
                refine hx_region ?_
                refine WL.qq (by simp only [EN, Nat.reduceEqDiff, reduceIte, qv_assign, strEq, hB1.cell, hB2.cell, hB3.cell, hB4.cell]; rfl) ?_
                refine WL.nil ?_
                refine th_norm ?_
                refine hx_ret ?_
                refine bl_ret ?_
                refine th_ret ?_
                refine th_ret ?_
                refine bl_ret ?_
                refine bl_ret ?_
                refine th_ret ?_
                refine th_ret ?_
                refine bl_ret ?_
                refine th_ret ?_
                refine fin_ret [.tmp 4] rfl rfl (by simp only [EN, Nat.reduceEqDiff, reduceIte, resv, k2_1, k3_1, k5_1, k6_1, k7_1, i8_1, strEq, hB1.cell, hB2.cell, hB3.cell, hB4.cell]; rfl) ?_  -- ret 2 r13
                have hne : a ≠ b := (fun hh => by rw [hh] at hct85; simp at hct85)
                have hne2 : q.pt ≠ r.pt := (fun hh => by simp only [PX.pt, PT.mk.injEq] at hh; exact ne_tk haq hbr hne hh.2)
                exact ⟨by simp only [retOf]; congr 1; exact (decide_eq_false (pt_ne hq hr hne2)).symm, ((hx1).trans ((hx2).trans ((hX0).trans (hx5))))⟩
              ·
                try simp only [BD] at hct85
                have heq : a = b := (by rw [po_iff]; simpa [and_assoc] using hct85)
                subst heq
                refine hx_skip ?_
                refine bl_norm ?_
                refine th_norm ?_
                refine hx_region ?_
                refine WL.qq (by simp only [EN, Nat.reduceEqDiff, reduceIte, qv_move, i8_1, strEq, hB1.cell, hB2.cell, hB3.cell, hB4.cell]; rfl) ?_
                refine WL.qq (by simp only [EN, Nat.reduceEqDiff, reduceIte, qv_binOp, binv_add, strEq, hB1.cell, hB2.cell, hB3.cell, hB4.cell]; (try simp (disch := omega) only [w64, w8, wu64]); rfl) ?_
                refine WL.qq (by simp only [EN, Nat.reduceEqDiff, reduceIte, qv_assign, strEq, hB1.cell, hB2.cell, hB3.cell, hB4.cell]; rfl) ?_
                refine WL.nil ?_
                refine th_norm ?_
                refine ⟨rfl, rfl, ?_, _, ?_, j + 1, rfl, ?_, ?_, ?_⟩  -- again 0 of loop 1
                · (repeat (first | exact Fr.refl _ _ | refine Fr.set rfl ?_ | refine Fr.put rfl ?_ | with_reducible refine Fr.put0 ?_))
                · omega
                · omega
                · exact tk_step haq hbr hz2
                · simp only [EN, Nat.reduceEqDiff, reduceIte, k2_1, k3_1, k5_1, k6_1, k7_1, i8_1, strEq, hB1.cell, hB2.cell, hB3.cell, hB4.cell] <;> first | rfl | (congr 1; omega)
            ·
              try simp only [BD] at hct72
              have hps : q.ps = r.ps := (by rw [List.take_of_length_le (by omega), List.take_of_length_le (by omega)] at hz2; exact hz2)
              have hpt : q.pt = r.pt := (by simp only [PX.pt, hre, hps])
              refine hx_exit ?_
              refine th_exit ?_
              refine th_exit ?_
              refine bl_hit ?_
              refine bl_norm ?_
              refine th_norm ?_
              refine hx_region ?_
              refine WL.qq (by simp only [EN, Nat.reduceEqDiff, reduceIte, qv_move, k5_1, strEq, hB1.cell, hB2.cell, hB3.cell, hB4.cell]; rfl) ?_
              refine WL.qq (by simp only [EN, Nat.reduceEqDiff, reduceIte, qv_binOp, binv_add, strEq, hB1.cell, hB2.cell, hB3.cell, hB4.cell]; (try simp (disch := omega) only [w64, w8, wu64]); rfl) ?_
              refine WL.qq (by simp only [EN, Nat.reduceEqDiff, reduceIte, qv_assign, strEq, hB1.cell, hB2.cell, hB3.cell, hB4.cell]; rfl) ?_
              refine WL.nil ?_
              refine th_norm ?_
              refine ⟨rfl, ?_, ?_, _, ?_, i + 1, rfl, ?_, ?_, ?_⟩  -- again 0 of loop 0
              · exact hx5
              · (repeat (first | exact Fr.refl _ _ | refine Fr.set rfl ?_ | refine Fr.put rfl ?_ | with_reducible refine Fr.put0 ?_ | refine Fr.trans ?_ (Fr.of hfr1 rfl)))
              · omega
              · omega
              · exact tk_step (x := q.pt) (by rw [List.getElem?_map, hq]; rfl) (by rw [List.getElem?_map, hr, hpt]; rfl) hz
              · simp only [EN, Nat.reduceEqDiff, reduceIte, k2_1, k3_1, k5_1, k6_1, k7_1, i8_1, strEq, hB1.cell, hB2.cell, hB3.cell, hB4.cell] <;> first | rfl | (congr 1; omega)
      ·
        try simp only [BD] at hct41
        have hall : x.ps.map PX.pt = y.ps.map PX.pt := (by rw [List.take_of_length_le (by rw [List.length_map]; omega), List.take_of_length_le (by rw [List.length_map]; omega)] at hz; exact hz)
        refine hx_exit ?_
        refine th_exit ?_
        refine th_exit ?_
        refine bl_hit ?_
        refine th_norm ?_
        refine hx_seq ?_
        refine hx_region ?_
        refine WL.qq (by simp only [EN, Nat.reduceEqDiff, reduceIte, qv_assign, strEq, hB1.cell, hB2.cell]; rfl) ?_
        refine WL.nil ?_
        refine th_norm ?_
        refine hx_ret ?_
        refine fin_ret [.tmp 4] rfl rfl (by simp only [EN, Nat.reduceEqDiff, reduceIte, resv, k2_0, k3_0, i5_0, strEq, hB1.cell, hB2.cell]; rfl) ?_  -- ret 3 r14
        exact ⟨by simp only [retOf]; congr 1; exact (decide_eq_true (bd_iff.2 ⟨he1.1, he1.2.1, he1.2.2, hall⟩)).symm, ((hx1).trans ((hx2).trans (hX0)))⟩
def zB : HB := ⟨0, 0, 0, []⟩
abbrev zX : BX := ⟨0, 0, 0, none, [], 0⟩
def atB (l : List HB) (i : Int) : HB := if 1 ≤ i ∧ i ≤ l.length then (l[(i - 1).toNat]?).getD zB else zB
def atI (l : List HB) (i : Int) : Bool := decide (1 ≤ i ∧ i ≤ l.length)
set_option maxHeartbeats 2000000 in
theorem c_at {h : Heap} {p : Nat} {l : List HB} (i : Int) (hi64 : -9223372036854775808 ≤ i) (hg : GS l) (hr : HR h p l) :
    HCalls Try.prog 24 #[ptr p, iV i] h fun v h' => Ext h h' ∧ ∃ y : BX, v = .tuple #[.agg (bdL y).toArray, .bool (atI l i)] ∧ y.bd = atB l i ∧ BXr (fun g => h.size ≤ g) h' y := by
  have hr0 := hr
  obtain ⟨av, cap, xs, hp, hsx, hxl, hbx, hcap, hsp⟩ := hr.ex
  have hs1 : (l.length : Int) = xs.length := by rw [← hxl, List.length_map]
  have hl12 := hg.n
  refine hcalls2 Try.func24 rfl (by decide +kernel) (by simp only [Try.ntmps24]; exact of_decide_eq_true rfl) ?_
  intro e hin
  have e0 := hin 0 _ rfl
  have e1 := hin 1 _ rfl
  refine hx_seq ?_
  refine hx_region ?_
  refine WL.alloc2 zr55 ?_
  intro h1 B1 hx1 hlt1 hB1
  replace hp := hp.ext hx1
  replace hr0 := hr0.ext hx1
  replace hsx := hsx.ext hx1
  replace hbx := hbx.ext hx1
  simp only [Value.cells] at hB1
  refine WL.qq (by simp only [EN, Nat.reduceEqDiff, reduceIte, qv_assign, hp.cell, hB1.cell]; rfl) ?_
  refine WL.nil ?_
  refine th_norm ?_
  refine hx_seq ?_
  refine hx_seq ?_
  refine hx_region ?_
  refine WL.qq (by simp only [EN, Nat.reduceEqDiff, reduceIte, qv_move, e1, hp.cell, hB1.cell]; rfl) ?_
  refine WL.qq (by simp only [EN, Nat.reduceEqDiff, reduceIte, qv_binOp, binv_lss, hp.cell, hB1.cell]; rfl) ?_
  refine WL.qq (by simp only [EN, Nat.reduceEqDiff, reduceIte, qv_move, hp.cell, hB1.cell]; rfl) ?_
  refine WL.cq (gd_at (t := 8) rfl (by simp only [EN, Nat.reduceEqDiff, reduceIte, e1, hp.cell, hB1.cell] <;> rfl)) (fun hg1_3 => by simp only [EN, Nat.reduceEqDiff, reduceIte, qv_move, e1, hp.cell, hB1.cell, hg1_3, GR]; rfl) ?_
  refine WL.cq (gd_at (t := 8) rfl (by simp only [EN, Nat.reduceEqDiff, reduceIte, e0, hp.cell, hB1.cell] <;> rfl)) (fun hg1_4 => by simp only [EN, Nat.reduceEqDiff, reduceIte, qv_move, e0, hp.cell, hB1.cell, hg1_4, GR]; rfl) ?_
  refine WL.cck (gd_at (t := 8) rfl (by simp only [EN, Nat.reduceEqDiff, reduceIte, hp.cell, hB1.cell] <;> rfl)) Try.call23 (fun hg1_5 => by simp only [EN, Nat.reduceEqDiff, reduceIte, AR, hp.cell, hB1.cell, hg1_5, GR]; exact c_len hr0) ?_
  refine WL.cq (gd_at (t := 8) rfl (by simp only [EN, Nat.reduceEqDiff, reduceIte, hp.cell, hB1.cell] <;> rfl)) (fun hg1_6 => by simp only [EN, Nat.reduceEqDiff, reduceIte, qv_binOp, binv_gtr, hp.cell, hB1.cell, hg1_6, GR]; rfl) ?_
  refine WL.qq (by simp only [EN, Nat.reduceEqDiff, reduceIte, qv_pick, pk_and, pk_or, GR, hp.cell, hB1.cell]; rfl) ?_
  refine WL.nil ?_
  refine th_norm ?_
  refine hx_cond (by simp only [EN, Nat.reduceEqDiff, reduceIte, hp.cell, hB1.cell]; rfl) (fun hct13 => ?_) (fun hct13 => ?_)
  ·
    try simp only [BD] at hct13
    refine hx_seq ?_
    refine hx_region ?_
    refine WL.qq (by refine qv_bld (by simp only [EN, Nat.reduceEqDiff, reduceIte, AR, hp.cell, hB1.cell] <;> rfl) (by rw [bl55]; simp [Instr.fill, Value.cells]; rfl)) ?_
    refine WL.store (by simp only [EN, Nat.reduceEqDiff, reduceIte, hp.cell, hB1.cell] <;> rfl) sz55 (by simp only [EN, Nat.reduceEqDiff, reduceIte, Value.cells, hp.cell, hB1.cell] <;> rfl) rfl hB1 (by first | (simp [true_and]; done) | (simp [true_and]; omega) | omega) (by simp [Value.oneCell']) ?_
    intro h2 hw2
    have hX2 := hw2.ext (hx1) hlt1
    replace hB1 := hw2.at_
    simp only [splc, List.take_succ_cons, List.take_zero, List.take_nil, List.drop_succ_cons, List.drop_zero, List.drop_nil, List.cons_append, List.nil_append, List.length_cons, List.length_nil, Nat.zero_add, Nat.add_zero, Nat.reduceAdd, List.append_nil] at hB1
    refine WL.qq (by simp only [EN, Nat.reduceEqDiff, reduceIte, qv_assign, hp.cell, hB1.cell]; rfl) ?_
    refine WL.nil ?_
    refine th_norm ?_
    refine hx_ret ?_
    refine th_ret ?_
    refine fin_ret [.cell 4 55, .tmp 5] rfl rfl (by simp only [EN, Nat.reduceEqDiff, reduceIte, resv, ld55, readN, AR, Nat.zero_add, Nat.reduceAdd, e0, e1, hp.cell, hB1.cell]; rfl) ?_  -- ret 0 r2
    have hn : ¬ (1 ≤ i ∧ i ≤ l.length) := (by omega)
    exact ⟨hX2, zX, by rw [show atI l i = false from decide_eq_false hn]; rfl, by rw [atB, if_neg hn]; rfl, slR_nil, (fun g off hh => by cases hh), fun m hm => by cases hm⟩
  ·
    try simp only [BD] at hct13
    have hn : 1 ≤ i ∧ i ≤ l.length := (by omega)
    obtain ⟨m, rfl⟩ : ∃ m : Nat, i = (m : Int) + 1 := ⟨(i - 1).toNat, by omega⟩
    obtain ⟨x, hx⟩ := atG (l := xs) (i := m) (by omega)
    obtain ⟨b1, o1, ha1, hr4, _⟩ := bd_rd hsx hx
    have hxm : x.bd ∈ l := (by rw [← hxl]; exact List.mem_map.2 ⟨x, List.mem_of_getElem? hx, rfl⟩)
    have hmm : IntKind.i64.wrap ((m : Int) + 1 - 1) = (m : Int) := (by rw [w64 (by omega) (by omega)]; omega)
    refine hx_skip ?_
    refine th_norm ?_
    refine hx_seq ?_
    refine hx_region ?_
    refine WL.qq (by simp only [EN, Nat.reduceEqDiff, reduceIte, qv_move, e0, hp.cell, hB1.cell]; rfl) ?_
    refine WL.qq (by simp only [EN, Nat.reduceEqDiff, reduceIte, qv_nilCheck, hp.cell, hB1.cell]; rfl) ?_
    refine WL.qq (by simp only [EN, Nat.reduceEqDiff, reduceIte, qv_fieldAddr, fa93_0, Nat.zero_add, Nat.reduceAdd, hp.cell, hB1.cell]; rfl) ?_
    refine WL.qq (by simp only [EN, Nat.reduceEqDiff, reduceIte, qv_load, ld91, readN, AR, Nat.zero_add, Nat.reduceAdd, hp.cell, hB1.cell]; rfl) ?_
    refine WL.qq (by simp only [EN, Nat.reduceEqDiff, reduceIte, qv_move, e1, hp.cell, hB1.cell]; rfl) ?_
    refine WL.qq (by simp only [EN, Nat.reduceEqDiff, reduceIte, e0, e1, hp.cell, hB1.cell, qv_binOp, binv_sub, hmm]; rfl) ?_
    refine WL.qq (by simp only [EN, Nat.reduceEqDiff, reduceIte, qv_indexAddr, hp.cell, hB1.cell, ha1]; (try simp (disch := omega) only [ix91, Int.toNat_natCast]); rfl) ?_
    refine WL.qq (by simp only [EN, Nat.reduceEqDiff, reduceIte, e0, e1, hp.cell, hB1.cell, qv_load, ld55, Int.toNat_natCast, hr4]; rfl) ?_
    refine WL.ce Try.call49 (by simp only [EN, Nat.reduceEqDiff, reduceIte, AR, hp.cell, hB1.cell]; exact c_clone x (hg.f _ hxm).lens (hbx x (List.mem_of_getElem? hx))) ?_
    rintro _ h3 ⟨hx3, y, rfl, hyb, hyr⟩
    replace hp := hp.ext hx3
    replace hr0 := hr0.ext hx3
    replace hsx := hsx.ext hx3
    replace hbx := hbx.ext hx3
    replace hB1 := hB1.ext hx3
    simp only [put_some]
    refine WL.store (by simp only [EN, Nat.reduceEqDiff, reduceIte, hp.cell, hB1.cell] <;> rfl) sz55 (by simp only [EN, Nat.reduceEqDiff, reduceIte, Value.cells, hp.cell, hB1.cell] <;> rfl) rfl hB1 (by first | (simp [true_and]; done) | (simp [true_and]; omega) | omega) (by simp [Value.oneCell']) ?_
    intro h4 hw4
    have hX3 := hw4.ext ((hx1).trans (hx3)) hlt1
    have hyr9 := hyr.wr hw4 hB1 (by decide) (by decide)
    replace hB1 := hw4.at_
    simp only [splc, List.take_succ_cons, List.take_zero, List.take_nil, List.drop_succ_cons, List.drop_zero, List.drop_nil, List.cons_append, List.nil_append, List.length_cons, List.length_nil, Nat.zero_add, Nat.add_zero, Nat.reduceAdd, List.append_nil] at hB1
    refine WL.qq (by simp only [EN, Nat.reduceEqDiff, reduceIte, qv_assign, hp.cell, hB1.cell]; rfl) ?_
    refine WL.nil ?_
    refine th_norm ?_
    refine hx_ret ?_
    refine fin_ret [.cell 4 55, .tmp 5] rfl rfl (by simp only [EN, Nat.reduceEqDiff, reduceIte, resv, ld55, readN, AR, Nat.zero_add, Nat.reduceAdd, e0, e1, hp.cell, hB1.cell]; rfl) ?_  -- ret 1 r3
    have kz := hx1.size
    exact ⟨hX3, y, by rw [show atI l ((m : Int) + 1) = true from decide_eq_true hn]; rfl, by rw [hyb, atB, if_pos hn, show ((m : Int) + 1 - 1).toNat = m by omega, ← hxl, bd_at hx]; rfl, hyr9.mono (fun c hc => by omega)⟩
end GL


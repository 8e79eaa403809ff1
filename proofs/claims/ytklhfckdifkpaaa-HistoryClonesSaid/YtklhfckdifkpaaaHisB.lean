/- History: comparing, wide sums, the postings of a bundle as a range. -/
import Derived.Test.YtklhfckdifkpaaaHisA
import Derived.Test.YtklhfckdifkpaaaGl26
import Derived.Test.YtklhfckdifkpaaaGl27
import Derived.Test.YtklhfckdifkpaaaGl35
import Derived.Test.YtklhfckdifkpaaaGlU
set_option linter.unusedSimpArgs false
set_option linter.unusedVariables false
set_option linter.unnecessarySimpa false
namespace GL
open Go Go.Proofs
set_option maxRecDepth 8000
abbrev intL (n : Int) : List Value := [iV n]
abbrev tyB : TypeId := 55
abbrev tyPt : TypeId := 72
abbrev tyPo : TypeId := 74
abbrev tyH : TypeId := 93
def cmpI (a b : Int) : Int := if a < b then -1 else if b < a then 1 else 0
theorem c_isNaN (a : Int) (h : Heap) : HCalls Try.prog 81 #[iV a] h (Pure (.bool false) h) := by
  refine hcalls2 Try.func81 rfl (by decide +kernel) (by simp only [Try.ntmps81]; exact of_decide_eq_true rfl) ?_
  intro e hin
  have e0 := hin 0 _ rfl
  refine hx_seq ?_
  refine hx_region ?_
  refine WL.qq (by simp only [EN, Nat.reduceEqDiff, reduceIte, qv_assign]; rfl) ?_
  refine WL.nil ?_
  refine th_norm ?_
  refine hx_seq ?_
  refine hx_region ?_
  refine WL.qq (by simp only [EN, Nat.reduceEqDiff, reduceIte, qv_move, e0]; rfl) ?_
  refine WL.qq (by simp only [EN, Nat.reduceEqDiff, reduceIte, qv_move, e0]; rfl) ?_
  refine WL.qq (by simp only [EN, Nat.reduceEqDiff, reduceIte, qv_binOp, binv_neq, eq3, Option.map_some]; rfl) ?_
  refine WL.qq (by simp only [EN, Nat.reduceEqDiff, reduceIte, qv_assign]; rfl) ?_
  refine WL.nil ?_
  refine th_norm ?_
  refine hx_ret ?_
  refine fin_ret [.tmp 2] rfl rfl (by simp only [EN, Nat.reduceEqDiff, reduceIte, resv, e0]; rfl) ?_  -- ret 0 r1
  exact ⟨by simp [retOf], rfl⟩
theorem c_cmpI (a b : Int) (h : Heap) : HCalls Try.prog 63 #[iV a, iV b] h (Pure (iV (cmpI a b)) h) := by
  refine hcalls2 Try.func63 rfl (by decide +kernel) (by simp only [Try.ntmps63]; exact of_decide_eq_true rfl) ?_
  intro e hin
  have e0 := hin 0 _ rfl
  have e1 := hin 1 _ rfl
  refine hx_seq ?_
  refine hx_region ?_
  refine WL.qq (by simp only [EN, Nat.reduceEqDiff, reduceIte, qv_assign]; rfl) ?_
  refine WL.nil ?_
  refine th_norm ?_
  refine hx_seq ?_
  refine hx_region ?_
  refine WL.qq (by simp only [EN, Nat.reduceEqDiff, reduceIte, qv_move, e0]; rfl) ?_
  refine WL.ck Try.call81 (by simp only [EN, Nat.reduceEqDiff, reduceIte, AR]; exact c_isNaN _ _) ?_
  refine WL.qq (by simp only [EN, Nat.reduceEqDiff, reduceIte, qv_assign]; rfl) ?_
  refine WL.nil ?_
  refine th_norm ?_
  refine hx_seq ?_
  refine hx_region ?_
  refine WL.qq (by simp only [EN, Nat.reduceEqDiff, reduceIte, qv_move, e1]; rfl) ?_
  refine WL.ck Try.call81 (by simp only [EN, Nat.reduceEqDiff, reduceIte, AR]; exact c_isNaN _ _) ?_
  refine WL.qq (by simp only [EN, Nat.reduceEqDiff, reduceIte, qv_assign]; rfl) ?_
  refine WL.nil ?_
  refine th_norm ?_
  refine hx_seq ?_
  refine hx_seq ?_
  refine hx_region ?_
  refine WL.qq (by simp only [EN, Nat.reduceEqDiff, reduceIte, qv_move]; rfl) ?_
  refine WL.nil ?_
  refine th_norm ?_
  refine hx_cond (by simp only [EN, Nat.reduceEqDiff, reduceIte]; rfl) (fun hct11 => ?_) (fun hct11 => ?_)
  ·
    simp at hct11
  ·
    try simp only [BD] at hct11
    refine hx_skip ?_
    refine th_norm ?_
    refine hx_seq ?_
    refine hx_seq ?_
    refine hx_region ?_
    refine WL.qq (by simp only [EN, Nat.reduceEqDiff, reduceIte, qv_move]; rfl) ?_
    refine WL.nil ?_
    refine th_norm ?_
    refine hx_cond (by simp only [EN, Nat.reduceEqDiff, reduceIte]; rfl) (fun hct13 => ?_) (fun hct13 => ?_)
    ·
      simp at hct13
    ·
      try simp only [BD] at hct13
      refine hx_skip ?_
      refine th_norm ?_
      refine hx_seq ?_
      refine hx_seq ?_
      refine hx_region ?_
      refine WL.qq (by simp only [EN, Nat.reduceEqDiff, reduceIte, qv_move, e0]; rfl) ?_
      refine WL.qq (by simp only [EN, Nat.reduceEqDiff, reduceIte, qv_move, e1]; rfl) ?_
      refine WL.qq (by simp only [EN, Nat.reduceEqDiff, reduceIte, qv_binOp, binv_lss]; rfl) ?_
      refine WL.nil ?_
      refine th_norm ?_
      refine hx_cond (by simp only [EN, Nat.reduceEqDiff, reduceIte]; rfl) (fun hct16 => ?_) (fun hct16 => ?_)
      ·
        try simp only [BD] at hct16
        refine hx_seq ?_
        refine hx_region ?_
        refine WL.qq (by simp only [EN, Nat.reduceEqDiff, reduceIte, qv_assign]; rfl) ?_
        refine WL.nil ?_
        refine th_norm ?_
        refine hx_ret ?_
        refine th_ret ?_
        refine fin_ret [.tmp 4] rfl rfl (by simp only [EN, Nat.reduceEqDiff, reduceIte, resv, e0, e1]; rfl) ?_  -- ret 0 r10
        exact ⟨by simp [retOf, cmpI, hct16], rfl⟩
      ·
        try simp only [BD] at hct16
        refine hx_skip ?_
        refine th_norm ?_
        refine hx_seq ?_
        refine hx_seq ?_
        refine hx_region ?_
        refine WL.qq (by simp only [EN, Nat.reduceEqDiff, reduceIte, qv_move, e0]; rfl) ?_
        refine WL.qq (by simp only [EN, Nat.reduceEqDiff, reduceIte, qv_move, e1]; rfl) ?_
        refine WL.qq (by simp only [EN, Nat.reduceEqDiff, reduceIte, qv_binOp, binv_gtr]; rfl) ?_
        refine WL.nil ?_
        refine th_norm ?_
        refine hx_cond (by simp only [EN, Nat.reduceEqDiff, reduceIte]; rfl) (fun hct19 => ?_) (fun hct19 => ?_)
        ·
          try simp only [BD] at hct19
          refine hx_seq ?_
          refine hx_region ?_
          refine WL.qq (by simp only [EN, Nat.reduceEqDiff, reduceIte, qv_assign]; rfl) ?_
          refine WL.nil ?_
          refine th_norm ?_
          refine hx_ret ?_
          refine th_ret ?_
          refine fin_ret [.tmp 4] rfl rfl (by simp only [EN, Nat.reduceEqDiff, reduceIte, resv, e0, e1]; rfl) ?_  -- ret 1 r12
          exact ⟨by simp [retOf, cmpI, hct16, hct19], rfl⟩
        ·
          try simp only [BD] at hct19
          refine hx_skip ?_
          refine th_norm ?_
          refine hx_seq ?_
          refine hx_region ?_
          refine WL.qq (by simp only [EN, Nat.reduceEqDiff, reduceIte, qv_assign]; rfl) ?_
          refine WL.nil ?_
          refine th_norm ?_
          refine hx_ret ?_
          refine fin_ret [.tmp 4] rfl rfl (by simp only [EN, Nat.reduceEqDiff, reduceIte, resv, e0, e1]; rfl) ?_  -- ret 2 r13
          exact ⟨by simp [retOf, cmpI, hct16, hct19], rfl⟩
/-- The first number that is not 0. -/
def orI : List Int → Int
  | [] => 0
  | x :: l => if x = 0 then orI l else x
theorem orI_drop {l : List Int} {i : Nat} {x : Int} (hx : l[i]? = some x) : orI (l.drop i) = if x = 0 then orI (l.drop (i + 1)) else x := by
  rw [drop_atG hx]; rfl
theorem c_orI (a : Option Addr) (l : List Int) (cap : Nat) (hl : l.length ≤ 1000000) {h : Heap} (hs : SlG 1 intL h a l) :
    HCalls Try.prog 61 #[.slice a l.length cap] h (Pure (iV (orI l)) h) := by
  refine hcalls2 Try.func61 rfl (by decide +kernel) (by simp only [Try.ntmps61]; exact of_decide_eq_true rfl) ?_
  intro e hin
  have e0 := hin 0 _ rfl
  refine hx_seq ?_
  refine hx_region ?_
  refine WL.qq (by simp only [EN, Nat.reduceEqDiff, reduceIte, qv_assign]; rfl) ?_
  refine WL.nil ?_
  refine th_norm ?_
  refine hx_seq ?_
  refine hx_region ?_
  refine WL.qq (by simp only [EN, Nat.reduceEqDiff, reduceIte, qv_assign]; rfl) ?_
  refine WL.nil ?_
  refine th_norm ?_
  refine hx_seq ?_
  refine hx_seq ?_
  refine hx_region ?_
  refine WL.qq (by simp only [EN, Nat.reduceEqDiff, reduceIte, qv_move, e0]; rfl) ?_
  refine WL.qq (by simp only [EN, Nat.reduceEqDiff, reduceIte, qv_len, ln136, AR]; rfl) ?_
  refine WL.qq (by simp only [EN, Nat.reduceEqDiff, reduceIte, qv_move]; rfl) ?_
  refine WL.nil ?_
  refine th_norm ?_
  refine hx_block ?_
  refine hx_loopS [2, 5, 8, 9, 10, 11, 12, 13, 14, 15, 16] (fun k e => ∃ (i : Nat), l.length - i = k ∧ (i ≤ l.length) ∧ (orI (l.drop i) = orI l) ∧ e 8 = .int .i64 i) _ ⟨0, rfl, ?_, ?_, ?_⟩ ?_
  · omega
  · rfl
  · simp only [EN, Nat.reduceEqDiff, reduceIte, e0] <;> rfl
  ·
    rintro k e0L hfr0 ⟨i, rfl, hi, hr, i8_0⟩
    have k3_0 := hfr0 3 rfl; try simp only [EN, Nat.reduceEqDiff, reduceIte] at k3_0
    have k6_0 := hfr0 6 rfl; try simp only [EN, Nat.reduceEqDiff, reduceIte] at k6_0
    have k7_0 := hfr0 7 rfl; try simp only [EN, Nat.reduceEqDiff, reduceIte] at k7_0
    refine hx_seq ?_
    refine hx_region ?_
    refine WL.qq (by simp only [EN, Nat.reduceEqDiff, reduceIte, qv_binOp, binv_lss, k7_0, i8_0]; rfl) ?_
    refine WL.nil ?_
    refine th_norm ?_
    refine hx_seq ?_
    refine hx_cond (by simp only [EN, Nat.reduceEqDiff, reduceIte]; rfl) (fun hct9 => ?_) (fun hct9 => ?_)
    ·
      try simp only [BD] at hct9
      obtain ⟨x, hx⟩ := atG (l := l) (i := i) (by omega)
      obtain ⟨b, off, rfl, hr0⟩ := hs i x hx
      have hc0 := readN_cell hr0 0 _ rfl
      rw [Nat.add_zero, Nat.mul_one] at hc0
      refine hx_skip ?_
      refine th_norm ?_
      refine hx_seq ?_
      refine hx_block ?_
      refine hx_seq ?_
      refine hx_region ?_
      refine WL.qq (by simp only [EN, Nat.reduceEqDiff, reduceIte, qv_indexAddr, k6_0, i8_0]; (try simp (disch := omega) only [ix136, Int.toNat_natCast]); rfl) ?_
      refine WL.qq (by simp only [EN, Nat.reduceEqDiff, reduceIte, k3_0, k6_0, k7_0, i8_0, qv_load, ld3, Int.toNat_natCast, hc0]; rfl) ?_
      refine WL.qq (by simp only [EN, Nat.reduceEqDiff, reduceIte, qv_assign]; rfl) ?_
      refine WL.nil ?_
      refine th_norm ?_
      refine hx_seq ?_
      refine hx_region ?_
      refine WL.qq (by simp only [EN, Nat.reduceEqDiff, reduceIte, qv_move]; rfl) ?_
      refine WL.qq (by simp only [EN, Nat.reduceEqDiff, reduceIte, qv_move, k3_0]; rfl) ?_
      refine WL.qq (by simp only [EN, Nat.reduceEqDiff, reduceIte, qv_binOp, binv_neq, eq3, Option.map_some]; rfl) ?_
      refine WL.nil ?_
      refine th_norm ?_
      refine hx_cond (by simp only [EN, Nat.reduceEqDiff, reduceIte]; rfl) (fun hct14 => ?_) (fun hct14 => ?_)
      ·
        try simp only [BD] at hct14
        refine hx_seq ?_
        refine hx_region ?_
        refine WL.qq (by simp only [EN, Nat.reduceEqDiff, reduceIte, qv_move]; rfl) ?_
        refine WL.qq (by simp only [EN, Nat.reduceEqDiff, reduceIte, qv_assign]; rfl) ?_
        refine WL.nil ?_
        refine th_norm ?_
        refine hx_ret ?_
        refine bl_ret ?_
        refine th_ret ?_
        refine th_ret ?_
        refine bl_ret ?_
        refine th_ret ?_
        refine fin_ret [.tmp 2] rfl rfl (by simp only [EN, Nat.reduceEqDiff, reduceIte, resv, k3_0, k6_0, k7_0, i8_0]; rfl) ?_  -- ret 0 r6
        exact ⟨by have h9 := hr; rw [orI_drop hx, if_neg (by simpa using hct14)] at h9; rw [← h9]; rfl, rfl⟩
      ·
        try simp only [BD] at hct14
        refine hx_skip ?_
        refine bl_norm ?_
        refine th_norm ?_
        refine hx_region ?_
        refine WL.qq (by simp only [EN, Nat.reduceEqDiff, reduceIte, qv_binOp, binv_add, i8_0]; (try simp (disch := omega) only [w64, w8, wu64]); rfl) ?_
        refine WL.qq (by simp only [EN, Nat.reduceEqDiff, reduceIte, qv_move]; rfl) ?_
        refine WL.nil ?_
        refine th_norm ?_
        refine ⟨rfl, rfl, ?_, _, ?_, i + 1, rfl, ?_, ?_, ?_⟩  -- again 0 of loop 0
        · (repeat (first | exact Fr.refl _ _ | refine Fr.set rfl ?_ | refine Fr.put rfl ?_ | with_reducible refine Fr.put0 ?_))
        · omega
        · omega
        · rw [← hr, orI_drop hx, if_pos (by simpa using hct14)]
        · simp only [EN, Nat.reduceEqDiff, reduceIte, k3_0, k6_0, k7_0, i8_0] <;> first | rfl | (congr 1; omega)
    ·
      try simp only [BD] at hct9
      refine hx_exit ?_
      refine th_exit ?_
      refine th_exit ?_
      refine bl_hit ?_
      refine th_norm ?_
      refine hx_seq ?_
      refine hx_region ?_
      refine WL.qq (by simp only [EN, Nat.reduceEqDiff, reduceIte, qv_move, k3_0]; rfl) ?_
      refine WL.qq (by simp only [EN, Nat.reduceEqDiff, reduceIte, qv_assign]; rfl) ?_
      refine WL.nil ?_
      refine th_norm ?_
      refine hx_ret ?_
      refine fin_ret [.tmp 2] rfl rfl (by simp only [EN, Nat.reduceEqDiff, reduceIte, resv, k3_0, k6_0, k7_0, i8_0]; rfl) ?_  -- ret 1 r8
      exact ⟨by have h9 : i = l.length := (by omega); rw [← hr, h9, List.drop_length]; rfl, rfl⟩
def cmpC (d m d2 m2 : Int) : Int := orI [cmpI d d2, cmpI m m2]
theorem cmpC_lt {d m d2 m2 : Int} : cmpC d m d2 m2 < 0 ↔ ltr d m d2 m2 := by
  simp only [cmpC, orI, cmpI, ltr]
  repeat' split
  all_goals omega
theorem cmpC_le {d m d2 m2 : Int} : cmpC d m d2 m2 ≤ 0 ↔ ¬ ltr d2 m2 d m := by
  simp only [cmpC, orI, cmpI, ltr]
  repeat' split
  all_goals omega
set_option maxHeartbeats 1000000 in
theorem c_cmpC (d m d2 m2 : Int) (h : Heap) : HCalls Try.prog 46 #[.agg #[iV d, iV m], .agg #[iV d2, iV m2]] h (Grow (iV (cmpC d m d2 m2)) h) := by
  refine hcalls2 Try.func46 rfl (by decide +kernel) (by simp only [Try.ntmps46]; exact of_decide_eq_true rfl) ?_
  intro e hin
  have e0 := hin 0 _ rfl
  have e1 := hin 1 _ rfl
  refine hx_seq ?_
  refine hx_region ?_
  refine WL.box2 (by simp only [EN, Nat.reduceEqDiff, reduceIte, Value.cells, e0]; rfl) ?_
  intro h1 B1 hx1 hlt1 hB1
  refine WL.box2 (by simp only [EN, Nat.reduceEqDiff, reduceIte, Value.cells, e1, hB1.cell]; rfl) ?_
  intro h2 B2 hx2 hlt2 hB2
  replace hB1 := hB1.ext hx2
  refine WL.qq (by simp only [EN, Nat.reduceEqDiff, reduceIte, qv_assign, hB1.cell, hB2.cell]; rfl) ?_
  refine WL.nil ?_
  refine th_norm ?_
  refine hx_seq ?_
  apply hx_draw2 Rel.grows [] [4, 9, 10, 11] [(4, (Spec.is (iV (cmpI d d2)))), (9, (Spec.is (iV (cmpI m m2)))), (10, (Spec.ls h.size #[iV (cmpI d d2), iV (cmpI m m2)] 3 2)), (11, (Spec.is (iV (cmpC d m d2 m2))))] rfl (by decide +kernel) rfl
  refine LD.qq rfl rfl (by simp only [EN, Nat.reduceEqDiff, reduceIte, qv_fieldAddr, fa41_0, Nat.zero_add, Nat.reduceAdd, hB1.cell, hB2.cell]; rfl) ?_
  refine LD.qq rfl rfl (by simp only [EN, Nat.reduceEqDiff, reduceIte, qv_load, ld3, readN, AR, Nat.zero_add, Nat.reduceAdd, hB1.cell, hB2.cell]; rfl) ?_
  refine LD.qq rfl rfl (by simp only [EN, Nat.reduceEqDiff, reduceIte, qv_fieldAddr, fa41_0, Nat.zero_add, Nat.reduceAdd, hB1.cell, hB2.cell]; rfl) ?_
  refine LD.qq rfl rfl (by simp only [EN, Nat.reduceEqDiff, reduceIte, qv_load, ld3, readN, AR, Nat.zero_add, Nat.reduceAdd, hB1.cell, hB2.cell]; rfl) ?_
  refine LD.es rfl rfl (by intro hD hr hf; have hx : Ext _ _ := hr; have hB1 := hB1.ext hx; have hB2 := hB2.ext hx; exact EOp.mono (e_call Try.call63 (by simp only [EN, Nat.reduceEqDiff, reduceIte, e0, e1, hB1.cell, hB2.cell, List.map_toArray, List.map_cons, List.map_nil]; exact c_cmpI d d2 _)) (fun _ _ hh => by obtain ⟨rfl, rfl⟩ := hh; exact ⟨Ext.refl _, rfl, trivial⟩)) ?_
  intro u1_4 w1_4
  have hu4 : u1_4 = _ := w1_4
  subst hu4
  refine LD.qq rfl rfl (by simp only [EN, Nat.reduceEqDiff, reduceIte, qv_fieldAddr, fa41_1, Nat.zero_add, Nat.reduceAdd, hB1.cell, hB2.cell]; rfl) ?_
  refine LD.qq rfl rfl (by simp only [EN, Nat.reduceEqDiff, reduceIte, qv_load, ld3, readN, AR, Nat.zero_add, Nat.reduceAdd, hB1.cell, hB2.cell]; rfl) ?_
  refine LD.qq rfl rfl (by simp only [EN, Nat.reduceEqDiff, reduceIte, qv_fieldAddr, fa41_1, Nat.zero_add, Nat.reduceAdd, hB1.cell, hB2.cell]; rfl) ?_
  refine LD.qq rfl rfl (by simp only [EN, Nat.reduceEqDiff, reduceIte, qv_load, ld3, readN, AR, Nat.zero_add, Nat.reduceAdd, hB1.cell, hB2.cell]; rfl) ?_
  refine LD.es rfl rfl (by intro hD hr hf; have hx : Ext _ _ := hr; have hB1 := hB1.ext hx; have hB2 := hB2.ext hx; exact EOp.mono (e_call Try.call63 (by simp only [EN, Nat.reduceEqDiff, reduceIte, e0, e1, hB1.cell, hB2.cell, List.map_toArray, List.map_cons, List.map_nil]; exact c_cmpI m m2 _)) (fun _ _ hh => by obtain ⟨rfl, rfl⟩ := hh; exact ⟨Ext.refl _, rfl, trivial⟩)) ?_
  intro u1_9 w1_9
  have hu9 : u1_9 = _ := w1_9
  subst hu9
  refine LD.es rfl rfl (by intro hD hr hf; have hx : Ext _ _ := hr; have hB1 := hB1.ext hx; have hB2 := hB2.ext hx; exact e_litN (Nat.le_trans (Ext.size ((hx1).trans (hx2))) hx.size) #[iV 0, iV 0] Try.underlying136 sz3 zr3 (by decide) (by kernel_rfl) ⟨_, (by simp only [EN, Nat.reduceEqDiff, reduceIte, e0, e1, hB1.cell, hB2.cell, AR]; simp [Instr.fill, Value.cells] <;> rfl), rfl⟩) ?_
  intro u1_10 w1_10
  obtain ⟨B10, hlt10, rfl⟩ := w1_10
  refine LD.es rfl rfl (by intro hD hr hf; have hx : Ext _ _ := hr; have hB1 := hB1.ext hx; have hB2 := hB2.ext hx; have m10 := hf (10, .slice (some ⟨B10, 0, none⟩) 2 2) (by simp) (by show tb _ _ 10 = true; decide +kernel) _ rfl B10 rfl; exact EOp.mono (e_call Try.call61 (by simp only [EN, Nat.reduceEqDiff, reduceIte, e0, e1, hB1.cell, hB2.cell, List.map_toArray, List.map_cons, List.map_nil]; exact c_orI (some ⟨B10, 0, none⟩) [cmpI d d2, cmpI m m2] 2 (by simp) (slG_has (f := intL) (sz := 1) (L := [cmpI d d2, cmpI m m2]) (fun _ => rfl) m10 rfl))) (fun _ _ hh => by obtain ⟨rfl, rfl⟩ := hh; exact ⟨Ext.refl _, rfl, trivial⟩)) ?_
  intro u1_11 w1_11
  have hu11 : u1_11 = _ := w1_11
  subst hu11
  refine LD.qq rfl rfl (by simp only [EN, Nat.reduceEqDiff, reduceIte, qv_assign, hB1.cell, hB2.cell]; rfl) ?_
  refine LD.nil ?_
  rintro h3 hx3 hF1
  replace hx3 : Ext _ _ := hx3
  replace hB1 := hB1.ext hx3
  replace hB2 := hB2.ext hx3
  refine WL.nil ?_
  refine th_norm ?_
  refine hx_ret ?_
  refine fin_ret [.tmp 4] rfl rfl (by simp only [EN, Nat.reduceEqDiff, reduceIte, resv, e0, e1, hB1.cell, hB2.cell]; rfl) ?_  -- ret 0 r1
  exact ⟨rfl, ((hx1).trans ((hx2).trans (hx3)))⟩
theorem c_later (d m d2 m2 : Int) (h : Heap) : HCalls Try.prog 47 #[iV d, iV m, iV d2, iV m2] h (Pure (.bool (decide (ltr d m d2 m2))) h) := by
  refine hcalls2 Try.func47 rfl (by decide +kernel) (by simp only [Try.ntmps47]; exact of_decide_eq_true rfl) ?_
  intro e hin
  have e0 := hin 0 _ rfl
  have e1 := hin 1 _ rfl
  have e2 := hin 2 _ rfl
  have e3 := hin 3 _ rfl
  refine hx_seq ?_
  refine hx_region ?_
  refine WL.qq (by simp only [EN, Nat.reduceEqDiff, reduceIte, qv_assign]; rfl) ?_
  refine WL.nil ?_
  refine th_norm ?_
  refine hx_seq ?_
  refine hx_region ?_
  refine WL.qq (by simp only [EN, Nat.reduceEqDiff, reduceIte, qv_move, e0]; rfl) ?_
  refine WL.qq (by simp only [EN, Nat.reduceEqDiff, reduceIte, qv_move, e2]; rfl) ?_
  refine WL.qq (by simp only [EN, Nat.reduceEqDiff, reduceIte, qv_binOp, binv_lss]; rfl) ?_
  refine WL.qq (by simp only [EN, Nat.reduceEqDiff, reduceIte, qv_move]; rfl) ?_
  refine WL.cq (gd_at (t := 12) rfl (by simp only [EN, Nat.reduceEqDiff, reduceIte, e0] <;> rfl)) (fun hg1_4 => by simp only [EN, Nat.reduceEqDiff, reduceIte, qv_move, e0, hg1_4, GR]; rfl) ?_
  refine WL.cq (gd_at (t := 12) rfl (by simp only [EN, Nat.reduceEqDiff, reduceIte, e2] <;> rfl)) (fun hg1_5 => by simp only [EN, Nat.reduceEqDiff, reduceIte, qv_move, e2, hg1_5, GR]; rfl) ?_
  refine WL.cq (gd_at (t := 12) rfl (by simp only [EN, Nat.reduceEqDiff, reduceIte] <;> rfl)) (fun hg1_6 => by simp only [EN, Nat.reduceEqDiff, reduceIte, qv_binOp, binv_eql, eq3, Option.map_some, hg1_6, GR]; rfl) ?_
  refine WL.cq (gd_at (t := 12) rfl (by simp only [EN, Nat.reduceEqDiff, reduceIte] <;> rfl)) (fun hg1_7 => by simp only [EN, Nat.reduceEqDiff, reduceIte, qv_move, hg1_7, GR]; rfl) ?_
  refine WL.cq2 (t := 16) rfl (by simp only [EN, Nat.reduceEqDiff, reduceIte, e1]; rfl) (fun hC1_8 hg1_8 => by simp only [EN, Nat.reduceEqDiff, reduceIte, qv_move, e1, hC1_8, hg1_8, GR]; rfl) ?_
  refine WL.cq2 (t := 16) rfl (by simp only [EN, Nat.reduceEqDiff, reduceIte, e3]; rfl) (fun hC1_9 hg1_9 => by simp only [EN, Nat.reduceEqDiff, reduceIte, qv_move, e3, hC1_9, hg1_9, GR]; rfl) ?_
  refine WL.cq2 (t := 16) rfl (by simp only [EN, Nat.reduceEqDiff, reduceIte]; rfl) (fun hC1_10 hg1_10 => by have hC1_10o := hC1_10; (try simp only [hg1_10] at hC1_10); simp only [EN, Nat.reduceEqDiff, reduceIte, qv_binOp, binv_lss, hC1_10o, hC1_10, hg1_10, GR]; rfl) ?_
  refine WL.cq (gd_at (t := 12) rfl (by simp only [EN, Nat.reduceEqDiff, reduceIte] <;> rfl)) (fun hg1_11 => by simp only [EN, Nat.reduceEqDiff, reduceIte, qv_pick, pk_and, pk_or, GR, hg1_11, GR]; rfl) ?_
  refine WL.qq (by simp only [EN, Nat.reduceEqDiff, reduceIte, qv_pick, pk_and, pk_or, GR]; rfl) ?_
  refine WL.qq (by simp only [EN, Nat.reduceEqDiff, reduceIte, qv_assign]; rfl) ?_
  refine WL.nil ?_
  refine th_norm ?_
  refine hx_ret ?_
  refine fin_ret [.tmp 8] rfl rfl (by simp only [EN, Nat.reduceEqDiff, reduceIte, resv, e0, e1, e2, e3]; rfl) ?_  -- ret 0 r1
  refine ⟨?_, rfl⟩
  simp only [retOf]
  congr 1
  rw [Bool.eq_iff_iff]
  simp only [Bool.and_eq_true, Bool.or_eq_true, decide_eq_true_eq]
  rfl
theorem c_account (x : AC) (h : Heap) : HCalls Try.prog 17 #[acV x] h (Grow (acV x) h) := by
  refine hcalls2 Try.func17 rfl (by decide +kernel) (by simp only [Try.ntmps17]; exact of_decide_eq_true rfl) ?_
  intro e hin
  have e0 := hin 0 _ rfl
  have hE : Ext h h := Ext.refl h
  refine hx_seq ?_
  refine hx_region ?_
  refine WL.box2 (by simp only [EN, Nat.reduceEqDiff, reduceIte, Value.cells, e0]; rfl) ?_
  intro h1 B1 hx1 hlt1 hB1
  replace hE := hE.trans hx1
  refine WL.alloc2 zr35 ?_
  intro h2 B2 hx2 hlt2 hB2
  have hne1_2 : B2 ≠ B1 := by have := (Array.getElem?_eq_some_iff.1 hB1).1; omega
  have hb0_2 := Nat.le_trans hE.size hlt2
  have hB1_s2 := hB1
  replace hE := hE.trans hx2
  replace hB1 := hB1.ext hx2
  have hEo2 := hx2
  simp only [Value.cells] at hB2
  refine WL.nil ?_
  refine th_norm ?_
  refine hx_seq ?_
  refine hx_region ?_
  refine WL.qq (by simp only [EN, Nat.reduceEqDiff, reduceIte, qv_fieldAddr, fa24_0, Nat.zero_add, Nat.reduceAdd, hB1.cell, hB2.cell]; rfl) ?_
  refine WL.qq (by simp only [EN, Nat.reduceEqDiff, reduceIte, qv_load, ld9, readN, AR, Nat.zero_add, Nat.reduceAdd, hB1.cell, hB2.cell]; rfl) ?_
  refine WL.qq (by simp only [EN, Nat.reduceEqDiff, reduceIte, qv_fieldAddr, fa24_1, Nat.zero_add, Nat.reduceAdd, hB1.cell, hB2.cell]; rfl) ?_
  refine WL.qq (by simp only [EN, Nat.reduceEqDiff, reduceIte, qv_load, ld3, readN, AR, Nat.zero_add, Nat.reduceAdd, hB1.cell, hB2.cell]; rfl) ?_
  refine WL.qq (by simp only [EN, Nat.reduceEqDiff, reduceIte, qv_fieldAddr, fa24_2, Nat.zero_add, Nat.reduceAdd, hB1.cell, hB2.cell]; rfl) ?_
  refine WL.qq (by simp only [EN, Nat.reduceEqDiff, reduceIte, qv_load, ld9, readN, AR, Nat.zero_add, Nat.reduceAdd, hB1.cell, hB2.cell]; rfl) ?_
  refine WL.qq (by refine qv_bld (by simp only [EN, Nat.reduceEqDiff, reduceIte, AR, hB1.cell, hB2.cell] <;> rfl) (by rw [bl35]; simp [Instr.fill, Value.cells]; rfl)) ?_
  refine WL.store (by simp only [EN, Nat.reduceEqDiff, reduceIte, hB1.cell, hB2.cell] <;> rfl) sz35 (by simp only [EN, Nat.reduceEqDiff, reduceIte, Value.cells, hB1.cell, hB2.cell] <;> rfl) rfl hB2 (by first | decide | (simp; done) | (simp; omega)) (by simp [Value.oneCell']) ?_
  intro h3 hw3
  replace hE := hw3.ext hE hb0_2
  replace hEo2 := hw3.ext hEo2 hlt2
  replace hB1 := hB1_s2.ext hEo2
  replace hB2 := hw3.at_
  try simp only [splc, List.take_succ_cons, List.take_zero, List.take_nil, List.drop_succ_cons, List.drop_zero, List.drop_nil, List.cons_append, List.nil_append, List.length_cons, List.length_nil, Nat.zero_add, Nat.add_zero, Nat.reduceAdd, List.append_nil] at hB2
  refine WL.nil ?_
  refine th_norm ?_
  refine hx_ret ?_
  refine fin_ret [.cell 2 35] rfl rfl (by simp only [EN, Nat.reduceEqDiff, reduceIte, resv, ld35, readN, AR, Nat.zero_add, Nat.reduceAdd, e0, hB1.cell, hB2.cell]; rfl) ?_  -- ret 0 r1
  exact ⟨rfl, hE⟩
/-! Wide sums. -/
abbrev wV (s : Int) : Value := .agg #[iV (s / 1000000), iV (s % 1000000)]
theorem quo_rem (d : Int) (h1 : -1000000000000000 ≤ d ∧ d ≤ 1000000000000000) : ∃ q r : Int, d.tdiv 1000000 = q ∧ d.tmod 1000000 = r ∧ d = 1000000 * q + r ∧ -1000000 < r ∧ r < 1000000 := by
  refine ⟨_, _, rfl, rfl, ?_, ?_, ?_⟩
  · exact (Int.mul_tdiv_add_tmod d 1000000).symm
  · have := Int.lt_tmod_of_pos d (b := 1000000) (by decide); simpa using this
  · exact Int.tmod_lt_of_pos d (by decide)
theorem c_plus (s d : Int) (hs : -4000000000000000000 ≤ s ∧ s ≤ 4000000000000000000) (hd : inR d) (h : Heap) : HCalls Try.prog 66 #[wV s, iV d] h (Grow (wV (s + d)) h) := by
  obtain ⟨q, r, hq, hr, hqr, hr1, hr2⟩ := quo_rem d hd
  have hd1 := hd.1; have hd2 := hd.2
  simp only [MA] at hd1 hd2
  refine hcalls2 Try.func66 rfl (by decide +kernel) (by simp only [Try.ntmps66]; exact of_decide_eq_true rfl) ?_
  intro e hin
  have e0 := hin 0 _ rfl
  have e1 := hin 1 _ rfl
  have hE : Ext h h := Ext.refl h
  refine hx_seq ?_
  refine hx_region ?_
  refine WL.box2 (by simp only [EN, Nat.reduceEqDiff, reduceIte, Value.cells, e0]; rfl) ?_
  intro h1 B1 hx1 hlt1 hB1
  have hb0_1 := Nat.le_trans hE.size hlt1
  replace hE := hE.trans hx1
  have hEo1 := hx1
  refine WL.alloc2 zr95 ?_
  intro h2 B2 hx2 hlt2 hB2
  have hne1_2 : B2 ≠ B1 := by have := (Array.getElem?_eq_some_iff.1 hB1).1; omega
  have hb0_2 := Nat.le_trans hE.size hlt2
  have hbo1_2 := Nat.le_trans hEo1.size hlt2
  have hB1_s2 := hB1
  replace hE := hE.trans hx2
  replace hEo1 := hEo1.trans hx2
  replace hB1 := hB1.ext hx2
  have hEo2 := hx2
  simp only [Value.cells] at hB2
  refine WL.nil ?_
  refine th_norm ?_
  refine hx_seq ?_
  refine hx_region ?_
  refine WL.qq (by simp only [EN, Nat.reduceEqDiff, reduceIte, qv_fieldAddr, fa95_0, Nat.zero_add, Nat.reduceAdd, hB1.cell, hB2.cell]; rfl) ?_
  refine WL.qq (by simp only [EN, Nat.reduceEqDiff, reduceIte, qv_load, ld2, readN, AR, Nat.zero_add, Nat.reduceAdd, hB1.cell, hB2.cell]; rfl) ?_
  refine WL.qq (by simp only [EN, Nat.reduceEqDiff, reduceIte, qv_move, e1, hB1.cell, hB2.cell]; rfl) ?_
  refine WL.qq (by simp only [EN, Nat.reduceEqDiff, reduceIte, e0, e1, hB1.cell, hB2.cell, qv_binOp]; (simp (disch := omega) only [binv_quo, w64]); rw [hq]) ?_
  refine WL.qq (by simp only [EN, Nat.reduceEqDiff, reduceIte, qv_binOp, binv_add, hB1.cell, hB2.cell]; (try simp (disch := omega) only [w64, w8, wu64]); rfl) ?_
  refine WL.qq (by simp only [EN, Nat.reduceEqDiff, reduceIte, qv_fieldAddr, fa95_1, Nat.zero_add, Nat.reduceAdd, hB1.cell, hB2.cell]; rfl) ?_
  refine WL.qq (by simp only [EN, Nat.reduceEqDiff, reduceIte, qv_load, ld2, readN, AR, Nat.zero_add, Nat.reduceAdd, hB1.cell, hB2.cell]; rfl) ?_
  refine WL.qq (by simp only [EN, Nat.reduceEqDiff, reduceIte, qv_move, e1, hB1.cell, hB2.cell]; rfl) ?_
  refine WL.qq (by simp only [EN, Nat.reduceEqDiff, reduceIte, e0, e1, hB1.cell, hB2.cell, qv_binOp]; (simp (disch := omega) only [binv_rem, w64]); rw [hr]) ?_
  refine WL.qq (by simp only [EN, Nat.reduceEqDiff, reduceIte, qv_binOp, binv_add, hB1.cell, hB2.cell]; (try simp (disch := omega) only [w64, w8, wu64]); rfl) ?_
  refine WL.qq (by simp only [EN, Nat.reduceEqDiff, reduceIte, qv_fieldAddr, fa95_0, Nat.zero_add, Nat.reduceAdd, hB1.cell, hB2.cell]; rfl) ?_
  refine WL.store (by simp only [EN, Nat.reduceEqDiff, reduceIte, hB1.cell, hB2.cell] <;> rfl) sz2 (by simp only [EN, Nat.reduceEqDiff, reduceIte, Value.cells, hB1.cell, hB2.cell] <;> rfl) rfl hB1 (by first | decide | (simp; done) | (simp; omega)) (by simp [Value.oneCell']) ?_
  intro h3 hw3
  replace hE := hw3.ext hE hb0_1
  replace hEo1 := hw3.ext hEo1 hlt1
  replace hB2 := hB2.wr hw3 hne1_2
  replace hB1 := hw3.at_
  try simp only [splc, List.take_succ_cons, List.take_zero, List.take_nil, List.drop_succ_cons, List.drop_zero, List.drop_nil, List.cons_append, List.nil_append, List.length_cons, List.length_nil, Nat.zero_add, Nat.add_zero, Nat.reduceAdd, List.append_nil] at hB1
  refine WL.qq (by simp only [EN, Nat.reduceEqDiff, reduceIte, qv_fieldAddr, fa95_1, Nat.zero_add, Nat.reduceAdd, hB1.cell, hB2.cell]; rfl) ?_
  refine WL.store (by simp only [EN, Nat.reduceEqDiff, reduceIte, hB1.cell, hB2.cell] <;> rfl) sz2 (by simp only [EN, Nat.reduceEqDiff, reduceIte, Value.cells, hB1.cell, hB2.cell] <;> rfl) rfl hB1 (by first | decide | (simp; done) | (simp; omega)) (by simp [Value.oneCell']) ?_
  intro h4 hw4
  replace hE := hw4.ext hE hb0_1
  replace hEo1 := hw4.ext hEo1 hlt1
  replace hB2 := hB2.wr hw4 hne1_2
  replace hB1 := hw4.at_
  try simp only [splc, List.take_succ_cons, List.take_zero, List.take_nil, List.drop_succ_cons, List.drop_zero, List.drop_nil, List.cons_append, List.nil_append, List.length_cons, List.length_nil, Nat.zero_add, Nat.add_zero, Nat.reduceAdd, List.append_nil] at hB1
  refine WL.nil ?_
  refine th_norm ?_
  refine hx_seq ?_
  refine hx_block ?_
  refine hx_seq ?_
  refine hx_region ?_
  refine WL.qq (by simp only [EN, Nat.reduceEqDiff, reduceIte, qv_fieldAddr, fa95_1, Nat.zero_add, Nat.reduceAdd, hB1.cell, hB2.cell]; rfl) ?_
  refine WL.qq (by simp only [EN, Nat.reduceEqDiff, reduceIte, qv_load, ld2, readN, AR, Nat.zero_add, Nat.reduceAdd, hB1.cell, hB2.cell]; rfl) ?_
  refine WL.qq (by simp only [EN, Nat.reduceEqDiff, reduceIte, qv_binOp, binv_lss, hB1.cell, hB2.cell]; rfl) ?_
  refine WL.qq (by simp only [EN, Nat.reduceEqDiff, reduceIte, qv_assign, hB1.cell, hB2.cell]; rfl) ?_
  refine WL.nil ?_
  refine th_norm ?_
  refine hx_cond (by simp only [EN, Nat.reduceEqDiff, reduceIte, hB1.cell, hB2.cell]; rfl) (fun hct17 => ?_) (fun hct17 => ?_)
  ·
    try simp only [BD] at hct17
    refine hx_region ?_
    refine WL.qq (by simp only [EN, Nat.reduceEqDiff, reduceIte, qv_fieldAddr, fa95_0, Nat.zero_add, Nat.reduceAdd, hB1.cell, hB2.cell]; rfl) ?_
    refine WL.qq (by simp only [EN, Nat.reduceEqDiff, reduceIte, qv_load, ld2, readN, AR, Nat.zero_add, Nat.reduceAdd, hB1.cell, hB2.cell]; rfl) ?_
    refine WL.qq (by simp only [EN, Nat.reduceEqDiff, reduceIte, qv_binOp, binv_sub, hB1.cell, hB2.cell]; (try simp (disch := omega) only [w64, w8, wu64]); rfl) ?_
    refine WL.qq (by simp only [EN, Nat.reduceEqDiff, reduceIte, qv_fieldAddr, fa95_1, Nat.zero_add, Nat.reduceAdd, hB1.cell, hB2.cell]; rfl) ?_
    refine WL.qq (by simp only [EN, Nat.reduceEqDiff, reduceIte, qv_load, ld2, readN, AR, Nat.zero_add, Nat.reduceAdd, hB1.cell, hB2.cell]; rfl) ?_
    refine WL.qq (by simp only [EN, Nat.reduceEqDiff, reduceIte, qv_binOp, binv_add, hB1.cell, hB2.cell]; (try simp (disch := omega) only [w64, w8, wu64]); rfl) ?_
    refine WL.qq (by simp only [EN, Nat.reduceEqDiff, reduceIte, qv_fieldAddr, fa95_0, Nat.zero_add, Nat.reduceAdd, hB1.cell, hB2.cell]; rfl) ?_
    refine WL.store (by simp only [EN, Nat.reduceEqDiff, reduceIte, hB1.cell, hB2.cell] <;> rfl) sz2 (by simp only [EN, Nat.reduceEqDiff, reduceIte, Value.cells, hB1.cell, hB2.cell] <;> rfl) rfl hB1 (by first | decide | (simp; done) | (simp; omega)) (by simp [Value.oneCell']) ?_
    intro h5 hw5
    replace hE := hw5.ext hE hb0_1
    replace hEo1 := hw5.ext hEo1 hlt1
    replace hB2 := hB2.wr hw5 hne1_2
    replace hB1 := hw5.at_
    try simp only [splc, List.take_succ_cons, List.take_zero, List.take_nil, List.drop_succ_cons, List.drop_zero, List.drop_nil, List.cons_append, List.nil_append, List.length_cons, List.length_nil, Nat.zero_add, Nat.add_zero, Nat.reduceAdd, List.append_nil] at hB1
    refine WL.qq (by simp only [EN, Nat.reduceEqDiff, reduceIte, qv_fieldAddr, fa95_1, Nat.zero_add, Nat.reduceAdd, hB1.cell, hB2.cell]; rfl) ?_
    refine WL.store (by simp only [EN, Nat.reduceEqDiff, reduceIte, hB1.cell, hB2.cell] <;> rfl) sz2 (by simp only [EN, Nat.reduceEqDiff, reduceIte, Value.cells, hB1.cell, hB2.cell] <;> rfl) rfl hB1 (by first | decide | (simp; done) | (simp; omega)) (by simp [Value.oneCell']) ?_
    intro h6 hw6
    replace hE := hw6.ext hE hb0_1
    replace hEo1 := hw6.ext hEo1 hlt1
    replace hB2 := hB2.wr hw6 hne1_2
    replace hB1 := hw6.at_
    try simp only [splc, List.take_succ_cons, List.take_zero, List.take_nil, List.drop_succ_cons, List.drop_zero, List.drop_nil, List.cons_append, List.nil_append, List.length_cons, List.length_nil, Nat.zero_add, Nat.add_zero, Nat.reduceAdd, List.append_nil] at hB1
    refine WL.nil ?_
    refine bl_norm ?_
    refine th_norm ?_
    refine hx_seq ?_
    refine hx_region ?_
    refine WL.qq (by simp only [EN, Nat.reduceEqDiff, reduceIte, qv_load, ld95, readN, AR, Nat.zero_add, Nat.reduceAdd, hB1.cell, hB2.cell]; rfl) ?_
    refine WL.store (by simp only [EN, Nat.reduceEqDiff, reduceIte, hB1.cell, hB2.cell] <;> rfl) sz95 (by simp only [EN, Nat.reduceEqDiff, reduceIte, Value.cells, hB1.cell, hB2.cell] <;> rfl) rfl hB2 (by first | decide | (simp; done) | (simp; omega)) (by simp [Value.oneCell']) ?_
    intro h7 hw7
    replace hE := hw7.ext hE hb0_2
    replace hEo1 := hw7.ext hEo1 hbo1_2
    replace hB1 := hB1.wr hw7 (Ne.symm hne1_2)
    replace hB2 := hw7.at_
    try simp only [splc, List.take_succ_cons, List.take_zero, List.take_nil, List.drop_succ_cons, List.drop_zero, List.drop_nil, List.cons_append, List.nil_append, List.length_cons, List.length_nil, Nat.zero_add, Nat.add_zero, Nat.reduceAdd, List.append_nil] at hB2
    refine WL.nil ?_
    refine th_norm ?_
    refine hx_ret ?_
    refine fin_ret [.cell 4 95] rfl rfl (by simp only [EN, Nat.reduceEqDiff, reduceIte, resv, ld95, readN, AR, Nat.zero_add, Nat.reduceAdd, e0, e1, hB1.cell, hB2.cell]; rfl) ?_  -- ret 0 r6
    exact ⟨by simp only [retOf, iV]; congr 3 <;> (try congr 2) <;> (try congr 1) <;> omega, hE⟩
  ·
    try simp only [BD] at hct17
    refine hx_seq ?_
    refine hx_region ?_
    refine WL.qq (by simp only [EN, Nat.reduceEqDiff, reduceIte, qv_fieldAddr, fa95_1, Nat.zero_add, Nat.reduceAdd, hB1.cell, hB2.cell]; rfl) ?_
    refine WL.qq (by simp only [EN, Nat.reduceEqDiff, reduceIte, qv_load, ld2, readN, AR, Nat.zero_add, Nat.reduceAdd, hB1.cell, hB2.cell]; rfl) ?_
    refine WL.qq (by simp only [EN, Nat.reduceEqDiff, reduceIte, qv_binOp, binv_geq, hB1.cell, hB2.cell]; rfl) ?_
    refine WL.qq (by simp only [EN, Nat.reduceEqDiff, reduceIte, qv_assign, hB1.cell, hB2.cell]; rfl) ?_
    refine WL.nil ?_
    refine th_norm ?_
    refine hx_cond (by simp only [EN, Nat.reduceEqDiff, reduceIte, hB1.cell, hB2.cell]; rfl) (fun hct29 => ?_) (fun hct29 => ?_)
    ·
      try simp only [BD] at hct29
      refine hx_region ?_
      refine WL.qq (by simp only [EN, Nat.reduceEqDiff, reduceIte, qv_fieldAddr, fa95_0, Nat.zero_add, Nat.reduceAdd, hB1.cell, hB2.cell]; rfl) ?_
      refine WL.qq (by simp only [EN, Nat.reduceEqDiff, reduceIte, qv_load, ld2, readN, AR, Nat.zero_add, Nat.reduceAdd, hB1.cell, hB2.cell]; rfl) ?_
      refine WL.qq (by simp only [EN, Nat.reduceEqDiff, reduceIte, qv_binOp, binv_add, hB1.cell, hB2.cell]; (try simp (disch := omega) only [w64, w8, wu64]); rfl) ?_
      refine WL.qq (by simp only [EN, Nat.reduceEqDiff, reduceIte, qv_fieldAddr, fa95_1, Nat.zero_add, Nat.reduceAdd, hB1.cell, hB2.cell]; rfl) ?_
      refine WL.qq (by simp only [EN, Nat.reduceEqDiff, reduceIte, qv_load, ld2, readN, AR, Nat.zero_add, Nat.reduceAdd, hB1.cell, hB2.cell]; rfl) ?_
      refine WL.qq (by simp only [EN, Nat.reduceEqDiff, reduceIte, qv_binOp, binv_sub, hB1.cell, hB2.cell]; (try simp (disch := omega) only [w64, w8, wu64]); rfl) ?_
      refine WL.qq (by simp only [EN, Nat.reduceEqDiff, reduceIte, qv_fieldAddr, fa95_0, Nat.zero_add, Nat.reduceAdd, hB1.cell, hB2.cell]; rfl) ?_
      refine WL.store (by simp only [EN, Nat.reduceEqDiff, reduceIte, hB1.cell, hB2.cell] <;> rfl) sz2 (by simp only [EN, Nat.reduceEqDiff, reduceIte, Value.cells, hB1.cell, hB2.cell] <;> rfl) rfl hB1 (by first | decide | (simp; done) | (simp; omega)) (by simp [Value.oneCell']) ?_
      intro h8 hw8
      replace hE := hw8.ext hE hb0_1
      replace hEo1 := hw8.ext hEo1 hlt1
      replace hB2 := hB2.wr hw8 hne1_2
      replace hB1 := hw8.at_
      try simp only [splc, List.take_succ_cons, List.take_zero, List.take_nil, List.drop_succ_cons, List.drop_zero, List.drop_nil, List.cons_append, List.nil_append, List.length_cons, List.length_nil, Nat.zero_add, Nat.add_zero, Nat.reduceAdd, List.append_nil] at hB1
      refine WL.qq (by simp only [EN, Nat.reduceEqDiff, reduceIte, qv_fieldAddr, fa95_1, Nat.zero_add, Nat.reduceAdd, hB1.cell, hB2.cell]; rfl) ?_
      refine WL.store (by simp only [EN, Nat.reduceEqDiff, reduceIte, hB1.cell, hB2.cell] <;> rfl) sz2 (by simp only [EN, Nat.reduceEqDiff, reduceIte, Value.cells, hB1.cell, hB2.cell] <;> rfl) rfl hB1 (by first | decide | (simp; done) | (simp; omega)) (by simp [Value.oneCell']) ?_
      intro h9 hw9
      replace hE := hw9.ext hE hb0_1
      replace hEo1 := hw9.ext hEo1 hlt1
      replace hB2 := hB2.wr hw9 hne1_2
      replace hB1 := hw9.at_
      try simp only [splc, List.take_succ_cons, List.take_zero, List.take_nil, List.drop_succ_cons, List.drop_zero, List.drop_nil, List.cons_append, List.nil_append, List.length_cons, List.length_nil, Nat.zero_add, Nat.add_zero, Nat.reduceAdd, List.append_nil] at hB1
      refine WL.nil ?_
      refine bl_norm ?_
      refine th_norm ?_
      refine hx_seq ?_
      refine hx_region ?_
      refine WL.qq (by simp only [EN, Nat.reduceEqDiff, reduceIte, qv_load, ld95, readN, AR, Nat.zero_add, Nat.reduceAdd, hB1.cell, hB2.cell]; rfl) ?_
      refine WL.store (by simp only [EN, Nat.reduceEqDiff, reduceIte, hB1.cell, hB2.cell] <;> rfl) sz95 (by simp only [EN, Nat.reduceEqDiff, reduceIte, Value.cells, hB1.cell, hB2.cell] <;> rfl) rfl hB2 (by first | decide | (simp; done) | (simp; omega)) (by simp [Value.oneCell']) ?_
      intro h10 hw10
      replace hE := hw10.ext hE hb0_2
      replace hEo1 := hw10.ext hEo1 hbo1_2
      replace hB1 := hB1.wr hw10 (Ne.symm hne1_2)
      replace hB2 := hw10.at_
      try simp only [splc, List.take_succ_cons, List.take_zero, List.take_nil, List.drop_succ_cons, List.drop_zero, List.drop_nil, List.cons_append, List.nil_append, List.length_cons, List.length_nil, Nat.zero_add, Nat.add_zero, Nat.reduceAdd, List.append_nil] at hB2
      refine WL.nil ?_
      refine th_norm ?_
      refine hx_ret ?_
      refine fin_ret [.cell 4 95] rfl rfl (by simp only [EN, Nat.reduceEqDiff, reduceIte, resv, ld95, readN, AR, Nat.zero_add, Nat.reduceAdd, e0, e1, hB1.cell, hB2.cell]; rfl) ?_  -- ret 1 r6
      exact ⟨by simp only [retOf, iV]; congr 3 <;> (try congr 2) <;> (try congr 1) <;> omega, hE⟩
    ·
      try simp only [BD] at hct29
      refine hx_skip ?_
      refine bl_norm ?_
      refine th_norm ?_
      refine hx_seq ?_
      refine hx_region ?_
      refine WL.qq (by simp only [EN, Nat.reduceEqDiff, reduceIte, qv_load, ld95, readN, AR, Nat.zero_add, Nat.reduceAdd, hB1.cell, hB2.cell]; rfl) ?_
      refine WL.store (by simp only [EN, Nat.reduceEqDiff, reduceIte, hB1.cell, hB2.cell] <;> rfl) sz95 (by simp only [EN, Nat.reduceEqDiff, reduceIte, Value.cells, hB1.cell, hB2.cell] <;> rfl) rfl hB2 (by first | decide | (simp; done) | (simp; omega)) (by simp [Value.oneCell']) ?_
      intro h11 hw11
      replace hE := hw11.ext hE hb0_2
      replace hEo1 := hw11.ext hEo1 hbo1_2
      replace hB1 := hB1.wr hw11 (Ne.symm hne1_2)
      replace hB2 := hw11.at_
      try simp only [splc, List.take_succ_cons, List.take_zero, List.take_nil, List.drop_succ_cons, List.drop_zero, List.drop_nil, List.cons_append, List.nil_append, List.length_cons, List.length_nil, Nat.zero_add, Nat.add_zero, Nat.reduceAdd, List.append_nil] at hB2
      refine WL.nil ?_
      refine th_norm ?_
      refine hx_ret ?_
      refine fin_ret [.cell 4 95] rfl rfl (by simp only [EN, Nat.reduceEqDiff, reduceIte, resv, ld95, readN, AR, Nat.zero_add, Nat.reduceAdd, e0, e1, hB1.cell, hB2.cell]; rfl) ?_  -- ret 2 r6
      exact ⟨by simp only [retOf, iV]; congr 3 <;> (try congr 2) <;> (try congr 1) <;> omega, hE⟩
def isAm (s : Int) : Bool := decide (inR s)
theorem c_isAm (s : Int) (h : Heap) : HCalls Try.prog 76 #[wV s] h (Grow (.bool (isAm s)) h) := by
  refine hcalls2 Try.func76 rfl (by decide +kernel) (by simp only [Try.ntmps76]; exact of_decide_eq_true rfl) ?_
  intro e hin
  have e0 := hin 0 _ rfl
  refine hx_seq ?_
  refine hx_region ?_
  refine WL.box2 (by simp only [EN, Nat.reduceEqDiff, reduceIte, Value.cells, e0]; rfl) ?_
  intro h1 B1 hx1 hlt1 hB1
  refine WL.qq (by simp only [EN, Nat.reduceEqDiff, reduceIte, qv_assign, hB1.cell]; rfl) ?_
  refine WL.nil ?_
  refine th_norm ?_
  refine hx_seq ?_
  refine hx_region ?_
  refine WL.qq (by simp only [EN, Nat.reduceEqDiff, reduceIte, qv_fieldAddr, fa95_0, Nat.zero_add, Nat.reduceAdd, hB1.cell]; rfl) ?_
  refine WL.qq (by simp only [EN, Nat.reduceEqDiff, reduceIte, qv_load, ld2, readN, AR, Nat.zero_add, Nat.reduceAdd, hB1.cell]; rfl) ?_
  refine WL.qq (by simp only [EN, Nat.reduceEqDiff, reduceIte, qv_binOp, binv_geq, hB1.cell]; rfl) ?_
  refine WL.qq (by simp only [EN, Nat.reduceEqDiff, reduceIte, qv_move, hB1.cell]; rfl) ?_
  refine WL.cq (gd_at (t := 6) rfl (by simp only [EN, Nat.reduceEqDiff, reduceIte, hB1.cell] <;> rfl)) (fun hg1_4 => by simp only [EN, Nat.reduceEqDiff, reduceIte, qv_fieldAddr, fa95_0, Nat.zero_add, Nat.reduceAdd, hB1.cell, hg1_4, GR]; rfl) ?_
  refine WL.cq (gd_at (t := 6) rfl (by simp only [EN, Nat.reduceEqDiff, reduceIte, hB1.cell] <;> rfl)) (fun hg1_5 => by simp only [EN, Nat.reduceEqDiff, reduceIte, qv_load, ld2, readN, AR, Nat.zero_add, Nat.reduceAdd, hB1.cell, hg1_5, GR]; rfl) ?_
  refine WL.cq (gd_at (t := 6) rfl (by simp only [EN, Nat.reduceEqDiff, reduceIte, hB1.cell] <;> rfl)) (fun hg1_6 => by simp only [EN, Nat.reduceEqDiff, reduceIte, qv_binOp, binv_lss, hB1.cell, hg1_6, GR]; rfl) ?_
  refine WL.cq (gd_at (t := 6) rfl (by simp only [EN, Nat.reduceEqDiff, reduceIte, hB1.cell] <;> rfl)) (fun hg1_7 => by simp only [EN, Nat.reduceEqDiff, reduceIte, qv_move, hB1.cell, hg1_7, GR]; rfl) ?_
  refine WL.cq2 (t := 10) rfl (by simp only [EN, Nat.reduceEqDiff, reduceIte, hB1.cell]; rfl) (fun hC1_8 hg1_8 => by simp only [EN, Nat.reduceEqDiff, reduceIte, qv_fieldAddr, fa95_0, Nat.zero_add, Nat.reduceAdd, hB1.cell, hC1_8, hg1_8, GR]; rfl) ?_
  refine WL.cq2 (t := 10) rfl (by simp only [EN, Nat.reduceEqDiff, reduceIte, hB1.cell]; rfl) (fun hC1_9 hg1_9 => by simp only [EN, Nat.reduceEqDiff, reduceIte, qv_load, ld2, readN, AR, Nat.zero_add, Nat.reduceAdd, hB1.cell, hC1_9, hg1_9, GR]; rfl) ?_
  refine WL.cq2 (t := 10) rfl (by simp only [EN, Nat.reduceEqDiff, reduceIte, hB1.cell]; rfl) (fun hC1_10 hg1_10 => by have hC1_10o := hC1_10; (try simp only [hg1_10] at hC1_10); simp only [EN, Nat.reduceEqDiff, reduceIte, qv_binOp, binv_eql, eq2, Option.map_some, hB1.cell, hC1_10o, hC1_10, hg1_10, GR]; rfl) ?_
  refine WL.cq2 (t := 10) rfl (by simp only [EN, Nat.reduceEqDiff, reduceIte, hB1.cell]; rfl) (fun hC1_11 hg1_11 => by simp only [EN, Nat.reduceEqDiff, reduceIte, qv_move, hB1.cell, hC1_11, hg1_11, GR]; rfl) ?_
  refine WL.cq2 (t := 14) rfl (by simp only [EN, Nat.reduceEqDiff, reduceIte, hB1.cell]; rfl) (fun hC1_12 hg1_12 => by simp only [EN, Nat.reduceEqDiff, reduceIte, qv_fieldAddr, fa95_1, Nat.zero_add, Nat.reduceAdd, hB1.cell, hC1_12, hg1_12, GR]; rfl) ?_
  refine WL.cq2 (t := 14) rfl (by simp only [EN, Nat.reduceEqDiff, reduceIte, hB1.cell]; rfl) (fun hC1_13 hg1_13 => by simp only [EN, Nat.reduceEqDiff, reduceIte, qv_load, ld2, readN, AR, Nat.zero_add, Nat.reduceAdd, hB1.cell, hC1_13, hg1_13, GR]; rfl) ?_
  refine WL.cq2 (t := 14) rfl (by simp only [EN, Nat.reduceEqDiff, reduceIte, hB1.cell]; rfl) (fun hC1_14 hg1_14 => by have hC1_14o := hC1_14; (try simp only [hg1_14] at hC1_14); simp only [EN, Nat.reduceEqDiff, reduceIte, qv_binOp, binv_eql, eq2, Option.map_some, hB1.cell, hC1_14o, hC1_14, hg1_14, GR]; rfl) ?_
  refine WL.cq2 (t := 10) rfl (by simp only [EN, Nat.reduceEqDiff, reduceIte, hB1.cell]; rfl) (fun hC1_15 hg1_15 => by have hC1_15o := hC1_15; (try simp only [hg1_15] at hC1_15); simp only [EN, Nat.reduceEqDiff, reduceIte, qv_pick, pk_and, pk_or, GR, hB1.cell, hC1_15o, hC1_15, hg1_15, GR]; rfl) ?_
  refine WL.cq (gd_at (t := 6) rfl (by simp only [EN, Nat.reduceEqDiff, reduceIte, hB1.cell] <;> rfl)) (fun hg1_16 => by simp only [EN, Nat.reduceEqDiff, reduceIte, qv_pick, pk_and, pk_or, GR, hB1.cell, hg1_16, GR]; rfl) ?_
  refine WL.qq (by simp only [EN, Nat.reduceEqDiff, reduceIte, qv_pick, pk_and, pk_or, GR, hB1.cell]; rfl) ?_
  refine WL.qq (by simp only [EN, Nat.reduceEqDiff, reduceIte, qv_assign, hB1.cell]; rfl) ?_
  refine WL.nil ?_
  refine th_norm ?_
  refine hx_ret ?_
  refine fin_ret [.tmp 2] rfl rfl (by simp only [EN, Nat.reduceEqDiff, reduceIte, resv, e0, hB1.cell]; rfl) ?_  -- ret 0 r1
  refine ⟨?_, (hx1)⟩
  simp only [retOf, isAm]
  congr 1
  rw [Bool.eq_iff_iff]
  simp only [Bool.and_eq_true, Bool.or_eq_true, decide_eq_true_eq]
  simp only [inR, MA]
  omega
theorem c_value (s : Int) (hs : -9000000000000000000 ≤ s ∧ s ≤ 9000000000000000000) (h : Heap) : HCalls Try.prog 43 #[wV s] h (Grow (iV s) h) := by
  refine hcalls2 Try.func43 rfl (by decide +kernel) (by simp only [Try.ntmps43]; exact of_decide_eq_true rfl) ?_
  intro e hin
  have e0 := hin 0 _ rfl
  refine hx_seq ?_
  refine hx_region ?_
  refine WL.box2 (by simp only [EN, Nat.reduceEqDiff, reduceIte, Value.cells, e0]; rfl) ?_
  intro h1 B1 hx1 hlt1 hB1
  refine WL.qq (by simp only [EN, Nat.reduceEqDiff, reduceIte, qv_assign, hB1.cell]; rfl) ?_
  refine WL.nil ?_
  refine th_norm ?_
  refine hx_seq ?_
  refine hx_region ?_
  refine WL.qq (by simp only [EN, Nat.reduceEqDiff, reduceIte, qv_fieldAddr, fa95_0, Nat.zero_add, Nat.reduceAdd, hB1.cell]; rfl) ?_
  refine WL.qq (by simp only [EN, Nat.reduceEqDiff, reduceIte, qv_load, ld2, readN, AR, Nat.zero_add, Nat.reduceAdd, hB1.cell]; rfl) ?_
  refine WL.qq (by simp only [EN, Nat.reduceEqDiff, reduceIte, qv_binOp, binv_mul, hB1.cell]; (try simp (disch := omega) only [w64, w8, wu64]); rfl) ?_
  refine WL.qq (by simp only [EN, Nat.reduceEqDiff, reduceIte, qv_fieldAddr, fa95_1, Nat.zero_add, Nat.reduceAdd, hB1.cell]; rfl) ?_
  refine WL.qq (by simp only [EN, Nat.reduceEqDiff, reduceIte, qv_load, ld2, readN, AR, Nat.zero_add, Nat.reduceAdd, hB1.cell]; rfl) ?_
  refine WL.qq (by simp only [EN, Nat.reduceEqDiff, reduceIte, qv_binOp, binv_add, hB1.cell]; (try simp (disch := omega) only [w64, w8, wu64]); rfl) ?_
  refine WL.qq (by simp only [EN, Nat.reduceEqDiff, reduceIte, qv_assign, hB1.cell]; rfl) ?_
  refine WL.nil ?_
  refine th_norm ?_
  refine hx_ret ?_
  refine fin_ret [.tmp 2] rfl rfl (by simp only [EN, Nat.reduceEqDiff, reduceIte, resv, e0, hB1.cell]; rfl) ?_  -- ret 0 r1
  refine ⟨?_, (hx1)⟩
  simp only [retOf, iV]
  congr 1
  omega
/-! The postings of a bundle. -/
theorem pos_bd (x : BX) : pos x.bd = x.ps.flatMap PX.ps := by
  simp only [pos, BX.bd, List.flatMap_map]; rfl
def fl (x : BX) (i : Nat) : Nat := ((x.ps.take i).flatMap PX.ps).length
theorem fl_step {x : BX} {i : Nat} {p : PX} (h : x.ps[i]? = some p) : fl x (i + 1) = fl x i + p.ps.length := by
  unfold fl; rw [List.take_add_one, h]; simp
theorem fl_end {x : BX} {i : Nat} (h : x.ps.length ≤ i) : fl x i = (pos x.bd).length := by
  unfold fl; rw [List.take_of_length_le h, pos_bd]
theorem fl_at {x : BX} {i j : Nat} {p : PX} {y : PO} (h : x.ps[i]? = some p) (hj : p.ps[j]? = some y) : (pos x.bd)[fl x i + j]? = some y := by
  rw [pos_bd]
  have h1 : x.ps = x.ps.take i ++ p :: x.ps.drop (i + 1) := by
    rw [← drop_atG h, List.take_append_drop]
  have h2 : x.ps.flatMap PX.ps = (x.ps.take i).flatMap PX.ps ++ (p.ps ++ (x.ps.drop (i + 1)).flatMap PX.ps) := by
    conv => lhs; rw [h1]
    rw [List.flatMap_append, List.flatMap_cons]
  rw [h2]
  have h3 := (List.getElem?_eq_some_iff.1 hj).1
  unfold fl
  rw [List.getElem?_append_right (by omega), Nat.add_sub_cancel_left, List.getElem?_append_left h3]
  exact hj
theorem c_post (x : BX) (h : Heap) : HCalls Try.prog 48 #[.agg (bdL x).toArray] h fun u h' => Ext h h' ∧ ∃ B, u = .func (.func 67) #[] #[.pointer (some ⟨B, 0, none⟩)] ∧ h.size ≤ B ∧ Has h' B (.cells (bdL x).toArray tyB) := by
  refine hcalls2 Try.func48 rfl (by decide +kernel) (by simp only [Try.ntmps48]; exact of_decide_eq_true rfl) ?_
  intro e hin
  have e0 := hin 0 _ rfl
  refine hx_seq ?_
  refine hx_region ?_
  refine WL.box2 (by simp only [EN, Nat.reduceEqDiff, reduceIte, Value.cells, e0]; rfl) ?_
  intro h1 B1 hx1 hlt1 hB1
  refine WL.qq (by simp only [EN, Nat.reduceEqDiff, reduceIte, qv_assign, hB1.cell]; rfl) ?_
  refine WL.nil ?_
  refine th_norm ?_
  refine hx_seq ?_
  refine hx_region ?_
  refine WL.qq (by simp only [EN, Nat.reduceEqDiff, reduceIte, qv_makeFunc, AR, hB1.cell]; rfl) ?_
  refine WL.qq (by simp only [EN, Nat.reduceEqDiff, reduceIte, qv_assign, hB1.cell]; rfl) ?_
  refine WL.nil ?_
  refine th_norm ?_
  refine hx_ret ?_
  refine fin_ret [.tmp 2] rfl rfl (by simp only [EN, Nat.reduceEqDiff, reduceIte, resv, e0, hB1.cell]; rfl) ?_  -- ret 0 r1
  exact ⟨(hx1), B1, rfl, hlt1, hB1⟩
set_option maxHeartbeats 1000000 in
theorem c_postYield (x : BX) (B lp : Nat) (J : Nat → Heap → Prop) (S : Heap → Prop) (hlen : x.ps.length ≤ 1000000 ∧ ∀ p ∈ x.ps, p.ps.length ≤ 1000000)
    (hX : ∀ i h h', J i h → Ext h h' → J i h') (hJ : ∀ i h, J i h → Has h B (.cells (bdL x).toArray tyB) ∧ BXin h x)
    (hy : ∀ i y h, (pos x.bd)[i]? = some y → J i h → HY Try.prog lp #[.agg (poL y).toArray] h fun v h' => ∃ b : Bool, v = .bool b ∧ (b = true → J (i + 1) h') ∧ (b = false → S h'))
    {h : Heap} (h0 : J 0 h) : HCalls Try.prog 67 #[.func (.yield lp) #[] #[], .pointer (some ⟨B, 0, none⟩)] h fun _ h' => J (pos x.bd).length h' ∨ S h' := by
  obtain ⟨hB, hin⟩ := hJ 0 h h0
  obtain ⟨xs, xd, xm, xa, xp, xc⟩ := x
  obtain ⟨hl1, hl2⟩ := hlen
  simp only at hl1 hl2
  refine hcalls2 Try.func67 rfl (by decide +kernel) (by simp only [Try.ntmps67]; exact of_decide_eq_true rfl) ?_
  intro e hin
  have e0 := hin 0 _ rfl
  have e1 := hin 1 _ rfl
  refine hx_seq ?_
  refine hx_region ?_
  refine WL.qq (by simp only [EN, Nat.reduceEqDiff, reduceIte, qv_fieldAddr, fa55_2, Nat.zero_add, Nat.reduceAdd, e1, hB.cell]; rfl) ?_
  refine WL.qq (by simp only [EN, Nat.reduceEqDiff, reduceIte, qv_load, ld53, readN, AR, Nat.zero_add, Nat.reduceAdd, hB.cell]; rfl) ?_
  refine WL.qq (by simp only [EN, Nat.reduceEqDiff, reduceIte, qv_len, ln53, AR, hB.cell]; rfl) ?_
  refine WL.qq (by simp only [EN, Nat.reduceEqDiff, reduceIte, qv_move, hB.cell]; rfl) ?_
  refine WL.nil ?_
  refine th_norm ?_
  refine hx_block ?_
  refine hx_loopG [4, 6, 10, 11, 12, 13, 14, 15, 16, 17, 18, 19, 20, 21, 22, 23, 24, 25, 26] (fun k e hL0 => ∃ (i : Nat), xp.length - i = k ∧ (i ≤ xp.length) ∧ (KJ J hX (fl ⟨xs, xd, xm, xa, xp, xc⟩ i) hL0) ∧ e 10 = .int .i64 i) _ ⟨0, rfl, ?_, ?_, ?_⟩ ?_
  · omega
  · exact ⟨h0⟩
  · simp only [EN, Nat.reduceEqDiff, reduceIte, e0, e1, hB.cell] <;> rfl
  ·
    rintro k e0L hL0 hfr0 ⟨i, rfl, hi, hJi, i10_0⟩
    have k0_0 := hfr0 0 rfl; try simp only [EN, Nat.reduceEqDiff, reduceIte, e0, hB.cell] at k0_0
    have k8_0 := hfr0 8 rfl; try simp only [EN, Nat.reduceEqDiff, reduceIte, hB.cell] at k8_0
    have k9_0 := hfr0 9 rfl; try simp only [EN, Nat.reduceEqDiff, reduceIte, hB.cell] at k9_0
    refine hx_seq ?_
    refine hx_region ?_
    refine WL.qq (by simp only [EN, Nat.reduceEqDiff, reduceIte, qv_binOp, binv_lss, k9_0, i10_0, hB.cell]; rfl) ?_
    refine WL.nil ?_
    refine th_norm ?_
    refine hx_seq ?_
    refine hx_cond (by simp only [EN, Nat.reduceEqDiff, reduceIte, hB.cell]; rfl) (fun hct11 => ?_) (fun hct11 => ?_)
    ·
      try simp only [BD] at hct11
      obtain ⟨⟨pr, pa, pl, pc⟩, hp⟩ := atG (l := xp) (i := i) (by omega)
      have hpl := hl2 _ (List.mem_of_getElem? hp); simp only at hpl
      obtain ⟨_, hin2⟩ := hJ _ _ hJi.j
      obtain ⟨b1, o1, ha1, hr2, _, _⟩ := pt_rd hin2.1 hp
      simp only at ha1; subst ha1
      refine hx_skip ?_
      refine th_norm ?_
      refine hx_seq ?_
      refine hx_block ?_
      refine hx_seq ?_
      refine hx_region ?_
      refine WL.qq (by simp only [EN, Nat.reduceEqDiff, reduceIte, qv_indexAddr, k8_0, i10_0, hB.cell]; (try simp (disch := omega) only [ix53, Int.toNat_natCast]); rfl) ?_
      refine WL.qq (by simp only [EN, Nat.reduceEqDiff, reduceIte, k0_0, k8_0, k9_0, i10_0, hB.cell, qv_load, ld72, Int.toNat_natCast, hr2]; rfl) ?_
      refine WL.allocSt zr72 sz72 (fun u => by simp only [EN, Nat.reduceEqDiff, reduceIte, Value.cells, hB.cell]; rfl) ⟨rfl, rfl⟩ (by simp [Value.oneCell']) ?_
      intro h1 B1 hx1 hlt1 hB1
      replace hJi := hJi.ext hx1
      refine WL.nil ?_
      refine th_norm ?_
      refine hx_seq ?_
      refine hx_region ?_
      refine WL.qq (by simp only [EN, Nat.reduceEqDiff, reduceIte, qv_fieldAddr, fa72_1, Nat.zero_add, Nat.reduceAdd, hB.cell, hB1.cell]; rfl) ?_
      refine WL.qq (by simp only [EN, Nat.reduceEqDiff, reduceIte, qv_load, ld70, readN, AR, Nat.zero_add, Nat.reduceAdd, hB.cell, hB1.cell]; rfl) ?_
      refine WL.qq (by simp only [EN, Nat.reduceEqDiff, reduceIte, qv_len, ln70, AR, hB.cell, hB1.cell]; rfl) ?_
      refine WL.qq (by simp only [EN, Nat.reduceEqDiff, reduceIte, qv_move, hB.cell, hB1.cell]; rfl) ?_
      refine WL.nil ?_
      refine th_norm ?_
      refine hx_block ?_
      refine hx_loopG [6, 17, 18, 19, 20, 21, 22, 23, 24, 25] (fun k e hL1 => ∃ (j : Nat), pl.length - j = k ∧ (j ≤ pl.length) ∧ (KJ J hX (fl ⟨xs, xd, xm, some ⟨b1, o1, none⟩, xp, xc⟩ i + j) hL1) ∧ e 17 = .int .i64 j) _ ⟨0, rfl, ?_, ?_, ?_⟩ ?_
      · omega
      · exact hJi
      · simp only [EN, Nat.reduceEqDiff, reduceIte, k0_0, k8_0, k9_0, i10_0, hB.cell, hB1.cell] <;> rfl
      ·
        rintro k e1L hL1 hfr1 ⟨j, rfl, hj, hJj, i17_1⟩
        have k0_1 := hfr1 0 rfl; try simp only [EN, Nat.reduceEqDiff, reduceIte, k0_0, hB.cell, hB1.cell] at k0_1
        have k8_1 := hfr1 8 rfl; try simp only [EN, Nat.reduceEqDiff, reduceIte, k8_0, hB.cell, hB1.cell] at k8_1
        have k9_1 := hfr1 9 rfl; try simp only [EN, Nat.reduceEqDiff, reduceIte, k9_0, hB.cell, hB1.cell] at k9_1
        have k10_1 := hfr1 10 rfl; try simp only [EN, Nat.reduceEqDiff, reduceIte, i10_0, hB.cell, hB1.cell] at k10_1
        have k15_1 := hfr1 15 rfl; try simp only [EN, Nat.reduceEqDiff, reduceIte, hB.cell, hB1.cell] at k15_1
        have k16_1 := hfr1 16 rfl; try simp only [EN, Nat.reduceEqDiff, reduceIte, hB.cell, hB1.cell] at k16_1
        refine hx_seq ?_
        refine hx_region ?_
        refine WL.qq (by simp only [EN, Nat.reduceEqDiff, reduceIte, qv_binOp, binv_lss, k16_1, i17_1, hB.cell, hB1.cell]; rfl) ?_
        refine WL.nil ?_
        refine th_norm ?_
        refine hx_seq ?_
        refine hx_cond (by simp only [EN, Nat.reduceEqDiff, reduceIte, hB.cell, hB1.cell]; rfl) (fun hct18 => ?_) (fun hct18 => ?_)
        ·
          try simp only [BD] at hct18
          obtain ⟨y, hy1⟩ := atG (l := pl) (i := j) (by omega)
          obtain ⟨_, hin3⟩ := hJ _ _ hJj.j
          have hpp : SlG 4 poL _ pa pl := hin3.2 _ (List.mem_of_getElem? hp)
          obtain ⟨b2, o2, ha2, hr4, _⟩ := po_rd hpp hy1
          subst ha2
          refine hx_skip ?_
          refine th_norm ?_
          refine hx_seq ?_
          refine hx_block ?_
          refine hx_seq ?_
          refine hx_region ?_
          refine WL.qq (by simp only [EN, Nat.reduceEqDiff, reduceIte, qv_indexAddr, k15_1, i17_1, hB.cell, hB1.cell]; (try simp (disch := omega) only [ix70, Int.toNat_natCast]); rfl) ?_
          refine WL.qq (by simp only [EN, Nat.reduceEqDiff, reduceIte, k0_1, k8_1, k9_1, k10_1, k15_1, k16_1, i17_1, hB.cell, hB1.cell, qv_load, ld74, Int.toNat_natCast, hr4]; rfl) ?_
          refine WL.allocSt zr74 sz74 (fun u => by simp only [EN, Nat.reduceEqDiff, reduceIte, Value.cells, hB.cell, hB1.cell]; rfl) ⟨rfl, rfl⟩ (by simp [Value.oneCell']) ?_
          intro h2 B2 hx2 hlt2 hB2
          replace hJj := hJj.ext hx2
          refine WL.nil ?_
          refine th_norm ?_
          refine hx_seq ?_
          refine hx_region ?_
          refine WL.qq (by simp only [EN, Nat.reduceEqDiff, reduceIte, qv_move, k0_1, hB.cell, hB1.cell, hB2.cell]; rfl) ?_
          refine WL.qq (by simp only [EN, Nat.reduceEqDiff, reduceIte, qv_load, ld74, readN, AR, Nat.zero_add, Nat.reduceAdd, hB.cell, hB1.cell, hB2.cell]; rfl) ?_
          refine WL.ef _ (e_yield (l := lp) (by simp only [EN, Nat.reduceEqDiff, reduceIte, k0_1, k8_1, k9_1, k10_1, k15_1, k16_1, i17_1, hB.cell, hB1.cell, hB2.cell]) (by simp only [EN, Nat.reduceEqDiff, reduceIte, k0_1, k8_1, k9_1, k10_1, k15_1, k16_1, i17_1, hB.cell, hB1.cell, hB2.cell, AR]; exact hy _ y _ (fl_at hp hy1) hJj.j)) ?_
          rintro _ h22 ⟨bb, rfl, hbt, hbf⟩
          simp only [put_some]
          refine WL.qq (by simp only [EN, Nat.reduceEqDiff, reduceIte, qv_unOp, unv_not, hB.cell, hB1.cell, hB2.cell]; rfl) ?_
          refine WL.nil ?_
          refine th_norm ?_
          refine hx_cond (by simp only [EN, Nat.reduceEqDiff, reduceIte, hB.cell, hB1.cell, hB2.cell]; rfl) (fun hct24 => ?_) (fun hct24 => ?_)
          ·
            try simp only [BD] at hct24
            refine hx_ret ?_
            refine bl_ret ?_
            refine th_ret ?_
            refine th_ret ?_
            refine bl_ret ?_
            refine bl_ret ?_
            refine th_ret ?_
            refine th_ret ?_
            refine bl_ret ?_
            refine fin_ret [] rfl rfl (by simp only [EN, Nat.reduceEqDiff, reduceIte, resv, k0_1, k8_1, k9_1, k10_1, k15_1, k16_1, i17_1, hB.cell, hB1.cell, hB2.cell]; rfl) ?_  -- ret 0 r6
            exact .inr (hbf (by simpa using hct24))
          ·
            try simp only [BD] at hct24
            refine hx_skip ?_
            refine bl_norm ?_
            refine th_norm ?_
            refine hx_region ?_
            refine WL.qq (by simp only [EN, Nat.reduceEqDiff, reduceIte, qv_binOp, binv_add, i17_1, hB.cell, hB1.cell, hB2.cell]; (try simp (disch := omega) only [w64, w8, wu64]); rfl) ?_
            refine WL.qq (by simp only [EN, Nat.reduceEqDiff, reduceIte, qv_move, hB.cell, hB1.cell, hB2.cell]; rfl) ?_
            refine WL.nil ?_
            refine th_norm ?_
            refine ⟨rfl, ?_, _, ?_, j + 1, rfl, ?_, ?_, ?_⟩  -- again 0 of loop 1
            · (repeat (first | exact Fr.refl _ _ | refine Fr.set rfl ?_ | refine Fr.put rfl ?_ | with_reducible refine Fr.put0 ?_))
            · omega
            · omega
            · exact ⟨hbt (by simpa using hct24)⟩
            · simp only [EN, Nat.reduceEqDiff, reduceIte, k0_1, k8_1, k9_1, k10_1, k15_1, k16_1, i17_1, hB.cell, hB1.cell, hB2.cell] <;> first | rfl | (congr 1; omega)
        ·
          try simp only [BD] at hct18
          have hje : fl ⟨xs, xd, xm, some ⟨b1, o1, none⟩, xp, xc⟩ (i + 1) = fl ⟨xs, xd, xm, some ⟨b1, o1, none⟩, xp, xc⟩ i + j := (by rw [fl_step (x := ⟨xs, xd, xm, some ⟨b1, o1, none⟩, xp, xc⟩) hp]; simp only; omega)
          refine hx_exit ?_
          refine th_exit ?_
          refine th_exit ?_
          refine bl_hit ?_
          refine bl_norm ?_
          refine th_norm ?_
          refine hx_region ?_
          refine WL.qq (by simp only [EN, Nat.reduceEqDiff, reduceIte, qv_binOp, binv_add, k10_1, hB.cell, hB1.cell]; (try simp (disch := omega) only [w64, w8, wu64]); rfl) ?_
          refine WL.qq (by simp only [EN, Nat.reduceEqDiff, reduceIte, qv_move, hB.cell, hB1.cell]; rfl) ?_
          refine WL.nil ?_
          refine th_norm ?_
          refine ⟨rfl, ?_, _, ?_, i + 1, rfl, ?_, ?_, ?_⟩  -- again 0 of loop 0
          · (repeat (first | exact Fr.refl _ _ | refine Fr.set rfl ?_ | refine Fr.put rfl ?_ | with_reducible refine Fr.put0 ?_ | refine Fr.trans ?_ (Fr.of hfr1 rfl)))
          · omega
          · omega
          · exact ⟨by rw [hje]; exact hJj.j⟩
          · simp only [EN, Nat.reduceEqDiff, reduceIte, k0_1, k8_1, k9_1, k10_1, k15_1, k16_1, i17_1, hB.cell, hB1.cell] <;> first | rfl | (congr 1; omega)
    ·
      try simp only [BD] at hct11
      refine hx_exit ?_
      refine th_exit ?_
      refine th_exit ?_
      refine bl_hit ?_
      refine fin_end [] rfl rfl (by simp only [EN, Nat.reduceEqDiff, reduceIte, resv, k0_0, k8_0, k9_0, i10_0, hB.cell]; rfl) ?_  -- ret 1 r8
      exact .inl (by have h9 := hJi.j; rw [fl_end (by show xp.length ≤ i; omega)] at h9; exact h9)
end GL


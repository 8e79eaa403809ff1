/- The law HistoryAppend returns true: Append accepts exactly the specified bundles, and At returns them. No condition beyond the row's own. -/
import Derived.Test.YtklhfckdifkpaaaRows
import Derived.Test.YtklhfckdifkpaaaHisP
import Derived.Test.YtklhfckdifkpaaaHisV
set_option linter.unusedSimpArgs false
set_option linter.unusedVariables false
set_option linter.unnecessarySimpa false
namespace GL
open Go Go.Proofs
set_option maxRecDepth 8000
set_option maxHeartbeats 2000000 in
theorem l_app (al : Option Addr) (L : List BX) (cl : Nat) {h : Heap} (hs : SlG 4 bdL h al L) (hb : BXs h L) (ll : L.length ≤ 9223372036854775807) :
    HCalls Try.prog 6 #[.slice al L.length cl] h (Grow (.bool true) h) := by
  refine hcalls2 Try.func6 rfl (by decide +kernel) (by simp only [Try.ntmps6]; exact of_decide_eq_true rfl) ?_
  intro e hin
  have e0 := hin 0 _ rfl
  refine hx_seq ?_
  refine hx_region ?_
  refine WL.qq (by simp only [EN, Nat.reduceEqDiff, reduceIte, qv_assign, decide_true, Bool.not_true, Bool.not_false, decide_false, eq_self]; rfl) ?_
  refine WL.nil ?_
  refine th_norm ?_
  refine hx_seq ?_
  refine hx_seq ?_
  refine hx_region ?_
  refine WL.qq (by simp only [EN, Nat.reduceEqDiff, reduceIte, qv_move, e0, decide_true, Bool.not_true, Bool.not_false, decide_false, eq_self]; rfl) ?_
  refine WL.ck Try.call12 (by simp only [EN, Nat.reduceEqDiff, reduceIte, AR, decide_true, Bool.not_true, Bool.not_false, decide_false, eq_self]; exact c_few al L cl ll hs hb) ?_
  refine WL.qq (by simp only [EN, Nat.reduceEqDiff, reduceIte, qv_unOp, unv_not, decide_true, Bool.not_true, Bool.not_false, decide_false, eq_self]; rfl) ?_
  refine WL.nil ?_
  refine th_norm ?_
  refine hx_cond (by simp only [EN, Nat.reduceEqDiff, reduceIte, decide_true, Bool.not_true, Bool.not_false, decide_false, eq_self]; rfl) (fun hct10 => ?_) (fun hct10 => ?_)
  ·
    try simp only [BD] at hct10
    refine hx_seq ?_
    refine hx_region ?_
    refine WL.cg Try.call13 (by simp only [EN, Nat.reduceEqDiff, reduceIte, AR, decide_true, Bool.not_true, Bool.not_false, decide_false, eq_self]; exact c_known14 _) ?_
    intro h1 hx1
    replace hs := hs.ext hx1
    replace hb := hb.ext hx1
    refine WL.qq (by simp only [EN, Nat.reduceEqDiff, reduceIte, qv_assign, decide_true, Bool.not_true, Bool.not_false, decide_false, eq_self]; rfl) ?_
    refine WL.nil ?_
    refine th_norm ?_
    refine hx_ret ?_
    refine th_ret ?_
    refine fin_ret [.tmp 2] rfl rfl (by simp only [EN, Nat.reduceEqDiff, reduceIte, resv, e0, decide_true, Bool.not_true, Bool.not_false, decide_false, eq_self]; rfl) ?_  -- ret 0 r2
    exact ⟨rfl, (hx1)⟩
  ·
    try simp only [BD] at hct10
    have hF : FW L := (by simpa using hct10)
    refine hx_skip ?_
    refine th_norm ?_
    refine hx_seq ?_
    refine hx_region ?_
    refine WL.qq (by simp only [EN, Nat.reduceEqDiff, reduceIte, qv_move, e0, decide_true, Bool.not_true, Bool.not_false, decide_false, eq_self]; rfl) ?_
    refine WL.ce Try.call14 (by simp only [EN, Nat.reduceEqDiff, reduceIte, AR, decide_true, Bool.not_true, Bool.not_false, decide_false, eq_self]; exact c_build al L cl hF hs hb) ?_
    rintro _ h2 ⟨hx2, p, a, c, xs, rfl, hS⟩
    replace hs := hs.ext hx2
    replace hb := hb.ext hx2
    simp only [put_some]
    refine WL.qq (by simp only [EN, Nat.reduceEqDiff, reduceIte, qv_move, decide_true, Bool.not_true, Bool.not_false, decide_false, eq_self]; rfl) ?_
    refine WL.qq (by simp only [EN, Nat.reduceEqDiff, reduceIte, qv_extract, AR, decide_true, Bool.not_true, Bool.not_false, decide_false, eq_self]; rfl) ?_
    refine WL.qq (by simp only [EN, Nat.reduceEqDiff, reduceIte, qv_extract, AR, decide_true, Bool.not_true, Bool.not_false, decide_false, eq_self]; rfl) ?_
    refine WL.qq (by simp only [EN, Nat.reduceEqDiff, reduceIte, qv_assign, decide_true, Bool.not_true, Bool.not_false, decide_false, eq_self]; rfl) ?_
    refine WL.qq (by simp only [EN, Nat.reduceEqDiff, reduceIte, qv_assign, decide_true, Bool.not_true, Bool.not_false, decide_false, eq_self]; rfl) ?_
    refine WL.nil ?_
    refine th_norm ?_
    refine hx_seq ?_
    refine hx_seq ?_
    refine hx_region ?_
    have hn12 : xs.length ≤ 12 := (by have := hS.n; omega)
    have hn13 : xs.length = (runB (L.map BX.bd)).length := (by rw [← hS.m, List.length_map])
    refine WL.qq (by simp only [EN, Nat.reduceEqDiff, reduceIte, qv_move, decide_true, Bool.not_true, Bool.not_false, decide_false, eq_self]; rfl) ?_
    refine WL.qq (by simp only [EN, Nat.reduceEqDiff, reduceIte, qv_binOp, binv_eql, eqz27, eqn27, eqm27, Option.map_some, decide_true, Bool.not_true, Bool.not_false, decide_false, eq_self]; rfl) ?_
    refine WL.qq (by simp only [EN, Nat.reduceEqDiff, reduceIte, qv_move, decide_true, Bool.not_true, Bool.not_false, decide_false, eq_self]; rfl) ?_
    refine WL.cq (gd_at (t := 19) rfl (by simp only [EN, Nat.reduceEqDiff, reduceIte, decide_true, Bool.not_true, Bool.not_false, decide_false, eq_self] <;> rfl)) (fun hg4_3 => by simp only [EN, Nat.reduceEqDiff, reduceIte, qv_move, decide_true, Bool.not_true, Bool.not_false, decide_false, eq_self, hg4_3, GR]; rfl) ?_
    refine WL.cck (gd_at (t := 19) rfl (by simp only [EN, Nat.reduceEqDiff, reduceIte, decide_true, Bool.not_true, Bool.not_false, decide_false, eq_self] <;> rfl)) Try.call23 (fun hg4_4 => by simp only [EN, Nat.reduceEqDiff, reduceIte, AR, decide_true, Bool.not_true, Bool.not_false, decide_false, eq_self, hg4_4, GR]; exact c_len hS.I.hr) ?_
    refine WL.cq (gd_at (t := 19) rfl (by simp only [EN, Nat.reduceEqDiff, reduceIte, decide_true, Bool.not_true, Bool.not_false, decide_false, eq_self] <;> rfl)) (fun hg4_5 => by simp only [EN, Nat.reduceEqDiff, reduceIte, qv_move, decide_true, Bool.not_true, Bool.not_false, decide_false, eq_self, hg4_5, GR]; rfl) ?_
    refine WL.cq (gd_at (t := 19) rfl (by simp only [EN, Nat.reduceEqDiff, reduceIte, decide_true, Bool.not_true, Bool.not_false, decide_false, eq_self] <;> rfl)) (fun hg4_6 => by simp only [EN, Nat.reduceEqDiff, reduceIte, qv_len, ln22, AR, decide_true, Bool.not_true, Bool.not_false, decide_false, eq_self, hg4_6, GR]; rfl) ?_
    refine WL.cq (gd_at (t := 19) rfl (by simp only [EN, Nat.reduceEqDiff, reduceIte, decide_true, Bool.not_true, Bool.not_false, decide_false, eq_self] <;> rfl)) (fun hg4_7 => by simp only [EN, Nat.reduceEqDiff, reduceIte, qv_binOp, binv_neq, eq3, Option.map_some, decide_true, Bool.not_true, Bool.not_false, decide_false, eq_self, hg4_7, GR]; rfl) ?_
    refine WL.qq (by simp only [EN, Nat.reduceEqDiff, reduceIte, qv_pick, pk_and, pk_or, GR, decide_true, Bool.not_true, Bool.not_false, decide_false, eq_self]; rfl) ?_
    refine WL.nil ?_
    refine th_norm ?_
    refine hx_cond (by simp only [EN, Nat.reduceEqDiff, reduceIte, decide_true, Bool.not_true, Bool.not_false, decide_false, eq_self]; rfl) (fun hct25 => ?_) (fun hct25 => ?_)
    ·
      simp at hct25; omega
    ·
      try simp only [BD] at hct25
      refine hx_skip ?_
      refine th_norm ?_
      refine hx_seq ?_
      refine hx_seq ?_
      refine hx_region ?_
      refine WL.qq (by simp only [EN, Nat.reduceEqDiff, reduceIte, qv_assign, decide_true, Bool.not_true, Bool.not_false, decide_false, eq_self]; rfl) ?_
      refine WL.nil ?_
      refine th_norm ?_
      refine hx_block ?_
      refine hx_loopX [2, 5, 6, 7, 26, 27, 28, 29, 30, 31, 32, 33, 34, 35, 36, 37, 38, 39, 40, 41, 42, 43, 44, 45, 46, 47, 48, 49, 50, 51, 52, 53, 54, 55, 56, 57, 58, 59, 60, 61, 62, 63, 64, 65, 66, 67, 68, 69, 70, 71] (fun k e => ∃ (i : Nat), xs.length + 3 - i = k ∧ (i ≤ xs.length + 3) ∧ e 5 = iV ((i : Int) - 1)) _ ⟨0, rfl, ?_, ?_⟩ ?_
      · omega
      · simp only [EN, Nat.reduceEqDiff, reduceIte, e0, decide_true, Bool.not_true, Bool.not_false, decide_false, eq_self] <;> rfl
      ·
        rintro k e0L hL0 hX0 hfr0 ⟨i, rfl, hi, i5_0⟩
        replace hs := hs.ext hX0
        replace hb := hb.ext hX0
        replace hS := hS.ext hX0
        have k3_0 := hfr0 3 rfl; try simp only [EN, Nat.reduceEqDiff, reduceIte, decide_true, Bool.not_true, Bool.not_false, decide_false, eq_self] at k3_0
        have k4_0 := hfr0 4 rfl; try simp only [EN, Nat.reduceEqDiff, reduceIte, decide_true, Bool.not_true, Bool.not_false, decide_false, eq_self] at k4_0
        refine hx_seq ?_
        refine hx_seq ?_
        refine hx_region ?_
        refine WL.qq (by simp only [EN, Nat.reduceEqDiff, reduceIte, qv_move, i5_0, decide_true, Bool.not_true, Bool.not_false, decide_false, eq_self]; rfl) ?_
        refine WL.qq (by simp only [EN, Nat.reduceEqDiff, reduceIte, qv_move, k4_0, decide_true, Bool.not_true, Bool.not_false, decide_false, eq_self]; rfl) ?_
        refine WL.qq (by simp only [EN, Nat.reduceEqDiff, reduceIte, qv_len, ln22, AR, decide_true, Bool.not_true, Bool.not_false, decide_false, eq_self]; rfl) ?_
        refine WL.qq (by simp only [EN, Nat.reduceEqDiff, reduceIte, qv_binOp, binv_add, decide_true, Bool.not_true, Bool.not_false, decide_false, eq_self]; (try simp (disch := omega) only [w64, w8, wu64]); rfl) ?_
        refine WL.qq (by simp only [EN, Nat.reduceEqDiff, reduceIte, qv_binOp, binv_leq, decide_true, Bool.not_true, Bool.not_false, decide_false, eq_self]; rfl) ?_
        refine WL.nil ?_
        refine th_norm ?_
        refine hx_cond (by simp only [EN, Nat.reduceEqDiff, reduceIte, decide_true, Bool.not_true, Bool.not_false, decide_false, eq_self]; rfl) (fun hct30 => ?_) (fun hct30 => ?_)
        ·
          try simp only [BD] at hct30
          have hat : atI (runB (L.map BX.bd)) ((i : Int) - 1) = decide (1 ≤ (i : Int) - 1 ∧ (i : Int) - 1 ≤ xs.length) := (by rw [hn13]; rfl)
          refine hx_skip ?_
          refine th_norm ?_
          refine hx_seq ?_
          refine hx_block ?_
          refine hx_seq ?_
          refine hx_region ?_
          refine WL.qq (by simp only [EN, Nat.reduceEqDiff, reduceIte, qv_move, k3_0, decide_true, Bool.not_true, Bool.not_false, decide_false, eq_self]; rfl) ?_
          refine WL.qq (by simp only [EN, Nat.reduceEqDiff, reduceIte, qv_move, i5_0, decide_true, Bool.not_true, Bool.not_false, decide_false, eq_self]; rfl) ?_
          refine WL.ce Try.call24 (by simp only [EN, Nat.reduceEqDiff, reduceIte, AR, decide_true, Bool.not_true, Bool.not_false, decide_false, eq_self]; exact c_at ((i : Int) - 1) (by omega) hS.g hS.I.hr) ?_
          rintro _ h3 ⟨hx3, y, rfl, hyb, hyr⟩
          replace hs := hs.ext hx3
          replace hb := hb.ext hx3
          replace hS := hS.ext hx3
          simp only [put_some]
          rw [hat]
          refine WL.qq (by simp only [EN, Nat.reduceEqDiff, reduceIte, qv_move, decide_true, Bool.not_true, Bool.not_false, decide_false, eq_self]; rfl) ?_
          refine WL.qq (by simp only [EN, Nat.reduceEqDiff, reduceIte, qv_extract, AR, decide_true, Bool.not_true, Bool.not_false, decide_false, eq_self]; rfl) ?_
          refine WL.qq (by simp only [EN, Nat.reduceEqDiff, reduceIte, qv_extract, AR, decide_true, Bool.not_true, Bool.not_false, decide_false, eq_self]; rfl) ?_
          refine WL.allocSt zr55 sz55 (fun u => by simp only [EN, Nat.reduceEqDiff, reduceIte, Value.cells, decide_true, Bool.not_true, Bool.not_false, decide_false, eq_self]; rfl) ⟨rfl, rfl⟩ (by simp [Value.oneCell']) ?_
          intro h4 B4 hx4 hlt4 hB4
          replace hs := hs.ext hx4
          replace hb := hb.ext hx4
          replace hS := hS.ext hx4
          replace hyr := hyr.ext hx4
          refine WL.qq (by simp only [EN, Nat.reduceEqDiff, reduceIte, qv_assign, decide_true, Bool.not_true, Bool.not_false, decide_false, eq_self, hB4.cell]; rfl) ?_
          refine WL.nil ?_
          refine th_norm ?_
          refine hx_seq ?_
          refine hx_seq ?_
          refine hx_region ?_
          refine WL.qq (by simp only [EN, Nat.reduceEqDiff, reduceIte, qv_move, decide_true, Bool.not_true, Bool.not_false, decide_false, eq_self, hB4.cell]; rfl) ?_
          refine WL.qq (by simp only [EN, Nat.reduceEqDiff, reduceIte, qv_move, i5_0, decide_true, Bool.not_true, Bool.not_false, decide_false, eq_self, hB4.cell]; rfl) ?_
          refine WL.qq (by simp only [EN, Nat.reduceEqDiff, reduceIte, qv_binOp, binv_geq, decide_true, Bool.not_true, Bool.not_false, decide_false, eq_self, hB4.cell]; rfl) ?_
          refine WL.qq (by simp only [EN, Nat.reduceEqDiff, reduceIte, qv_move, decide_true, Bool.not_true, Bool.not_false, decide_false, eq_self, hB4.cell]; rfl) ?_
          refine WL.cq (gd_at (t := 42) rfl (by simp only [EN, Nat.reduceEqDiff, reduceIte, i5_0, decide_true, Bool.not_true, Bool.not_false, decide_false, eq_self, hB4.cell] <;> rfl)) (fun hg10_4 => by simp only [EN, Nat.reduceEqDiff, reduceIte, qv_move, i5_0, decide_true, Bool.not_true, Bool.not_false, decide_false, eq_self, hB4.cell, hg10_4, GR]; rfl) ?_
          refine WL.cq (gd_at (t := 42) rfl (by simp only [EN, Nat.reduceEqDiff, reduceIte, k4_0, decide_true, Bool.not_true, Bool.not_false, decide_false, eq_self, hB4.cell] <;> rfl)) (fun hg10_5 => by simp only [EN, Nat.reduceEqDiff, reduceIte, qv_move, k4_0, decide_true, Bool.not_true, Bool.not_false, decide_false, eq_self, hB4.cell, hg10_5, GR]; rfl) ?_
          refine WL.cq (gd_at (t := 42) rfl (by simp only [EN, Nat.reduceEqDiff, reduceIte, decide_true, Bool.not_true, Bool.not_false, decide_false, eq_self, hB4.cell] <;> rfl)) (fun hg10_6 => by simp only [EN, Nat.reduceEqDiff, reduceIte, qv_len, ln22, AR, decide_true, Bool.not_true, Bool.not_false, decide_false, eq_self, hB4.cell, hg10_6, GR]; rfl) ?_
          refine WL.cq (gd_at (t := 42) rfl (by simp only [EN, Nat.reduceEqDiff, reduceIte, decide_true, Bool.not_true, Bool.not_false, decide_false, eq_self, hB4.cell] <;> rfl)) (fun hg10_7 => by simp only [EN, Nat.reduceEqDiff, reduceIte, qv_binOp, binv_leq, decide_true, Bool.not_true, Bool.not_false, decide_false, eq_self, hB4.cell, hg10_7, GR]; rfl) ?_
          refine WL.qq (by simp only [EN, Nat.reduceEqDiff, reduceIte, qv_pick, pk_and, pk_or, GR, decide_true, Bool.not_true, Bool.not_false, decide_false, eq_self, hB4.cell]; rfl) ?_
          refine WL.qq (by simp only [EN, Nat.reduceEqDiff, reduceIte, qv_binOp, binv_neq, eq4, Option.map_some, decide_true, Bool.not_true, Bool.not_false, decide_false, eq_self, hB4.cell]; rfl) ?_
          refine WL.nil ?_
          refine th_norm ?_
          refine hx_cond (by simp only [EN, Nat.reduceEqDiff, reduceIte, decide_true, Bool.not_true, Bool.not_false, decide_false, eq_self, hB4.cell]; rfl) (fun hct48 => ?_) (fun hct48 => ?_)
          ·
            simp at hct48
          ·
            try simp only [BD] at hct48
            refine hx_skip ?_
            refine th_norm ?_
            refine hx_seq ?_
            by_cases hin : 1 ≤ (i : Int) - 1 ∧ (i : Int) - 1 ≤ xs.length
            ·
              rw [show decide (1 ≤ (i : Int) - 1 ∧ (i : Int) - 1 ≤ xs.length) = true from decide_eq_true hin]
              obtain ⟨x, hx⟩ := atG (l := xs) (i := i - 2) (by omega)
              have hxb : (runB (L.map BX.bd))[i - 2]? = some x.bd := (by rw [← hS.m]; exact bd_at hx)
              have htn : ((i : Int) - 1 - 1).toNat = i - 2 := (by omega)
              have hyx : y.bd = x.bd := (by rw [hyb]; unfold atB; rw [if_pos (by rw [← hn13]; exact hin), htn, hxb]; rfl)
              have hfy : FB y.bd := (by rw [hyx]; exact hS.g.f _ (List.mem_of_getElem? hxb))
              obtain ⟨b1, o1, ha1, hr1, _⟩ := bd_rd hS.sl hx
              have hxi := hS.bx x (List.mem_of_getElem? hx)
              apply hx_draw2 Rel.grows [] [3, 9, 17, 19] [(3, (Spec.bk y.bd)), (9, (Spec.is (.bool true))), (17, (Spec.is (.bool true))), (19, (Spec.is (.bool true)))] rfl (by decide +kernel) rfl
              have hf0 := hS.g.f
              refine LD.qq rfl rfl (by simp only [EN, Nat.reduceEqDiff, reduceIte, qv_move, decide_true, Bool.not_true, Bool.not_false, decide_false, eq_self, hB4.cell]; rfl) ?_
              refine LD.qq rfl rfl (by simp only [EN, Nat.reduceEqDiff, reduceIte, qv_move, decide_true, Bool.not_true, Bool.not_false, decide_false, eq_self, hB4.cell]; rfl) ?_
              refine LD.on (by rw [gOk_s (gd_at (t := 50) rfl (by simp only [EN, Nat.reduceEqDiff, reduceIte, decide_true, Bool.not_true, Bool.not_false, decide_false, eq_self, hB4.cell] <;> rfl))]; rfl) ?_
              refine LD.qq rfl rfl (by simp only [EN, Nat.reduceEqDiff, reduceIte, qv_load, ld55, readN, AR, Nat.zero_add, Nat.reduceAdd, decide_true, Bool.not_true, Bool.not_false, decide_false, eq_self, hB4.cell]; rfl) ?_
              refine LD.on (by rw [gOk_s (gd_at (t := 50) rfl (by simp only [EN, Nat.reduceEqDiff, reduceIte, decide_true, Bool.not_true, Bool.not_false, decide_false, eq_self, hB4.cell] <;> rfl))]; rfl) ?_
              refine LD.es rfl rfl (by intro hD hr hf; have hx : Ext _ _ := hr; have hs := hs.ext hx; have hb := hb.ext hx; have hS := hS.ext hx; have hyr := hyr.ext hx; have hB4 := hB4.ext hx; exact EOp.mono (e_call Try.call26 (by simp only [EN, Nat.reduceEqDiff, reduceIte, k3_0, k4_0, i5_0, decide_true, Bool.not_true, Bool.not_false, decide_false, eq_self, hB4.cell, List.map_toArray, List.map_cons, List.map_nil]; exact c_back y hfy.lens hyr.in_)) (fun _ _ hh => bk_of hh)) ?_
              intro u12_3 w12_3
              refine LD.on (by rw [gOk_s (gd_at (t := 50) rfl (by simp only [EN, Nat.reduceEqDiff, reduceIte, k4_0, decide_true, Bool.not_true, Bool.not_false, decide_false, eq_self, hB4.cell] <;> rfl))]; rfl) ?_
              refine LD.qq rfl rfl (by simp only [EN, Nat.reduceEqDiff, reduceIte, qv_move, k4_0, decide_true, Bool.not_true, Bool.not_false, decide_false, eq_self, hB4.cell]; rfl) ?_
              refine LD.on (by rw [gOk_s (gd_at (t := 50) rfl (by simp only [EN, Nat.reduceEqDiff, reduceIte, i5_0, decide_true, Bool.not_true, Bool.not_false, decide_false, eq_self, hB4.cell] <;> rfl))]; rfl) ?_
              refine LD.qq rfl rfl (by simp only [EN, Nat.reduceEqDiff, reduceIte, qv_move, i5_0, decide_true, Bool.not_true, Bool.not_false, decide_false, eq_self, hB4.cell]; rfl) ?_
              refine LD.on (by rw [gOk_s (gd_at (t := 50) rfl (by simp only [EN, Nat.reduceEqDiff, reduceIte, decide_true, Bool.not_true, Bool.not_false, decide_false, eq_self, hB4.cell] <;> rfl))]; rfl) ?_
              refine LD.qq rfl rfl (by simp only [EN, Nat.reduceEqDiff, reduceIte, qv_binOp, binv_sub, decide_true, Bool.not_true, Bool.not_false, decide_false, eq_self, hB4.cell]; (try simp (disch := omega) only [w64, w8, wu64]); rfl) ?_
              refine LD.on (by rw [gOk_s (gd_at (t := 50) rfl (by simp only [EN, Nat.reduceEqDiff, reduceIte, decide_true, Bool.not_true, Bool.not_false, decide_false, eq_self, hB4.cell] <;> rfl))]; rfl) ?_
              refine LD.qq rfl rfl (by simp only [EN, Nat.reduceEqDiff, reduceIte, qv_indexAddr, decide_true, Bool.not_true, Bool.not_false, decide_false, eq_self, hB4.cell, ha1]; (try simp (disch := omega) only [ix22, Int.toNat_natCast]); rfl) ?_
              refine LD.on (by rw [gOk_s (gd_at (t := 50) rfl (by simp only [EN, Nat.reduceEqDiff, reduceIte, decide_true, Bool.not_true, Bool.not_false, decide_false, eq_self, hB4.cell] <;> rfl))]; rfl) ?_
              refine LD.qq rfl rfl (by simp only [EN, Nat.reduceEqDiff, reduceIte, k3_0, k4_0, i5_0, decide_true, Bool.not_true, Bool.not_false, decide_false, eq_self, hB4.cell, qv_load, ld45, htn, hr1]; rfl) ?_
              refine LD.on (by rw [gOk_s (gd_at (t := 50) rfl (by simp only [EN, Nat.reduceEqDiff, reduceIte, decide_true, Bool.not_true, Bool.not_false, decide_false, eq_self, hB4.cell] <;> rfl))]; rfl) ?_
              refine LD.es rfl rfl (by intro hD hr hf; have hx : Ext _ _ := hr; have hs := hs.ext hx; have hb := hb.ext hx; have hS := hS.ext hx; have hyr := hyr.ext hx; have hB4 := hB4.ext hx; have m3 := hf (3, u12_3) (by simp) (by show tb _ _ 3 = true; decide +kernel) _ rfl; have hxi := hxi.ext hx; exact EOp.mono (e_call Try.call25 (by simp only [EN, Nat.reduceEqDiff, reduceIte, k3_0, k4_0, i5_0, decide_true, Bool.not_true, Bool.not_false, decide_false, eq_self, hB4.cell, List.map_toArray, List.map_cons, List.map_nil]; exact c_sameB hfy m3 x hxi (r := true) (by simp [hyx]))) (fun _ _ hh => grow_is hh)) ?_
              intro u12_9 w12_9
              have hu9 : u12_9 = _ := w12_9
              subst hu9
              refine LD.on (by rw [gOk_s (gd_at (t := 50) rfl (by simp only [EN, Nat.reduceEqDiff, reduceIte, decide_true, Bool.not_true, Bool.not_false, decide_false, eq_self, hB4.cell] <;> rfl))]; rfl) ?_
              refine LD.qq rfl rfl (by simp only [EN, Nat.reduceEqDiff, reduceIte, qv_unOp, unv_not, decide_true, Bool.not_true, Bool.not_false, decide_false, eq_self, hB4.cell]; rfl) ?_
              refine LD.qq rfl rfl (by simp only [EN, Nat.reduceEqDiff, reduceIte, qv_pick, pk_and, pk_or, GR, decide_true, Bool.not_true, Bool.not_false, decide_false, eq_self, hB4.cell]; rfl) ?_
              refine LD.qq rfl rfl (by simp only [EN, Nat.reduceEqDiff, reduceIte, qv_move, decide_true, Bool.not_true, Bool.not_false, decide_false, eq_self, hB4.cell]; rfl) ?_
              refine LD.on (by rw [gOk_s (gd_at (t := 61) rfl (by simp only [EN, Nat.reduceEqDiff, reduceIte, decide_true, Bool.not_true, Bool.not_false, decide_false, eq_self, hB4.cell] <;> rfl))]; rfl) ?_
              refine LD.qq rfl rfl (by simp only [EN, Nat.reduceEqDiff, reduceIte, qv_move, decide_true, Bool.not_true, Bool.not_false, decide_false, eq_self, hB4.cell]; rfl) ?_
              refine LD.on (by rw [gOk_s (gd_at (t := 61) rfl (by simp only [EN, Nat.reduceEqDiff, reduceIte, decide_true, Bool.not_true, Bool.not_false, decide_false, eq_self, hB4.cell] <;> rfl))]; rfl) ?_
              refine LD.qq rfl rfl (by simp only [EN, Nat.reduceEqDiff, reduceIte, qv_unOp, unv_not, decide_true, Bool.not_true, Bool.not_false, decide_false, eq_self, hB4.cell]; rfl) ?_
              refine LD.on (by rw [gOk_s (gd_at (t := 61) rfl (by simp only [EN, Nat.reduceEqDiff, reduceIte, decide_true, Bool.not_true, Bool.not_false, decide_false, eq_self, hB4.cell] <;> rfl))]; rfl) ?_
              refine LD.qq rfl rfl (by simp only [EN, Nat.reduceEqDiff, reduceIte, qv_move, decide_true, Bool.not_true, Bool.not_false, decide_false, eq_self, hB4.cell]; rfl) ?_
              refine LD.offS rfl (by first | (rw [gOk_s (gd_at (t := 64) rfl (by simp only [EN, Nat.reduceEqDiff, reduceIte, decide_true, Bool.not_true, Bool.not_false, decide_false, eq_self, hB4.cell] <;> rfl))]; rfl) | exact gOk_z (gd_un (t := 64) rfl (by simp only [EN, Nat.reduceEqDiff, reduceIte, decide_true, Bool.not_true, Bool.not_false, decide_false, eq_self, hB4.cell] <;> rfl))) ?_
              refine LD.offS rfl (by first | (rw [gOk_s (gd_at (t := 64) rfl (by simp only [EN, Nat.reduceEqDiff, reduceIte, decide_true, Bool.not_true, Bool.not_false, decide_false, eq_self, hB4.cell] <;> rfl))]; rfl) | exact gOk_z (gd_un (t := 64) rfl (by simp only [EN, Nat.reduceEqDiff, reduceIte, decide_true, Bool.not_true, Bool.not_false, decide_false, eq_self, hB4.cell] <;> rfl))) ?_
              refine LD.offS rfl (by first | (rw [gOk_s (gd_at (t := 64) rfl (by simp only [EN, Nat.reduceEqDiff, reduceIte, decide_true, Bool.not_true, Bool.not_false, decide_false, eq_self, hB4.cell] <;> rfl))]; rfl) | exact gOk_z (gd_un (t := 64) rfl (by simp only [EN, Nat.reduceEqDiff, reduceIte, decide_true, Bool.not_true, Bool.not_false, decide_false, eq_self, hB4.cell] <;> rfl))) ?_
              refine LD.offS rfl (by first | (rw [gOk_s (gd_at (t := 64) rfl (by simp only [EN, Nat.reduceEqDiff, reduceIte, decide_true, Bool.not_true, Bool.not_false, decide_false, eq_self, hB4.cell] <;> rfl))]; rfl) | exact gOk_z (gd_un (t := 64) rfl (by simp only [EN, Nat.reduceEqDiff, reduceIte, decide_true, Bool.not_true, Bool.not_false, decide_false, eq_self, hB4.cell] <;> rfl))) ?_
              refine LD.offS rfl (by first | (rw [gOk_s (gd_at (t := 64) rfl (by simp only [EN, Nat.reduceEqDiff, reduceIte, decide_true, Bool.not_true, Bool.not_false, decide_false, eq_self, hB4.cell] <;> rfl))]; rfl) | exact gOk_z (gd_un (t := 64) rfl (by simp only [EN, Nat.reduceEqDiff, reduceIte, decide_true, Bool.not_true, Bool.not_false, decide_false, eq_self, hB4.cell] <;> rfl))) ?_
              refine LD.on (by rw [gOk_s (gd_at (t := 61) rfl (by simp only [EN, Nat.reduceEqDiff, reduceIte, decide_true, Bool.not_true, Bool.not_false, decide_false, eq_self, hB4.cell] <;> rfl))]; rfl) ?_
              refine LD.qq rfl rfl (by simp only [EN, Nat.reduceEqDiff, reduceIte, qv_pick, pk_and, pk_or, GR, decide_true, Bool.not_true, Bool.not_false, decide_false, eq_self, hB4.cell]; rfl) ?_
              refine LD.qq rfl rfl (by simp only [EN, Nat.reduceEqDiff, reduceIte, qv_pick, pk_and, pk_or, GR, decide_true, Bool.not_true, Bool.not_false, decide_false, eq_self, hB4.cell]; rfl) ?_
              refine LD.nil ?_
              rintro h5 hx5 hF12
              replace hx5 : Ext _ _ := hx5
              replace hs := hs.ext hx5
              replace hb := hb.ext hx5
              replace hS := hS.ext hx5
              replace hyr := hyr.ext hx5
              replace hB4 := hB4.ext hx5
              refine WL.nil ?_
              refine th_norm ?_
              refine hx_cond (by simp only [EN, Nat.reduceEqDiff, reduceIte, decide_true, Bool.not_true, Bool.not_false, decide_false, eq_self, hB4.cell]; rfl) (fun hct71 => ?_) (fun hct71 => ?_)
              ·
                simp at hct71
              ·
                try simp only [BD] at hct71
                refine hx_skip ?_
                refine bl_norm ?_
                refine th_norm ?_
                refine hx_region ?_
                refine WL.qq (by simp only [EN, Nat.reduceEqDiff, reduceIte, qv_move, i5_0, decide_true, Bool.not_true, Bool.not_false, decide_false, eq_self, hB4.cell]; rfl) ?_
                refine WL.qq (by simp only [EN, Nat.reduceEqDiff, reduceIte, qv_binOp, binv_add, decide_true, Bool.not_true, Bool.not_false, decide_false, eq_self, hB4.cell]; (try simp (disch := omega) only [w64, w8, wu64]); rfl) ?_
                refine WL.qq (by simp only [EN, Nat.reduceEqDiff, reduceIte, qv_assign, decide_true, Bool.not_true, Bool.not_false, decide_false, eq_self, hB4.cell]; rfl) ?_
                refine WL.nil ?_
                refine th_norm ?_
                refine ⟨rfl, ?_, ?_, _, ?_, i + 1, rfl, ?_, ?_⟩  -- again 0 of loop 0
                · exact (hx3).trans ((hx4).trans (hx5))
                · (repeat (first | exact Fr.refl _ _ | refine Fr.set rfl ?_ | refine Fr.put rfl ?_ | with_reducible refine Fr.put0 ?_))
                · omega
                · omega
                · simp only [EN, Nat.reduceEqDiff, reduceIte, k3_0, k4_0, i5_0, decide_true, Bool.not_true, Bool.not_false, decide_false, eq_self, hB4.cell] <;> first | rfl | (congr 1; omega)
            ·
              rw [show decide (1 ≤ (i : Int) - 1 ∧ (i : Int) - 1 ≤ xs.length) = false from decide_eq_false hin]
              have hyx : y.bd = zB := (by rw [hyb]; unfold atB; rw [if_neg (by rw [← hn13]; exact hin)])
              have hfy : FB y.bd := (by rw [hyx]; exact zFB)
              apply hx_draw2 Rel.grows [] [3, 9, 17, 19] [(3, (Spec.is (.bool true))), (9, (Spec.is (.bool true))), (17, (Spec.bk y.bd)), (19, (Spec.is (.bool true)))] rfl (by decide +kernel) rfl
              have hf0 := hS.g.f
              refine LD.qq rfl rfl (by simp only [EN, Nat.reduceEqDiff, reduceIte, qv_move, decide_true, Bool.not_true, Bool.not_false, decide_false, eq_self, hB4.cell]; rfl) ?_
              refine LD.qq rfl rfl (by simp only [EN, Nat.reduceEqDiff, reduceIte, qv_move, decide_true, Bool.not_true, Bool.not_false, decide_false, eq_self, hB4.cell]; rfl) ?_
              refine LD.offS rfl (by first | (rw [gOk_s (gd_at (t := 50) rfl (by simp only [EN, Nat.reduceEqDiff, reduceIte, decide_true, Bool.not_true, Bool.not_false, decide_false, eq_self, hB4.cell] <;> rfl))]; rfl) | exact gOk_z (gd_un (t := 50) rfl (by simp only [EN, Nat.reduceEqDiff, reduceIte, decide_true, Bool.not_true, Bool.not_false, decide_false, eq_self, hB4.cell] <;> rfl))) ?_
              refine LD.offS rfl (by first | (rw [gOk_s (gd_at (t := 50) rfl (by simp only [EN, Nat.reduceEqDiff, reduceIte, decide_true, Bool.not_true, Bool.not_false, decide_false, eq_self, hB4.cell] <;> rfl))]; rfl) | exact gOk_z (gd_un (t := 50) rfl (by simp only [EN, Nat.reduceEqDiff, reduceIte, decide_true, Bool.not_true, Bool.not_false, decide_false, eq_self, hB4.cell] <;> rfl))) ?_
              refine LD.offS rfl (by first | (rw [gOk_s (gd_at (t := 50) rfl (by simp only [EN, Nat.reduceEqDiff, reduceIte, k4_0, decide_true, Bool.not_true, Bool.not_false, decide_false, eq_self, hB4.cell] <;> rfl))]; rfl) | exact gOk_z (gd_un (t := 50) rfl (by simp only [EN, Nat.reduceEqDiff, reduceIte, k4_0, decide_true, Bool.not_true, Bool.not_false, decide_false, eq_self, hB4.cell] <;> rfl))) ?_
              refine LD.offS rfl (by first | (rw [gOk_s (gd_at (t := 50) rfl (by simp only [EN, Nat.reduceEqDiff, reduceIte, i5_0, decide_true, Bool.not_true, Bool.not_false, decide_false, eq_self, hB4.cell] <;> rfl))]; rfl) | exact gOk_z (gd_un (t := 50) rfl (by simp only [EN, Nat.reduceEqDiff, reduceIte, i5_0, decide_true, Bool.not_true, Bool.not_false, decide_false, eq_self, hB4.cell] <;> rfl))) ?_
              refine LD.offS rfl (by first | (rw [gOk_s (gd_at (t := 50) rfl (by simp only [EN, Nat.reduceEqDiff, reduceIte, decide_true, Bool.not_true, Bool.not_false, decide_false, eq_self, hB4.cell] <;> rfl))]; rfl) | exact gOk_z (gd_un (t := 50) rfl (by simp only [EN, Nat.reduceEqDiff, reduceIte, decide_true, Bool.not_true, Bool.not_false, decide_false, eq_self, hB4.cell] <;> rfl))) ?_
              refine LD.offS rfl (by first | (rw [gOk_s (gd_at (t := 50) rfl (by simp only [EN, Nat.reduceEqDiff, reduceIte, decide_true, Bool.not_true, Bool.not_false, decide_false, eq_self, hB4.cell] <;> rfl))]; rfl) | exact gOk_z (gd_un (t := 50) rfl (by simp only [EN, Nat.reduceEqDiff, reduceIte, decide_true, Bool.not_true, Bool.not_false, decide_false, eq_self, hB4.cell] <;> rfl))) ?_
              refine LD.offS rfl (by first | (rw [gOk_s (gd_at (t := 50) rfl (by simp only [EN, Nat.reduceEqDiff, reduceIte, decide_true, Bool.not_true, Bool.not_false, decide_false, eq_self, hB4.cell] <;> rfl))]; rfl) | exact gOk_z (gd_un (t := 50) rfl (by simp only [EN, Nat.reduceEqDiff, reduceIte, decide_true, Bool.not_true, Bool.not_false, decide_false, eq_self, hB4.cell] <;> rfl))) ?_
              refine LD.offS rfl (by first | (rw [gOk_s (gd_at (t := 50) rfl (by simp only [EN, Nat.reduceEqDiff, reduceIte, decide_true, Bool.not_true, Bool.not_false, decide_false, eq_self, hB4.cell] <;> rfl))]; rfl) | exact gOk_z (gd_un (t := 50) rfl (by simp only [EN, Nat.reduceEqDiff, reduceIte, decide_true, Bool.not_true, Bool.not_false, decide_false, eq_self, hB4.cell] <;> rfl))) ?_
              refine LD.offS rfl (by first | (rw [gOk_s (gd_at (t := 50) rfl (by simp only [EN, Nat.reduceEqDiff, reduceIte, decide_true, Bool.not_true, Bool.not_false, decide_false, eq_self, hB4.cell] <;> rfl))]; rfl) | exact gOk_z (gd_un (t := 50) rfl (by simp only [EN, Nat.reduceEqDiff, reduceIte, decide_true, Bool.not_true, Bool.not_false, decide_false, eq_self, hB4.cell] <;> rfl))) ?_
              refine LD.qq rfl rfl (by simp only [EN, Nat.reduceEqDiff, reduceIte, qv_pick, pk_and, pk_or, GR, decide_true, Bool.not_true, Bool.not_false, decide_false, eq_self, hB4.cell]; rfl) ?_
              refine LD.qq rfl rfl (by simp only [EN, Nat.reduceEqDiff, reduceIte, qv_move, decide_true, Bool.not_true, Bool.not_false, decide_false, eq_self, hB4.cell]; rfl) ?_
              refine LD.on (by rw [gOk_s (gd_at (t := 61) rfl (by simp only [EN, Nat.reduceEqDiff, reduceIte, decide_true, Bool.not_true, Bool.not_false, decide_false, eq_self, hB4.cell] <;> rfl))]; rfl) ?_
              refine LD.qq rfl rfl (by simp only [EN, Nat.reduceEqDiff, reduceIte, qv_move, decide_true, Bool.not_true, Bool.not_false, decide_false, eq_self, hB4.cell]; rfl) ?_
              refine LD.on (by rw [gOk_s (gd_at (t := 61) rfl (by simp only [EN, Nat.reduceEqDiff, reduceIte, decide_true, Bool.not_true, Bool.not_false, decide_false, eq_self, hB4.cell] <;> rfl))]; rfl) ?_
              refine LD.qq rfl rfl (by simp only [EN, Nat.reduceEqDiff, reduceIte, qv_unOp, unv_not, decide_true, Bool.not_true, Bool.not_false, decide_false, eq_self, hB4.cell]; rfl) ?_
              refine LD.on (by rw [gOk_s (gd_at (t := 61) rfl (by simp only [EN, Nat.reduceEqDiff, reduceIte, decide_true, Bool.not_true, Bool.not_false, decide_false, eq_self, hB4.cell] <;> rfl))]; rfl) ?_
              refine LD.qq rfl rfl (by simp only [EN, Nat.reduceEqDiff, reduceIte, qv_move, decide_true, Bool.not_true, Bool.not_false, decide_false, eq_self, hB4.cell]; rfl) ?_
              refine LD.on (by rw [gOk_s (gd_at (t := 64) rfl (by simp only [EN, Nat.reduceEqDiff, reduceIte, decide_true, Bool.not_true, Bool.not_false, decide_false, eq_self, hB4.cell] <;> rfl))]; rfl) ?_
              refine LD.qq rfl rfl (by simp only [EN, Nat.reduceEqDiff, reduceIte, qv_load, ld55, readN, AR, Nat.zero_add, Nat.reduceAdd, decide_true, Bool.not_true, Bool.not_false, decide_false, eq_self, hB4.cell]; rfl) ?_
              refine LD.on (by rw [gOk_s (gd_at (t := 64) rfl (by simp only [EN, Nat.reduceEqDiff, reduceIte, decide_true, Bool.not_true, Bool.not_false, decide_false, eq_self, hB4.cell] <;> rfl))]; rfl) ?_
              refine LD.es rfl rfl (by intro hD hr hf; have hx : Ext _ _ := hr; have hs := hs.ext hx; have hb := hb.ext hx; have hS := hS.ext hx; have hyr := hyr.ext hx; have hB4 := hB4.ext hx; exact EOp.mono (e_call Try.call26 (by simp only [EN, Nat.reduceEqDiff, reduceIte, k3_0, k4_0, i5_0, decide_true, Bool.not_true, Bool.not_false, decide_false, eq_self, hB4.cell, List.map_toArray, List.map_cons, List.map_nil]; exact c_back y hfy.lens hyr.in_)) (fun _ _ hh => bk_of hh)) ?_
              intro u12_17 w12_17
              refine LD.on (by rw [gOk_s (gd_at (t := 64) rfl (by simp only [EN, Nat.reduceEqDiff, reduceIte, decide_true, Bool.not_true, Bool.not_false, decide_false, eq_self, hB4.cell] <;> rfl))]; rfl) ?_
              refine LD.qq rfl rfl (by refine qv_bld (by simp only [EN, Nat.reduceEqDiff, reduceIte, AR, decide_true, Bool.not_true, Bool.not_false, decide_false, eq_self, hB4.cell] <;> rfl) (by rw [bl45]; simp [Instr.fill, Value.cells]; rfl)) ?_
              refine LD.on (by rw [gOk_s (gd_at (t := 64) rfl (by simp only [EN, Nat.reduceEqDiff, reduceIte, decide_true, Bool.not_true, Bool.not_false, decide_false, eq_self, hB4.cell] <;> rfl))]; rfl) ?_
              refine LD.es rfl rfl (by intro hD hr hf; have hx : Ext _ _ := hr; have hs := hs.ext hx; have hb := hb.ext hx; have hS := hS.ext hx; have hyr := hyr.ext hx; have hB4 := hB4.ext hx; have m3 := hf (17, u12_17) (by simp) (by show tb _ _ 17 = true; decide +kernel) _ rfl; exact EOp.mono (e_call Try.call25 (by simp only [EN, Nat.reduceEqDiff, reduceIte, k3_0, k4_0, i5_0, decide_true, Bool.not_true, Bool.not_false, decide_false, eq_self, hB4.cell, List.map_toArray, List.map_cons, List.map_nil]; exact c_sameB hfy m3 zX ⟨SlG.nil, fun p hp => by cases hp⟩ (r := true) (by simp [hyx]; rfl))) (fun _ _ hh => grow_is hh)) ?_
              intro u12_19 w12_19
              have hu9 : u12_19 = _ := w12_19
              subst hu9
              refine LD.on (by rw [gOk_s (gd_at (t := 64) rfl (by simp only [EN, Nat.reduceEqDiff, reduceIte, decide_true, Bool.not_true, Bool.not_false, decide_false, eq_self, hB4.cell] <;> rfl))]; rfl) ?_
              refine LD.qq rfl rfl (by simp only [EN, Nat.reduceEqDiff, reduceIte, qv_unOp, unv_not, decide_true, Bool.not_true, Bool.not_false, decide_false, eq_self, hB4.cell]; rfl) ?_
              refine LD.on (by rw [gOk_s (gd_at (t := 61) rfl (by simp only [EN, Nat.reduceEqDiff, reduceIte, decide_true, Bool.not_true, Bool.not_false, decide_false, eq_self, hB4.cell] <;> rfl))]; rfl) ?_
              refine LD.qq rfl rfl (by simp only [EN, Nat.reduceEqDiff, reduceIte, qv_pick, pk_and, pk_or, GR, decide_true, Bool.not_true, Bool.not_false, decide_false, eq_self, hB4.cell]; rfl) ?_
              refine LD.qq rfl rfl (by simp only [EN, Nat.reduceEqDiff, reduceIte, qv_pick, pk_and, pk_or, GR, decide_true, Bool.not_true, Bool.not_false, decide_false, eq_self, hB4.cell]; rfl) ?_
              refine LD.nil ?_
              rintro h6 hx6 hF12
              replace hx6 : Ext _ _ := hx6
              replace hs := hs.ext hx6
              replace hb := hb.ext hx6
              replace hS := hS.ext hx6
              replace hyr := hyr.ext hx6
              replace hB4 := hB4.ext hx6
              refine WL.nil ?_
              refine th_norm ?_
              refine hx_cond (by simp only [EN, Nat.reduceEqDiff, reduceIte, decide_true, Bool.not_true, Bool.not_false, decide_false, eq_self, hB4.cell]; rfl) (fun hct71 => ?_) (fun hct71 => ?_)
              ·
                simp at hct71
              ·
                try simp only [BD] at hct71
                refine hx_skip ?_
                refine bl_norm ?_
                refine th_norm ?_
                refine hx_region ?_
                refine WL.qq (by simp only [EN, Nat.reduceEqDiff, reduceIte, qv_move, i5_0, decide_true, Bool.not_true, Bool.not_false, decide_false, eq_self, hB4.cell]; rfl) ?_
                refine WL.qq (by simp only [EN, Nat.reduceEqDiff, reduceIte, qv_binOp, binv_add, decide_true, Bool.not_true, Bool.not_false, decide_false, eq_self, hB4.cell]; (try simp (disch := omega) only [w64, w8, wu64]); rfl) ?_
                refine WL.qq (by simp only [EN, Nat.reduceEqDiff, reduceIte, qv_assign, decide_true, Bool.not_true, Bool.not_false, decide_false, eq_self, hB4.cell]; rfl) ?_
                refine WL.nil ?_
                refine th_norm ?_
                refine ⟨rfl, ?_, ?_, _, ?_, i + 1, rfl, ?_, ?_⟩  -- again 1 of loop 0
                · exact (hx3).trans ((hx4).trans (hx6))
                · (repeat (first | exact Fr.refl _ _ | refine Fr.set rfl ?_ | refine Fr.put rfl ?_ | with_reducible refine Fr.put0 ?_))
                · omega
                · omega
                · simp only [EN, Nat.reduceEqDiff, reduceIte, k3_0, k4_0, i5_0, decide_true, Bool.not_true, Bool.not_false, decide_false, eq_self, hB4.cell] <;> first | rfl | (congr 1; omega)
        ·
          try simp only [BD] at hct30
          refine hx_exit ?_
          refine th_exit ?_
          refine th_exit ?_
          refine bl_hit ?_
          refine th_norm ?_
          refine hx_seq ?_
          refine hx_region ?_
          refine WL.cg Try.call13 (by simp only [EN, Nat.reduceEqDiff, reduceIte, AR, decide_true, Bool.not_true, Bool.not_false, decide_false, eq_self]; exact c_known14 _) ?_
          intro h7 hx7
          replace hs := hs.ext hx7
          replace hb := hb.ext hx7
          replace hS := hS.ext hx7
          refine WL.qq (by simp only [EN, Nat.reduceEqDiff, reduceIte, qv_assign, decide_true, Bool.not_true, Bool.not_false, decide_false, eq_self]; rfl) ?_
          refine WL.nil ?_
          refine th_norm ?_
          refine hx_ret ?_
          refine fin_ret [.tmp 2] rfl rfl (by simp only [EN, Nat.reduceEqDiff, reduceIte, resv, k3_0, k4_0, i5_0, decide_true, Bool.not_true, Bool.not_false, decide_false, eq_self]; rfl) ?_  -- ret 1 r14
          exact ⟨rfl, ((hx2).trans ((hX0).trans (hx7)))⟩
end GL
namespace Go.Proofs.Ytklhfckdifkpaaa.historyAppend
open Go.ChangeShapes Go.WideShapes Go.ChangeAt Go.RowKit
theorem own : ownKnob Try.prog.godebug = none := by kernel_rfl
theorem laid : laidOutB Try.prog = true := by kernel_rfl
set_option maxRecDepth 100000 in
theorem lifted (os : Os) (started : os.Started) (H : Type) (enc : TypeId × Value → H) :
    ReturnsInHanded {} Try.checked os 6 .any (Rows.historyAppendSpec.pre6 enc Try.prog Try.f6 Rows.historyAppendRow.domain false) (Rows.historyAppendSpec.post enc Try.prog Try.f6 false true false false) := by
  refine returnsInHanded_of_change (C := Try.checked) own started (by kernel_rfl) Try.func6
    (ChangeSpec.witness6 (enc := enc) (C := Try.checked) false ⟨#[], #[(.slice none 0 0)], []⟩ 8 (by kernel_rfl) (by kernel_rfl) (by kernel_rfl) (by kernel_rfl)) ?_
  intro W base args ds gs before hval0 hW hcnd _
  have hval : ∀ (j : Nat) t v, Try.f6.params[j]? = some t → args[j]? = some v → Value.okWide Try.prog W .any base t v := hval0
  have hW' := hW
  obtain ⟨p, q, hA0, hV, rfl, hfz, hnd⟩ := hW
  have hA : DataW.TrodAll enc Try.prog W 0 (fun _ => true) true Try.f6.params.toList args.toList ds p := hA0
  rw [Try.params6] at hA hval
  obtain ⟨v0, vs0, d0, ds0, p0, q0, hargs, rfl, rfl, h0, r0⟩ := trodAll_cons hA
  obtain ⟨rfl, rfl, rfl⟩ := trodAll_nil r0
  obtain rfl : args = #[v0] := by cases args; simp_all
  obtain ⟨rfl, rfl⟩ := trodVars_none hV
  obtain ⟨al, l, cl, rfl, hl, hb, hll⟩ := GL.view_bs (hval 0 22 v0 rfl rfl) h0
  exact GL.law_done (tb := 4) laid (by kernel_rfl) rfl (by kernel_rfl) Try.underlying4 hW' rfl (GL.l_app al l cl hl hb hll)
theorem over : Rows.historyAppendRow.holds Try.pinned (OpenSpec.ofChange Rows.historyAppendSpec) :=
  OpenClaim.holds_of_wide 6 Try.f6 rfl rfl rfl rfl rfl rfl rfl ⟨rfl, rfl, rfl, rfl, rfl⟩ rfl rfl rfl rfl rfl (by kernel_rfl) Try.func6 (by kernel_rfl)
    (of_decide_eq_true (by kernel_rfl)) (by unfold Func.isWrapper; first | (rw [if_pos (by decide +kernel)]; kernel_rfl) | (rw [if_neg (by decide +kernel)]; exact ⟨rfl, rfl⟩))
    (fun os started H enc _ => lifted os started H enc)
theorem proved : Rows.HistoryAppendSaid := over
end Go.Proofs.Ytklhfckdifkpaaa.historyAppend


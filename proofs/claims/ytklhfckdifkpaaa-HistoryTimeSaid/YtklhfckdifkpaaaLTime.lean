/- The law HistoryTime returns true: SequenceAt is the last bundle that is not after a time, and rises with the time. No condition beyond the row's own. -/
import Derived.Test.YtklhfckdifkpaaaRows
import Derived.Test.YtklhfckdifkpaaaHisO
import Derived.Test.YtklhfckdifkpaaaHisV
set_option linter.unusedSimpArgs false
set_option linter.unusedVariables false
set_option linter.unnecessarySimpa false
namespace GL
open Go Go.Proofs
set_option maxRecDepth 8000
theorem seq_self {l : List HB} (hg : GH l) {i : Nat} {b : HB} (hi : l[i]? = some b) : i < seqN l b.day b.mn :=
  ((seq_spec b.day b.mn hg).2 i b hi).2 (by unfold ltr; omega)
theorem seq_up {l : List HB} (hg : GH l) {i : Nat} {b c : HB} (hi : l[i]? = some b) (hc : l[i + 1]? = some c) : seqN l b.day b.mn ≤ seqN l c.day c.mn := by
  obtain ⟨h1, h2⟩ := seq_spec b.day b.mn hg
  obtain ⟨h3, h4⟩ := seq_spec c.day c.mn hg
  refine Nat.le_of_not_lt fun hlt => ?_
  obtain ⟨y, hy⟩ := atG (l := l) (i := seqN l c.day c.mn) (by omega)
  have h5 := (h2 _ y hy).1 hlt
  have h6 := (h4 i b hi).1 (by have := seq_self hg hc; omega)
  have h7 := (h4 _ y hy).2 (ltr_trans h6 h5)
  omega
set_option maxHeartbeats 2000000 in
theorem l_time (al : Option Addr) (L : List BX) (cl : Nat) (d m : Int) {h : Heap} (hs : SlG 4 bdL h al L) (hb : BXs h L) (ll : L.length ≤ 9223372036854775807) :
    HCalls Try.prog 4 #[.slice al L.length cl, iV d, iV m] h (Grow (.bool true) h) := by
  refine hcalls2 Try.func4 rfl (by decide +kernel) (by simp only [Try.ntmps4]; exact of_decide_eq_true rfl) ?_
  intro e hin
  have e0 := hin 0 _ rfl
  have e1 := hin 1 _ rfl
  have e2 := hin 2 _ rfl
  refine hx_seq ?_
  refine hx_region ?_
  refine WL.qq (by simp only [EN, Nat.reduceEqDiff, reduceIte, qv_assign, decide_true, Bool.not_true, Bool.not_false, decide_false, eq_self]; rfl) ?_
  refine WL.nil ?_
  refine th_norm ?_
  refine hx_seq ?_
  refine hx_seq ?_
  refine hx_region ?_
  refine WL.qq (by simp only [EN, Nat.reduceEqDiff, reduceIte, qv_move, e0, decide_true, Bool.not_true, Bool.not_false, decide_false, eq_self]; rfl) ?_
  refine WL.ck Try.call12 (by simp only [EN, Nat.reduceEqDiff, reduceIte, AR, decide_true, Bool.not_true, Bool.not_false, decide_false, eq_self]; exact c_few al L cl ll hs hb) ?_
  refine WL.qq (by simp only [EN, Nat.reduceEqDiff, reduceIte, qv_unOp, unv_not, decide_true, Bool.not_true, Bool.not_false, decide_false, eq_self]; rfl) ?_
  refine WL.nil ?_
  refine th_norm ?_
  refine hx_cond (by simp only [EN, Nat.reduceEqDiff, reduceIte, decide_true, Bool.not_true, Bool.not_false, decide_false, eq_self]; rfl) (fun hct14 => ?_) (fun hct14 => ?_)
  ·
    try simp only [BD] at hct14
    refine hx_seq ?_
    refine hx_region ?_
    refine WL.cg Try.call13 (by simp only [EN, Nat.reduceEqDiff, reduceIte, AR, decide_true, Bool.not_true, Bool.not_false, decide_false, eq_self]; exact c_known14 _) ?_
    intro h1 hx1
    replace hs := hs.ext hx1
    replace hb := hb.ext hx1
    refine WL.qq (by simp only [EN, Nat.reduceEqDiff, reduceIte, qv_assign, decide_true, Bool.not_true, Bool.not_false, decide_false, eq_self]; rfl) ?_
    refine WL.nil ?_
    refine th_norm ?_
    refine hx_ret ?_
    refine th_ret ?_
    refine fin_ret [.tmp 6] rfl rfl (by simp only [EN, Nat.reduceEqDiff, reduceIte, resv, e0, e1, e2, decide_true, Bool.not_true, Bool.not_false, decide_false, eq_self]; rfl) ?_  -- ret 0 r2
    exact ⟨rfl, (hx1)⟩
  ·
    try simp only [BD] at hct14
    have hF : FW L := (by simpa using hct14)
    refine hx_skip ?_
    refine th_norm ?_
    refine hx_seq ?_
    refine hx_region ?_
    refine WL.qq (by simp only [EN, Nat.reduceEqDiff, reduceIte, qv_move, e0, decide_true, Bool.not_true, Bool.not_false, decide_false, eq_self]; rfl) ?_
    refine WL.ce Try.call14 (by simp only [EN, Nat.reduceEqDiff, reduceIte, AR, decide_true, Bool.not_true, Bool.not_false, decide_false, eq_self]; exact c_build al L cl hF hs hb) ?_
    rintro _ h2 ⟨hx2, p, a, c, xs, rfl, hS⟩
    replace hs := hs.ext hx2
    replace hb := hb.ext hx2
    simp only [put_some]
    refine WL.qq (by simp only [EN, Nat.reduceEqDiff, reduceIte, qv_move, decide_true, Bool.not_true, Bool.not_false, decide_false, eq_self]; rfl) ?_
    refine WL.qq (by simp only [EN, Nat.reduceEqDiff, reduceIte, qv_extract, AR, decide_true, Bool.not_true, Bool.not_false, decide_false, eq_self]; rfl) ?_
    refine WL.qq (by simp only [EN, Nat.reduceEqDiff, reduceIte, qv_extract, AR, decide_true, Bool.not_true, Bool.not_false, decide_false, eq_self]; rfl) ?_
    refine WL.qq (by simp only [EN, Nat.reduceEqDiff, reduceIte, qv_assign, decide_true, Bool.not_true, Bool.not_false, decide_false, eq_self]; rfl) ?_
    refine WL.qq (by simp only [EN, Nat.reduceEqDiff, reduceIte, qv_assign, decide_true, Bool.not_true, Bool.not_false, decide_false, eq_self]; rfl) ?_
    refine WL.nil ?_
    refine th_norm ?_
    refine hx_seq ?_
    refine hx_seq ?_
    refine hx_region ?_
    have hn12 : xs.length ≤ 12 := (by have := hS.n; omega)
    refine WL.qq (by simp only [EN, Nat.reduceEqDiff, reduceIte, qv_move, decide_true, Bool.not_true, Bool.not_false, decide_false, eq_self]; rfl) ?_
    refine WL.qq (by simp only [EN, Nat.reduceEqDiff, reduceIte, qv_binOp, binv_eql, eqz27, eqn27, eqm27, Option.map_some, decide_true, Bool.not_true, Bool.not_false, decide_false, eq_self]; rfl) ?_
    refine WL.qq (by simp only [EN, Nat.reduceEqDiff, reduceIte, qv_move, decide_true, Bool.not_true, Bool.not_false, decide_false, eq_self]; rfl) ?_
    refine WL.cq (gd_at (t := 23) rfl (by simp only [EN, Nat.reduceEqDiff, reduceIte, decide_true, Bool.not_true, Bool.not_false, decide_false, eq_self] <;> rfl)) (fun hg4_3 => by simp only [EN, Nat.reduceEqDiff, reduceIte, qv_move, decide_true, Bool.not_true, Bool.not_false, decide_false, eq_self, hg4_3, GR]; rfl) ?_
    refine WL.cq (gd_at (t := 23) rfl (by simp only [EN, Nat.reduceEqDiff, reduceIte, e1, decide_true, Bool.not_true, Bool.not_false, decide_false, eq_self] <;> rfl)) (fun hg4_4 => by simp only [EN, Nat.reduceEqDiff, reduceIte, qv_move, e1, decide_true, Bool.not_true, Bool.not_false, decide_false, eq_self, hg4_4, GR]; rfl) ?_
    refine WL.cq (gd_at (t := 23) rfl (by simp only [EN, Nat.reduceEqDiff, reduceIte, e2, decide_true, Bool.not_true, Bool.not_false, decide_false, eq_self] <;> rfl)) (fun hg4_5 => by simp only [EN, Nat.reduceEqDiff, reduceIte, qv_move, e2, decide_true, Bool.not_true, Bool.not_false, decide_false, eq_self, hg4_5, GR]; rfl) ?_
    refine WL.cq (gd_at (t := 23) rfl (by simp only [EN, Nat.reduceEqDiff, reduceIte, decide_true, Bool.not_true, Bool.not_false, decide_false, eq_self] <;> rfl)) (fun hg4_6 => by refine qv_bld (by simp only [EN, Nat.reduceEqDiff, reduceIte, AR, decide_true, Bool.not_true, Bool.not_false, decide_false, eq_self, hg4_6, GR] <;> rfl) (by rw [bl41]; simp [Instr.fill, Value.cells]; rfl)) ?_
    refine WL.ccg (gd_at (t := 23) rfl (by simp only [EN, Nat.reduceEqDiff, reduceIte, decide_true, Bool.not_true, Bool.not_false, decide_false, eq_self] <;> rfl)) Try.call19 (fun hg4_7 => by simp only [EN, Nat.reduceEqDiff, reduceIte, AR, decide_true, Bool.not_true, Bool.not_false, decide_false, eq_self, hg4_7, GR]; exact c_seqAt d m hS.g hS.I.hr) ?_
    intro h3 hx3
    replace hs := hs.ext hx3
    replace hb := hb.ext hx3
    replace hS := hS.ext hx3
    refine WL.cq (gd_at (t := 23) rfl (by simp only [EN, Nat.reduceEqDiff, reduceIte, decide_true, Bool.not_true, Bool.not_false, decide_false, eq_self] <;> rfl)) (fun hg4_8 => by simp only [EN, Nat.reduceEqDiff, reduceIte, qv_move, decide_true, Bool.not_true, Bool.not_false, decide_false, eq_self, hg4_8, GR]; rfl) ?_
    refine WL.cq (gd_at (t := 23) rfl (by simp only [EN, Nat.reduceEqDiff, reduceIte, e1, decide_true, Bool.not_true, Bool.not_false, decide_false, eq_self] <;> rfl)) (fun hg4_9 => by simp only [EN, Nat.reduceEqDiff, reduceIte, qv_move, e1, decide_true, Bool.not_true, Bool.not_false, decide_false, eq_self, hg4_9, GR]; rfl) ?_
    refine WL.cq (gd_at (t := 23) rfl (by simp only [EN, Nat.reduceEqDiff, reduceIte, e2, decide_true, Bool.not_true, Bool.not_false, decide_false, eq_self] <;> rfl)) (fun hg4_10 => by simp only [EN, Nat.reduceEqDiff, reduceIte, qv_move, e2, decide_true, Bool.not_true, Bool.not_false, decide_false, eq_self, hg4_10, GR]; rfl) ?_
    refine WL.cck (gd_at (t := 23) rfl (by simp only [EN, Nat.reduceEqDiff, reduceIte, decide_true, Bool.not_true, Bool.not_false, decide_false, eq_self] <;> rfl)) Try.call20 (fun hg4_11 => by simp only [EN, Nat.reduceEqDiff, reduceIte, AR, decide_true, Bool.not_true, Bool.not_false, decide_false, eq_self, hg4_11, GR]; exact c_rSeq a xs c d m hS.m (by have := hS.n; omega) hS.sl) ?_
    refine WL.cq (gd_at (t := 23) rfl (by simp only [EN, Nat.reduceEqDiff, reduceIte, decide_true, Bool.not_true, Bool.not_false, decide_false, eq_self] <;> rfl)) (fun hg4_12 => by simp only [EN, Nat.reduceEqDiff, reduceIte, qv_binOp, binv_neq, eq3, Option.map_some, decide_true, Bool.not_true, Bool.not_false, decide_false, eq_self, hg4_12, GR]; rfl) ?_
    refine WL.qq (by simp only [EN, Nat.reduceEqDiff, reduceIte, qv_pick, pk_and, pk_or, GR, decide_true, Bool.not_true, Bool.not_false, decide_false, eq_self]; rfl) ?_
    refine WL.nil ?_
    refine th_norm ?_
    refine hx_cond (by simp only [EN, Nat.reduceEqDiff, reduceIte, decide_true, Bool.not_true, Bool.not_false, decide_false, eq_self]; rfl) (fun hct34 => ?_) (fun hct34 => ?_)
    ·
      simp at hct34
    ·
      try simp only [BD] at hct34
      refine hx_skip ?_
      refine th_norm ?_
      refine hx_seq ?_
      refine hx_region ?_
      refine WL.qq (by simp only [EN, Nat.reduceEqDiff, reduceIte, qv_assign, decide_true, Bool.not_true, Bool.not_false, decide_false, eq_self]; rfl) ?_
      refine WL.nil ?_
      refine th_norm ?_
      refine hx_seq ?_
      refine hx_seq ?_
      refine hx_region ?_
      refine WL.qq (by simp only [EN, Nat.reduceEqDiff, reduceIte, qv_assign, decide_true, Bool.not_true, Bool.not_false, decide_false, eq_self]; rfl) ?_
      refine WL.nil ?_
      refine th_norm ?_
      refine hx_block ?_
      refine hx_loopX [6, 9, 10, 11, 35, 36, 37, 38, 39, 40, 41, 42, 43, 44, 45, 46, 47, 48, 49, 50, 51, 52, 53, 54, 55, 56, 57, 58, 59, 60, 61, 62, 63, 64, 65, 66, 67, 68, 69, 70, 71, 72, 73, 74, 75, 76, 77, 78, 79] (fun k e => ∃ (i : Nat) (la : Nat), xs.length - i = k ∧ (i ≤ xs.length) ∧ ((∀ b, (runB (L.map BX.bd))[i]? = some b → la ≤ seqN (runB (L.map BX.bd)) b.day b.mn)) ∧ e 9 = .int .i64 la ∧ e 10 = .int .i64 i) _ ⟨0, 0, rfl, ?_, ?_, ?_, ?_⟩ ?_
      · omega
      · intro b hb; omega
      · simp only [EN, Nat.reduceEqDiff, reduceIte, e0, e1, e2, decide_true, Bool.not_true, Bool.not_false, decide_false, eq_self] <;> rfl
      · simp only [EN, Nat.reduceEqDiff, reduceIte, e0, e1, e2, decide_true, Bool.not_true, Bool.not_false, decide_false, eq_self] <;> rfl
      ·
        rintro k e0L hL0 hX0 hfr0 ⟨i, la, rfl, hi, hla, i9_0, i10_0⟩
        replace hs := hs.ext hX0
        replace hb := hb.ext hX0
        replace hS := hS.ext hX0
        have k7_0 := hfr0 7 rfl; try simp only [EN, Nat.reduceEqDiff, reduceIte, decide_true, Bool.not_true, Bool.not_false, decide_false, eq_self] at k7_0
        have k8_0 := hfr0 8 rfl; try simp only [EN, Nat.reduceEqDiff, reduceIte, decide_true, Bool.not_true, Bool.not_false, decide_false, eq_self] at k8_0
        refine hx_seq ?_
        refine hx_seq ?_
        refine hx_region ?_
        refine WL.qq (by simp only [EN, Nat.reduceEqDiff, reduceIte, qv_move, i10_0, decide_true, Bool.not_true, Bool.not_false, decide_false, eq_self]; rfl) ?_
        refine WL.qq (by simp only [EN, Nat.reduceEqDiff, reduceIte, qv_move, k8_0, decide_true, Bool.not_true, Bool.not_false, decide_false, eq_self]; rfl) ?_
        refine WL.qq (by simp only [EN, Nat.reduceEqDiff, reduceIte, qv_len, ln22, AR, decide_true, Bool.not_true, Bool.not_false, decide_false, eq_self]; rfl) ?_
        refine WL.qq (by simp only [EN, Nat.reduceEqDiff, reduceIte, qv_binOp, binv_lss, decide_true, Bool.not_true, Bool.not_false, decide_false, eq_self]; rfl) ?_
        refine WL.nil ?_
        refine th_norm ?_
        refine hx_cond (by simp only [EN, Nat.reduceEqDiff, reduceIte, decide_true, Bool.not_true, Bool.not_false, decide_false, eq_self]; rfl) (fun hct38 => ?_) (fun hct38 => ?_)
        ·
          try simp only [BD] at hct38
          obtain ⟨x, hx⟩ := atG (l := xs) (i := i) (by omega)
          obtain ⟨b1, o1, ha1, hr1, hc1, hc2, hc3, _⟩ := bd_rd hS.sl hx
          have hxb : (runB (L.map BX.bd))[i]? = some x.bd := (by rw [← hS.m]; exact bd_at hx)
          have hq1 : i < seqN (runB (L.map BX.bd)) x.day x.mn := seq_self hS.g.g hxb; have hq2 : la ≤ seqN (runB (L.map BX.bd)) x.day x.mn := hla _ hxb
          refine hx_skip ?_
          refine th_norm ?_
          refine hx_seq ?_
          refine hx_block ?_
          refine hx_seq ?_
          apply hx_draw2 Rel.grows [] [12] [(12, Spec.is _)] rfl (by decide +kernel) rfl
          refine LD.qq rfl rfl (by simp only [EN, Nat.reduceEqDiff, reduceIte, qv_move, k7_0, decide_true, Bool.not_true, Bool.not_false, decide_false, eq_self]; rfl) ?_
          refine LD.qq rfl rfl (by simp only [EN, Nat.reduceEqDiff, reduceIte, qv_move, k8_0, decide_true, Bool.not_true, Bool.not_false, decide_false, eq_self]; rfl) ?_
          refine LD.qq rfl rfl (by simp only [EN, Nat.reduceEqDiff, reduceIte, qv_move, i10_0, decide_true, Bool.not_true, Bool.not_false, decide_false, eq_self]; rfl) ?_
          refine LD.qq rfl rfl (by simp only [EN, Nat.reduceEqDiff, reduceIte, qv_indexAddr, decide_true, Bool.not_true, Bool.not_false, decide_false, eq_self, ha1]; (try simp (disch := omega) only [ix22, Int.toNat_natCast]); rfl) ?_
          refine LD.qq rfl rfl (by simp only [EN, Nat.reduceEqDiff, reduceIte, qv_fieldAddr, fa45_1, Nat.zero_add, Nat.reduceAdd, decide_true, Bool.not_true, Bool.not_false, decide_false, eq_self]; rfl) ?_
          refine LD.qq rfl rfl (by simp only [EN, Nat.reduceEqDiff, reduceIte, k7_0, k8_0, i9_0, i10_0, decide_true, Bool.not_true, Bool.not_false, decide_false, eq_self, qv_load, ld3, Int.toNat_natCast, hc2]; rfl) ?_
          refine LD.qq rfl rfl (by simp only [EN, Nat.reduceEqDiff, reduceIte, qv_move, k8_0, decide_true, Bool.not_true, Bool.not_false, decide_false, eq_self]; rfl) ?_
          refine LD.qq rfl rfl (by simp only [EN, Nat.reduceEqDiff, reduceIte, qv_move, i10_0, decide_true, Bool.not_true, Bool.not_false, decide_false, eq_self]; rfl) ?_
          refine LD.qq rfl rfl (by simp only [EN, Nat.reduceEqDiff, reduceIte, qv_indexAddr, decide_true, Bool.not_true, Bool.not_false, decide_false, eq_self, ha1]; (try simp (disch := omega) only [ix22, Int.toNat_natCast]); rfl) ?_
          refine LD.qq rfl rfl (by simp only [EN, Nat.reduceEqDiff, reduceIte, qv_fieldAddr, fa45_2, Nat.zero_add, Nat.reduceAdd, decide_true, Bool.not_true, Bool.not_false, decide_false, eq_self]; rfl) ?_
          refine LD.qq rfl rfl (by simp only [EN, Nat.reduceEqDiff, reduceIte, k7_0, k8_0, i9_0, i10_0, decide_true, Bool.not_true, Bool.not_false, decide_false, eq_self, qv_load, ld3, Int.toNat_natCast, hc3]; rfl) ?_
          refine LD.qq rfl rfl (by refine qv_bld (by simp only [EN, Nat.reduceEqDiff, reduceIte, AR, decide_true, Bool.not_true, Bool.not_false, decide_false, eq_self] <;> rfl) (by rw [bl41]; simp [Instr.fill, Value.cells]; rfl)) ?_
          refine LD.ck rfl rfl Try.call19 (by intro hD hr; have hx : Ext _ _ := hr; have hs := hs.ext hx; have hb := hb.ext hx; have hS := hS.ext hx; simp only [EN, Nat.reduceEqDiff, reduceIte, AR, decide_true, Bool.not_true, Bool.not_false, decide_false, eq_self]; exact c_seqAt x.day x.mn hS.g hS.I.hr) ?_
          refine LD.qq rfl rfl (by simp only [EN, Nat.reduceEqDiff, reduceIte, qv_assign, decide_true, Bool.not_true, Bool.not_false, decide_false, eq_self]; rfl) ?_
          refine LD.nil ?_
          rintro h4 hx4 hF10
          replace hx4 : Ext _ _ := hx4
          replace hs := hs.ext hx4
          replace hb := hb.ext hx4
          replace hS := hS.ext hx4
          refine WL.nil ?_
          refine th_norm ?_
          refine hx_seq ?_
          refine hx_seq ?_
          apply hx_draw2 Rel.same [] [22] [(22, Spec.is _)] rfl (by decide +kernel) rfl
          obtain ⟨b2, o2, ha2, _, _, hd2, hd3, _⟩ := bd_rd hS.sl hx
          refine LD.qq rfl rfl (by simp only [EN, Nat.reduceEqDiff, reduceIte, qv_move, decide_true, Bool.not_true, Bool.not_false, decide_false, eq_self]; rfl) ?_
          refine LD.qq rfl rfl (by simp only [EN, Nat.reduceEqDiff, reduceIte, qv_move, i10_0, decide_true, Bool.not_true, Bool.not_false, decide_false, eq_self]; rfl) ?_
          refine LD.qq rfl rfl (by simp only [EN, Nat.reduceEqDiff, reduceIte, qv_binOp, binv_add, decide_true, Bool.not_true, Bool.not_false, decide_false, eq_self]; (try simp (disch := omega) only [w64, w8, wu64]); rfl) ?_
          refine LD.qq rfl rfl (by simp only [EN, Nat.reduceEqDiff, reduceIte, qv_binOp, binv_lss, decide_true, Bool.not_true, Bool.not_false, decide_false, eq_self]; rfl) ?_
          refine LD.qq rfl rfl (by simp only [EN, Nat.reduceEqDiff, reduceIte, qv_move, decide_true, Bool.not_true, Bool.not_false, decide_false, eq_self]; rfl) ?_
          refine LD.cq rfl rfl (gd_at (t := 58) rfl (by simp only [EN, Nat.reduceEqDiff, reduceIte, decide_true, Bool.not_true, Bool.not_false, decide_false, eq_self] <;> rfl)) (fun hg11_5 => by simp only [EN, Nat.reduceEqDiff, reduceIte, qv_move, decide_true, Bool.not_true, Bool.not_false, decide_false, eq_self, hg11_5, GR]; rfl) ?_
          refine LD.cq rfl rfl (gd_at (t := 58) rfl (by simp only [EN, Nat.reduceEqDiff, reduceIte, i9_0, decide_true, Bool.not_true, Bool.not_false, decide_false, eq_self] <;> rfl)) (fun hg11_6 => by simp only [EN, Nat.reduceEqDiff, reduceIte, qv_move, i9_0, decide_true, Bool.not_true, Bool.not_false, decide_false, eq_self, hg11_6, GR]; rfl) ?_
          refine LD.cq rfl rfl (gd_at (t := 58) rfl (by simp only [EN, Nat.reduceEqDiff, reduceIte, decide_true, Bool.not_true, Bool.not_false, decide_false, eq_self] <;> rfl)) (fun hg11_7 => by simp only [EN, Nat.reduceEqDiff, reduceIte, qv_binOp, binv_lss, decide_true, Bool.not_true, Bool.not_false, decide_false, eq_self, hg11_7, GR]; rfl) ?_
          refine LD.qq rfl rfl (by simp only [EN, Nat.reduceEqDiff, reduceIte, qv_pick, pk_and, pk_or, GR, decide_true, Bool.not_true, Bool.not_false, decide_false, eq_self]; rfl) ?_
          refine LD.qq rfl rfl (by simp only [EN, Nat.reduceEqDiff, reduceIte, qv_move, decide_true, Bool.not_true, Bool.not_false, decide_false, eq_self]; rfl) ?_
          refine LD.cq rfl rfl (gd_at (t := 63) rfl (by simp only [EN, Nat.reduceEqDiff, reduceIte, decide_true, Bool.not_true, Bool.not_false, decide_false, eq_self] <;> rfl)) (fun hg11_10 => by simp only [EN, Nat.reduceEqDiff, reduceIte, qv_move, decide_true, Bool.not_true, Bool.not_false, decide_false, eq_self, hg11_10, GR]; rfl) ?_
          refine LD.cq rfl rfl (gd_at (t := 63) rfl (by simp only [EN, Nat.reduceEqDiff, reduceIte, k8_0, decide_true, Bool.not_true, Bool.not_false, decide_false, eq_self] <;> rfl)) (fun hg11_11 => by simp only [EN, Nat.reduceEqDiff, reduceIte, qv_move, k8_0, decide_true, Bool.not_true, Bool.not_false, decide_false, eq_self, hg11_11, GR]; rfl) ?_
          refine LD.cq rfl rfl (gd_at (t := 63) rfl (by simp only [EN, Nat.reduceEqDiff, reduceIte, k8_0, decide_true, Bool.not_true, Bool.not_false, decide_false, eq_self] <;> rfl)) (fun hg11_12 => by simp only [EN, Nat.reduceEqDiff, reduceIte, qv_move, k8_0, decide_true, Bool.not_true, Bool.not_false, decide_false, eq_self, hg11_12, GR]; rfl) ?_
          refine LD.cq rfl rfl (gd_at (t := 63) rfl (by simp only [EN, Nat.reduceEqDiff, reduceIte, i10_0, decide_true, Bool.not_true, Bool.not_false, decide_false, eq_self] <;> rfl)) (fun hg11_13 => by simp only [EN, Nat.reduceEqDiff, reduceIte, qv_move, i10_0, decide_true, Bool.not_true, Bool.not_false, decide_false, eq_self, hg11_13, GR]; rfl) ?_
          refine LD.cq rfl rfl (gd_at (t := 63) rfl (by simp only [EN, Nat.reduceEqDiff, reduceIte, decide_true, Bool.not_true, Bool.not_false, decide_false, eq_self] <;> rfl)) (fun hg11_14 => by have hq0 := hg11_14; (try simp only [BD] at hq0); simp only [EN, Nat.reduceEqDiff, reduceIte, qv_indexAddr, decide_true, Bool.not_true, Bool.not_false, decide_false, eq_self, ha2, hg11_14, GR]; (try simp (disch := omega) only [ix22, Int.toNat_natCast]); rfl) ?_
          refine LD.cq rfl rfl (gd_at (t := 63) rfl (by simp only [EN, Nat.reduceEqDiff, reduceIte, decide_true, Bool.not_true, Bool.not_false, decide_false, eq_self] <;> rfl)) (fun hg11_15 => by simp only [EN, Nat.reduceEqDiff, reduceIte, qv_fieldAddr, fa45_1, Nat.zero_add, Nat.reduceAdd, decide_true, Bool.not_true, Bool.not_false, decide_false, eq_self, hg11_15, GR]; rfl) ?_
          refine LD.cq rfl rfl (gd_at (t := 63) rfl (by simp only [EN, Nat.reduceEqDiff, reduceIte, decide_true, Bool.not_true, Bool.not_false, decide_false, eq_self] <;> rfl)) (fun hg11_16 => by simp only [EN, Nat.reduceEqDiff, reduceIte, k7_0, k8_0, i9_0, i10_0, decide_true, Bool.not_true, Bool.not_false, decide_false, eq_self, GR, hg11_16, qv_load, ld3, Int.toNat_natCast, hd2]; rfl) ?_
          refine LD.cq rfl rfl (gd_at (t := 63) rfl (by simp only [EN, Nat.reduceEqDiff, reduceIte, k8_0, decide_true, Bool.not_true, Bool.not_false, decide_false, eq_self] <;> rfl)) (fun hg11_17 => by simp only [EN, Nat.reduceEqDiff, reduceIte, qv_move, k8_0, decide_true, Bool.not_true, Bool.not_false, decide_false, eq_self, hg11_17, GR]; rfl) ?_
          refine LD.cq rfl rfl (gd_at (t := 63) rfl (by simp only [EN, Nat.reduceEqDiff, reduceIte, i10_0, decide_true, Bool.not_true, Bool.not_false, decide_false, eq_self] <;> rfl)) (fun hg11_18 => by simp only [EN, Nat.reduceEqDiff, reduceIte, qv_move, i10_0, decide_true, Bool.not_true, Bool.not_false, decide_false, eq_self, hg11_18, GR]; rfl) ?_
          refine LD.cq rfl rfl (gd_at (t := 63) rfl (by simp only [EN, Nat.reduceEqDiff, reduceIte, decide_true, Bool.not_true, Bool.not_false, decide_false, eq_self] <;> rfl)) (fun hg11_19 => by have hq0 := hg11_19; (try simp only [BD] at hq0); simp only [EN, Nat.reduceEqDiff, reduceIte, qv_indexAddr, decide_true, Bool.not_true, Bool.not_false, decide_false, eq_self, ha2, hg11_19, GR]; (try simp (disch := omega) only [ix22, Int.toNat_natCast]); rfl) ?_
          refine LD.cq rfl rfl (gd_at (t := 63) rfl (by simp only [EN, Nat.reduceEqDiff, reduceIte, decide_true, Bool.not_true, Bool.not_false, decide_false, eq_self] <;> rfl)) (fun hg11_20 => by simp only [EN, Nat.reduceEqDiff, reduceIte, qv_fieldAddr, fa45_2, Nat.zero_add, Nat.reduceAdd, decide_true, Bool.not_true, Bool.not_false, decide_false, eq_self, hg11_20, GR]; rfl) ?_
          refine LD.cq rfl rfl (gd_at (t := 63) rfl (by simp only [EN, Nat.reduceEqDiff, reduceIte, decide_true, Bool.not_true, Bool.not_false, decide_false, eq_self] <;> rfl)) (fun hg11_21 => by simp only [EN, Nat.reduceEqDiff, reduceIte, k7_0, k8_0, i9_0, i10_0, decide_true, Bool.not_true, Bool.not_false, decide_false, eq_self, GR, hg11_21, qv_load, ld3, Int.toNat_natCast, hd3]; rfl) ?_
          refine LD.cck rfl rfl (gd_at (t := 63) rfl (by simp only [EN, Nat.reduceEqDiff, reduceIte, decide_true, Bool.not_true, Bool.not_false, decide_false, eq_self] <;> rfl)) Try.call20 (fun hg11_22 => by intro hD hr; obtain rfl : hD = _ := hr; simp only [EN, Nat.reduceEqDiff, reduceIte, AR, decide_true, Bool.not_true, Bool.not_false, decide_false, eq_self, hg11_22, GR]; exact c_rSeq a xs c x.day x.mn hS.m (by have := hS.n; omega) hS.sl) ?_
          refine LD.cq rfl rfl (gd_at (t := 63) rfl (by simp only [EN, Nat.reduceEqDiff, reduceIte, decide_true, Bool.not_true, Bool.not_false, decide_false, eq_self] <;> rfl)) (fun hg11_23 => by simp only [EN, Nat.reduceEqDiff, reduceIte, qv_binOp, binv_neq, eq3, Option.map_some, decide_true, Bool.not_true, Bool.not_false, decide_false, eq_self, hg11_23, GR]; rfl) ?_
          refine LD.qq rfl rfl (by simp only [EN, Nat.reduceEqDiff, reduceIte, qv_pick, pk_and, pk_or, GR, decide_true, Bool.not_true, Bool.not_false, decide_false, eq_self]; rfl) ?_
          refine LD.nil ?_
          rintro _ rfl -
          refine WL.nil ?_
          refine th_norm ?_
          refine hx_cond (by simp only [EN, Nat.reduceEqDiff, reduceIte, decide_true, Bool.not_true, Bool.not_false, decide_false, eq_self]; rfl) (fun hct78 => ?_) (fun hct78 => ?_)
          ·
            simp at hct78; omega
          ·
            try simp only [BD] at hct78
            refine hx_skip ?_
            refine th_norm ?_
            refine hx_region ?_
            refine WL.qq (by simp only [EN, Nat.reduceEqDiff, reduceIte, qv_move, decide_true, Bool.not_true, Bool.not_false, decide_false, eq_self]; rfl) ?_
            refine WL.qq (by simp only [EN, Nat.reduceEqDiff, reduceIte, qv_assign, decide_true, Bool.not_true, Bool.not_false, decide_false, eq_self]; rfl) ?_
            refine WL.nil ?_
            refine bl_norm ?_
            refine th_norm ?_
            refine hx_region ?_
            refine WL.qq (by simp only [EN, Nat.reduceEqDiff, reduceIte, qv_move, i10_0, decide_true, Bool.not_true, Bool.not_false, decide_false, eq_self]; rfl) ?_
            refine WL.qq (by simp only [EN, Nat.reduceEqDiff, reduceIte, qv_binOp, binv_add, decide_true, Bool.not_true, Bool.not_false, decide_false, eq_self]; (try simp (disch := omega) only [w64, w8, wu64]); rfl) ?_
            refine WL.qq (by simp only [EN, Nat.reduceEqDiff, reduceIte, qv_assign, decide_true, Bool.not_true, Bool.not_false, decide_false, eq_self]; rfl) ?_
            refine WL.nil ?_
            refine th_norm ?_
            refine ⟨rfl, ?_, ?_, _, ?_, i + 1, seqN (runB (L.map BX.bd)) x.day x.mn, rfl, ?_, ?_, ?_, ?_⟩  -- again 0 of loop 0
            · exact hx4
            · (repeat (first | exact Fr.refl _ _ | refine Fr.set rfl ?_ | refine Fr.put rfl ?_ | with_reducible refine Fr.put0 ?_))
            · omega
            · omega
            · intro c hc; exact seq_up hS.g.g hxb hc
            · simp only [EN, Nat.reduceEqDiff, reduceIte, k7_0, k8_0, i9_0, i10_0, decide_true, Bool.not_true, Bool.not_false, decide_false, eq_self] <;> first | rfl | (congr 1; omega)
            · simp only [EN, Nat.reduceEqDiff, reduceIte, k7_0, k8_0, i9_0, i10_0, decide_true, Bool.not_true, Bool.not_false, decide_false, eq_self] <;> first | rfl | (congr 1; omega)
        ·
          try simp only [BD] at hct38
          refine hx_exit ?_
          refine th_exit ?_
          refine th_exit ?_
          refine bl_hit ?_
          refine th_norm ?_
          refine hx_seq ?_
          refine hx_region ?_
          refine WL.cg Try.call13 (by simp only [EN, Nat.reduceEqDiff, reduceIte, AR, decide_true, Bool.not_true, Bool.not_false, decide_false, eq_self]; exact c_known14 _) ?_
          intro h5 hx5
          replace hs := hs.ext hx5
          replace hb := hb.ext hx5
          replace hS := hS.ext hx5
          refine WL.qq (by simp only [EN, Nat.reduceEqDiff, reduceIte, qv_assign, decide_true, Bool.not_true, Bool.not_false, decide_false, eq_self]; rfl) ?_
          refine WL.nil ?_
          refine th_norm ?_
          refine hx_ret ?_
          refine fin_ret [.tmp 6] rfl rfl (by simp only [EN, Nat.reduceEqDiff, reduceIte, resv, k7_0, k8_0, i9_0, i10_0, decide_true, Bool.not_true, Bool.not_false, decide_false, eq_self]; rfl) ?_  -- ret 1 r14
          exact ⟨rfl, ((hx2).trans ((hx3).trans ((hX0).trans (hx5))))⟩
end GL
namespace Go.Proofs.Ytklhfckdifkpaaa.historyTime
open Go.ChangeShapes Go.WideShapes Go.ChangeAt Go.RowKit
theorem own : ownKnob Try.prog.godebug = none := by kernel_rfl
theorem laid : laidOutB Try.prog = true := by kernel_rfl
set_option maxRecDepth 100000 in
theorem lifted (os : Os) (started : os.Started) (H : Type) (enc : TypeId × Value → H) :
    ReturnsInHanded {} Try.checked os 4 .any (Rows.historyTimeSpec.pre6 enc Try.prog Try.f4 Rows.historyTimeRow.domain false) (Rows.historyTimeSpec.post enc Try.prog Try.f4 false true false false) := by
  refine returnsInHanded_of_change (C := Try.checked) own started (by kernel_rfl) Try.func4
    (ChangeSpec.witness6 (enc := enc) (C := Try.checked) false ⟨#[], #[(.slice none 0 0), (.int .i64 0), (.int .i64 0)], []⟩ 8 (by kernel_rfl) (by kernel_rfl) (by kernel_rfl) (by kernel_rfl)) ?_
  intro W base args ds gs before hval0 hW hcnd _
  have hval : ∀ (j : Nat) t v, Try.f4.params[j]? = some t → args[j]? = some v → Value.okWide Try.prog W .any base t v := hval0
  have hW' := hW
  obtain ⟨p, q, hA0, hV, rfl, hfz, hnd⟩ := hW
  have hA : DataW.TrodAll enc Try.prog W 0 (fun _ => true) true Try.f4.params.toList args.toList ds p := hA0
  rw [Try.params4] at hA hval
  obtain ⟨v0, vs0, d0, ds0, p0, q0, hargs, rfl, rfl, h0, r0⟩ := trodAll_cons hA
  obtain ⟨v1, vs1, d1, ds1, p1, q1, rfl, rfl, rfl, h1, r1⟩ := trodAll_cons r0
  obtain ⟨v2, vs2, d2, ds2, p2, q2, rfl, rfl, rfl, h2, r2⟩ := trodAll_cons r1
  obtain ⟨rfl, rfl, rfl⟩ := trodAll_nil r2
  obtain rfl : args = #[v0, v1, v2] := by cases args; simp_all
  obtain ⟨rfl, rfl⟩ := trodVars_none hV
  obtain ⟨al, l, cl, rfl, hl, hb, hll⟩ := GL.view_bs (hval 0 22 v0 rfl rfl) h0
  obtain ⟨d, rfl, _, _⟩ := GL.view_i (hval 1 3 v1 rfl rfl) h1
  obtain ⟨m, rfl, _, _⟩ := GL.view_i (hval 2 3 v2 rfl rfl) h2
  exact GL.law_done (tb := 4) laid (by kernel_rfl) rfl (by kernel_rfl) Try.underlying4 hW' rfl (GL.l_time al l cl d m hl hb hll)
theorem over : Rows.historyTimeRow.holds Try.pinned (OpenSpec.ofChange Rows.historyTimeSpec) :=
  OpenClaim.holds_of_wide 4 Try.f4 rfl rfl rfl rfl rfl rfl rfl ⟨rfl, rfl, rfl, rfl, rfl⟩ rfl rfl rfl rfl rfl (by kernel_rfl) Try.func4 (by kernel_rfl)
    (of_decide_eq_true (by kernel_rfl)) (by unfold Func.isWrapper; first | (rw [if_pos (by decide +kernel)]; kernel_rfl) | (rw [if_neg (by decide +kernel)]; exact ⟨rfl, rfl⟩))
    (fun os started H enc _ => lifted os started H enc)
theorem proved : Rows.HistoryTimeSaid := over
end Go.Proofs.Ytklhfckdifkpaaa.historyTime


/- The law ElectionNew returns true: New returns an election or the specified error, whatever the arguments. No condition beyond the row's own. -/
import Derived.Test.YtmooinekoeiajaaGreatDoorNwd
import Derived.Lay
import Derived.SevenTiedAt
import Derived.Test.YtmooinekoeiajaaGreatDoorRows
import Derived.Test.YtmooinekoeiajaaGreatDoorCards
import Derived.Test.YtmooinekoeiajaaGreatDoorTie
import Derived.Test.YtmooinekoeiajaaGreatDoorProg
set_option linter.unusedSimpArgs false
set_option linter.unusedVariables false
set_option linter.unnecessarySimpa false
namespace GL
open Go Go.Proofs
set_option maxRecDepth 8000
set_option maxHeartbeats 2000000 in
theorem l_new (x : SX) {h : Heap} (hs : SuI h x) : HCalls Tryz.prog 5 #[.agg (suC x)] h (Grow (.bool true) h) := by
  refine hcalls2 Tryz.func5 rfl (by decide +kernel) (by simp only [Tryz.ntmps5]; exact of_decide_eq_true rfl) ?_
  intro e hin
  have e0 := hin 0 _ rfl
  refine hx_seq (hx_region ?_)
  refine WL.box2 (by simp only [EN, Nat.reduceEqDiff, reduceIte, Value.cells, e0, decide_true, Bool.not_true, Bool.not_false, decide_false, eq_self]; rfl) ?_
  intro h1 B1 hx1 hlt1 hB1
  replace hs := hs.ext hx1
  refine WL.qq (by simp only [EN, Nat.reduceEqDiff, reduceIte, qv_assign, decide_true, Bool.not_true, Bool.not_false, decide_false, eq_self, hB1.cell]; rfl) ?_
  refine WL.nil (th_norm (hx_seq (hx_seq (hx_region ?_))))
  refine WL.cg Tryz.call10 (by simp only [EN, Nat.reduceEqDiff, reduceIte, AR, decide_true, Bool.not_true, Bool.not_false, decide_false, eq_self, hB1.cell]; exact c_known44 _) ?_
  intro h2 hx2
  replace hs := hs.ext hx2
  replace hB1 := hB1.ext hx2
  iterate 2 refine WL.qq (by simp only [EN, Nat.reduceEqDiff, reduceIte, qv_unOp, unv_not, decide_true, Bool.not_true, Bool.not_false, decide_false, eq_self, hB1.cell, qv_move]; rfl) ?_
  refine WL.cq (gd_at (t := 9) rfl (by simp only [EN, Nat.reduceEqDiff, reduceIte, decide_true, Bool.not_true, Bool.not_false, decide_false, eq_self, hB1.cell] <;> rfl)) (fun hg1_3 => by simp only [EN, Nat.reduceEqDiff, reduceIte, qv_load, ld27, readN, AR, Nat.zero_add, Nat.reduceAdd, decide_true, Bool.not_true, Bool.not_false, decide_false, eq_self, hB1.cell, hg1_3, GR]; rfl) ?_
  refine WL.ccg (gd_at (t := 9) rfl (by simp only [EN, Nat.reduceEqDiff, reduceIte, decide_true, Bool.not_true, Bool.not_false, decide_false, eq_self, hB1.cell] <;> rfl)) Tryz.call11 (fun hg1_4 => by simp only [EN, Nat.reduceEqDiff, reduceIte, AR, decide_true, Bool.not_true, Bool.not_false, decide_false, eq_self, hB1.cell, hg1_4, GR]; exact c_small x none 0 0 (by decide) _) ?_
  intro h3 hx3
  replace hs := hs.ext hx3
  replace hB1 := hB1.ext hx3
  refine WL.cq (gd_at (t := 9) rfl (by simp only [EN, Nat.reduceEqDiff, reduceIte, decide_true, Bool.not_true, Bool.not_false, decide_false, eq_self, hB1.cell] <;> rfl)) (fun hg1_5 => by simp only [EN, Nat.reduceEqDiff, reduceIte, qv_unOp, unv_not, decide_true, Bool.not_true, Bool.not_false, decide_false, eq_self, hB1.cell, hg1_5, GR]; rfl) ?_
  refine WL.qq (by simp only [EN, Nat.reduceEqDiff, reduceIte, qv_pick, pk_and, pk_or, GR, decide_true, Bool.not_true, Bool.not_false, decide_false, eq_self, hB1.cell]; rfl) ?_
  refine WL.nil (th_norm ?_)
  refine hx_cond (by simp only [EN, Nat.reduceEqDiff, reduceIte, decide_true, Bool.not_true, Bool.not_false, decide_false, eq_self, hB1.cell]; rfl) (fun hct13 => ?_) (fun hct13 => ?_)
  ·
   try simp only [BD] at hct13
   refine hx_seq (hx_region ?_)
   refine WL.cg Tryz.call10 (by simp only [EN, Nat.reduceEqDiff, reduceIte, AR, decide_true, Bool.not_true, Bool.not_false, decide_false, eq_self, hB1.cell]; exact c_known44 _) ?_
   intro h4 hx4
   replace hs := hs.ext hx4
   replace hB1 := hB1.ext hx4
   refine WL.qq (by simp only [EN, Nat.reduceEqDiff, reduceIte, qv_assign, decide_true, Bool.not_true, Bool.not_false, decide_false, eq_self, hB1.cell]; rfl) ?_
   refine WL.nil (th_norm (hx_ret (th_ret ?_)))
   refine fin_ret [.tmp 2] rfl rfl (by simp only [EN, Nat.reduceEqDiff, reduceIte, resv, e0, decide_true, Bool.not_true, Bool.not_false, decide_false, eq_self, hB1.cell]; rfl) ?_
   exact ⟨rfl, ((hx1).trans ((hx2).trans ((hx3).trans (hx4))))⟩
  ·
   try simp only [BD] at hct13
   have hsm : smE x 0 := (by simpa using hct13)
   refine hx_skip (th_norm (hx_seq (hx_region ?_)))
   refine WL.qq (by simp only [EN, Nat.reduceEqDiff, reduceIte, qv_load, ld27, readN, AR, Nat.zero_add, Nat.reduceAdd, decide_true, Bool.not_true, Bool.not_false, decide_false, eq_self, hB1.cell]; rfl) ?_
   refine WL.ce Tryz.call24 (by simp only [EN, Nat.reduceEqDiff, reduceIte, AR, decide_true, Bool.not_true, Bool.not_false, decide_false, eq_self, hB1.cell]; exact c_begin x hsm.1 hsm.2.1 hs) ?_
   rintro _ h5 ⟨hx5, u, w, rfl, hNV, hNW⟩
   replace hs := hs.ext hx5
   replace hB1 := hB1.ext hx5
   simp only [put_some]
   obtain ⟨a0, n0, k0, a1, n1, k1, x2, x3, x4, a5, n5, k5, b6, rfl⟩ := hNW.shape
   iterate 5 refine WL.qq (by simp only [EN, Nat.reduceEqDiff, reduceIte, qv_move, decide_true, Bool.not_true, Bool.not_false, decide_false, eq_self, hB1.cell, qv_extract, AR]; rfl) ?_
   have hXo := ((hx1).trans ((hx2).trans ((hx3).trans (hx5))))
   refine WL.alloc2 zr34 ?_
   intro h6 B6 hx6 hlt6 hB6
   replace hs := hs.ext hx6
   replace hB1 := hB1.ext hx6
   simp only [Value.cells] at hB6
   refine WL.qq (by simp only [EN, Nat.reduceEqDiff, reduceIte, qv_assign, decide_true, Bool.not_true, Bool.not_false, decide_false, eq_self, hB1.cell, hB6.cell]; rfl) ?_
   refine WL.store (by simp only [EN, Nat.reduceEqDiff, reduceIte, decide_true, Bool.not_true, Bool.not_false, decide_false, eq_self, hB1.cell, hB6.cell] <;> rfl) sz34 (by simp only [EN, Nat.reduceEqDiff, reduceIte, Value.cells, decide_true, Bool.not_true, Bool.not_false, decide_false, eq_self, hB1.cell, hB6.cell] <;> rfl) rfl hB6 (by first | (simp [true_and]; done) | (simp [true_and]; omega) | omega) (by simp [Value.oneCell']) ?_
   intro h7 hw7
   have hXe := hXo.trans (hw7.ext hx6 hlt6)
   iterate 2 refine WL.qq (by simp only [EN, Nat.reduceEqDiff, reduceIte, qv_assign, decide_true, Bool.not_true, Bool.not_false, decide_false, eq_self, hB1.cell, hB6.cell]; rfl) ?_
   refine WL.nil (th_norm (hx_seq (hx_region ?_)))
   iterate 2 refine WL.qq (by simp only [EN, Nat.reduceEqDiff, reduceIte, qv_move, decide_true, Bool.not_true, Bool.not_false, decide_false, eq_self, hB1.cell, hB6.cell, qv_assign]; rfl) ?_
   refine WL.nil (th_norm (hx_ret ?_))
   refine fin_ret [.tmp 2] rfl rfl (by simp only [EN, Nat.reduceEqDiff, reduceIte, resv, e0, decide_true, Bool.not_true, Bool.not_false, decide_false, eq_self, hB1.cell, hB6.cell]; rfl) ?_
   exact ⟨rfl, hXe⟩
end GL
namespace Go.Proofs.YtmooinekoeiajaaGreatDoor.electionNew
open Go.ChangeShapes Go.WideShapes Go.ChangeAt Go.RowKit
theorem own : ownKnob Tryz.prog.godebug = none := by kernel_rfl
theorem laid : laidOutB Tryz.prog = true := by kernel_rfl
set_option maxRecDepth 100000 in
theorem lifted (os : Os) (started : os.Started) (H : Type) (enc : TypeId × Value → H) :
    ReturnsInHanded {} Tryz.checked os 5 .any (fun w args => (Rows.electionNewSpec.pre enc Tryz.prog Tryz.f5 Rows.electionNewRow.domain false w args ∧ laidMetH Tryz.prog Rows.electionNewRow.laid w) ∧ sizedMet enc Tryz.prog Tryz.f5 (OpenSpec.ofChange Rows.electionNewSpec) false w args) (Rows.electionNewSpec.post enc Tryz.prog Tryz.f5 false true false false) := by
  refine returnsInHanded_of_change_and (C := Tryz.checked) (X := fun w _ => laidMetH Tryz.prog Rows.electionNewRow.laid w) (fun _ _ _ hh h => h.of_heap hh) own started (by kernel_rfl) Tryz.func5
    (ChangeSpec.witness_shaped (enc := enc) (C := Tryz.checked) (os := os) (X := fun w _ => laidMetH Tryz.prog Rows.electionNewRow.laid w) false (World.laidAll Tryz.prog os Rows.electionNewRow.laid) #[(.agg #[(.slice none 0 0), (.slice none 0 0), (.string ⟨#[]⟩), (.int .i64 0), (.int .i64 0)])] 8 (World.laidAll_os _ _ _)
      (World.shaped_of_ZipB (by kernel_rfl) (by kernel_rfl)) (by kernel_rfl) (by kernel_rfl) (by kernel_rfl)
      (by rw [MakeChecks.laidMetH_plain _ _ _ (by kernel_rfl)]; exact laidMet_laidAll _ (by kernel_rfl) (by kernel_rfl))) ?_
  intro W base args ds gs before hval0 hW hcnd _ hL _
  have hval : ∀ (j : Nat) t v, Tryz.f5.params[j]? = some t → args[j]? = some v → Value.okWide Tryz.prog W .any base t v := hval0
  have hW' := hW
  obtain ⟨p, q, hA0, hV, rfl, hfz, hnd⟩ := hW
  have hA : DataW.TrodAll enc Tryz.prog W 0 (fun _ => true) true Tryz.f5.params.toList args.toList ds p := hA0
  rw [Tryz.params5] at hA hval
  obtain ⟨v0, vs0, d0, ds0, p0, q0, hargs, rfl, rfl, h0, r0⟩ := trodAll_cons hA
  obtain ⟨rfl, rfl, rfl⟩ := trodAll_nil r0
  obtain rfl : args = #[v0] := by cases args; simp_all
  obtain ⟨rfl, rfl⟩ := trodVars_none hV
  obtain ⟨x, rfl, hx⟩ := GL.view_su (hval 0 27 v0 rfl rfl) h0
  exact GL.law_done (tb := 4) laid (by kernel_rfl) rfl (by kernel_rfl) Tryz.underlying4 hW' rfl (GL.l_new x hx)
theorem over : Rows.electionNewRow.holds Tryz.pinned (OpenSpec.ofChange Rows.electionNewSpec) :=
  OpenClaim.holds_of_wide 5 Tryz.f5 rfl rfl rfl rfl rfl rfl rfl ⟨rfl, rfl, rfl, rfl, rfl⟩ rfl rfl rfl rfl rfl (by kernel_rfl) Tryz.func5 (by kernel_rfl)
    (of_decide_eq_true (by kernel_rfl)) (by unfold Func.isWrapper; first | (rw [if_pos (by decide +kernel)]; kernel_rfl) | (rw [if_neg (by decide +kernel)]; exact ⟨rfl, rfl⟩))
    (fun os started H enc _ => lifted os started H enc)
theorem proved : Rows.ElectionNewCardSaid :=
  Claim7.holds_tied_plain_at .later [] [.data, .pinned] true (true, "432ba5930207515d71965132727d0ce340d9dfecd27b298c3f46f89b49a71a5e") true over (fun _ h => by cases h) (by kernel_rfl) (fun _ h => by cases h) electionNew_row_tie rfl ⟨rfl, rfl⟩ (by kernel_rfl) rfl
    (fun f fn hf hfn => by
      obtain rfl : f = 5 := Option.some.inj ((show Tryz.prog.funcNamed "giro/girolaw44.ElectionNew" = some 5 by kernel_rfl).symm.trans hf) |>.symm
      obtain rfl : fn = Tryz.f5 := (Option.some.inj (Tryz.func5.symm.trans hfn)).symm
      exact ⟨by kernel_rfl, fun j t ht => by
        rw [Tryz.params5] at ht
        have hm : t ∈ [27] := by simpa using Array.mem_of_getElem? ht
        have hall : ([27].all fun u => !Tryz.prog.wantsStandIn u) = true := by kernel_rfl
        exact (show Tryz.prog.wantsStandIn t = false by simpa using List.all_eq_true.1 hall t hm)⟩)
    (by kernel_rfl)
end Go.Proofs.YtmooinekoeiajaaGreatDoor.electionNew

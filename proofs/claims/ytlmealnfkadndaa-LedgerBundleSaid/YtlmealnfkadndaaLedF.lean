/- Ledger: SetFloor, in the program and in the reference. -/
import Derived.Test.YtlmealnfkadndaaLedE
set_option linter.unusedSimpArgs false
set_option linter.unusedVariables false
set_option linter.unnecessarySimpa false
namespace GL
open Go Go.Proofs
set_option maxRecDepth 8000
/-- The error of a floor. -/
def setE (bal fl : Int) : Int := if fl ≠ -9223372036854775808 ∧ vld fl = false then 2 else if bal < fl then 13 else 0
theorem c_setFloor {h : Heap} {p bm fm : Nat} {vo : Value} {ks fs : List E2} {sq : Int} (q : K2) (fl : Int) (hb : IsBk h p bm fm vo ks fs sq) {r : Int} (hr : setE (lk ks q) fl = r) :
    HCalls Try.prog 41 #[.pointer (some ⟨p, 0, none⟩), kV q, iV fl] h fun v h' => v = iV r ∧ Gs h h' [fm] ∧ (r ≠ 0 → Ext h h') ∧ (r = 0 → IsBk h' p bm fm vo ks (mset fs q fl) sq) := by
  refine hcalls2 Try.func41 rfl (by decide +kernel) (by simp only [Try.ntmps41]; exact of_decide_eq_true rfl) ?_
  intro e hin
  have e0 := hin 0 _ rfl
  have e1 := hin 1 _ rfl
  have e2 := hin 2 _ rfl
  refine hx_seq ?_
  refine hx_region ?_
  refine WL.box2 (by simp only [EN, Nat.reduceEqDiff, reduceIte, Value.cells, e1, hb.blk.cell]; rfl) ?_
  intro h1 B1 hx1 hlt1 hB1
  replace hb := hb.ext hx1
  refine WL.qq (by simp only [EN, Nat.reduceEqDiff, reduceIte, qv_assign, hb.blk.cell, hB1.cell]; rfl) ?_
  refine WL.nil ?_
  refine th_norm ?_
  refine hx_seq ?_
  refine hx_block ?_
  refine hx_seq ?_
  refine hx_region ?_
  refine WL.qq (by simp only [EN, Nat.reduceEqDiff, reduceIte, qv_move, e0, hb.blk.cell, hB1.cell]; rfl) ?_
  refine WL.qq (by simp only [EN, Nat.reduceEqDiff, reduceIte, qv_binOp, binv_eql, eqz25, eqn25, eqm25, Option.map_some, hb.blk.cell, hB1.cell]; rfl) ?_
  refine WL.qq (by simp only [EN, Nat.reduceEqDiff, reduceIte, qv_assign, hb.blk.cell, hB1.cell]; rfl) ?_
  refine WL.nil ?_
  refine th_norm ?_
  refine hx_cond (by simp only [EN, Nat.reduceEqDiff, reduceIte, e0, e1, e2, hb.blk.cell, hB1.cell]; rfl) (fun hct7 => ?_) (fun hct7 => ?_)
  ·
    simp at hct7
  ·
    try simp only [BD] at hct7
    refine hx_seq ?_
    refine hx_region ?_
    refine WL.qq (by simp only [EN, Nat.reduceEqDiff, reduceIte, qv_move, e2, hb.blk.cell, hB1.cell]; rfl) ?_
    refine WL.qq (by simp only [EN, Nat.reduceEqDiff, reduceIte, qv_binOp, binv_neq, eq2, Option.map_some, hb.blk.cell, hB1.cell]; rfl) ?_
    refine WL.qq (by simp only [EN, Nat.reduceEqDiff, reduceIte, qv_move, hb.blk.cell, hB1.cell]; rfl) ?_
    refine WL.cq (gd_at (t := 13) rfl (by simp only [EN, Nat.reduceEqDiff, reduceIte, e2, hb.blk.cell, hB1.cell] <;> rfl)) (fun hg3_3 => by simp only [EN, Nat.reduceEqDiff, reduceIte, qv_move, e2, hb.blk.cell, hB1.cell, hg3_3, GR]; rfl) ?_
    refine WL.cck (gd_at (t := 13) rfl (by simp only [EN, Nat.reduceEqDiff, reduceIte, hb.blk.cell, hB1.cell] <;> rfl)) Try.call58 (fun hg3_4 => by simp only [EN, Nat.reduceEqDiff, reduceIte, AR, hb.blk.cell, hB1.cell, hg3_4, GR]; exact c_valid13 _ _) ?_
    refine WL.cq (gd_at (t := 13) rfl (by simp only [EN, Nat.reduceEqDiff, reduceIte, hb.blk.cell, hB1.cell] <;> rfl)) (fun hg3_5 => by simp only [EN, Nat.reduceEqDiff, reduceIte, qv_unOp, unv_not, hb.blk.cell, hB1.cell, hg3_5, GR]; rfl) ?_
    refine WL.qq (by simp only [EN, Nat.reduceEqDiff, reduceIte, qv_pick, pk_and, pk_or, GR, hb.blk.cell, hB1.cell]; rfl) ?_
    refine WL.qq (by simp only [EN, Nat.reduceEqDiff, reduceIte, qv_assign, hb.blk.cell, hB1.cell]; rfl) ?_
    refine WL.nil ?_
    refine th_norm ?_
    refine hx_cond (by simp only [EN, Nat.reduceEqDiff, reduceIte, e0, e1, e2, hb.blk.cell, hB1.cell]; rfl) (fun hct10 => ?_) (fun hct10 => ?_)
    ·
      try simp only [BD] at hct10
      refine hx_seq ?_
      refine hx_region ?_
      refine WL.qq (by simp only [EN, Nat.reduceEqDiff, reduceIte, qv_assign, hb.blk.cell, hB1.cell]; rfl) ?_
      refine WL.nil ?_
      refine th_norm ?_
      refine hx_ret ?_
      refine bl_ret ?_
      refine th_ret ?_
      refine fin_ret [.tmp 6] rfl rfl (by simp only [EN, Nat.reduceEqDiff, reduceIte, resv, e0, e1, e2, hb.blk.cell, hB1.cell]; rfl) ?_  -- ret 0 r4
      rw [setE, if_pos ⟨hct10.1, hct10.2⟩] at hr
      subst hr
      exact ⟨rfl, Gs.ofExt (hx1), fun _ => (hx1), by simp⟩
    ·
      try simp only [BD] at hct10
      rw [setE, if_neg (fun hh => by rcases hct10 with h9 | h9; exact hh.1 h9; rw [hh.2] at h9; cases h9)] at hr
      refine hx_seq ?_
      apply hx_draw2 Rel.same [] [] [] rfl (by decide +kernel) rfl
      refine LD.qq rfl rfl (by simp only [EN, Nat.reduceEqDiff, reduceIte, qv_move, e0, hb.blk.cell, hB1.cell]; rfl) ?_
      refine LD.qq rfl rfl (by simp only [EN, Nat.reduceEqDiff, reduceIte, qv_nilCheck, hb.blk.cell, hB1.cell]; rfl) ?_
      refine LD.qq rfl rfl (by simp only [EN, Nat.reduceEqDiff, reduceIte, qv_fieldAddr, fa83_1, Nat.zero_add, Nat.reduceAdd, hb.blk.cell, hB1.cell]; rfl) ?_
      refine LD.qq rfl rfl (by simp only [EN, Nat.reduceEqDiff, reduceIte, qv_load, ld80, readN, AR, Nat.zero_add, Nat.reduceAdd, hb.blk.cell, hB1.cell]; rfl) ?_
      refine LD.qq rfl rfl (by simp only [EN, Nat.reduceEqDiff, reduceIte, qv_load, ld34, readN, AR, Nat.zero_add, Nat.reduceAdd, hb.blk.cell, hB1.cell]; rfl) ?_
      refine LD.qq rfl rfl (by simp only [EN, Nat.reduceEqDiff, reduceIte, e0, e1, e2, hb.blk.cell, hB1.cell, qv_lookup, hb.lkb]; rfl) ?_
      refine LD.qq rfl rfl (by simp only [EN, Nat.reduceEqDiff, reduceIte, qv_move, e2, hb.blk.cell, hB1.cell]; rfl) ?_
      refine LD.qq rfl rfl (by simp only [EN, Nat.reduceEqDiff, reduceIte, qv_binOp, binv_lss, hb.blk.cell, hB1.cell]; rfl) ?_
      refine LD.qq rfl rfl (by simp only [EN, Nat.reduceEqDiff, reduceIte, qv_assign, hb.blk.cell, hB1.cell]; rfl) ?_
      refine LD.nil ?_
      rintro _ rfl -
      refine WL.nil ?_
      refine th_norm ?_
      refine hx_cond (by simp only [EN, Nat.reduceEqDiff, reduceIte, e0, e1, e2, hb.blk.cell, hB1.cell]; rfl) (fun hct18 => ?_) (fun hct18 => ?_)
      ·
        try simp only [BD] at hct18
        refine hx_seq ?_
        refine hx_region ?_
        refine WL.qq (by simp only [EN, Nat.reduceEqDiff, reduceIte, qv_assign, hb.blk.cell, hB1.cell]; rfl) ?_
        refine WL.nil ?_
        refine th_norm ?_
        refine hx_ret ?_
        refine bl_ret ?_
        refine th_ret ?_
        refine fin_ret [.tmp 6] rfl rfl (by simp only [EN, Nat.reduceEqDiff, reduceIte, resv, e0, e1, e2, hb.blk.cell, hB1.cell]; rfl) ?_  -- ret 1 r6
        rw [if_pos hct18] at hr
        subst hr
        exact ⟨rfl, Gs.ofExt (hx1), fun _ => (hx1), by simp⟩
      ·
        try simp only [BD] at hct18
        rw [if_neg hct18] at hr
        refine hx_skip ?_
        refine bl_norm ?_
        refine th_norm ?_
        refine hx_seq ?_
        apply hx_draw2 Rel.same [6] [] [] rfl (by decide +kernel) rfl
        refine LD.qq rfl rfl (by simp only [EN, Nat.reduceEqDiff, reduceIte, qv_move, e0, hb.blk.cell, hB1.cell]; rfl) ?_
        refine LD.qq rfl rfl (by simp only [EN, Nat.reduceEqDiff, reduceIte, qv_nilCheck, hb.blk.cell, hB1.cell]; rfl) ?_
        refine LD.qq rfl rfl (by simp only [EN, Nat.reduceEqDiff, reduceIte, qv_fieldAddr, fa83_2, Nat.zero_add, Nat.reduceAdd, hb.blk.cell, hB1.cell]; rfl) ?_
        refine LD.qq rfl rfl (by simp only [EN, Nat.reduceEqDiff, reduceIte, qv_load, ld80, readN, AR, Nat.zero_add, Nat.reduceAdd, hb.blk.cell, hB1.cell]; rfl) ?_
        refine LD.qq rfl rfl (by simp only [EN, Nat.reduceEqDiff, reduceIte, qv_load, ld34, readN, AR, Nat.zero_add, Nat.reduceAdd, hb.blk.cell, hB1.cell]; rfl) ?_
        refine LD.qq rfl rfl (by simp only [EN, Nat.reduceEqDiff, reduceIte, qv_move, e2, hb.blk.cell, hB1.cell]; rfl) ?_
        refine LD.skip rfl ?_
        refine LD.nil ?_
        rintro _ rfl -
        have hE := (hx1)
        refine WL.ef _ (e_mapUpdate (x := q) (v := fl) kt34 Try.underlying80 hb.flo (by simp only [EN, Nat.reduceEqDiff, reduceIte, e0, e1, e2, hb.blk.cell, hB1.cell]) (by simp only [EN, Nat.reduceEqDiff, reduceIte, e0, e1, e2, hb.blk.cell, hB1.cell]) (by simp only [EN, Nat.reduceEqDiff, reduceIte, e0, e1, e2, hb.blk.cell, hB1.cell])) ?_
        rintro _ h42 ⟨hw42, hm42⟩
        simp only [put_none]
        refine WL.nil ?_
        refine th_norm ?_
        refine hx_seq ?_
        refine hx_region ?_
        refine WL.qq (by simp only [EN, Nat.reduceEqDiff, reduceIte, qv_assign, hb.blk.cell, hB1.cell]; rfl) ?_
        refine WL.nil ?_
        refine th_norm ?_
        refine hx_ret ?_
        refine fin_ret [.tmp 6] rfl rfl (by simp only [EN, Nat.reduceEqDiff, reduceIte, resv, e0, e1, e2, hb.blk.cell, hB1.cell]; rfl) ?_  -- ret 2 r8
        subst hr
        exact ⟨rfl, (Gs.ofExt hE).stp (.inr hw42) (.inl (by simp)), fun hh => absurd rfl hh, fun _ => hb.flos (.inr hw42) hm42⟩
/-- A book of the reference, by its value. -/
structure IsRef (h : Heap) (v : Value) (ks fs : List E2) (sq : Int) (vk vf : Value) : Prop where
  val : v = .agg #[vk, vf, iV sq]
  ks : Own h 0 44 3 vk ks.length (ks.flatMap entL)
  fs : Own h 0 94 3 vf fs.length (fs.flatMap entL)
theorem IsRef.ext {h h' : Heap} {v vk vf : Value} {ks fs : List E2} {sq : Int} (hr : IsRef h v ks fs sq vk vf) (hx : Ext h h') : IsRef h' v ks fs sq vk vf := ⟨hr.val, hr.ks.ext hx, hr.fs.ext hx⟩
/-- The floors behind a setting, in the reference's way. -/
def refF (fs : List E2) (q : K2) (fl : Int) : List E2 := mdel fs q ++ (if fl = 0 then [] else [(q, fl)])
theorem mdel_step {fs : List E2} {i : Nat} {x : E2} {q : K2} (hx : fs[i]? = some x) : mdel (fs.take (i + 1)) q = if x.1 = q then mdel (fs.take i) q else mdel (fs.take i) q ++ [x] := by
  rw [List.take_add_one, hx, mdel, List.filter_append]
  by_cases h : x.1 = q
  · rw [if_pos h]; simp [h, mdel]
  · rw [if_neg h]; simp [h, mdel]
set_option maxHeartbeats 1000000 in
theorem c_rsetFloor {h : Heap} {v vk vf : Value} {ks fs : List E2} {sq : Int} (q : K2) (fl : Int) (lk' : ks.length ≤ 1000000) (lf : fs.length ≤ 1000000) (hb : IsRef h v ks fs sq vk vf) {r : Int} (hr : setE (lk ks q) fl = r) :
    HCalls Try.prog 44 #[v, kV q, iV fl] h fun u h' => Ext h h' ∧ ∃ w vk' vf', u = .tuple #[w, iV r] ∧ IsRef h' w ks (if r = 0 then refF fs q fl else fs) sq vk' vf' := by
  obtain ⟨rfl, hk, hf⟩ := hb
  obtain ⟨ak, ck, rfl, _, hks, _⟩ := Own.slG (f := entL) (sz := 3) (fun _ => rfl) hk rfl
  obtain ⟨af, cf, rfl, _, hfs, _⟩ := Own.slG (f := entL) (sz := 3) (fun _ => rfl) hf rfl
  refine hcalls2 Try.func44 rfl (by decide +kernel) (by simp only [Try.ntmps44]; exact of_decide_eq_true rfl) ?_
  intro e hin
  have e0 := hin 0 _ rfl
  have e1 := hin 1 _ rfl
  have e2 := hin 2 _ rfl
  have hE : Ext h h := Ext.refl h
  have kk := hk; have kf := hf; have kfs := hfs
  refine hx_seq ?_
  refine hx_region ?_
  refine WL.box2 (by simp only [EN, Nat.reduceEqDiff, reduceIte, Value.cells, e0]; rfl) ?_
  intro h1 B1 hx1 hlt1 hB1
  replace hE := hE.trans hx1
  replace hk := hk.ext hx1
  replace hf := hf.ext hx1
  replace hks := hks.ext hx1
  replace hfs := hfs.ext hx1
  refine WL.box2 (by simp only [EN, Nat.reduceEqDiff, reduceIte, Value.cells, e1, hB1.cell]; rfl) ?_
  intro h2 B2 hx2 hlt2 hB2
  replace hE := hE.trans hx2
  replace hk := hk.ext hx2
  replace hf := hf.ext hx2
  replace hks := hks.ext hx2
  replace hfs := hfs.ext hx2
  replace hB1 := hB1.ext hx2
  refine WL.alloc2 zr29 ?_
  intro h3 B3 hx3 hlt3 hB3
  have hne1_3 : B3 ≠ B1 := by have := (Array.getElem?_eq_some_iff.1 hB1).1; omega
  have hne2_3 : B3 ≠ B2 := by have := (Array.getElem?_eq_some_iff.1 hB2).1; omega
  have hb0_3 := Nat.le_trans hE.size hlt3
  have hk_s3 := hk
  have hf_s3 := hf
  have hks_s3 := hks
  have hfs_s3 := hfs
  have hB1_s3 := hB1
  have hB2_s3 := hB2
  replace hE := hE.trans hx3
  replace hk := hk.ext hx3
  replace hf := hf.ext hx3
  replace hks := hks.ext hx3
  replace hfs := hfs.ext hx3
  replace hB1 := hB1.ext hx3
  replace hB2 := hB2.ext hx3
  have hEo3 := hx3
  simp only [Value.cells] at hB3
  refine WL.qq (by simp only [EN, Nat.reduceEqDiff, reduceIte, qv_assign, hB1.cell, hB2.cell, hB3.cell]; rfl) ?_
  refine WL.nil ?_
  refine th_norm ?_
  refine hx_seq ?_
  refine hx_seq ?_
  refine hx_region ?_
  refine WL.qq (by simp only [EN, Nat.reduceEqDiff, reduceIte, qv_move, e2, hB1.cell, hB2.cell, hB3.cell]; rfl) ?_
  refine WL.qq (by simp only [EN, Nat.reduceEqDiff, reduceIte, qv_binOp, binv_neq, eq2, Option.map_some, hB1.cell, hB2.cell, hB3.cell]; rfl) ?_
  refine WL.qq (by simp only [EN, Nat.reduceEqDiff, reduceIte, qv_move, hB1.cell, hB2.cell, hB3.cell]; rfl) ?_
  refine WL.cq (gd_at (t := 12) rfl (by simp only [EN, Nat.reduceEqDiff, reduceIte, e2, hB1.cell, hB2.cell, hB3.cell] <;> rfl)) (fun hg1_3 => by simp only [EN, Nat.reduceEqDiff, reduceIte, qv_move, e2, hB1.cell, hB2.cell, hB3.cell, hg1_3, GR]; rfl) ?_
  refine WL.cck (gd_at (t := 12) rfl (by simp only [EN, Nat.reduceEqDiff, reduceIte, hB1.cell, hB2.cell, hB3.cell] <;> rfl)) Try.call26 (fun hg1_4 => by simp only [EN, Nat.reduceEqDiff, reduceIte, AR, hB1.cell, hB2.cell, hB3.cell, hg1_4, GR]; exact c_rValid _ _) ?_
  refine WL.cq (gd_at (t := 12) rfl (by simp only [EN, Nat.reduceEqDiff, reduceIte, hB1.cell, hB2.cell, hB3.cell] <;> rfl)) (fun hg1_5 => by simp only [EN, Nat.reduceEqDiff, reduceIte, qv_unOp, unv_not, hB1.cell, hB2.cell, hB3.cell, hg1_5, GR]; rfl) ?_
  refine WL.qq (by simp only [EN, Nat.reduceEqDiff, reduceIte, qv_pick, pk_and, pk_or, GR, hB1.cell, hB2.cell, hB3.cell]; rfl) ?_
  refine WL.nil ?_
  refine th_norm ?_
  refine hx_cond (by simp only [EN, Nat.reduceEqDiff, reduceIte, e0, e1, e2, hB1.cell, hB2.cell, hB3.cell]; rfl) (fun hct16 => ?_) (fun hct16 => ?_)
  ·
    try simp only [BD] at hct16
    refine hx_seq ?_
    refine hx_region ?_
    refine WL.qq (by simp only [EN, Nat.reduceEqDiff, reduceIte, qv_load, ld29, readN, AR, Nat.zero_add, Nat.reduceAdd, hB1.cell, hB2.cell, hB3.cell]; rfl) ?_
    refine WL.store (by simp only [EN, Nat.reduceEqDiff, reduceIte, hB1.cell, hB2.cell, hB3.cell] <;> rfl) sz29 (by simp only [EN, Nat.reduceEqDiff, reduceIte, Value.cells, hB1.cell, hB2.cell, hB3.cell] <;> rfl) rfl hB3 (by first | decide | (simp; done) | (simp; omega)) (by simp [Value.oneCell']) ?_
    intro h4 hw4
    replace hE := hw4.ext hE hb0_3
    replace hEo3 := hw4.ext hEo3 hlt3
    replace hk := hk_s3.ext hEo3
    replace hf := hf_s3.ext hEo3
    replace hks := hks_s3.ext hEo3
    replace hfs := hfs_s3.ext hEo3
    replace hB1 := hB1_s3.ext hEo3
    replace hB2 := hB2_s3.ext hEo3
    replace hB3 := hw4.at_
    try simp only [splc, List.take_succ_cons, List.take_zero, List.take_nil, List.drop_succ_cons, List.drop_zero, List.drop_nil, List.cons_append, List.nil_append, List.length_cons, List.length_nil, Nat.zero_add, Nat.add_zero, Nat.reduceAdd, List.append_nil] at hB3
    refine WL.qq (by simp only [EN, Nat.reduceEqDiff, reduceIte, qv_assign, hB1.cell, hB2.cell, hB3.cell]; rfl) ?_
    refine WL.nil ?_
    refine th_norm ?_
    refine hx_ret ?_
    refine th_ret ?_
    refine fin_ret [.cell 6 29, .tmp 7] rfl rfl (by simp only [EN, Nat.reduceEqDiff, reduceIte, resv, ld29, readN, AR, Nat.zero_add, Nat.reduceAdd, e0, e1, e2, hB1.cell, hB2.cell, hB3.cell]; rfl) ?_  -- ret 0 r2
    rw [setE, if_pos ⟨hct16.1, hct16.2⟩] at hr
    subst hr
    exact ⟨hE, _, _, _, rfl, rfl, hk, hf⟩
  ·
    try simp only [BD] at hct16
    rw [setE, if_neg (fun hh => by rcases hct16 with h9 | h9; exact hh.1 h9; rw [hh.2] at h9; cases h9)] at hr
    refine hx_skip ?_
    refine th_norm ?_
    refine hx_seq ?_
    refine hx_seq ?_
    refine hx_region ?_
    refine WL.qq (by simp only [EN, Nat.reduceEqDiff, reduceIte, qv_load, ld29, readN, AR, Nat.zero_add, Nat.reduceAdd, hB1.cell, hB2.cell, hB3.cell]; rfl) ?_
    refine WL.qq (by simp only [EN, Nat.reduceEqDiff, reduceIte, qv_load, ld34, readN, AR, Nat.zero_add, Nat.reduceAdd, hB1.cell, hB2.cell, hB3.cell]; rfl) ?_
    refine WL.cg Try.call37 (by simp only [EN, Nat.reduceEqDiff, reduceIte, AR, hB1.cell, hB2.cell, hB3.cell]; exact c_rbal _ ks _ _ _ q (by omega) hks) ?_
    intro h5 hx5
    replace hE := hE.trans hx5
    replace hEo3 := hEo3.trans hx5
    replace hk := hk.ext hx5
    replace hf := hf.ext hx5
    replace hks := hks.ext hx5
    replace hfs := hfs.ext hx5
    replace hB1 := hB1.ext hx5
    replace hB2 := hB2.ext hx5
    replace hB3 := hB3.ext hx5
    refine WL.qq (by simp only [EN, Nat.reduceEqDiff, reduceIte, qv_move, e2, hB1.cell, hB2.cell, hB3.cell]; rfl) ?_
    refine WL.qq (by simp only [EN, Nat.reduceEqDiff, reduceIte, qv_binOp, binv_lss, hB1.cell, hB2.cell, hB3.cell]; rfl) ?_
    refine WL.nil ?_
    refine th_norm ?_
    refine hx_cond (by simp only [EN, Nat.reduceEqDiff, reduceIte, e0, e1, e2, hB1.cell, hB2.cell, hB3.cell]; rfl) (fun hct22 => ?_) (fun hct22 => ?_)
    ·
      try simp only [BD] at hct22
      refine hx_seq ?_
      refine hx_region ?_
      refine WL.qq (by simp only [EN, Nat.reduceEqDiff, reduceIte, qv_load, ld29, readN, AR, Nat.zero_add, Nat.reduceAdd, hB1.cell, hB2.cell, hB3.cell]; rfl) ?_
      refine WL.store (by simp only [EN, Nat.reduceEqDiff, reduceIte, hB1.cell, hB2.cell, hB3.cell] <;> rfl) sz29 (by simp only [EN, Nat.reduceEqDiff, reduceIte, Value.cells, hB1.cell, hB2.cell, hB3.cell] <;> rfl) rfl hB3 (by first | decide | (simp; done) | (simp; omega)) (by simp [Value.oneCell']) ?_
      intro h6 hw6
      replace hE := hw6.ext hE hb0_3
      replace hEo3 := hw6.ext hEo3 hlt3
      replace hk := hk_s3.ext hEo3
      replace hf := hf_s3.ext hEo3
      replace hks := hks_s3.ext hEo3
      replace hfs := hfs_s3.ext hEo3
      replace hB1 := hB1_s3.ext hEo3
      replace hB2 := hB2_s3.ext hEo3
      replace hB3 := hw6.at_
      try simp only [splc, List.take_succ_cons, List.take_zero, List.take_nil, List.drop_succ_cons, List.drop_zero, List.drop_nil, List.cons_append, List.nil_append, List.length_cons, List.length_nil, Nat.zero_add, Nat.add_zero, Nat.reduceAdd, List.append_nil] at hB3
      refine WL.qq (by simp only [EN, Nat.reduceEqDiff, reduceIte, qv_assign, hB1.cell, hB2.cell, hB3.cell]; rfl) ?_
      refine WL.nil ?_
      refine th_norm ?_
      refine hx_ret ?_
      refine th_ret ?_
      refine fin_ret [.cell 6 29, .tmp 7] rfl rfl (by simp only [EN, Nat.reduceEqDiff, reduceIte, resv, ld29, readN, AR, Nat.zero_add, Nat.reduceAdd, e0, e1, e2, hB1.cell, hB2.cell, hB3.cell]; rfl) ?_  -- ret 1 r4
      rw [if_pos hct22] at hr
      subst hr
      exact ⟨hE, _, _, _, rfl, ⟨rfl, hk, by rw [if_neg (by decide)]; exact hf⟩⟩
    ·
      try simp only [BD] at hct22
      rw [if_neg hct22] at hr
      refine hx_skip ?_
      refine th_norm ?_
      refine hx_seq ?_
      refine hx_region ?_
      refine WL.qq (by simp only [EN, Nat.reduceEqDiff, reduceIte, qv_fieldAddr, fa29_0, Nat.zero_add, Nat.reduceAdd, hB1.cell, hB2.cell, hB3.cell]; rfl) ?_
      refine WL.qq (by simp only [EN, Nat.reduceEqDiff, reduceIte, qv_load, ld26, readN, AR, Nat.zero_add, Nat.reduceAdd, hB1.cell, hB2.cell, hB3.cell]; rfl) ?_
      refine WL.qq (by simp only [EN, Nat.reduceEqDiff, reduceIte, qv_fieldAddr, fa29_2, Nat.zero_add, Nat.reduceAdd, hB1.cell, hB2.cell, hB3.cell]; rfl) ?_
      refine WL.qq (by simp only [EN, Nat.reduceEqDiff, reduceIte, qv_load, ld3, readN, AR, Nat.zero_add, Nat.reduceAdd, hB1.cell, hB2.cell, hB3.cell]; rfl) ?_
      refine WL.qq (by refine qv_bld (by simp only [EN, Nat.reduceEqDiff, reduceIte, AR, hB1.cell, hB2.cell, hB3.cell] <;> rfl) (by rw [bl29]; simp [Instr.fill, Value.cells]; rfl)) ?_
      refine WL.allocSt zr29 sz29 (fun u => by simp only [EN, Nat.reduceEqDiff, reduceIte, Value.cells, hB1.cell, hB2.cell, hB3.cell]; rfl) ⟨rfl, rfl⟩ (by simp [Value.oneCell']) ?_
      intro h7 B7 hx7 hlt7 hB7
      have hne1_7 : B7 ≠ B1 := by have := (Array.getElem?_eq_some_iff.1 hB1).1; omega
      have hne2_7 : B7 ≠ B2 := by have := (Array.getElem?_eq_some_iff.1 hB2).1; omega
      have hne3_7 : B7 ≠ B3 := by have := (Array.getElem?_eq_some_iff.1 hB3).1; omega
      have hb0_7 := Nat.le_trans hE.size hlt7
      have hbo3_7 := Nat.le_trans hEo3.size hlt7
      have hk_s7 := hk
      have hf_s7 := hf
      have hks_s7 := hks
      have hfs_s7 := hfs
      have hB1_s7 := hB1
      have hB2_s7 := hB2
      have hB3_s7 := hB3
      replace hE := hE.trans hx7
      replace hEo3 := hEo3.trans hx7
      replace hk := hk.ext hx7
      replace hf := hf.ext hx7
      replace hks := hks.ext hx7
      replace hfs := hfs.ext hx7
      replace hB1 := hB1.ext hx7
      replace hB2 := hB2.ext hx7
      replace hB3 := hB3.ext hx7
      have hEo7 := hx7
      refine WL.nil ?_
      refine th_norm ?_
      refine hx_seq ?_
      refine hx_seq ?_
      refine hx_region ?_
      refine WL.qq (by simp only [EN, Nat.reduceEqDiff, reduceIte, qv_assign, hB1.cell, hB2.cell, hB3.cell, hB7.cell]; rfl) ?_
      refine WL.nil ?_
      refine th_norm ?_
      refine hx_block ?_
      refine hx_loopG [9, 29, 30, 31, 32, 33, 34, 35, 36, 37, 38, 39, 40, 41, 42, 43, 44, 45, 46, 47, 48, 49, 50, 51, 52, 53] (fun k e hL0 => ∃ (i : Nat) (v : Value), fs.length - i = k ∧ (i ≤ fs.length) ∧ (Ext h hL0) ∧ (Has hL0 B1 (.cells #[.slice ak ks.length ck, .slice af fs.length cf, iV sq] 29)) ∧ (Has hL0 B2 (.cells #[.int .u8 q.o, .int .u8 q.a] 34)) ∧ (Has hL0 B3 (.cells #[.slice none 0 0, .slice none 0 0, .int .i64 0] 29)) ∧ (Has hL0 B7 (.cells #[.slice ak ks.length ck, v, iV sq] 29)) ∧ (Own hL0 h.size 94 3 v (mdel (fs.take i) q).length ((mdel (fs.take i) q).flatMap entL)) ∧ e 9 = .int .i64 i) _ ⟨0, .slice none 0 0, rfl, ?_, ?_, ?_, ?_, ?_, ?_, ?_, ?_⟩ ?_
      · omega
      · exact hE
      · exact hB1
      · exact hB2
      · exact hB3
      · exact hB7
      · exact Own.nil
      · simp only [EN, Nat.reduceEqDiff, reduceIte, e0, e1, e2, hB1.cell, hB2.cell, hB3.cell, hB7.cell] <;> rfl
      ·
        rintro k e0L hL0 hfr0 ⟨i, v, rfl, hi, hE, hB1, hB2, hB3, hB7, ho, i9_0⟩
        have k2_0 := hfr0 2 rfl; try simp only [EN, Nat.reduceEqDiff, reduceIte, e0, e1, e2, hB1.cell, hB2.cell, hB3.cell, hB7.cell] at k2_0
        have k3_0 := hfr0 3 rfl; try simp only [EN, Nat.reduceEqDiff, reduceIte, e0, e1, e2, hB1.cell, hB2.cell, hB3.cell, hB7.cell] at k3_0
        have k4_0 := hfr0 4 rfl; try simp only [EN, Nat.reduceEqDiff, reduceIte, e0, e1, e2, hB1.cell, hB2.cell, hB3.cell, hB7.cell] at k4_0
        have k6_0 := hfr0 6 rfl; try simp only [EN, Nat.reduceEqDiff, reduceIte, e0, e1, e2, hB1.cell, hB2.cell, hB3.cell, hB7.cell] at k6_0
        have k7_0 := hfr0 7 rfl; try simp only [EN, Nat.reduceEqDiff, reduceIte, e0, e1, e2, hB1.cell, hB2.cell, hB3.cell, hB7.cell] at k7_0
        have k8_0 := hfr0 8 rfl; try simp only [EN, Nat.reduceEqDiff, reduceIte, e0, e1, e2, hB1.cell, hB2.cell, hB3.cell, hB7.cell] at k8_0
        have hfs := kfs.ext hE
        refine hx_seq ?_
        refine hx_seq ?_
        refine hx_region ?_
        refine WL.qq (by simp only [EN, Nat.reduceEqDiff, reduceIte, qv_move, i9_0, hB1.cell, hB2.cell, hB3.cell, hB7.cell, hB1.cell, hB2.cell, hB3.cell, hB7.cell]; rfl) ?_
        refine WL.qq (by simp only [EN, Nat.reduceEqDiff, reduceIte, qv_fieldAddr, fa29_1, Nat.zero_add, Nat.reduceAdd, k3_0, hB1.cell, hB2.cell, hB3.cell, hB7.cell, hB1.cell, hB2.cell, hB3.cell, hB7.cell]; rfl) ?_
        refine WL.qq (by simp only [EN, Nat.reduceEqDiff, reduceIte, qv_load, ld27, readN, AR, Nat.zero_add, Nat.reduceAdd, hB1.cell, hB2.cell, hB3.cell, hB7.cell, hB1.cell, hB2.cell, hB3.cell, hB7.cell]; rfl) ?_
        refine WL.qq (by simp only [EN, Nat.reduceEqDiff, reduceIte, qv_len, ln27, AR, hB1.cell, hB2.cell, hB3.cell, hB7.cell, hB1.cell, hB2.cell, hB3.cell, hB7.cell]; rfl) ?_
        refine WL.qq (by simp only [EN, Nat.reduceEqDiff, reduceIte, qv_binOp, binv_lss, hB1.cell, hB2.cell, hB3.cell, hB7.cell, hB1.cell, hB2.cell, hB3.cell, hB7.cell]; rfl) ?_
        refine WL.nil ?_
        refine th_norm ?_
        refine hx_cond (by simp only [EN, Nat.reduceEqDiff, reduceIte, k2_0, k3_0, k4_0, k6_0, k7_0, k8_0, i9_0, hB1.cell, hB2.cell, hB3.cell, hB7.cell, hB1.cell, hB2.cell, hB3.cell, hB7.cell]; rfl) (fun hct33 => ?_) (fun hct33 => ?_)
        ·
          try simp only [BD] at hct33
          obtain ⟨x, hx⟩ := atG (l := fs) (i := i) (by omega)
          obtain ⟨b, off, rfl, hr3, hr2, hc0, hc1, hc2⟩ := ent_rd hfs hx
          refine hx_skip ?_
          refine th_norm ?_
          refine hx_seq ?_
          refine hx_block ?_
          refine hx_seq ?_
          apply hx_draw2 Rel.same [] [] [] rfl (by decide +kernel) rfl
          refine LD.qq rfl rfl (by simp only [EN, Nat.reduceEqDiff, reduceIte, qv_fieldAddr, fa29_1, Nat.zero_add, Nat.reduceAdd, k3_0, hB1.cell, hB2.cell, hB3.cell, hB7.cell, hB1.cell, hB2.cell, hB3.cell, hB7.cell]; rfl) ?_
          refine LD.qq rfl rfl (by simp only [EN, Nat.reduceEqDiff, reduceIte, qv_load, ld27, readN, AR, Nat.zero_add, Nat.reduceAdd, hB1.cell, hB2.cell, hB3.cell, hB7.cell, hB1.cell, hB2.cell, hB3.cell, hB7.cell]; rfl) ?_
          refine LD.qq rfl rfl (by simp only [EN, Nat.reduceEqDiff, reduceIte, qv_move, i9_0, hB1.cell, hB2.cell, hB3.cell, hB7.cell, hB1.cell, hB2.cell, hB3.cell, hB7.cell]; rfl) ?_
          refine LD.qq rfl rfl (by simp only [EN, Nat.reduceEqDiff, reduceIte, qv_indexAddr, hB1.cell, hB2.cell, hB3.cell, hB7.cell, hB1.cell, hB2.cell, hB3.cell, hB7.cell]; (try simp (disch := omega) only [ix27, Int.toNat_natCast]); rfl) ?_
          refine LD.qq rfl rfl (by simp only [EN, Nat.reduceEqDiff, reduceIte, qv_fieldAddr, fa94_0, Nat.zero_add, Nat.reduceAdd, hB1.cell, hB2.cell, hB3.cell, hB7.cell, hB1.cell, hB2.cell, hB3.cell, hB7.cell]; rfl) ?_
          refine LD.qq rfl rfl (by simp only [EN, Nat.reduceEqDiff, reduceIte, k2_0, k3_0, k4_0, k6_0, k7_0, k8_0, i9_0, hB1.cell, hB2.cell, hB3.cell, hB7.cell, hB1.cell, hB2.cell, hB3.cell, hB7.cell, qv_load, ld34, Int.toNat_natCast, Nat.add_zero, hr2]; rfl) ?_
          refine LD.qq rfl rfl (by simp only [EN, Nat.reduceEqDiff, reduceIte, qv_load, ld34, readN, AR, Nat.zero_add, Nat.reduceAdd, k4_0, hB1.cell, hB2.cell, hB3.cell, hB7.cell, hB1.cell, hB2.cell, hB3.cell, hB7.cell]; rfl) ?_
          refine LD.qq rfl rfl (by simp only [EN, Nat.reduceEqDiff, reduceIte, qv_binOp, binv_neq, eqs34, Option.map_some, hB1.cell, hB2.cell, hB3.cell, hB7.cell, hB1.cell, hB2.cell, hB3.cell, hB7.cell]; rfl) ?_
          refine LD.nil ?_
          rintro _ rfl -
          refine WL.nil ?_
          refine th_norm ?_
          refine hx_cond (by simp only [EN, Nat.reduceEqDiff, reduceIte, k2_0, k3_0, k4_0, k6_0, k7_0, k8_0, i9_0, hB1.cell, hB2.cell, hB3.cell, hB7.cell, hB1.cell, hB2.cell, hB3.cell, hB7.cell]; rfl) (fun hct43 => ?_) (fun hct43 => ?_)
          ·
            try simp only [BD] at hct43
            apply hx_draw2 Rel.grows [8, 9, 10] [7] [(7, Spec.ls h.size _ _ _)] rfl (by decide +kernel) rfl
            refine LD.qq rfl rfl (by simp only [EN, Nat.reduceEqDiff, reduceIte, qv_fieldAddr, fa29_1, Nat.zero_add, Nat.reduceAdd, k8_0, hB1.cell, hB2.cell, hB3.cell, hB7.cell, hB1.cell, hB2.cell, hB3.cell, hB7.cell]; rfl) ?_
            refine LD.qq rfl rfl (by simp only [EN, Nat.reduceEqDiff, reduceIte, qv_load, ld27, readN, AR, Nat.zero_add, Nat.reduceAdd, hB1.cell, hB2.cell, hB3.cell, hB7.cell, hB1.cell, hB2.cell, hB3.cell, hB7.cell]; rfl) ?_
            refine LD.qq rfl rfl (by simp only [EN, Nat.reduceEqDiff, reduceIte, qv_fieldAddr, fa29_1, Nat.zero_add, Nat.reduceAdd, k3_0, hB1.cell, hB2.cell, hB3.cell, hB7.cell, hB1.cell, hB2.cell, hB3.cell, hB7.cell]; rfl) ?_
            refine LD.qq rfl rfl (by simp only [EN, Nat.reduceEqDiff, reduceIte, qv_load, ld27, readN, AR, Nat.zero_add, Nat.reduceAdd, hB1.cell, hB2.cell, hB3.cell, hB7.cell, hB1.cell, hB2.cell, hB3.cell, hB7.cell]; rfl) ?_
            refine LD.qq rfl rfl (by simp only [EN, Nat.reduceEqDiff, reduceIte, qv_move, i9_0, hB1.cell, hB2.cell, hB3.cell, hB7.cell, hB1.cell, hB2.cell, hB3.cell, hB7.cell]; rfl) ?_
            refine LD.qq rfl rfl (by simp only [EN, Nat.reduceEqDiff, reduceIte, qv_indexAddr, hB1.cell, hB2.cell, hB3.cell, hB7.cell, hB1.cell, hB2.cell, hB3.cell, hB7.cell]; (try simp (disch := omega) only [ix27, Int.toNat_natCast]); rfl) ?_
            refine LD.qq rfl rfl (by simp only [EN, Nat.reduceEqDiff, reduceIte, k2_0, k3_0, k4_0, k6_0, k7_0, k8_0, i9_0, hB1.cell, hB2.cell, hB3.cell, hB7.cell, hB1.cell, hB2.cell, hB3.cell, hB7.cell, qv_load, ld94, Int.toNat_natCast, Nat.add_zero, hr3]; rfl) ?_
            refine LD.es rfl rfl (by intro hD hr hf; have hx : Ext _ _ := hr; have hB1 := hB1.ext hx; have hB2 := hB2.ext hx; have hB3 := hB3.ext hx; have hB7 := hB7.ext hx; have ho := ho.ext hx; have hfs := hfs.ext hx; exact e_lit1 (hE.trans hx).size Try.underlying27 sz94 zr94 (by decide) (by simp only [EN, Nat.reduceEqDiff, reduceIte, k2_0, k3_0, k4_0, k6_0, k7_0, k8_0, i9_0, hB1.cell, hB2.cell, hB3.cell, hB7.cell, hB1.cell, hB2.cell, hB3.cell, hB7.cell, Value.cells]; rfl) rfl) ?_
            intro u10_7 w10_7
            obtain ⟨B12, hlt12, rfl⟩ := w10_7
            refine LD.skip rfl ?_
            refine LD.skip rfl ?_
            refine LD.skip rfl ?_
            refine LD.nil ?_
            rintro h8 hx8 hF10
            replace hx8 : Ext _ _ := hx8
            replace hE := hE.trans hx8
            replace hB1 := hB1.ext hx8
            replace hB2 := hB2.ext hx8
            replace hB3 := hB3.ext hx8
            replace hB7 := hB7.ext hx8
            replace ho := ho.ext hx8
            replace hfs := hfs.ext hx8
            have hB12 := hF10 (7, .slice (some ⟨B12, 0, none⟩) 1 1) (by simp) _ rfl B12 rfl
            have hml : (mdel (fs.take i) q).length ≤ fs.length := Nat.le_trans (List.length_filter_le _ _) (by simp; omega)
            refine WL.app1 (bytes := 16) Try.underlying27 (inf_of Try.type94) rfl rfl rfl rfl (by decide) (by simp only [EN, Nat.reduceEqDiff, reduceIte, k2_0, k3_0, k4_0, k6_0, k7_0, k8_0, i9_0, hB1.cell, hB2.cell, hB3.cell, hB7.cell, hB1.cell, hB2.cell, hB3.cell, hB7.cell]) ho (by simp only [EN, Nat.reduceEqDiff, reduceIte, k2_0, k3_0, k4_0, k6_0, k7_0, k8_0, i9_0, hB1.cell, hB2.cell, hB3.cell, hB7.cell, hB1.cell, hB2.cell, hB3.cell, hB7.cell]) hB12 rfl (by simp [Value.oneCell']) (by simp only [maxLen]; omega) (by omega) hE.size ?_
            intro h40 v40 ho40 hg40 hp40 hn40
            replace hE := hg40.ext hE (fun c hc => (ho.block c hc).1)
            replace hB1 := hB1.gr hg40 (ho.ncell hB1 (by decide))
            replace hB2 := hB2.gr hg40 (ho.ncell hB2 (by decide))
            replace hB3 := hB3.gr hg40 (ho.ncell hB3 (by decide))
            replace hB7 := hB7.gr hg40 (ho.ncell hB7 (by decide))
            refine WL.qq (by simp only [EN, Nat.reduceEqDiff, reduceIte, qv_fieldAddr, fa29_1, Nat.zero_add, Nat.reduceAdd, k8_0, hB1.cell, hB2.cell, hB3.cell, hB7.cell, hB1.cell, hB2.cell, hB3.cell, hB7.cell]; rfl) ?_
            refine WL.store (by simp only [EN, Nat.reduceEqDiff, reduceIte, k2_0, k3_0, k4_0, k6_0, k7_0, k8_0, i9_0, hB1.cell, hB2.cell, hB3.cell, hB7.cell, hB1.cell, hB2.cell, hB3.cell, hB7.cell] <;> rfl) sz27 (by simp only [EN, Nat.reduceEqDiff, reduceIte, k2_0, k3_0, k4_0, k6_0, k7_0, k8_0, i9_0, hB1.cell, hB2.cell, hB3.cell, hB7.cell, hB1.cell, hB2.cell, hB3.cell, hB7.cell]; exact ho40.cells) rfl hB7 (by simp) (by simp [ho40.one]) ?_
            intro h41 hw41
            replace hE := hw41.ext hE hb0_7
            have ho41 := ho40.keep (h' := h41) (fun c hc => hw41.same c fun hh => by subst hh; exact ho40.ncell hB7 (by decide) hc)
            replace hB1 := hB1.wr hw41 hne1_7.symm
            replace hB2 := hB2.wr hw41 hne2_7.symm
            replace hB3 := hB3.wr hw41 hne3_7.symm
            replace hB7 := hw41.at_
            refine WL.nil ?_
            refine bl_norm ?_
            refine th_norm ?_
            refine hx_region ?_
            refine WL.qq (by simp only [EN, Nat.reduceEqDiff, reduceIte, qv_move, i9_0, hB1.cell, hB2.cell, hB3.cell, hB7.cell, hB1.cell, hB2.cell, hB3.cell, hB7.cell]; rfl) ?_
            refine WL.qq (by simp only [EN, Nat.reduceEqDiff, reduceIte, qv_binOp, binv_add, hB1.cell, hB2.cell, hB3.cell, hB7.cell, hB1.cell, hB2.cell, hB3.cell, hB7.cell]; (try simp (disch := omega) only [w64, w8, wu64]); rfl) ?_
            refine WL.qq (by simp only [EN, Nat.reduceEqDiff, reduceIte, qv_assign, hB1.cell, hB2.cell, hB3.cell, hB7.cell, hB1.cell, hB2.cell, hB3.cell, hB7.cell]; rfl) ?_
            refine WL.nil ?_
            refine th_norm ?_
            refine ⟨rfl, ?_, _, ?_, i + 1, v40, rfl, ?_, ?_, ?_, ?_, ?_, ?_, ?_, ?_⟩  -- again 0 of loop 0
            · (repeat (first | exact Fr.refl _ _ | refine Fr.set rfl ?_ | refine Fr.put rfl ?_ | refine Fr.put0 ?_))
            · omega
            · omega
            · exact hE
            · exact hB1
            · exact hB2
            · exact hB3
            · exact hB7
            · rw [mdel_step hx, if_neg (fun hh => by rw [hh] at hct43; simp at hct43), List.flatMap_append, List.length_append]; exact ho41
            · simp only [EN, Nat.reduceEqDiff, reduceIte, k2_0, k3_0, k4_0, k6_0, k7_0, k8_0, i9_0, hB1.cell, hB2.cell, hB3.cell, hB7.cell, hB1.cell, hB2.cell, hB3.cell, hB7.cell] <;> first | rfl | (congr 1; omega)
          ·
            try simp only [BD] at hct43
            refine hx_skip ?_
            refine bl_norm ?_
            refine th_norm ?_
            refine hx_region ?_
            refine WL.qq (by simp only [EN, Nat.reduceEqDiff, reduceIte, qv_move, i9_0, hB1.cell, hB2.cell, hB3.cell, hB7.cell, hB1.cell, hB2.cell, hB3.cell, hB7.cell]; rfl) ?_
            refine WL.qq (by simp only [EN, Nat.reduceEqDiff, reduceIte, qv_binOp, binv_add, hB1.cell, hB2.cell, hB3.cell, hB7.cell, hB1.cell, hB2.cell, hB3.cell, hB7.cell]; (try simp (disch := omega) only [w64, w8, wu64]); rfl) ?_
            refine WL.qq (by simp only [EN, Nat.reduceEqDiff, reduceIte, qv_assign, hB1.cell, hB2.cell, hB3.cell, hB7.cell, hB1.cell, hB2.cell, hB3.cell, hB7.cell]; rfl) ?_
            refine WL.nil ?_
            refine th_norm ?_
            refine ⟨rfl, ?_, _, ?_, i + 1, v, rfl, ?_, ?_, ?_, ?_, ?_, ?_, ?_, ?_⟩  -- again 1 of loop 0
            · (repeat (first | exact Fr.refl _ _ | refine Fr.set rfl ?_ | refine Fr.put rfl ?_ | refine Fr.put0 ?_))
            · omega
            · omega
            · exact hE
            · exact hB1
            · exact hB2
            · exact hB3
            · exact hB7
            · rw [mdel_step hx, if_pos (k2_eq.2 (by simpa using hct43))]; exact ho
            · simp only [EN, Nat.reduceEqDiff, reduceIte, k2_0, k3_0, k4_0, k6_0, k7_0, k8_0, i9_0, hB1.cell, hB2.cell, hB3.cell, hB7.cell, hB1.cell, hB2.cell, hB3.cell, hB7.cell] <;> first | rfl | (congr 1; omega)
        ·
          try simp only [BD] at hct33
          have hil : i = fs.length := (by omega); subst hil; rw [List.take_length] at ho
          have hml : (mdel fs q).length ≤ fs.length := List.length_filter_le _ _
          refine hx_exit ?_
          refine th_exit ?_
          refine th_exit ?_
          refine bl_hit ?_
          refine th_norm ?_
          refine hx_seq ?_
          refine hx_seq ?_
          refine hx_region ?_
          refine WL.qq (by simp only [EN, Nat.reduceEqDiff, reduceIte, qv_move, k2_0, hB1.cell, hB2.cell, hB3.cell, hB7.cell, hB1.cell, hB2.cell, hB3.cell, hB7.cell]; rfl) ?_
          refine WL.qq (by simp only [EN, Nat.reduceEqDiff, reduceIte, qv_binOp, binv_neq, eq2, Option.map_some, hB1.cell, hB2.cell, hB3.cell, hB7.cell, hB1.cell, hB2.cell, hB3.cell, hB7.cell]; rfl) ?_
          refine WL.nil ?_
          refine th_norm ?_
          refine hx_cond (by simp only [EN, Nat.reduceEqDiff, reduceIte, k2_0, k3_0, k4_0, k6_0, k7_0, k8_0, i9_0, hB1.cell, hB2.cell, hB3.cell, hB7.cell, hB1.cell, hB2.cell, hB3.cell, hB7.cell]; rfl) (fun hct55 => ?_) (fun hct55 => ?_)
          ·
            try simp only [BD] at hct55
            have hrf : refF fs q fl = mdel fs q ++ [(q, fl)] := by simp [refF, hct55]
            refine hx_region ?_
            refine WL.qq (by simp only [EN, Nat.reduceEqDiff, reduceIte, qv_fieldAddr, fa29_1, Nat.zero_add, Nat.reduceAdd, k8_0, hB1.cell, hB2.cell, hB3.cell, hB7.cell, hB1.cell, hB2.cell, hB3.cell, hB7.cell]; rfl) ?_
            refine WL.qq (by simp only [EN, Nat.reduceEqDiff, reduceIte, qv_load, ld27, readN, AR, Nat.zero_add, Nat.reduceAdd, hB1.cell, hB2.cell, hB3.cell, hB7.cell, hB1.cell, hB2.cell, hB3.cell, hB7.cell]; rfl) ?_
            refine WL.qq (by simp only [EN, Nat.reduceEqDiff, reduceIte, qv_load, ld34, readN, AR, Nat.zero_add, Nat.reduceAdd, k4_0, hB1.cell, hB2.cell, hB3.cell, hB7.cell, hB1.cell, hB2.cell, hB3.cell, hB7.cell]; rfl) ?_
            refine WL.qq (by simp only [EN, Nat.reduceEqDiff, reduceIte, qv_move, k2_0, hB1.cell, hB2.cell, hB3.cell, hB7.cell, hB1.cell, hB2.cell, hB3.cell, hB7.cell]; rfl) ?_
            refine WL.qq (by refine qv_bld (by simp only [EN, Nat.reduceEqDiff, reduceIte, AR, hB1.cell, hB2.cell, hB3.cell, hB7.cell, hB1.cell, hB2.cell, hB3.cell, hB7.cell] <;> rfl) (by rw [bl94]; simp [Instr.fill, Value.cells]; rfl)) ?_
            refine WL.push (bytes := 16) Try.underlying27 (inf_of Try.type94) rfl rfl rfl rfl (by decide) (by decide) sz94 zr94 (fun u => by simp only [EN, Nat.reduceEqDiff, reduceIte, k2_0, k3_0, k4_0, k6_0, k7_0, k8_0, i9_0, hB1.cell, hB2.cell, hB3.cell, hB7.cell, hB1.cell, hB2.cell, hB3.cell, hB7.cell]) ho (by simp only [EN, Nat.reduceEqDiff, reduceIte, k2_0, k3_0, k4_0, k6_0, k7_0, k8_0, i9_0, hB1.cell, hB2.cell, hB3.cell, hB7.cell, hB1.cell, hB2.cell, hB3.cell, hB7.cell, Value.cells]; rfl) rfl (by simp [Value.oneCell']) (by simp only [maxLen]; omega) (by omega) hE.size ?_
            intro h40 v40 B40 ho40 hg40 hp40 hn40
            replace hE := hg40.ext hE (fun c hc => (ho.block c hc).1)
            replace hB3 := hB3.gr hg40 (ho.ncell hB3 (by decide))
            replace hB7 := hB7.gr hg40 (ho.ncell hB7 (by decide))
            skip
            refine WL.qq (by simp only [EN, Nat.reduceEqDiff, reduceIte, qv_fieldAddr, fa29_1, Nat.zero_add, Nat.reduceAdd, k8_0, hB1.cell, hB2.cell, hB3.cell, hB7.cell, hB1.cell, hB2.cell, hB3.cell, hB7.cell]; rfl) ?_
            refine WL.store (by simp only [EN, Nat.reduceEqDiff, reduceIte, k2_0, k3_0, k4_0, k6_0, k7_0, k8_0, i9_0, hB1.cell, hB2.cell, hB3.cell, hB7.cell, hB1.cell, hB2.cell, hB3.cell, hB7.cell] <;> rfl) sz27 (by simp only [EN, Nat.reduceEqDiff, reduceIte, k2_0, k3_0, k4_0, k6_0, k7_0, k8_0, i9_0, hB1.cell, hB2.cell, hB3.cell, hB7.cell, hB1.cell, hB2.cell, hB3.cell, hB7.cell]; exact ho40.cells) rfl hB7 (by simp) (by simp [ho40.one]) ?_
            intro h41 hw41
            replace hE := hw41.ext hE hb0_7
            have ho41 := ho40.keep (h' := h41) (fun c hc => hw41.same c fun hh => by subst hh; exact ho40.ncell hB7 (by decide) hc)
            replace hB3 := hB3.wr hw41 hne3_7.symm
            replace hB7 := hw41.at_
            have hoF : Own h41 h.size 94 3 v40 (refF fs q fl).length ((refF fs q fl).flatMap entL) := by rw [hrf, List.flatMap_append, List.length_append]; exact ho41
            refine WL.nil ?_
            refine th_norm ?_
            refine hx_seq ?_
            refine hx_region ?_
            refine WL.qq (by simp only [EN, Nat.reduceEqDiff, reduceIte, qv_load, ld29, readN, AR, Nat.zero_add, Nat.reduceAdd, k8_0, hB1.cell, hB2.cell, hB3.cell, hB7.cell, hB1.cell, hB2.cell, hB3.cell, hB7.cell]; rfl) ?_
            refine WL.store (by simp only [EN, Nat.reduceEqDiff, reduceIte, k2_0, k3_0, k4_0, k6_0, k7_0, k8_0, i9_0, hB1.cell, hB2.cell, hB3.cell, hB7.cell, hB1.cell, hB2.cell, hB3.cell, hB7.cell] <;> rfl) sz29 (by simp only [EN, Nat.reduceEqDiff, reduceIte, k2_0, k3_0, k4_0, k6_0, k7_0, k8_0, i9_0, hB1.cell, hB2.cell, hB3.cell, hB7.cell, hB1.cell, hB2.cell, hB3.cell, hB7.cell, Value.cells]; rfl) rfl hB3 (by simp) (by have h9 := hoF.one; intro u hu; simp [splc] at hu; rcases hu with rfl | rfl | rfl <;> first | exact h9 | rfl) ?_
            intro h50 hw50
            replace hE := hw50.ext hE hb0_3
            replace hoF := hoF.keep (h' := h50) (fun c hc => hw50.same c fun hh => by subst hh; exact hoF.ncell hB3 (by decide) hc)
            replace hB3 := hw50.at_
            refine WL.qq (by simp only [EN, Nat.reduceEqDiff, reduceIte, qv_assign, hB1.cell, hB2.cell, hB3.cell, hB7.cell, hB1.cell, hB2.cell, hB3.cell, hB7.cell]; rfl) ?_
            refine WL.nil ?_
            refine th_norm ?_
            refine hx_ret ?_
            refine fin_ret [.cell 6 29, .tmp 7] rfl rfl (by simp only [EN, Nat.reduceEqDiff, reduceIte, resv, ld29, readN, AR, Nat.zero_add, Nat.reduceAdd, k2_0, k3_0, k4_0, k6_0, k7_0, k8_0, i9_0, hB1.cell, hB2.cell, hB3.cell, hB7.cell, hB1.cell, hB2.cell, hB3.cell, hB7.cell]; rfl) ?_  -- ret 2 r13
            subst hr
            exact ⟨hE, _, _, _, rfl, ⟨rfl, kk.ext hE, by rw [if_pos rfl]; exact hoF.base (Nat.zero_le _)⟩⟩
          ·
            try simp only [BD] at hct55
            have hrf : refF fs q fl = mdel fs q := by simp [refF, hct55]
            have hoF : Own hL0 h.size 94 3 v (refF fs q fl).length ((refF fs q fl).flatMap entL) := by rw [hrf]; exact ho
            refine hx_skip ?_
            refine th_norm ?_
            refine hx_seq ?_
            refine hx_region ?_
            refine WL.qq (by simp only [EN, Nat.reduceEqDiff, reduceIte, qv_load, ld29, readN, AR, Nat.zero_add, Nat.reduceAdd, k8_0, hB1.cell, hB2.cell, hB3.cell, hB7.cell, hB1.cell, hB2.cell, hB3.cell, hB7.cell]; rfl) ?_
            refine WL.store (by simp only [EN, Nat.reduceEqDiff, reduceIte, k2_0, k3_0, k4_0, k6_0, k7_0, k8_0, i9_0, hB1.cell, hB2.cell, hB3.cell, hB7.cell, hB1.cell, hB2.cell, hB3.cell, hB7.cell] <;> rfl) sz29 (by simp only [EN, Nat.reduceEqDiff, reduceIte, k2_0, k3_0, k4_0, k6_0, k7_0, k8_0, i9_0, hB1.cell, hB2.cell, hB3.cell, hB7.cell, hB1.cell, hB2.cell, hB3.cell, hB7.cell, Value.cells]; rfl) rfl hB3 (by simp) (by have h9 := hoF.one; intro u hu; simp [splc] at hu; rcases hu with rfl | rfl | rfl <;> first | exact h9 | rfl) ?_
            intro h50 hw50
            replace hE := hw50.ext hE hb0_3
            replace hoF := hoF.keep (h' := h50) (fun c hc => hw50.same c fun hh => by subst hh; exact hoF.ncell hB3 (by decide) hc)
            replace hB3 := hw50.at_
            refine WL.qq (by simp only [EN, Nat.reduceEqDiff, reduceIte, qv_assign, hB1.cell, hB2.cell, hB3.cell, hB7.cell, hB1.cell, hB2.cell, hB3.cell, hB7.cell]; rfl) ?_
            refine WL.nil ?_
            refine th_norm ?_
            refine hx_ret ?_
            refine fin_ret [.cell 6 29, .tmp 7] rfl rfl (by simp only [EN, Nat.reduceEqDiff, reduceIte, resv, ld29, readN, AR, Nat.zero_add, Nat.reduceAdd, k2_0, k3_0, k4_0, k6_0, k7_0, k8_0, i9_0, hB1.cell, hB2.cell, hB3.cell, hB7.cell, hB1.cell, hB2.cell, hB3.cell, hB7.cell]; rfl) ?_  -- ret 3 r13
            subst hr
            exact ⟨hE, _, _, _, rfl, ⟨rfl, kk.ext hE, by rw [if_pos rfl]; exact hoF.base (Nat.zero_le _)⟩⟩
end GL


/- Ledger: the reference's Post. -/
import Derived.Test.YtlmealnfkadndaaLedF
import Derived.Test.YtlmealnfkadndaaGl24
set_option linter.unusedSimpArgs false
set_option linter.unusedVariables false
set_option linter.unnecessarySimpa false
namespace GL
open Go Go.Proofs
set_option maxRecDepth 8000
/-- Where a key stands in a list of keys without repetition. -/
theorem mset_set {m : List E2} (hn : (m.map Prod.fst).Nodup) {j : Nat} {x : K2} {u v : Int} (hj : m[j]? = some (x, u)) : mset m x v = m.set j (x, v) := mset_at hn hj
theorem lk_none {m : List E2} {q : K2} (h : ∀ y ∈ m, y.1 ≠ q) : lk m q = 0 := by
  unfold lk; rw [lookup_no h]; rfl
theorem mset_nodup {m : List E2} {x : K2} {v : Int} (h : (m.map Prod.fst).Nodup) : ((mset m x v).map Prod.fst).Nodup := by
  rw [mset_fst]
  split
  · exact h
  · rename_i hn
    rw [List.nodup_append]
    exact ⟨h, by simp, by intro a ha b hb hab; simp at hb; subst hb; subst hab; exact hn ha⟩
theorem putL_nodup (l : List E2) : ∀ {ks : List E2}, (ks.map Prod.fst).Nodup → ((putL ks l).map Prod.fst).Nodup := by
  induction l with
  | nil => exact fun h => h
  | cons x l ih => exact fun h => ih (mset_nodup h)
set_option maxHeartbeats 1000000 in
theorem c_rpost {h : Heap} {v vk vf : Value} {ks fs : List E2} {sq : Int} (al : Option Addr) (l : List E2) (cl : Nat) (lk' : ks.length ≤ 1000000) (lf : fs.length ≤ 1000000) (ll : l.length ≤ 1000000) (hsq : 0 ≤ sq ∧ sq ≤ 1000000) (hbal : ∀ q, vld (lk ks q) = true) (hnd : (ks.map Prod.fst).Nodup)
    (hb : IsRef h v ks fs sq vk vf) (hl : SlG 3 entL h al l) {r : Int} (hr : chkE (lk ks) (lk fs) l = r) :
    HCalls Try.prog 28 #[v, .slice al l.length cl] h fun u h' => Ext h h' ∧ ∃ w vk' vf', u = .tuple #[w, iV r] ∧ IsRef h' w (if r = 0 then putL ks l else ks) fs (if r = 0 then sq + 1 else sq) vk' vf' := by
  obtain ⟨rfl, hk, hff⟩ := hb
  obtain ⟨ak, ck, rfl, _, hks, _⟩ := Own.slG (f := entL) (sz := 3) (fun _ => rfl) hk rfl
  obtain ⟨af, cf, rfl, _, hfs, _⟩ := Own.slG (f := entL) (sz := 3) (fun _ => rfl) hff rfl
  refine hcalls2 Try.func28 rfl (by decide +kernel) (by simp only [Try.ntmps28]; exact of_decide_eq_true rfl) ?_
  intro e hin
  have e0 := hin 0 _ rfl
  have e1 := hin 1 _ rfl
  have hE : Ext h h := Ext.refl h
  have kk := hk; have kf := hff; have kl := hl
  refine hx_seq ?_
  refine hx_region ?_
  refine WL.box2 (by simp only [EN, Nat.reduceEqDiff, reduceIte, Value.cells, e0]; rfl) ?_
  intro h1 B1 hx1 hlt1 hB1
  replace hE := hE.trans hx1
  replace hk := hk.ext hx1
  replace hff := hff.ext hx1
  replace hks := hks.ext hx1
  replace hfs := hfs.ext hx1
  replace hl := hl.ext hx1
  refine WL.alloc2 zr29 ?_
  intro h2 B2 hx2 hlt2 hB2
  have hne1_2 : B2 ≠ B1 := by have := (Array.getElem?_eq_some_iff.1 hB1).1; omega
  have hb0_2 := Nat.le_trans hE.size hlt2
  have hk_s2 := hk
  have hff_s2 := hff
  have hks_s2 := hks
  have hfs_s2 := hfs
  have hl_s2 := hl
  have hB1_s2 := hB1
  replace hE := hE.trans hx2
  replace hk := hk.ext hx2
  replace hff := hff.ext hx2
  replace hks := hks.ext hx2
  replace hfs := hfs.ext hx2
  replace hl := hl.ext hx2
  replace hB1 := hB1.ext hx2
  have hEo2 := hx2
  simp only [Value.cells] at hB2
  refine WL.qq (by simp only [EN, Nat.reduceEqDiff, reduceIte, qv_assign, hB1.cell, hB2.cell]; rfl) ?_
  refine WL.nil ?_
  refine th_norm ?_
  refine hx_seq ?_
  refine hx_seq ?_
  refine hx_region ?_
  refine WL.qq (by simp only [EN, Nat.reduceEqDiff, reduceIte, qv_load, ld29, readN, AR, Nat.zero_add, Nat.reduceAdd, hB1.cell, hB2.cell]; rfl) ?_
  refine WL.qq (by simp only [EN, Nat.reduceEqDiff, reduceIte, qv_move, e1, hB1.cell, hB2.cell]; rfl) ?_
  refine WL.cg Try.call54 (by simp only [EN, Nat.reduceEqDiff, reduceIte, AR, hB1.cell, hB2.cell]; exact hr ▸ c_rcheck _ ks _ _ fs _ _ _ l _ (by omega) (by omega) (by omega) hbal hks hfs hl) ?_
  intro h3 hx3
  replace hE := hE.trans hx3
  replace hEo2 := hEo2.trans hx3
  replace hk := hk.ext hx3
  replace hff := hff.ext hx3
  replace hks := hks.ext hx3
  replace hfs := hfs.ext hx3
  replace hl := hl.ext hx3
  replace hB1 := hB1.ext hx3
  replace hB2 := hB2.ext hx3
  refine WL.qq (by simp only [EN, Nat.reduceEqDiff, reduceIte, qv_assign, hB1.cell, hB2.cell]; rfl) ?_
  refine WL.nil ?_
  refine th_norm ?_
  refine hx_seq ?_
  refine hx_region ?_
  refine WL.qq (by simp only [EN, Nat.reduceEqDiff, reduceIte, qv_move, hB1.cell, hB2.cell]; rfl) ?_
  refine WL.qq (by simp only [EN, Nat.reduceEqDiff, reduceIte, qv_binOp, binv_neq, eq3, Option.map_some, hB1.cell, hB2.cell]; rfl) ?_
  refine WL.nil ?_
  refine th_norm ?_
  refine hx_cond (by simp only [EN, Nat.reduceEqDiff, reduceIte, e0, e1, hB1.cell, hB2.cell]; rfl) (fun hct15 => ?_) (fun hct15 => ?_)
  ·
    try simp only [BD] at hct15
    refine hx_seq ?_
    refine hx_region ?_
    refine WL.qq (by simp only [EN, Nat.reduceEqDiff, reduceIte, qv_load, ld29, readN, AR, Nat.zero_add, Nat.reduceAdd, hB1.cell, hB2.cell]; rfl) ?_
    refine WL.qq (by simp only [EN, Nat.reduceEqDiff, reduceIte, qv_move, hB1.cell, hB2.cell]; rfl) ?_
    refine WL.store (by simp only [EN, Nat.reduceEqDiff, reduceIte, hB1.cell, hB2.cell] <;> rfl) sz29 (by simp only [EN, Nat.reduceEqDiff, reduceIte, Value.cells, hB1.cell, hB2.cell] <;> rfl) rfl hB2 (by first | decide | (simp; done) | (simp; omega)) (by simp [Value.oneCell']) ?_
    intro h4 hw4
    replace hE := hw4.ext hE hb0_2
    replace hEo2 := hw4.ext hEo2 hlt2
    replace hk := hk_s2.ext hEo2
    replace hff := hff_s2.ext hEo2
    replace hks := hks_s2.ext hEo2
    replace hfs := hfs_s2.ext hEo2
    replace hl := hl_s2.ext hEo2
    replace hB1 := hB1_s2.ext hEo2
    replace hB2 := hw4.at_
    try simp only [splc, List.take_succ_cons, List.take_zero, List.take_nil, List.drop_succ_cons, List.drop_zero, List.drop_nil, List.cons_append, List.nil_append, List.length_cons, List.length_nil, Nat.zero_add, Nat.add_zero, Nat.reduceAdd, List.append_nil] at hB2
    refine WL.qq (by simp only [EN, Nat.reduceEqDiff, reduceIte, qv_assign, hB1.cell, hB2.cell]; rfl) ?_
    refine WL.nil ?_
    refine th_norm ?_
    refine hx_ret ?_
    refine th_ret ?_
    refine fin_ret [.cell 4 29, .tmp 5] rfl rfl (by simp only [EN, Nat.reduceEqDiff, reduceIte, resv, ld29, readN, AR, Nat.zero_add, Nat.reduceAdd, e0, e1, hB1.cell, hB2.cell]; rfl) ?_  -- ret 0 r3
    exact ⟨hE, _, _, _, rfl, ⟨by rw [if_neg hct15], by rw [if_neg hct15]; exact hk, hff⟩⟩
  ·
    try simp only [BD] at hct15
    refine hx_skip ?_
    refine th_norm ?_
    refine hx_seq ?_
    apply hx_draw2 Rel.grows [11] [0, 3, 10] [(0, Spec.ls h.size #[] 44 0), (3, Spec.own h.size 44 3 ks.length (ks.flatMap entL)), (10, Spec.blk _ _ 29)] rfl (by decide +kernel) rfl
    refine LD.es rfl rfl (by intro hD hr hf; have hx : Ext _ _ := hr; have hk := hk.ext hx; have hff := hff.ext hx; have hks := hks.ext hx; have hfs := hfs.ext hx; have hl := hl.ext hx; have hB1 := hB1.ext hx; have hB2 := hB2.ext hx; exact e_lit0 (Nat.le_trans hE.size hx.size) Try.underlying26 sz44) ?_
    intro u4_0 w4_0
    obtain ⟨B20, hlt20, rfl⟩ := w4_0
    refine LD.qq rfl rfl (by simp only [EN, Nat.reduceEqDiff, reduceIte, qv_fieldAddr, fa29_0, Nat.zero_add, Nat.reduceAdd, hB1.cell, hB2.cell]; rfl) ?_
    refine LD.qq rfl rfl (by simp only [EN, Nat.reduceEqDiff, reduceIte, qv_load, ld26, readN, AR, Nat.zero_add, Nat.reduceAdd, hB1.cell, hB2.cell]; rfl) ?_
    refine LD.es rfl rfl (by intro hD hr hf; have hx : Ext _ _ := hr; have hk := hk.ext hx; have hff := hff.ext hx; have hks := hks.ext hx; have hfs := hfs.ext hx; have hl := hl.ext hx; have hB1 := hB1.ext hx; have hB2 := hB2.ext hx; have hB20 := hf (0, .slice (some ⟨B20, 0, none⟩) 0 0) (by simp) (by show tb _ _ 0 = true; decide +kernel) _ rfl B20 rfl; exact e_copyG (f := entL) (L := ks) (bytes := 16) Try.underlying26 (inf_of Try.type44) rfl rfl rfl rfl (by decide) (fun _ => rfl) (by simp only [EN, Nat.reduceEqDiff, reduceIte, e0, e1, hB1.cell, hB2.cell]) hB20 hlt20 (by simp only [EN, Nat.reduceEqDiff, reduceIte, e0, e1, hB1.cell, hB2.cell]; rfl) rfl hks (by simp only [maxLen]; omega) (by omega) (Nat.le_trans hE.size hx.size)) ?_
    intro u4_3 w4_3
    obtain ⟨a21, c21, rfl⟩ := w4_3
    refine LD.qq rfl rfl (by simp only [EN, Nat.reduceEqDiff, reduceIte, qv_fieldAddr, fa29_1, Nat.zero_add, Nat.reduceAdd, hB1.cell, hB2.cell]; rfl) ?_
    refine LD.qq rfl rfl (by simp only [EN, Nat.reduceEqDiff, reduceIte, qv_load, ld27, readN, AR, Nat.zero_add, Nat.reduceAdd, hB1.cell, hB2.cell]; rfl) ?_
    refine LD.qq rfl rfl (by simp only [EN, Nat.reduceEqDiff, reduceIte, qv_fieldAddr, fa29_2, Nat.zero_add, Nat.reduceAdd, hB1.cell, hB2.cell]; rfl) ?_
    refine LD.qq rfl rfl (by simp only [EN, Nat.reduceEqDiff, reduceIte, qv_load, ld3, readN, AR, Nat.zero_add, Nat.reduceAdd, hB1.cell, hB2.cell]; rfl) ?_
    refine LD.qq rfl rfl (by simp only [EN, Nat.reduceEqDiff, reduceIte, qv_binOp, binv_add, hB1.cell, hB2.cell]; (try simp (disch := omega) only [w64, w8, wu64]); rfl) ?_
    refine LD.qq rfl rfl (by refine qv_bld (by simp only [EN, Nat.reduceEqDiff, reduceIte, AR, hB1.cell, hB2.cell] <;> rfl) (by rw [bl29]; simp [Instr.fill, Value.cells]; rfl)) ?_
    refine LD.al rfl rfl zr29 (Nat.le_refl _) ?_
    intro B5 hlt5
    refine LD.skip rfl ?_
    refine LD.nil ?_
    rintro h6 hx6 hF4
    replace hx6 : Ext _ _ := hx6
    have hne1_5 : B5 ≠ B1 := by have := (Array.getElem?_eq_some_iff.1 hB1).1; omega
    have hne2_5 : B5 ≠ B2 := by have := (Array.getElem?_eq_some_iff.1 hB2).1; omega
    have hb0_5 := Nat.le_trans hE.size hlt5
    have hbo2_5 := Nat.le_trans hEo2.size hlt5
    have hk_s5 := hk
    have hff_s5 := hff
    have hks_s5 := hks
    have hfs_s5 := hfs
    have hl_s5 := hl
    have hB1_s5 := hB1
    have hB2_s5 := hB2
    replace hE := hE.trans hx6
    replace hEo2 := hEo2.trans hx6
    replace hk := hk.ext hx6
    replace hff := hff.ext hx6
    replace hks := hks.ext hx6
    replace hfs := hfs.ext hx6
    replace hl := hl.ext hx6
    replace hB1 := hB1.ext hx6
    replace hB2 := hB2.ext hx6
    have hEo5 := hx6
    have hB5 := hF4 (10, .pointer (some ⟨B5, 0, none⟩)) (by simp) _ rfl B5 rfl
    simp only [Value.cells] at hB5
    have hB5z := hB5; have ho21 : Own h6 h.size 44 3 (.slice a21 ks.length c21) ks.length (ks.flatMap entL) := hF4 (3, .slice a21 ks.length c21) (by simp) _ rfl
    refine WL.store (by simp only [EN, Nat.reduceEqDiff, reduceIte, hB1.cell, hB2.cell, hB5.cell] <;> rfl) sz29 (by simp only [EN, Nat.reduceEqDiff, reduceIte, Value.cells, hB1.cell, hB2.cell, hB5.cell] <;> rfl) rfl hB5 (by first | decide | (simp; done) | (simp; omega)) (by simp [Value.oneCell']) ?_
    intro h7 hw7
    replace hE := hw7.ext hE hb0_5
    replace hEo2 := hw7.ext hEo2 hbo2_5
    replace hEo5 := hw7.ext hEo5 hlt5
    replace hk := hk_s5.ext hEo5
    replace hff := hff_s5.ext hEo5
    replace hks := hks_s5.ext hEo5
    replace hfs := hfs_s5.ext hEo5
    replace hl := hl_s5.ext hEo5
    replace hB1 := hB1_s5.ext hEo5
    replace hB2 := hB2_s5.ext hEo5
    replace hB5 := hw7.at_
    try simp only [splc, List.take_succ_cons, List.take_zero, List.take_nil, List.drop_succ_cons, List.drop_zero, List.drop_nil, List.cons_append, List.nil_append, List.length_cons, List.length_nil, Nat.zero_add, Nat.add_zero, Nat.reduceAdd, List.append_nil] at hB5
    refine WL.nil ?_
    refine th_norm ?_
    refine hx_seq ?_
    refine hx_seq ?_
    refine hx_region ?_
    have ho : Own h7 h.size 44 3 (.slice a21 ks.length c21) ks.length (ks.flatMap entL) := ho21.keep (fun c hc => hw7.same c fun hh => by subst hh; exact ho21.ncell hB5z (by decide) hc)
    refine WL.qq (by simp only [EN, Nat.reduceEqDiff, reduceIte, qv_assign, hB1.cell, hB2.cell, hB5.cell]; rfl) ?_
    refine WL.nil ?_
    refine th_norm ?_
    refine hx_block ?_
    refine hx_loopG [8, 9, 10, 28, 29, 30, 31, 32, 33, 34, 35, 36, 37, 38, 39, 40, 41, 42, 43, 44, 45, 46, 47, 48, 49, 50, 51, 52, 53, 54, 55, 56, 57, 58, 59, 60, 61, 62, 63, 64, 65, 66, 67, 68, 69, 70, 71, 72, 73, 74, 75, 76, 77, 78, 79, 80, 81, 82, 83, 84, 85, 86] (fun k e hL0 => ∃ (i : Nat) (v : Value), l.length - i = k ∧ (i ≤ l.length) ∧ (Ext h hL0) ∧ (Has hL0 B1 (.cells #[.slice ak ks.length ck, .slice af fs.length cf, iV sq] 29)) ∧ (Has hL0 B2 (.cells #[.slice none 0 0, .slice none 0 0, .int .i64 0] 29)) ∧ (Has hL0 B5 (.cells #[v, .slice af fs.length cf, iV (sq + 1)] 29)) ∧ (Own hL0 h.size 44 3 v (putL ks (l.take i)).length ((putL ks (l.take i)).flatMap entL)) ∧ (((putL ks (l.take i)).map Prod.fst).Nodup) ∧ e 8 = .int .i64 i) _ ⟨0, .slice a21 ks.length c21, rfl, ?_, ?_, ?_, ?_, ?_, ?_, ?_, ?_⟩ ?_
    · omega
    · exact hE
    · exact hB1
    · exact hB2
    · exact hB5
    · exact ho
    · exact hnd
    · simp only [EN, Nat.reduceEqDiff, reduceIte, e0, e1, hB1.cell, hB2.cell, hB5.cell] <;> rfl
    ·
      rintro k e0L hL0 hfr0 ⟨i, v, rfl, hi, hE, hB1, hB2, hB5, ho, hndM, i8_0⟩
      have k1_0 := hfr0 1 rfl; try simp only [EN, Nat.reduceEqDiff, reduceIte, e0, e1, hB1.cell, hB2.cell, hB5.cell] at k1_0
      have k4_0 := hfr0 4 rfl; try simp only [EN, Nat.reduceEqDiff, reduceIte, e0, e1, hB1.cell, hB2.cell, hB5.cell] at k4_0
      have k5_0 := hfr0 5 rfl; try simp only [EN, Nat.reduceEqDiff, reduceIte, e0, e1, hB1.cell, hB2.cell, hB5.cell] at k5_0
      have k7_0 := hfr0 7 rfl; try simp only [EN, Nat.reduceEqDiff, reduceIte, e0, e1, hB1.cell, hB2.cell, hB5.cell] at k7_0
      have hl := kl.ext hE
      refine hx_seq ?_
      refine hx_seq ?_
      refine hx_region ?_
      refine WL.qq (by simp only [EN, Nat.reduceEqDiff, reduceIte, qv_move, i8_0, hB1.cell, hB2.cell, hB5.cell, hB1.cell, hB2.cell, hB5.cell]; rfl) ?_
      refine WL.qq (by simp only [EN, Nat.reduceEqDiff, reduceIte, qv_move, k1_0, hB1.cell, hB2.cell, hB5.cell, hB1.cell, hB2.cell, hB5.cell]; rfl) ?_
      refine WL.qq (by simp only [EN, Nat.reduceEqDiff, reduceIte, qv_len, ln26, AR, hB1.cell, hB2.cell, hB5.cell, hB1.cell, hB2.cell, hB5.cell]; rfl) ?_
      refine WL.qq (by simp only [EN, Nat.reduceEqDiff, reduceIte, qv_binOp, binv_lss, hB1.cell, hB2.cell, hB5.cell, hB1.cell, hB2.cell, hB5.cell]; rfl) ?_
      refine WL.nil ?_
      refine th_norm ?_
      refine hx_cond (by simp only [EN, Nat.reduceEqDiff, reduceIte, k1_0, k4_0, k5_0, k7_0, i8_0, hB1.cell, hB2.cell, hB5.cell, hB1.cell, hB2.cell, hB5.cell]; rfl) (fun hct31 => ?_) (fun hct31 => ?_)
      ·
        try simp only [BD] at hct31
        obtain ⟨x, hx⟩ := atG (l := l) (i := i) (by omega)
        obtain ⟨b, off, rfl, hr3, hr2, hc0, hc1, hc2⟩ := ent_rd hl hx
        obtain ⟨M, hM⟩ : ∃ M, putL ks (l.take i) = M := ⟨_, rfl⟩
        rw [hM] at ho hndM
        have hMl : M.length ≤ ks.length + i := (by have h9 := putL_len (l.take i) ks; rw [hM, List.length_take] at h9; have := Nat.min_le_left i l.length; omega)
        obtain ⟨av, cv, hvv, hcv, hsv, hav, hblk⟩ := Own.slG (f := entL) (sz := 3) (fun _ => rfl) ho rfl
        subst hvv
        refine hx_skip ?_
        refine th_norm ?_
        refine hx_seq ?_
        refine hx_block ?_
        refine hx_seq ?_
        refine hx_region ?_
        refine WL.qq (by simp only [EN, Nat.reduceEqDiff, reduceIte, qv_assign, hB1.cell, hB2.cell, hB5.cell, hB1.cell, hB2.cell, hB5.cell]; rfl) ?_
        refine WL.nil ?_
        refine th_norm ?_
        refine hx_seq ?_
        refine hx_seq ?_
        refine hx_region ?_
        refine WL.qq (by simp only [EN, Nat.reduceEqDiff, reduceIte, qv_assign, hB1.cell, hB2.cell, hB5.cell, hB1.cell, hB2.cell, hB5.cell]; rfl) ?_
        refine WL.nil ?_
        refine th_norm ?_
        refine hx_block ?_
        refine hx_loopS [9, 10, 34, 35, 36, 37, 38, 39, 40, 41, 42, 43, 44, 45, 46, 47, 48, 49, 50, 51, 52, 53] (fun k e => ∃ (j : Nat) (a : Int), M.length - j = k ∧ (j ≤ M.length) ∧ ((a = -1 ∧ ∀ y ∈ M.take j, y.1 ≠ x.1) ∨ ∃ (n : Nat) (u : Int), a = n ∧ n < j ∧ M[n]? = some (x.1, u)) ∧ e 10 = .int .i64 j ∧ e 9 = .int .i64 a) _ ⟨0, -1, rfl, ?_, ?_, ?_, ?_⟩ ?_
        · omega
        · exact .inl ⟨rfl, by simp⟩
        · simp only [EN, Nat.reduceEqDiff, reduceIte, k1_0, k4_0, k5_0, k7_0, i8_0, hB1.cell, hB2.cell, hB5.cell, hB1.cell, hB2.cell, hB5.cell] <;> rfl
        · simp only [EN, Nat.reduceEqDiff, reduceIte, k1_0, k4_0, k5_0, k7_0, i8_0, hB1.cell, hB2.cell, hB5.cell, hB1.cell, hB2.cell, hB5.cell] <;> rfl
        ·
          rintro k e1L hfr1 ⟨j, a, rfl, hj, ha, i10_1, i9_1⟩
          have k1_1 := hfr1 1 rfl; try simp only [EN, Nat.reduceEqDiff, reduceIte, k1_0, k4_0, k5_0, k7_0, i8_0, hB1.cell, hB2.cell, hB5.cell, hB1.cell, hB2.cell, hB5.cell] at k1_1
          have k4_1 := hfr1 4 rfl; try simp only [EN, Nat.reduceEqDiff, reduceIte, k1_0, k4_0, k5_0, k7_0, i8_0, hB1.cell, hB2.cell, hB5.cell, hB1.cell, hB2.cell, hB5.cell] at k4_1
          have k5_1 := hfr1 5 rfl; try simp only [EN, Nat.reduceEqDiff, reduceIte, k1_0, k4_0, k5_0, k7_0, i8_0, hB1.cell, hB2.cell, hB5.cell, hB1.cell, hB2.cell, hB5.cell] at k5_1
          have k7_1 := hfr1 7 rfl; try simp only [EN, Nat.reduceEqDiff, reduceIte, k1_0, k4_0, k5_0, k7_0, i8_0, hB1.cell, hB2.cell, hB5.cell, hB1.cell, hB2.cell, hB5.cell] at k7_1
          have k8_1 := hfr1 8 rfl; try simp only [EN, Nat.reduceEqDiff, reduceIte, k1_0, k4_0, k5_0, k7_0, i8_0, hB1.cell, hB2.cell, hB5.cell, hB1.cell, hB2.cell, hB5.cell] at k8_1
          have k28_1 := hfr1 28 rfl; try simp only [EN, Nat.reduceEqDiff, reduceIte, k1_0, k4_0, k5_0, k7_0, i8_0, hB1.cell, hB2.cell, hB5.cell, hB1.cell, hB2.cell, hB5.cell] at k28_1
          have k29_1 := hfr1 29 rfl; try simp only [EN, Nat.reduceEqDiff, reduceIte, k1_0, k4_0, k5_0, k7_0, i8_0, hB1.cell, hB2.cell, hB5.cell, hB1.cell, hB2.cell, hB5.cell] at k29_1
          have k30_1 := hfr1 30 rfl; try simp only [EN, Nat.reduceEqDiff, reduceIte, k1_0, k4_0, k5_0, k7_0, i8_0, hB1.cell, hB2.cell, hB5.cell, hB1.cell, hB2.cell, hB5.cell] at k30_1
          have k31_1 := hfr1 31 rfl; try simp only [EN, Nat.reduceEqDiff, reduceIte, k1_0, k4_0, k5_0, k7_0, i8_0, hB1.cell, hB2.cell, hB5.cell, hB1.cell, hB2.cell, hB5.cell] at k31_1
          refine hx_seq ?_
          refine hx_seq ?_
          refine hx_region ?_
          refine WL.qq (by simp only [EN, Nat.reduceEqDiff, reduceIte, qv_move, i10_1, hB1.cell, hB2.cell, hB5.cell, hB1.cell, hB2.cell, hB5.cell]; rfl) ?_
          refine WL.qq (by simp only [EN, Nat.reduceEqDiff, reduceIte, qv_fieldAddr, fa29_0, Nat.zero_add, Nat.reduceAdd, k7_1, hB1.cell, hB2.cell, hB5.cell, hB1.cell, hB2.cell, hB5.cell]; rfl) ?_
          refine WL.qq (by simp only [EN, Nat.reduceEqDiff, reduceIte, qv_load, ld26, readN, AR, Nat.zero_add, Nat.reduceAdd, hB1.cell, hB2.cell, hB5.cell, hB1.cell, hB2.cell, hB5.cell]; rfl) ?_
          refine WL.qq (by simp only [EN, Nat.reduceEqDiff, reduceIte, qv_len, ln26, AR, hB1.cell, hB2.cell, hB5.cell, hB1.cell, hB2.cell, hB5.cell]; rfl) ?_
          refine WL.qq (by simp only [EN, Nat.reduceEqDiff, reduceIte, qv_binOp, binv_lss, hB1.cell, hB2.cell, hB5.cell, hB1.cell, hB2.cell, hB5.cell]; rfl) ?_
          refine WL.nil ?_
          refine th_norm ?_
          refine hx_cond (by simp only [EN, Nat.reduceEqDiff, reduceIte, k1_1, k4_1, k5_1, k7_1, k8_1, k28_1, k29_1, k30_1, k31_1, i10_1, i9_1, hB1.cell, hB2.cell, hB5.cell, hB1.cell, hB2.cell, hB5.cell]; rfl) (fun hct38 => ?_) (fun hct38 => ?_)
          ·
            try simp only [BD] at hct38
            obtain ⟨y, hy⟩ := atG (l := M) (i := j) (by omega)
            obtain ⟨bv, ov, rfl, hv3, hv2, hd0, hd1, hd2⟩ := ent_rd hsv hy
            refine hx_skip ?_
            refine th_norm ?_
            refine hx_seq ?_
            refine hx_block ?_
            refine hx_seq ?_
            apply hx_draw2 Rel.same [] [] [] rfl (by decide +kernel) rfl
            refine LD.qq rfl rfl (by simp only [EN, Nat.reduceEqDiff, reduceIte, qv_fieldAddr, fa29_0, Nat.zero_add, Nat.reduceAdd, k7_1, hB1.cell, hB2.cell, hB5.cell, hB1.cell, hB2.cell, hB5.cell]; rfl) ?_
            refine LD.qq rfl rfl (by simp only [EN, Nat.reduceEqDiff, reduceIte, qv_load, ld26, readN, AR, Nat.zero_add, Nat.reduceAdd, hB1.cell, hB2.cell, hB5.cell, hB1.cell, hB2.cell, hB5.cell]; rfl) ?_
            refine LD.qq rfl rfl (by simp only [EN, Nat.reduceEqDiff, reduceIte, qv_move, i10_1, hB1.cell, hB2.cell, hB5.cell, hB1.cell, hB2.cell, hB5.cell]; rfl) ?_
            refine LD.qq rfl rfl (by simp only [EN, Nat.reduceEqDiff, reduceIte, qv_indexAddr, hB1.cell, hB2.cell, hB5.cell, hB1.cell, hB2.cell, hB5.cell]; (try simp (disch := omega) only [ix26, Int.toNat_natCast]); rfl) ?_
            refine LD.qq rfl rfl (by simp only [EN, Nat.reduceEqDiff, reduceIte, qv_fieldAddr, fa44_0, Nat.zero_add, Nat.reduceAdd, hB1.cell, hB2.cell, hB5.cell, hB1.cell, hB2.cell, hB5.cell]; rfl) ?_
            refine LD.qq rfl rfl (by simp only [EN, Nat.reduceEqDiff, reduceIte, k1_1, k4_1, k5_1, k7_1, k8_1, k28_1, k29_1, k30_1, k31_1, i10_1, i9_1, hB1.cell, hB2.cell, hB5.cell, hB1.cell, hB2.cell, hB5.cell, qv_load, ld34, Int.toNat_natCast, Nat.add_zero, hv2]; rfl) ?_
            refine LD.qq rfl rfl (by simp only [EN, Nat.reduceEqDiff, reduceIte, qv_move, k1_1, hB1.cell, hB2.cell, hB5.cell, hB1.cell, hB2.cell, hB5.cell]; rfl) ?_
            refine LD.qq rfl rfl (by simp only [EN, Nat.reduceEqDiff, reduceIte, qv_move, k8_1, hB1.cell, hB2.cell, hB5.cell, hB1.cell, hB2.cell, hB5.cell]; rfl) ?_
            refine LD.qq rfl rfl (by simp only [EN, Nat.reduceEqDiff, reduceIte, qv_indexAddr, hB1.cell, hB2.cell, hB5.cell, hB1.cell, hB2.cell, hB5.cell]; (try simp (disch := omega) only [ix26, Int.toNat_natCast]); rfl) ?_
            refine LD.qq rfl rfl (by simp only [EN, Nat.reduceEqDiff, reduceIte, qv_fieldAddr, fa44_0, Nat.zero_add, Nat.reduceAdd, hB1.cell, hB2.cell, hB5.cell, hB1.cell, hB2.cell, hB5.cell]; rfl) ?_
            refine LD.qq rfl rfl (by simp only [EN, Nat.reduceEqDiff, reduceIte, k1_1, k4_1, k5_1, k7_1, k8_1, k28_1, k29_1, k30_1, k31_1, i10_1, i9_1, hB1.cell, hB2.cell, hB5.cell, hB1.cell, hB2.cell, hB5.cell, qv_load, ld34, Int.toNat_natCast, Nat.add_zero, hr2]; rfl) ?_
            refine LD.qq rfl rfl (by simp only [EN, Nat.reduceEqDiff, reduceIte, qv_binOp, binv_eql, eqs34, Option.map_some, hB1.cell, hB2.cell, hB5.cell, hB1.cell, hB2.cell, hB5.cell]; rfl) ?_
            refine LD.nil ?_
            rintro _ rfl -
            refine WL.nil ?_
            refine th_norm ?_
            refine hx_cond (by simp only [EN, Nat.reduceEqDiff, reduceIte, k1_1, k4_1, k5_1, k7_1, k8_1, k28_1, k29_1, k30_1, k31_1, i10_1, i9_1, hB1.cell, hB2.cell, hB5.cell, hB1.cell, hB2.cell, hB5.cell]; rfl) (fun hct52 => ?_) (fun hct52 => ?_)
            ·
              try simp only [BD] at hct52
              refine hx_region ?_
              refine WL.qq (by simp only [EN, Nat.reduceEqDiff, reduceIte, qv_move, i10_1, hB1.cell, hB2.cell, hB5.cell, hB1.cell, hB2.cell, hB5.cell]; rfl) ?_
              refine WL.qq (by simp only [EN, Nat.reduceEqDiff, reduceIte, qv_assign, hB1.cell, hB2.cell, hB5.cell, hB1.cell, hB2.cell, hB5.cell]; rfl) ?_
              refine WL.nil ?_
              refine bl_norm ?_
              refine th_norm ?_
              refine hx_region ?_
              refine WL.qq (by simp only [EN, Nat.reduceEqDiff, reduceIte, qv_move, i10_1, hB1.cell, hB2.cell, hB5.cell, hB1.cell, hB2.cell, hB5.cell]; rfl) ?_
              refine WL.qq (by simp only [EN, Nat.reduceEqDiff, reduceIte, qv_binOp, binv_add, hB1.cell, hB2.cell, hB5.cell, hB1.cell, hB2.cell, hB5.cell]; (try simp (disch := omega) only [w64, w8, wu64]); rfl) ?_
              refine WL.qq (by simp only [EN, Nat.reduceEqDiff, reduceIte, qv_assign, hB1.cell, hB2.cell, hB5.cell, hB1.cell, hB2.cell, hB5.cell]; rfl) ?_
              refine WL.nil ?_
              refine th_norm ?_
              refine ⟨rfl, rfl, ?_, _, ?_, j + 1, (j : Int), rfl, ?_, ?_, ?_, ?_⟩  -- again 0 of loop 1
              · (repeat (first | exact Fr.refl _ _ | refine Fr.set rfl ?_ | refine Fr.put rfl ?_ | refine Fr.put0 ?_))
              · omega
              · omega
              · exact .inr ⟨j, y.2, rfl, by omega, by rw [hy, ← k2_eq.2 ⟨hct52.1, hct52.2.1⟩]⟩
              · simp only [EN, Nat.reduceEqDiff, reduceIte, k1_1, k4_1, k5_1, k7_1, k8_1, k28_1, k29_1, k30_1, k31_1, i10_1, i9_1, hB1.cell, hB2.cell, hB5.cell, hB1.cell, hB2.cell, hB5.cell] <;> first | rfl | (congr 1; omega)
              · simp only [EN, Nat.reduceEqDiff, reduceIte, k1_1, k4_1, k5_1, k7_1, k8_1, k28_1, k29_1, k30_1, k31_1, i10_1, i9_1, hB1.cell, hB2.cell, hB5.cell, hB1.cell, hB2.cell, hB5.cell] <;> first | rfl | (congr 1; omega)
            ·
              try simp only [BD] at hct52
              refine hx_skip ?_
              refine bl_norm ?_
              refine th_norm ?_
              refine hx_region ?_
              refine WL.qq (by simp only [EN, Nat.reduceEqDiff, reduceIte, qv_move, i10_1, hB1.cell, hB2.cell, hB5.cell, hB1.cell, hB2.cell, hB5.cell]; rfl) ?_
              refine WL.qq (by simp only [EN, Nat.reduceEqDiff, reduceIte, qv_binOp, binv_add, hB1.cell, hB2.cell, hB5.cell, hB1.cell, hB2.cell, hB5.cell]; (try simp (disch := omega) only [w64, w8, wu64]); rfl) ?_
              refine WL.qq (by simp only [EN, Nat.reduceEqDiff, reduceIte, qv_assign, hB1.cell, hB2.cell, hB5.cell, hB1.cell, hB2.cell, hB5.cell]; rfl) ?_
              refine WL.nil ?_
              refine th_norm ?_
              refine ⟨rfl, rfl, ?_, _, ?_, j + 1, a, rfl, ?_, ?_, ?_, ?_⟩  -- again 1 of loop 1
              · (repeat (first | exact Fr.refl _ _ | refine Fr.set rfl ?_ | refine Fr.put rfl ?_ | refine Fr.put0 ?_))
              · omega
              · omega
              · rcases ha with ⟨h1, h2⟩ | ⟨n, u, h1, h2, h3⟩; exact .inl ⟨h1, all_take (p := fun y => y.1 ≠ x.1) h2 hy (fun hh => by rw [hh] at hct52; simp at hct52)⟩; exact .inr ⟨n, u, h1, by omega, h3⟩
              · simp only [EN, Nat.reduceEqDiff, reduceIte, k1_1, k4_1, k5_1, k7_1, k8_1, k28_1, k29_1, k30_1, k31_1, i10_1, i9_1, hB1.cell, hB2.cell, hB5.cell, hB1.cell, hB2.cell, hB5.cell] <;> first | rfl | (congr 1; omega)
              · simp only [EN, Nat.reduceEqDiff, reduceIte, k1_1, k4_1, k5_1, k7_1, k8_1, k28_1, k29_1, k30_1, k31_1, i10_1, i9_1, hB1.cell, hB2.cell, hB5.cell, hB1.cell, hB2.cell, hB5.cell] <;> first | rfl | (congr 1; omega)
          ·
            try simp only [BD] at hct38
            have hjM : j = M.length := (by omega); subst hjM; rw [List.take_length] at ha
            refine hx_exit ?_
            refine th_exit ?_
            refine th_exit ?_
            refine bl_hit ?_
            refine th_norm ?_
            refine hx_cutG [9, 54, 55, 56, 57, 58, 59, 60, 61, 62, 63, 64, 65, 66, 67, 68, 69] (fun e hC14 => ∃ (j2 : Nat) (u2 : Int) (M2 : List E2) (v2 : Value), (Ext h hC14) ∧ (Has hC14 B1 (.cells #[.slice ak ks.length ck, .slice af fs.length cf, iV sq] 29)) ∧ (Has hC14 B2 (.cells #[.slice none 0 0, .slice none 0 0, .int .i64 0] 29)) ∧ (Has hC14 B5 (.cells #[v2, .slice af fs.length cf, iV (sq + 1)] 29)) ∧ (Own hC14 h.size 44 3 v2 M2.length (M2.flatMap entL)) ∧ (M2[j2]? = some (x.1, u2)) ∧ (putL ks (l.take (i + 1)) = M2.set j2 (x.1, IntKind.i64.wrap (u2 + x.2))) ∧ (M2.length ≤ ks.length + l.length) ∧ e 9 = .int .i64 j2) ?_ ?_
            ·
              refine hx_seq ?_
              refine hx_region ?_
              refine WL.qq (by simp only [EN, Nat.reduceEqDiff, reduceIte, qv_move, i9_1, hB1.cell, hB2.cell, hB5.cell, hB1.cell, hB2.cell, hB5.cell]; rfl) ?_
              refine WL.qq (by simp only [EN, Nat.reduceEqDiff, reduceIte, qv_binOp, binv_lss, hB1.cell, hB2.cell, hB5.cell, hB1.cell, hB2.cell, hB5.cell]; rfl) ?_
              refine WL.nil ?_
              refine th_norm ?_
              refine hx_cond (by simp only [EN, Nat.reduceEqDiff, reduceIte, k1_1, k4_1, k5_1, k7_1, k8_1, k28_1, k29_1, k30_1, k31_1, i10_1, i9_1, hB1.cell, hB2.cell, hB5.cell, hB1.cell, hB2.cell, hB5.cell]; rfl) (fun hct55 => ?_) (fun hct55 => ?_)
              ·
                try simp only [BD] at hct55
                have ha1 : ∀ y ∈ M, y.1 ≠ x.1 := (by rcases ha with ⟨_, h2⟩ | ⟨n, u, h1, h2, h3⟩; exact h2; omega)
                refine hx_seq ?_
                refine hx_region ?_
                refine WL.qq (by simp only [EN, Nat.reduceEqDiff, reduceIte, qv_fieldAddr, fa29_0, Nat.zero_add, Nat.reduceAdd, k7_1, hB1.cell, hB2.cell, hB5.cell, hB1.cell, hB2.cell, hB5.cell]; rfl) ?_
                refine WL.qq (by simp only [EN, Nat.reduceEqDiff, reduceIte, qv_load, ld26, readN, AR, Nat.zero_add, Nat.reduceAdd, hB1.cell, hB2.cell, hB5.cell, hB1.cell, hB2.cell, hB5.cell]; rfl) ?_
                refine WL.qq (by simp only [EN, Nat.reduceEqDiff, reduceIte, qv_len, ln26, AR, hB1.cell, hB2.cell, hB5.cell, hB1.cell, hB2.cell, hB5.cell]; rfl) ?_
                refine WL.qq (by simp only [EN, Nat.reduceEqDiff, reduceIte, qv_assign, hB1.cell, hB2.cell, hB5.cell, hB1.cell, hB2.cell, hB5.cell]; rfl) ?_
                refine WL.nil ?_
                refine th_norm ?_
                apply hx_draw2 Rel.grows [9, 10, 11] [8] [(8, Spec.ls h.size _ _ _)] rfl (by decide +kernel) rfl
                refine LD.qq rfl rfl (by simp only [EN, Nat.reduceEqDiff, reduceIte, qv_fieldAddr, fa29_0, Nat.zero_add, Nat.reduceAdd, k7_1, hB1.cell, hB2.cell, hB5.cell, hB1.cell, hB2.cell, hB5.cell]; rfl) ?_
                refine LD.qq rfl rfl (by simp only [EN, Nat.reduceEqDiff, reduceIte, qv_load, ld26, readN, AR, Nat.zero_add, Nat.reduceAdd, hB1.cell, hB2.cell, hB5.cell, hB1.cell, hB2.cell, hB5.cell]; rfl) ?_
                refine LD.qq rfl rfl (by simp only [EN, Nat.reduceEqDiff, reduceIte, qv_move, k1_1, hB1.cell, hB2.cell, hB5.cell, hB1.cell, hB2.cell, hB5.cell]; rfl) ?_
                refine LD.qq rfl rfl (by simp only [EN, Nat.reduceEqDiff, reduceIte, qv_move, k8_1, hB1.cell, hB2.cell, hB5.cell, hB1.cell, hB2.cell, hB5.cell]; rfl) ?_
                refine LD.qq rfl rfl (by simp only [EN, Nat.reduceEqDiff, reduceIte, qv_indexAddr, hB1.cell, hB2.cell, hB5.cell, hB1.cell, hB2.cell, hB5.cell]; (try simp (disch := omega) only [ix26, Int.toNat_natCast]); rfl) ?_
                refine LD.qq rfl rfl (by simp only [EN, Nat.reduceEqDiff, reduceIte, qv_fieldAddr, fa44_0, Nat.zero_add, Nat.reduceAdd, hB1.cell, hB2.cell, hB5.cell, hB1.cell, hB2.cell, hB5.cell]; rfl) ?_
                refine LD.qq rfl rfl (by simp only [EN, Nat.reduceEqDiff, reduceIte, k1_1, k4_1, k5_1, k7_1, k8_1, k28_1, k29_1, k30_1, k31_1, i10_1, i9_1, hB1.cell, hB2.cell, hB5.cell, hB1.cell, hB2.cell, hB5.cell, qv_load, ld34, Int.toNat_natCast, Nat.add_zero, hr2]; rfl) ?_
                refine LD.qq rfl rfl (by refine qv_bld (by simp only [EN, Nat.reduceEqDiff, reduceIte, AR, hB1.cell, hB2.cell, hB5.cell, hB1.cell, hB2.cell, hB5.cell] <;> rfl) (by rw [bl44]; simp [Instr.fill, Value.cells]; rfl)) ?_
                refine LD.es rfl rfl (by intro hD hr hf; have hx : Ext _ _ := hr; have hB1 := hB1.ext hx; have hB2 := hB2.ext hx; have hB5 := hB5.ext hx; have ho := ho.ext hx; have hl := hl.ext hx; exact e_lit1 (hE.trans hx).size Try.underlying26 sz44 zr44 (by decide) (by simp only [EN, Nat.reduceEqDiff, reduceIte, k1_1, k4_1, k5_1, k7_1, k8_1, k28_1, k29_1, k30_1, k31_1, i10_1, i9_1, hB1.cell, hB2.cell, hB5.cell, hB1.cell, hB2.cell, hB5.cell, Value.cells]; rfl) rfl) ?_
                intro u16_8 w16_8
                obtain ⟨B12, hlt12, rfl⟩ := w16_8
                refine LD.skip rfl ?_
                refine LD.skip rfl ?_
                refine LD.skip rfl ?_
                refine LD.nil ?_
                rintro h8 hx8 hF16
                replace hx8 : Ext _ _ := hx8
                replace hE := hE.trans hx8
                replace hB1 := hB1.ext hx8
                replace hB2 := hB2.ext hx8
                replace hB5 := hB5.ext hx8
                replace ho := ho.ext hx8
                replace hl := hl.ext hx8
                have hB12 := hF16 (8, .slice (some ⟨B12, 0, none⟩) 1 1) (by simp) _ rfl B12 rfl
                refine WL.app1 (bytes := 16) Try.underlying26 (inf_of Try.type44) rfl rfl rfl rfl (by decide) (by simp only [EN, Nat.reduceEqDiff, reduceIte, k1_1, k4_1, k5_1, k7_1, k8_1, k28_1, k29_1, k30_1, k31_1, i10_1, i9_1, hB1.cell, hB2.cell, hB5.cell, hB1.cell, hB2.cell, hB5.cell]) ho (by simp only [EN, Nat.reduceEqDiff, reduceIte, k1_1, k4_1, k5_1, k7_1, k8_1, k28_1, k29_1, k30_1, k31_1, i10_1, i9_1, hB1.cell, hB2.cell, hB5.cell, hB1.cell, hB2.cell, hB5.cell]) hB12 rfl (by simp [Value.oneCell']) (by simp only [maxLen]; omega) (by omega) hE.size ?_
                intro h40 v40 ho40 hg40 hp40 hn40
                replace hE := hg40.ext hE (fun c hc => (ho.block c hc).1)
                replace hB1 := hB1.gr hg40 (ho.ncell hB1 (by decide))
                replace hB2 := hB2.gr hg40 (ho.ncell hB2 (by decide))
                replace hB5 := hB5.gr hg40 (ho.ncell hB5 (by decide))
                refine WL.qq (by simp only [EN, Nat.reduceEqDiff, reduceIte, qv_fieldAddr, fa29_0, Nat.zero_add, Nat.reduceAdd, k7_1, hB1.cell, hB2.cell, hB5.cell, hB1.cell, hB2.cell, hB5.cell]; rfl) ?_
                refine WL.store (by simp only [EN, Nat.reduceEqDiff, reduceIte, k1_1, k4_1, k5_1, k7_1, k8_1, k28_1, k29_1, k30_1, k31_1, i10_1, i9_1, hB1.cell, hB2.cell, hB5.cell, hB1.cell, hB2.cell, hB5.cell] <;> rfl) sz26 (by simp only [EN, Nat.reduceEqDiff, reduceIte, k1_1, k4_1, k5_1, k7_1, k8_1, k28_1, k29_1, k30_1, k31_1, i10_1, i9_1, hB1.cell, hB2.cell, hB5.cell, hB1.cell, hB2.cell, hB5.cell]; exact ho40.cells) rfl hB5 (by simp) (by simp [ho40.one]) ?_
                intro h41 hw41
                replace hE := hw41.ext hE hb0_5
                have ho41 := ho40.keep (h' := h41) (fun c hc => hw41.same c fun hh => by subst hh; exact ho40.ncell hB5 (by decide) hc)
                replace hB1 := hB1.wr hw41 hne1_5.symm
                replace hB2 := hB2.wr hw41 hne2_5.symm
                replace hB5 := hw41.at_
                refine WL.nil ?_
                refine th_norm ?_
                refine ⟨rfl, ?_, M.length, 0, M ++ [(x.1, 0)], v40, ?_, ?_, ?_, ?_, ?_, ?_, ?_, ?_, ?_⟩  -- meet 0 of cut 14
                · (repeat (first | exact Fr.refl _ _ | refine Fr.set rfl ?_ | refine Fr.put rfl ?_ | refine Fr.put0 ?_ | refine Fr.trans ?_ (Fr.of hfr0 rfl) | refine Fr.trans ?_ (Fr.of hfr1 rfl) | refine Fr.trans ?_ (Fr.of hfc14 rfl)))
                · exact hE
                · exact hB1
                · exact hB2
                · exact hB5
                · rw [List.flatMap_append, List.length_append]; exact ho41
                · simp
                · rw [putL_step ks hx, hM, mset_no ha1, lk_none ha1]; simp
                · simp; omega
                · simp only [EN, Nat.reduceEqDiff, reduceIte, k1_1, k4_1, k5_1, k7_1, k8_1, k28_1, k29_1, k30_1, k31_1, i10_1, i9_1, hB1.cell, hB2.cell, hB5.cell, hB1.cell, hB2.cell, hB5.cell] <;> first | rfl | (congr 1; omega)
              ·
                try simp only [BD] at hct55
                obtain ⟨n, u, ha2, ha3, ha4⟩ : ∃ (n : Nat) (u : Int), a = n ∧ n < M.length ∧ M[n]? = some (x.1, u) := (by rcases ha with ⟨h1, _⟩ | h2; omega; exact h2)
                subst ha2
                refine hx_skip ?_
                refine th_norm ?_
                refine ⟨rfl, ?_, n, u, M, .slice av M.length cv, ?_, ?_, ?_, ?_, ?_, ?_, ?_, ?_, ?_⟩  -- meet 1 of cut 14
                · (repeat (first | exact Fr.refl _ _ | refine Fr.set rfl ?_ | refine Fr.put rfl ?_ | refine Fr.put0 ?_ | refine Fr.trans ?_ (Fr.of hfr0 rfl) | refine Fr.trans ?_ (Fr.of hfr1 rfl) | refine Fr.trans ?_ (Fr.of hfc14 rfl)))
                · exact hE
                · exact hB1
                · exact hB2
                · exact hB5
                · exact ho
                · exact ha4
                · rw [putL_step ks hx, hM, mset_at hndM ha4, lk_mem hndM (List.mem_of_getElem? ha4)]
                · omega
                · simp only [EN, Nat.reduceEqDiff, reduceIte, k1_1, k4_1, k5_1, k7_1, k8_1, k28_1, k29_1, k30_1, k31_1, i10_1, i9_1, hB1.cell, hB2.cell, hB5.cell, hB1.cell, hB2.cell, hB5.cell] <;> first | rfl | (congr 1; omega)
            ·
              rintro ec14 hC14 hfc14 ⟨j2, u2, M2, v2, hE, hB1, hB2, hB5, ho, hj2, hset, hml, i9_c14⟩
              have k1_c14 := hfc14 1 rfl; try simp only [EN, Nat.reduceEqDiff, reduceIte, k1_1, k4_1, k5_1, k7_1, k8_1, k28_1, k29_1, k30_1, k31_1, i10_1, i9_1, hB1.cell, hB2.cell, hB5.cell, hB1.cell, hB2.cell, hB5.cell] at k1_c14
              have k4_c14 := hfc14 4 rfl; try simp only [EN, Nat.reduceEqDiff, reduceIte, k1_1, k4_1, k5_1, k7_1, k8_1, k28_1, k29_1, k30_1, k31_1, i10_1, i9_1, hB1.cell, hB2.cell, hB5.cell, hB1.cell, hB2.cell, hB5.cell] at k4_c14
              have k5_c14 := hfc14 5 rfl; try simp only [EN, Nat.reduceEqDiff, reduceIte, k1_1, k4_1, k5_1, k7_1, k8_1, k28_1, k29_1, k30_1, k31_1, i10_1, i9_1, hB1.cell, hB2.cell, hB5.cell, hB1.cell, hB2.cell, hB5.cell] at k5_c14
              have k7_c14 := hfc14 7 rfl; try simp only [EN, Nat.reduceEqDiff, reduceIte, k1_1, k4_1, k5_1, k7_1, k8_1, k28_1, k29_1, k30_1, k31_1, i10_1, i9_1, hB1.cell, hB2.cell, hB5.cell, hB1.cell, hB2.cell, hB5.cell] at k7_c14
              have k8_c14 := hfc14 8 rfl; try simp only [EN, Nat.reduceEqDiff, reduceIte, k1_1, k4_1, k5_1, k7_1, k8_1, k28_1, k29_1, k30_1, k31_1, i10_1, i9_1, hB1.cell, hB2.cell, hB5.cell, hB1.cell, hB2.cell, hB5.cell] at k8_c14
              have k10_c14 := hfc14 10 rfl; try simp only [EN, Nat.reduceEqDiff, reduceIte, k1_1, k4_1, k5_1, k7_1, k8_1, k28_1, k29_1, k30_1, k31_1, i10_1, i9_1, hB1.cell, hB2.cell, hB5.cell, hB1.cell, hB2.cell, hB5.cell] at k10_c14
              have k28_c14 := hfc14 28 rfl; try simp only [EN, Nat.reduceEqDiff, reduceIte, k1_1, k4_1, k5_1, k7_1, k8_1, k28_1, k29_1, k30_1, k31_1, i10_1, i9_1, hB1.cell, hB2.cell, hB5.cell, hB1.cell, hB2.cell, hB5.cell] at k28_c14
              have k29_c14 := hfc14 29 rfl; try simp only [EN, Nat.reduceEqDiff, reduceIte, k1_1, k4_1, k5_1, k7_1, k8_1, k28_1, k29_1, k30_1, k31_1, i10_1, i9_1, hB1.cell, hB2.cell, hB5.cell, hB1.cell, hB2.cell, hB5.cell] at k29_c14
              have k30_c14 := hfc14 30 rfl; try simp only [EN, Nat.reduceEqDiff, reduceIte, k1_1, k4_1, k5_1, k7_1, k8_1, k28_1, k29_1, k30_1, k31_1, i10_1, i9_1, hB1.cell, hB2.cell, hB5.cell, hB1.cell, hB2.cell, hB5.cell] at k30_c14
              have k31_c14 := hfc14 31 rfl; try simp only [EN, Nat.reduceEqDiff, reduceIte, k1_1, k4_1, k5_1, k7_1, k8_1, k28_1, k29_1, k30_1, k31_1, i10_1, i9_1, hB1.cell, hB2.cell, hB5.cell, hB1.cell, hB2.cell, hB5.cell] at k31_c14
              have k34_c14 := hfc14 34 rfl; try simp only [EN, Nat.reduceEqDiff, reduceIte, k1_1, k4_1, k5_1, k7_1, k8_1, k28_1, k29_1, k30_1, k31_1, i10_1, i9_1, hB1.cell, hB2.cell, hB5.cell, hB1.cell, hB2.cell, hB5.cell] at k34_c14
              have k35_c14 := hfc14 35 rfl; try simp only [EN, Nat.reduceEqDiff, reduceIte, k1_1, k4_1, k5_1, k7_1, k8_1, k28_1, k29_1, k30_1, k31_1, i10_1, i9_1, hB1.cell, hB2.cell, hB5.cell, hB1.cell, hB2.cell, hB5.cell] at k35_c14
              have k36_c14 := hfc14 36 rfl; try simp only [EN, Nat.reduceEqDiff, reduceIte, k1_1, k4_1, k5_1, k7_1, k8_1, k28_1, k29_1, k30_1, k31_1, i10_1, i9_1, hB1.cell, hB2.cell, hB5.cell, hB1.cell, hB2.cell, hB5.cell] at k36_c14
              have k37_c14 := hfc14 37 rfl; try simp only [EN, Nat.reduceEqDiff, reduceIte, k1_1, k4_1, k5_1, k7_1, k8_1, k28_1, k29_1, k30_1, k31_1, i10_1, i9_1, hB1.cell, hB2.cell, hB5.cell, hB1.cell, hB2.cell, hB5.cell] at k37_c14
              have k38_c14 := hfc14 38 rfl; try simp only [EN, Nat.reduceEqDiff, reduceIte, k1_1, k4_1, k5_1, k7_1, k8_1, k28_1, k29_1, k30_1, k31_1, i10_1, i9_1, hB1.cell, hB2.cell, hB5.cell, hB1.cell, hB2.cell, hB5.cell] at k38_c14
              have hl := kl.ext hE; obtain ⟨b', off', hbo, hr3, hr2, hc0, hc1, hc2⟩ := ent_rd hl hx; cases hbo
              obtain ⟨av2, cv2, hvv2, hcv2, hsv2, hav2, hblk2⟩ := Own.slG (f := entL) (sz := 3) (fun _ => rfl) ho rfl; subst hvv2
              obtain ⟨bv2, ov2, hbv2, hw3, hw2, hd0, hd1, hd2⟩ := ent_rd hsv2 hj2; subst hbv2; obtain ⟨g2, hg2, hg3, hg4⟩ := hblk2 _ rfl; cases hg2; have hj2l := (List.getElem?_eq_some_iff.1 hj2).1; simp only [Nat.zero_add] at hw3 hw2 hd0 hd1 hd2
              apply hx_draw2 Rel.same [17] [] [] rfl (by decide +kernel) rfl
              refine LD.qq rfl rfl (by simp only [EN, Nat.reduceEqDiff, reduceIte, qv_fieldAddr, fa29_0, Nat.zero_add, Nat.reduceAdd, k7_c14, hB1.cell, hB2.cell, hB5.cell, hB1.cell, hB2.cell, hB5.cell, hB1.cell, hB2.cell, hB5.cell]; rfl) ?_
              refine LD.qq rfl rfl (by simp only [EN, Nat.reduceEqDiff, reduceIte, qv_load, ld26, readN, AR, Nat.zero_add, Nat.reduceAdd, hB1.cell, hB2.cell, hB5.cell, hB1.cell, hB2.cell, hB5.cell, hB1.cell, hB2.cell, hB5.cell]; rfl) ?_
              refine LD.qq rfl rfl (by simp only [EN, Nat.reduceEqDiff, reduceIte, qv_move, i9_c14, hB1.cell, hB2.cell, hB5.cell, hB1.cell, hB2.cell, hB5.cell, hB1.cell, hB2.cell, hB5.cell]; rfl) ?_
              refine LD.qq rfl rfl (by simp only [EN, Nat.reduceEqDiff, reduceIte, qv_fieldAddr, fa29_0, Nat.zero_add, Nat.reduceAdd, k7_c14, hB1.cell, hB2.cell, hB5.cell, hB1.cell, hB2.cell, hB5.cell, hB1.cell, hB2.cell, hB5.cell]; rfl) ?_
              refine LD.qq rfl rfl (by simp only [EN, Nat.reduceEqDiff, reduceIte, qv_load, ld26, readN, AR, Nat.zero_add, Nat.reduceAdd, hB1.cell, hB2.cell, hB5.cell, hB1.cell, hB2.cell, hB5.cell, hB1.cell, hB2.cell, hB5.cell]; rfl) ?_
              refine LD.qq rfl rfl (by simp only [EN, Nat.reduceEqDiff, reduceIte, qv_move, i9_c14, hB1.cell, hB2.cell, hB5.cell, hB1.cell, hB2.cell, hB5.cell, hB1.cell, hB2.cell, hB5.cell]; rfl) ?_
              refine LD.qq rfl rfl (by simp only [EN, Nat.reduceEqDiff, reduceIte, qv_indexAddr, hB1.cell, hB2.cell, hB5.cell, hB1.cell, hB2.cell, hB5.cell, hB1.cell, hB2.cell, hB5.cell]; (try simp (disch := omega) only [ix26, Int.toNat_natCast]); rfl) ?_
              refine LD.qq rfl rfl (by simp only [EN, Nat.reduceEqDiff, reduceIte, qv_fieldAddr, fa44_1, Nat.zero_add, Nat.reduceAdd, hB1.cell, hB2.cell, hB5.cell, hB1.cell, hB2.cell, hB5.cell, hB1.cell, hB2.cell, hB5.cell]; rfl) ?_
              refine LD.qq rfl rfl (by simp only [EN, Nat.reduceEqDiff, reduceIte, k1_c14, k4_c14, k5_c14, k7_c14, k8_c14, k10_c14, k28_c14, k29_c14, k30_c14, k31_c14, k34_c14, k35_c14, k36_c14, k37_c14, k38_c14, i9_c14, hB1.cell, hB2.cell, hB5.cell, hB1.cell, hB2.cell, hB5.cell, hB1.cell, hB2.cell, hB5.cell, qv_load, ld2, Int.toNat_natCast, hd2]; rfl) ?_
              refine LD.qq rfl rfl (by simp only [EN, Nat.reduceEqDiff, reduceIte, qv_move, k1_c14, hB1.cell, hB2.cell, hB5.cell, hB1.cell, hB2.cell, hB5.cell, hB1.cell, hB2.cell, hB5.cell]; rfl) ?_
              refine LD.qq rfl rfl (by simp only [EN, Nat.reduceEqDiff, reduceIte, qv_move, k8_c14, hB1.cell, hB2.cell, hB5.cell, hB1.cell, hB2.cell, hB5.cell, hB1.cell, hB2.cell, hB5.cell]; rfl) ?_
              refine LD.qq rfl rfl (by simp only [EN, Nat.reduceEqDiff, reduceIte, qv_indexAddr, hB1.cell, hB2.cell, hB5.cell, hB1.cell, hB2.cell, hB5.cell, hB1.cell, hB2.cell, hB5.cell]; (try simp (disch := omega) only [ix26, Int.toNat_natCast]); rfl) ?_
              refine LD.qq rfl rfl (by simp only [EN, Nat.reduceEqDiff, reduceIte, qv_fieldAddr, fa44_1, Nat.zero_add, Nat.reduceAdd, hB1.cell, hB2.cell, hB5.cell, hB1.cell, hB2.cell, hB5.cell, hB1.cell, hB2.cell, hB5.cell]; rfl) ?_
              refine LD.qq rfl rfl (by simp only [EN, Nat.reduceEqDiff, reduceIte, k1_c14, k4_c14, k5_c14, k7_c14, k8_c14, k10_c14, k28_c14, k29_c14, k30_c14, k31_c14, k34_c14, k35_c14, k36_c14, k37_c14, k38_c14, i9_c14, hB1.cell, hB2.cell, hB5.cell, hB1.cell, hB2.cell, hB5.cell, hB1.cell, hB2.cell, hB5.cell, qv_load, ld2, Int.toNat_natCast, hc2]; rfl) ?_
              refine LD.qq rfl rfl (by simp only [EN, Nat.reduceEqDiff, reduceIte, k1_c14, k4_c14, k5_c14, k7_c14, k8_c14, k10_c14, k28_c14, k29_c14, k30_c14, k31_c14, k34_c14, k35_c14, k36_c14, k37_c14, k38_c14, i9_c14, hB1.cell, hB2.cell, hB5.cell, hB1.cell, hB2.cell, hB5.cell, hB1.cell, hB2.cell, hB5.cell, qv_binOp, binv_add]; rfl) ?_
              refine LD.qq rfl rfl (by simp only [EN, Nat.reduceEqDiff, reduceIte, qv_indexAddr, hB1.cell, hB2.cell, hB5.cell, hB1.cell, hB2.cell, hB5.cell, hB1.cell, hB2.cell, hB5.cell]; (try simp (disch := omega) only [ix26, Int.toNat_natCast]); rfl) ?_
              refine LD.qq rfl rfl (by simp only [EN, Nat.reduceEqDiff, reduceIte, qv_fieldAddr, fa44_1, Nat.zero_add, Nat.reduceAdd, hB1.cell, hB2.cell, hB5.cell, hB1.cell, hB2.cell, hB5.cell, hB1.cell, hB2.cell, hB5.cell]; rfl) ?_
              refine LD.skip rfl ?_
              refine LD.nil ?_
              rintro _ rfl -
              obtain ⟨cur, hcur, hsz, hput⟩ := Own.putAt (f := entL) (sz := 3) (fun _ => rfl) ho rfl rfl (k := 2) (y' := (x.1, IntKind.i64.wrap (u2 + x.2))) (vs := [iV (IntKind.i64.wrap (u2 + x.2))]) hj2 (by simp) (by simp [splc])
              refine WL.store (off := j2 * 3 + 2) (by simp only [EN, Nat.reduceEqDiff, reduceIte, k1_c14, k4_c14, k5_c14, k7_c14, k8_c14, k10_c14, k28_c14, k29_c14, k30_c14, k31_c14, k34_c14, k35_c14, k36_c14, k37_c14, k38_c14, i9_c14, hB1.cell, hB2.cell, hB5.cell, hB1.cell, hB2.cell, hB5.cell, hB1.cell, hB2.cell, hB5.cell, Int.toNat_natCast, Nat.zero_add] <;> rfl) sz2 (by simp only [EN, Nat.reduceEqDiff, reduceIte, k1_c14, k4_c14, k5_c14, k7_c14, k8_c14, k10_c14, k28_c14, k29_c14, k30_c14, k31_c14, k34_c14, k35_c14, k36_c14, k37_c14, k38_c14, i9_c14, hB1.cell, hB2.cell, hB5.cell, hB1.cell, hB2.cell, hB5.cell, hB1.cell, hB2.cell, hB5.cell, Value.cells] <;> rfl) rfl hcur (by simpa using hsz) (by simp [Value.oneCell']) ?_
              intro h51 hw51
              have ho51 := hput h51 hw51
              replace hE := hw51.ext hE hg3
              replace hB1 := hB1.wr hw51 (fun hh => by subst hh; exact ho.ncell hB1 (by decide) rfl)
              replace hB2 := hB2.wr hw51 (fun hh => by subst hh; exact ho.ncell hB2 (by decide) rfl)
              replace hB5 := hB5.wr hw51 (fun hh => by subst hh; exact ho.ncell hB5 (by decide) rfl)
              refine WL.nil ?_
              refine bl_norm ?_
              refine th_norm ?_
              refine hx_region ?_
              refine WL.qq (by simp only [EN, Nat.reduceEqDiff, reduceIte, qv_move, k8_c14, hB1.cell, hB2.cell, hB5.cell, hB1.cell, hB2.cell, hB5.cell, hB1.cell, hB2.cell, hB5.cell]; rfl) ?_
              refine WL.qq (by simp only [EN, Nat.reduceEqDiff, reduceIte, qv_binOp, binv_add, hB1.cell, hB2.cell, hB5.cell, hB1.cell, hB2.cell, hB5.cell, hB1.cell, hB2.cell, hB5.cell]; (try simp (disch := omega) only [w64, w8, wu64]); rfl) ?_
              refine WL.qq (by simp only [EN, Nat.reduceEqDiff, reduceIte, qv_assign, hB1.cell, hB2.cell, hB5.cell, hB1.cell, hB2.cell, hB5.cell, hB1.cell, hB2.cell, hB5.cell]; rfl) ?_
              refine WL.nil ?_
              refine th_norm ?_
              refine ⟨rfl, ?_, _, ?_, i + 1, .slice (some ⟨bv2, 0, none⟩) M2.length cv2, rfl, ?_, ?_, ?_, ?_, ?_, ?_, ?_, ?_⟩  -- again 0 of loop 0
              · (repeat (first | exact Fr.refl _ _ | refine Fr.set rfl ?_ | refine Fr.put rfl ?_ | refine Fr.put0 ?_ | refine Fr.trans ?_ (Fr.of hfr1 rfl) | refine Fr.trans ?_ (Fr.of hfc14 rfl)))
              · omega
              · omega
              · exact hE
              · exact hB1
              · exact hB2
              · exact hB5
              · rw [hset, List.length_set]; exact ho51
              · exact putL_nodup _ hnd
              · simp only [EN, Nat.reduceEqDiff, reduceIte, k1_c14, k4_c14, k5_c14, k7_c14, k8_c14, k10_c14, k28_c14, k29_c14, k30_c14, k31_c14, k34_c14, k35_c14, k36_c14, k37_c14, k38_c14, i9_c14, hB1.cell, hB2.cell, hB5.cell, hB1.cell, hB2.cell, hB5.cell, hB1.cell, hB2.cell, hB5.cell] <;> first | rfl | (congr 1; omega)
      ·
        try simp only [BD] at hct31
        have hil : i = l.length := (by omega); subst hil; rw [List.take_length] at ho
        refine hx_exit ?_
        refine th_exit ?_
        refine th_exit ?_
        refine bl_hit ?_
        refine th_norm ?_
        refine hx_seq ?_
        refine hx_region ?_
        refine WL.qq (by simp only [EN, Nat.reduceEqDiff, reduceIte, qv_load, ld29, readN, AR, Nat.zero_add, Nat.reduceAdd, k7_0, hB1.cell, hB2.cell, hB5.cell, hB1.cell, hB2.cell, hB5.cell]; rfl) ?_
        refine WL.store (by simp only [EN, Nat.reduceEqDiff, reduceIte, k1_0, k4_0, k5_0, k7_0, i8_0, hB1.cell, hB2.cell, hB5.cell, hB1.cell, hB2.cell, hB5.cell] <;> rfl) sz29 (by simp only [EN, Nat.reduceEqDiff, reduceIte, k1_0, k4_0, k5_0, k7_0, i8_0, hB1.cell, hB2.cell, hB5.cell, hB1.cell, hB2.cell, hB5.cell, Value.cells]; rfl) rfl hB2 (by simp) (by have h9 := ho.one; intro u hu; simp [splc] at hu; rcases hu with rfl | rfl | rfl <;> first | exact h9 | rfl) ?_
        intro h50 hw50
        replace hE := hw50.ext hE hb0_2
        replace ho := ho.keep (h' := h50) (fun c hc => hw50.same c fun hh => by subst hh; exact ho.ncell hB2 (by decide) hc)
        replace hB2 := hw50.at_
        replace hff := kf.ext hE
        refine WL.qq (by simp only [EN, Nat.reduceEqDiff, reduceIte, qv_assign, hB1.cell, hB2.cell, hB5.cell, hB1.cell, hB2.cell, hB5.cell]; rfl) ?_
        refine WL.nil ?_
        refine th_norm ?_
        refine hx_ret ?_
        refine fin_ret [.cell 4 29, .tmp 5] rfl rfl (by simp only [EN, Nat.reduceEqDiff, reduceIte, resv, ld29, readN, AR, Nat.zero_add, Nat.reduceAdd, k1_0, k4_0, k5_0, k7_0, i8_0, hB1.cell, hB2.cell, hB5.cell, hB1.cell, hB2.cell, hB5.cell]; rfl) ?_  -- ret 1 r18
        have hr0 : r = 0 := by omega
        subst hr0
        exact ⟨hE, _, _, _, rfl, ⟨rfl, ho.base (Nat.zero_le _), hff⟩⟩
end GL


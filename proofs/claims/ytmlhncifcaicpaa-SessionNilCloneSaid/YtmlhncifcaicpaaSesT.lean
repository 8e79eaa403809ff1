/- Session: a sender of the reference. -/
import Derived.Test.YtmlhncifcaicpaaSesO
import Derived.Test.YtmlhncifcaicpaaSesF
import Derived.Test.YtmlhncifcaicpaaGl36
set_option linter.unusedSimpArgs false
set_option linter.unusedVariables false
set_option linter.unnecessarySimpa false
namespace GL
open Go Go.Proofs
set_option maxRecDepth 8000
/-- A sender of the reference in memory. -/
structure RS (h : Heap) (v : Value) (w n a : Int) (K : List M2) : Prop where
  ex : ∃ ar cr, v = .agg #[iV w, iV n, iV a, .slice ar K.length cr] ∧ SlR 46 2 msgL h ar K ∧ K.length ≤ cr
theorem RS.ext {h h' : Heap} {v : Value} {w n a : Int} {K : List M2} (hr : RS h v w n a K) (hx : Ext h h') : RS h' v w n a K := by
  obtain ⟨ar, cr, h1, h2, h3⟩ := hr.ex
  exact ⟨ar, cr, h1, h2.ext hx, h3⟩
section
variable {h : Heap} {w n a : Int} {K : List M2}
set_option maxHeartbeats 1000000 in
theorem c_rSend (ar : Option Addr) (cr : Nat) (pl : ByteArray) (hS : SG w n a K) (hs : SlR 46 2 msgL h ar K) (hcr : K.length ≤ cr) :
    HCalls Try.prog 42 #[.agg #[iV w, iV n, iV a, .slice ar K.length cr], .string pl] h fun v h' => Ext h h' ∧ ∃ u, v = .tuple #[u, .agg (msgL (sndM w n K pl)).toArray, iV (sndE w n K pl)] ∧ RS h' u w (sndN w n K pl) a (sndK w n K pl) := by
  have hkw := hS.kw; have hw2 := hS.w2; have hn2 := hS.n2; have han := hS.an; have ha1 := hS.a1
  refine hcalls2 Try.func42 rfl (by decide +kernel) (by simp only [Try.ntmps42]; exact of_decide_eq_true rfl) ?_
  intro e hin
  have e0 := hin 0 _ rfl
  have e1 := hin 1 _ rfl
  have ks := hs
  refine hx_seq ?_
  refine hx_region ?_
  refine WL.box2 (by simp only [EN, Nat.reduceEqDiff, reduceIte, Value.cells, e0]; rfl) ?_
  intro h1 B1 hx1 hlt1 hB1
  replace hs := hs.ext hx1
  have hb1l := (Array.getElem?_eq_some_iff.1 hB1).1
  refine WL.alloc2 zr60 ?_
  intro h2 B2 hx2 hlt2 hB2
  replace hs := hs.ext hx2
  replace hB1 := hB1.ext hx2
  simp only [Value.cells] at hB2
  have hb2l := (Array.getElem?_eq_some_iff.1 hB2).1
  refine WL.alloc2 zr46 ?_
  intro h3 B3 hx3 hlt3 hB3
  replace hs := hs.ext hx3
  replace hB1 := hB1.ext hx3
  replace hB2 := hB2.ext hx3
  simp only [Value.cells] at hB3
  refine WL.qq (by simp only [EN, Nat.reduceEqDiff, reduceIte, qv_assign, hB1.cell, hB2.cell, hB3.cell]; rfl) ?_
  refine WL.nil ?_
  refine th_norm ?_
  refine hx_seq ?_
  refine hx_seq ?_
  refine hx_region ?_
  have hz1 := hx1.size; have hz2 := hx2.size; have hz3 := hx3.size; have hn2b : h.size ≤ B2 := (by omega); have hn3b : h.size ≤ B3 := (by omega); have hn23 : B3 ≠ B2 := (by omega)
  refine WL.qq (by simp only [EN, Nat.reduceEqDiff, reduceIte, qv_move, e1, hB1.cell, hB2.cell, hB3.cell]; rfl) ?_
  refine WL.qq (by simp only [EN, Nat.reduceEqDiff, reduceIte, qv_len, ln9, AR, hB1.cell, hB2.cell, hB3.cell]; rfl) ?_
  refine WL.qq (by simp only [EN, Nat.reduceEqDiff, reduceIte, qv_binOp, binv_gtr, hB1.cell, hB2.cell, hB3.cell]; rfl) ?_
  refine WL.nil ?_
  refine th_norm ?_
  refine hx_cond (by simp only [EN, Nat.reduceEqDiff, reduceIte, hB1.cell, hB2.cell, hB3.cell]; rfl) (fun hct10 => ?_) (fun hct10 => ?_)
  ·
    try simp only [BD] at hct10
    refine hx_seq ?_
    refine hx_region ?_
    refine WL.qq (by simp only [EN, Nat.reduceEqDiff, reduceIte, qv_load, ld60, readN, AR, Nat.zero_add, Nat.reduceAdd, hB1.cell, hB2.cell, hB3.cell]; rfl) ?_
    refine WL.qq (by refine qv_bld (by simp only [EN, Nat.reduceEqDiff, reduceIte, AR, hB1.cell, hB2.cell, hB3.cell] <;> rfl) (by rw [bl46]; simp [Instr.fill, Value.cells]; rfl)) ?_
    refine WL.store (by simp only [EN, Nat.reduceEqDiff, reduceIte, e0, e1, hB1.cell, hB2.cell, hB3.cell] <;> rfl) sz60 (by simp only [EN, Nat.reduceEqDiff, reduceIte, e0, e1, hB1.cell, hB2.cell, hB3.cell, Value.cells]; rfl) rfl hB2 (by simp) (by intro u hu; simp at hu; rcases hu with rfl | rfl | rfl | rfl <;> rfl) ?_
    intro h20 hw20
    have hE9 := hw20.ext ((hx1).trans ((hx2).trans (hx3))) hn2b
    replace hB3 := hB3.wr hw20 hn23
    replace hB2 := hw20.at_
    refine WL.store (by simp only [EN, Nat.reduceEqDiff, reduceIte, e0, e1, hB1.cell, hB2.cell, hB3.cell] <;> rfl) sz46 (by simp only [EN, Nat.reduceEqDiff, reduceIte, e0, e1, hB1.cell, hB2.cell, hB3.cell, Value.cells]; rfl) rfl hB3 (by simp) (by intro u hu; simp at hu; rcases hu with rfl | rfl <;> rfl) ?_
    intro h21 hw21
    replace hE9 := hw21.ext hE9 hn3b
    replace hB2 := hB2.wr hw21 (Ne.symm hn23)
    replace hB3 := hw21.at_
    refine WL.qq (by simp only [EN, Nat.reduceEqDiff, reduceIte, qv_assign, hB1.cell, hB2.cell, hB3.cell]; rfl) ?_
    refine WL.nil ?_
    refine th_norm ?_
    refine hx_ret ?_
    refine th_ret ?_
    refine fin_ret [.cell 4 60, .cell 5 46, .tmp 6] rfl rfl (by simp only [EN, Nat.reduceEqDiff, reduceIte, resv, ld60, ld46, readN, AR, Nat.zero_add, Nat.reduceAdd, e0, e1, hB1.cell, hB2.cell, hB3.cell]; rfl) ?_  -- ret 0 r2
    have he : sndE w n K pl = 5 := (if_pos (by omega))
    have hne : ¬ sndE w n K pl = 0 := (by rw [he]; decide)
    rw [sndM, sndN, sndK, if_neg hne, if_neg hne, if_neg hne, he]
    exact ⟨hE9, _, rfl, ⟨ar, cr, rfl, ks.ext hE9, hcr⟩⟩
  ·
    try simp only [BD] at hct10
    have q1 : ¬ 4096 < pl.size := (by omega)
    refine hx_skip ?_
    refine th_norm ?_
    refine hx_seq ?_
    refine hx_seq ?_
    refine hx_region ?_
    refine WL.qq (by simp only [EN, Nat.reduceEqDiff, reduceIte, qv_fieldAddr, fa60_3, Nat.zero_add, Nat.reduceAdd, hB1.cell, hB2.cell, hB3.cell]; rfl) ?_
    refine WL.qq (by simp only [EN, Nat.reduceEqDiff, reduceIte, qv_load, ld22, readN, AR, Nat.zero_add, Nat.reduceAdd, hB1.cell, hB2.cell, hB3.cell]; rfl) ?_
    refine WL.qq (by simp only [EN, Nat.reduceEqDiff, reduceIte, qv_len, ln22, AR, hB1.cell, hB2.cell, hB3.cell]; rfl) ?_
    refine WL.qq (by simp only [EN, Nat.reduceEqDiff, reduceIte, qv_fieldAddr, fa60_0, Nat.zero_add, Nat.reduceAdd, hB1.cell, hB2.cell, hB3.cell]; rfl) ?_
    refine WL.qq (by simp only [EN, Nat.reduceEqDiff, reduceIte, qv_load, ld3, readN, AR, Nat.zero_add, Nat.reduceAdd, hB1.cell, hB2.cell, hB3.cell]; rfl) ?_
    refine WL.qq (by simp only [EN, Nat.reduceEqDiff, reduceIte, qv_binOp, binv_geq, hB1.cell, hB2.cell, hB3.cell]; rfl) ?_
    refine WL.qq (by simp only [EN, Nat.reduceEqDiff, reduceIte, qv_move, hB1.cell, hB2.cell, hB3.cell]; rfl) ?_
    refine WL.cq (gd_at (t := 19) rfl (by simp only [EN, Nat.reduceEqDiff, reduceIte, hB1.cell, hB2.cell, hB3.cell] <;> rfl)) (fun hg3_7 => by simp only [EN, Nat.reduceEqDiff, reduceIte, qv_fieldAddr, fa60_1, Nat.zero_add, Nat.reduceAdd, hB1.cell, hB2.cell, hB3.cell, hg3_7, GR]; rfl) ?_
    refine WL.cq (gd_at (t := 19) rfl (by simp only [EN, Nat.reduceEqDiff, reduceIte, hB1.cell, hB2.cell, hB3.cell] <;> rfl)) (fun hg3_8 => by simp only [EN, Nat.reduceEqDiff, reduceIte, qv_load, ld3, readN, AR, Nat.zero_add, Nat.reduceAdd, hB1.cell, hB2.cell, hB3.cell, hg3_8, GR]; rfl) ?_
    refine WL.cq (gd_at (t := 19) rfl (by simp only [EN, Nat.reduceEqDiff, reduceIte, hB1.cell, hB2.cell, hB3.cell] <;> rfl)) (fun hg3_9 => by simp only [EN, Nat.reduceEqDiff, reduceIte, qv_binOp, binv_gtr, hB1.cell, hB2.cell, hB3.cell, hg3_9, GR]; rfl) ?_
    refine WL.qq (by simp only [EN, Nat.reduceEqDiff, reduceIte, qv_pick, pk_and, pk_or, GR, hB1.cell, hB2.cell, hB3.cell]; rfl) ?_
    refine WL.nil ?_
    refine th_norm ?_
    refine hx_cond (by simp only [EN, Nat.reduceEqDiff, reduceIte, hB1.cell, hB2.cell, hB3.cell]; rfl) (fun hct23 => ?_) (fun hct23 => ?_)
    ·
      try simp only [BD] at hct23
      refine hx_seq ?_
      refine hx_region ?_
      refine WL.qq (by simp only [EN, Nat.reduceEqDiff, reduceIte, qv_load, ld60, readN, AR, Nat.zero_add, Nat.reduceAdd, hB1.cell, hB2.cell, hB3.cell]; rfl) ?_
      refine WL.qq (by refine qv_bld (by simp only [EN, Nat.reduceEqDiff, reduceIte, AR, hB1.cell, hB2.cell, hB3.cell] <;> rfl) (by rw [bl46]; simp [Instr.fill, Value.cells]; rfl)) ?_
      refine WL.store (by simp only [EN, Nat.reduceEqDiff, reduceIte, e0, e1, hB1.cell, hB2.cell, hB3.cell] <;> rfl) sz60 (by simp only [EN, Nat.reduceEqDiff, reduceIte, e0, e1, hB1.cell, hB2.cell, hB3.cell, Value.cells]; rfl) rfl hB2 (by simp) (by intro u hu; simp at hu; rcases hu with rfl | rfl | rfl | rfl <;> rfl) ?_
      intro h22 hw22
      have hE9 := hw22.ext ((hx1).trans ((hx2).trans (hx3))) hn2b
      replace hB3 := hB3.wr hw22 hn23
      replace hB2 := hw22.at_
      refine WL.store (by simp only [EN, Nat.reduceEqDiff, reduceIte, e0, e1, hB1.cell, hB2.cell, hB3.cell] <;> rfl) sz46 (by simp only [EN, Nat.reduceEqDiff, reduceIte, e0, e1, hB1.cell, hB2.cell, hB3.cell, Value.cells]; rfl) rfl hB3 (by simp) (by intro u hu; simp at hu; rcases hu with rfl | rfl <;> rfl) ?_
      intro h23 hw23
      replace hE9 := hw23.ext hE9 hn3b
      replace hB2 := hB2.wr hw23 (Ne.symm hn23)
      replace hB3 := hw23.at_
      refine WL.qq (by simp only [EN, Nat.reduceEqDiff, reduceIte, qv_assign, hB1.cell, hB2.cell, hB3.cell]; rfl) ?_
      refine WL.nil ?_
      refine th_norm ?_
      refine hx_ret ?_
      refine th_ret ?_
      refine fin_ret [.cell 4 60, .cell 5 46, .tmp 6] rfl rfl (by simp only [EN, Nat.reduceEqDiff, reduceIte, resv, ld60, ld46, readN, AR, Nat.zero_add, Nat.reduceAdd, e0, e1, hB1.cell, hB2.cell, hB3.cell]; rfl) ?_  -- ret 1 r4
      have he : sndE w n K pl = 8 := ((if_neg q1).trans (if_pos (by omega)))
      have hne : ¬ sndE w n K pl = 0 := (by rw [he]; decide)
      rw [sndM, sndN, sndK, if_neg hne, if_neg hne, if_neg hne, he]
      exact ⟨hE9, _, rfl, ⟨ar, cr, rfl, ks.ext hE9, hcr⟩⟩
    ·
      try simp only [BD] at hct23
      have he : sndE w n K pl = 0 := ((if_neg q1).trans (if_neg (by omega)))
      rw [sndM, sndN, sndK, if_pos he, if_pos he, if_pos he, he]
      refine hx_skip ?_
      refine th_norm ?_
      refine hx_seq ?_
      refine hx_region ?_
      refine WL.qq (by simp only [EN, Nat.reduceEqDiff, reduceIte, qv_fieldAddr, fa60_1, Nat.zero_add, Nat.reduceAdd, hB1.cell, hB2.cell, hB3.cell]; rfl) ?_
      refine WL.qq (by simp only [EN, Nat.reduceEqDiff, reduceIte, qv_load, ld3, readN, AR, Nat.zero_add, Nat.reduceAdd, hB1.cell, hB2.cell, hB3.cell]; rfl) ?_
      refine WL.qq (by simp only [EN, Nat.reduceEqDiff, reduceIte, qv_move, e1, hB1.cell, hB2.cell, hB3.cell]; rfl) ?_
      refine WL.qq (by refine qv_bld (by simp only [EN, Nat.reduceEqDiff, reduceIte, AR, hB1.cell, hB2.cell, hB3.cell] <;> rfl) (by rw [bl46]; simp [Instr.fill, Value.cells]; rfl)) ?_
      have hb2m := (Array.getElem?_eq_some_iff.1 hB2).1; have hb3m := (Array.getElem?_eq_some_iff.1 hB3).1; have hb1m := (Array.getElem?_eq_some_iff.1 hB1).1; have hzp := Ext.size ((hx1).trans ((hx2).trans (hx3)))
      refine WL.allocSt zr46 sz46 (fun u => by simp only [EN, Nat.reduceEqDiff, reduceIte, Value.cells, hB1.cell, hB2.cell, hB3.cell]; rfl) ⟨rfl, rfl⟩ (by simp [Value.oneCell']) ?_
      intro h4 B4 hx4 hlt4 hB4
      replace hs := hs.ext hx4
      replace hB1 := hB1.ext hx4
      replace hB2 := hB2.ext hx4
      replace hB3 := hB3.ext hx4
      have hzs := Ext.size ((hx1).trans ((hx2).trans ((hx3).trans (hx4)))); have hsS : ∀ c ∈ [B2, B3], c < Array.size h4 := (fun c hc => by simp at hc; have := (Array.getElem?_eq_some_iff.1 hB2).1; have := (Array.getElem?_eq_some_iff.1 hB3).1; omega)
      have hsO : ∀ c ∈ [B2, B3], h.size ≤ c := (fun c hc => by simp at hc; omega)
      have hb12 : B1 ∉ [B2, B3] := (fun hc => by simp at hc; omega); have hb42 : B4 ∉ [B2, B3] := (fun hc => by simp at hc; omega); have hXf := ((hx1).trans ((hx2).trans ((hx3).trans (hx4))))
      refine WL.nil ?_
      refine th_norm ?_
      refine hx_seq ?_
      apply hx_drawS (Rel.apS (Array.size h4) 46 2 K.length 1 (K.flatMap msgL) (([(n, pl)] : List M2).flatMap msgL) [B2, B3]) [15] [16, 17, 18] [7, 10, 12, 13] [(7, Spec.lsN (Array.size h4) #[] 46 0), (10, Spec.ownZ (Array.size h4) 46 2 K.length (K.flatMap msgL)), (12, Spec.lsN (Array.size h4) (msgL (n, pl)).toArray 46 1), (13, Spec.own (Array.size h4) 46 2 (K.length + 1) (K.flatMap msgL ++ (([(n, pl)] : List M2).flatMap msgL)))] rfl (by decide +kernel) rfl (apS_stable hsS rfl) (fun _ _ h1 h2 => ApS.trans h1 h2)
      refine LD.qr rfl rfl (fun hD hr => by replace hr : ApS _ _ _ _ _ _ _ _ _ _ := hr; have hX : _ := hr.1; have hB1 := apS_has hr hB1 hb12; have hB4 := apS_has hr hB4 hb42; have ksD := ks.ext (apS_old hr hXf hsO); simp only [EN, Nat.reduceEqDiff, reduceIte, qv_fieldAddr, fa60_0, Nat.zero_add, Nat.reduceAdd, hB1.cell, hB2.cell, hB3.cell, hB4.cell]; rfl) ?_
      refine LD.qr rfl rfl (fun hD hr => by replace hr : ApS _ _ _ _ _ _ _ _ _ _ := hr; have hX : _ := hr.1; have hB1 := apS_has hr hB1 hb12; have hB4 := apS_has hr hB4 hb42; have ksD := ks.ext (apS_old hr hXf hsO); simp only [EN, Nat.reduceEqDiff, reduceIte, qv_load, ld3, readN, AR, Nat.zero_add, Nat.reduceAdd, hB1.cell, hB2.cell, hB3.cell, hB4.cell]; rfl) ?_
      refine LD.qr rfl rfl (fun hD hr => by replace hr : ApS _ _ _ _ _ _ _ _ _ _ := hr; have hX : _ := hr.1; have hB1 := apS_has hr hB1 hb12; have hB4 := apS_has hr hB4 hb42; have ksD := ks.ext (apS_old hr hXf hsO); simp only [EN, Nat.reduceEqDiff, reduceIte, qv_fieldAddr, fa60_1, Nat.zero_add, Nat.reduceAdd, hB1.cell, hB2.cell, hB3.cell, hB4.cell]; rfl) ?_
      refine LD.qr rfl rfl (fun hD hr => by replace hr : ApS _ _ _ _ _ _ _ _ _ _ := hr; have hX : _ := hr.1; have hB1 := apS_has hr hB1 hb12; have hB4 := apS_has hr hB4 hb42; have ksD := ks.ext (apS_old hr hXf hsO); simp only [EN, Nat.reduceEqDiff, reduceIte, qv_load, ld3, readN, AR, Nat.zero_add, Nat.reduceAdd, hB1.cell, hB2.cell, hB3.cell, hB4.cell]; rfl) ?_
      refine LD.qr rfl rfl (fun hD hr => by replace hr : ApS _ _ _ _ _ _ _ _ _ _ := hr; have hX : _ := hr.1; have hB1 := apS_has hr hB1 hb12; have hB4 := apS_has hr hB4 hb42; have ksD := ks.ext (apS_old hr hXf hsO); simp only [EN, Nat.reduceEqDiff, reduceIte, qv_binOp, binv_add, hB1.cell, hB2.cell, hB3.cell, hB4.cell]; (try simp (disch := omega) only [w64, w8, wu64]); rfl) ?_
      refine LD.qr rfl rfl (fun hD hr => by replace hr : ApS _ _ _ _ _ _ _ _ _ _ := hr; have hX : _ := hr.1; have hB1 := apS_has hr hB1 hb12; have hB4 := apS_has hr hB4 hb42; have ksD := ks.ext (apS_old hr hXf hsO); simp only [EN, Nat.reduceEqDiff, reduceIte, qv_fieldAddr, fa60_2, Nat.zero_add, Nat.reduceAdd, hB1.cell, hB2.cell, hB3.cell, hB4.cell]; rfl) ?_
      refine LD.qr rfl rfl (fun hD hr => by replace hr : ApS _ _ _ _ _ _ _ _ _ _ := hr; have hX : _ := hr.1; have hB1 := apS_has hr hB1 hb12; have hB4 := apS_has hr hB4 hb42; have ksD := ks.ext (apS_old hr hXf hsO); simp only [EN, Nat.reduceEqDiff, reduceIte, qv_load, ld3, readN, AR, Nat.zero_add, Nat.reduceAdd, hB1.cell, hB2.cell, hB3.cell, hB4.cell]; rfl) ?_
      refine LD.es rfl rfl (by intro hD hr hf; replace hr : ApS _ _ _ _ _ _ _ _ _ _ := hr; have hX : _ := hr.1; have hB1 := apS_has hr hB1 hb12; have hB4 := apS_has hr hB4 hb42; have ksD := ks.ext (apS_old hr hXf hsO); exact (e_lit0 hX Try.underlying22 sz46).mono (fun _ _ hh => ⟨apS_of_ext hh.1, lsN_of hh.2.1 hh.2.2⟩)) ?_
      intro u6_7 w6_7
      obtain ⟨B30, hlt30, rfl⟩ := w6_7
      refine LD.qr rfl rfl (fun hD hr => by replace hr : ApS _ _ _ _ _ _ _ _ _ _ := hr; have hX : _ := hr.1; have hB1 := apS_has hr hB1 hb12; have hB4 := apS_has hr hB4 hb42; have ksD := ks.ext (apS_old hr hXf hsO); simp only [EN, Nat.reduceEqDiff, reduceIte, qv_fieldAddr, fa60_3, Nat.zero_add, Nat.reduceAdd, hB1.cell, hB2.cell, hB3.cell, hB4.cell]; rfl) ?_
      refine LD.qr rfl rfl (fun hD hr => by replace hr : ApS _ _ _ _ _ _ _ _ _ _ := hr; have hX : _ := hr.1; have hB1 := apS_has hr hB1 hb12; have hB4 := apS_has hr hB4 hb42; have ksD := ks.ext (apS_old hr hXf hsO); simp only [EN, Nat.reduceEqDiff, reduceIte, qv_load, ld22, readN, AR, Nat.zero_add, Nat.reduceAdd, hB1.cell, hB2.cell, hB3.cell, hB4.cell]; rfl) ?_
      refine LD.es rfl rfl (by intro hD hr hf; replace hr : ApS _ _ _ _ _ _ _ _ _ _ := hr; have hX : _ := hr.1; have hB1 := apS_has hr hB1 hb12; have hB4 := apS_has hr hB4 hb42; have ksD := ks.ext (apS_old hr hXf hsO); have hB30 := (hf (7, .slice (some ⟨B30, 0, none⟩) 0 0) (by simp) (by show tb _ _ 7 = true; decide +kernel) _ rfl B30 rfl).2; exact (e_copyZ (f := msgL) (L := K) (bytes := 24) Try.underlying22 (inf_of Try.type46) rfl rfl rfl rfl (by decide) (fun _ => rfl) (by simp only [EN, Nat.reduceEqDiff, reduceIte, e0, e1, hB1.cell, hB2.cell, hB3.cell, hB4.cell]) hB30 hlt30 (by simp only [EN, Nat.reduceEqDiff, reduceIte, e0, e1, hB1.cell, hB2.cell, hB3.cell, hB4.cell]; rfl) rfl ksD.rd (by simp only [maxLen]; omega) (by omega) hX).mono (fun _ _ hh => ⟨apS_of_ext hh.1, hh.2⟩)) ?_
      intro u6_10 w6_10
      obtain ⟨a31, c31, rfl, hz31⟩ := w6_10
      refine LD.qr rfl rfl (fun hD hr => by replace hr : ApS _ _ _ _ _ _ _ _ _ _ := hr; have hX : _ := hr.1; have hB1 := apS_has hr hB1 hb12; have hB4 := apS_has hr hB4 hb42; have ksD := ks.ext (apS_old hr hXf hsO); simp only [EN, Nat.reduceEqDiff, reduceIte, qv_load, ld46, readN, AR, Nat.zero_add, Nat.reduceAdd, hB1.cell, hB2.cell, hB3.cell, hB4.cell]; rfl) ?_
      refine LD.es rfl rfl (by intro hD hr hf; replace hr : ApS _ _ _ _ _ _ _ _ _ _ := hr; have hX : _ := hr.1; have hB1 := apS_has hr hB1 hb12; have hB4 := apS_has hr hB4 hb42; have ksD := ks.ext (apS_old hr hXf hsO); exact (e_lit1 hX Try.underlying22 sz46 zr46 (by decide) (by simp only [EN, Nat.reduceEqDiff, reduceIte, e0, e1, hB1.cell, hB2.cell, hB3.cell, hB4.cell, Value.cells] <;> rfl) rfl).mono (fun _ _ hh => ⟨apS_of_ext hh.1, lsN_of hh.2.1 hh.2.2⟩)) ?_
      intro u6_12 w6_12
      obtain ⟨B33, hlt33, rfl⟩ := w6_12
      refine LD.es rfl rfl (by intro hD hr hf; replace hr : ApS _ _ _ _ _ _ _ _ _ _ := hr; have hX : _ := hr.1; have hB1 := apS_has hr hB1 hb12; have hB4 := apS_has hr hB4 hb42; have ksD := ks.ext (apS_old hr hXf hsO); have ho31 := hf (10, .slice a31 K.length c31) (by simp) (by show tb _ _ 10 = true; decide +kernel) _ rfl; have hB33 := (hf (12, .slice (some ⟨B33, 0, none⟩) 1 1) (by simp) (by show tb _ _ 12 = true; decide +kernel) _ rfl B33 rfl).2; exact (e_appIn1 (f := msgL) (L := K) (M := [(n, pl)]) (bytes := 24) Try.underlying22 (inf_of Try.type46) rfl rfl rfl rfl (by decide) (fun _ => rfl) (fun x u hu => by simp at hu; rcases hu with rfl | rfl <;> rfl) (by simp only [EN, Nat.reduceEqDiff, reduceIte, e0, e1, hB1.cell, hB2.cell, hB3.cell, hB4.cell]) ho31 (by simp only [EN, Nat.reduceEqDiff, reduceIte, e0, e1, hB1.cell, hB2.cell, hB3.cell, hB4.cell]; rfl) rfl (slG_has (f := msgL) (sz := 2) (L := [(n, pl)]) (fun _ => rfl) hB33 rfl) (fun hh a cap hv => by cases hv; exact hz31 hh) (m := 1) (by have := hS.kw; simp only [maxLen]; omega) (by have := hS.kw; omega) hX).mono (fun _ _ hh => ⟨apS_of_ap1 hsS hh.1, hh.2⟩)) ?_
      intro u6_13 w6_13
      obtain ⟨a32, c32, rfl⟩ := w6_13
      refine LD.qr rfl rfl (fun hD hr => by replace hr : ApS _ _ _ _ _ _ _ _ _ _ := hr; have hX : _ := hr.1; have hB1 := apS_has hr hB1 hb12; have hB4 := apS_has hr hB4 hb42; have ksD := ks.ext (apS_old hr hXf hsO); refine qv_bld (by simp only [EN, Nat.reduceEqDiff, reduceIte, AR, hB1.cell, hB2.cell, hB3.cell, hB4.cell] <;> rfl) (by rw [bl60]; simp [Instr.fill, Value.cells]; rfl)) ?_
      refine LD.qr rfl rfl (fun hD hr => by replace hr : ApS _ _ _ _ _ _ _ _ _ _ := hr; have hX : _ := hr.1; have hB1 := apS_has hr hB1 hb12; have hB4 := apS_has hr hB4 hb42; have ksD := ks.ext (apS_old hr hXf hsO); simp only [EN, Nat.reduceEqDiff, reduceIte, qv_load, ld46, readN, AR, Nat.zero_add, Nat.reduceAdd, hB1.cell, hB2.cell, hB3.cell, hB4.cell]; rfl) ?_
      refine LD.skip rfl ?_
      refine LD.skip rfl ?_
      refine LD.skip rfl ?_
      refine LD.nilJ ?_
      rintro h5 hr6 hF6 -
      replace hr6 : ApS _ _ _ _ _ _ _ _ _ _ := hr6
      have ho32 : Own h5 _ 46 2 (.slice a32 (K.length + 1) c32) (K.length + 1) (K.flatMap msgL ++ (([(n, pl)] : List M2).flatMap msgL)) := hF6 (13, .slice a32 (K.length + 1) c32) (by simp) _ rfl
      have hl2 : K.length + 1 = (K ++ [(n, pl)]).length := (by rw [List.length_append]; rfl)
      rw [← List.flatMap_append] at ho32
      obtain ⟨_, _, hq32, hc32, _⟩ := Own.shape ho32
      cases hq32
      have hE6 := apS_old hr6 hXf hsO
      obtain ⟨cu2, hC2, hs2⟩ := hr6.2.2.2.2.2.2 B2 (by simp) _ _ hB2
      obtain ⟨cu3, hC3, hs3⟩ := hr6.2.2.2.2.2.2 B3 (by simp) _ _ hB3
      have hs2' : cu2.size = 4 := hs2; have hs3' : cu3.size = 2 := hs3
      refine WLJ.store (by simp only [EN, Nat.reduceEqDiff, reduceIte, e0, e1, hB1.cell, hB2.cell, hB3.cell, hB4.cell] <;> rfl) sz60 (by simp only [EN, Nat.reduceEqDiff, reduceIte, e0, e1, hB1.cell, hB2.cell, hB3.cell, hB4.cell, Value.cells]; rfl) rfl hC2 (by simp [hs2']) (by intro u hu; simp at hu; rcases hu with rfl | rfl | rfl | rfl <;> rfl) ?_
      intro h40 hw40
      rw [splc_whole (by simp [hs2'])] at hw40
      refine ⟨apS_wr hsS (by simp) hC2 (by simp [hs2']) hw40, ?_⟩
      have hE9 := hw40.ext hE6 hn2b
      have ho40 := ho32.keep (h' := h40) (fun c hc => hw40.same c fun hh => by have h8 := (ho32.block c hc).1; have := hsS B2 (by simp); omega)
      replace hC3 := hC3.wr hw40 hn23
      replace hB2 := hw40.at_
      refine WLJ.store (by simp only [EN, Nat.reduceEqDiff, reduceIte, e0, e1, hB1.cell, hB2.cell, hB3.cell, hB4.cell] <;> rfl) sz46 (by simp only [EN, Nat.reduceEqDiff, reduceIte, e0, e1, hB1.cell, hB2.cell, hB3.cell, hB4.cell, Value.cells]; rfl) rfl hC3 (by simp [hs3']) (by intro u hu; simp at hu; rcases hu with rfl | rfl <;> rfl) ?_
      intro h41 hw41
      rw [splc_whole (by simp [hs3'])] at hw41
      refine ⟨apS_wr hsS (by simp) hC3 (by simp [hs3']) hw41, ?_⟩
      replace hE9 := hw41.ext hE9 hn3b
      have ho41 := ho40.keep (h' := h41) (fun c hc => hw41.same c fun hh => by have h8 := (ho32.block c hc).1; have := hsS B3 (by simp); omega)
      replace hB2 := hB2.wr hw41 (Ne.symm hn23)
      replace hB3 := hw41.at_
      have hs7 := SlR.own (f := msgL) (sz := 2) (fun _ => rfl) ho41 hl2
      refine WLJ.qq (by simp only [EN, Nat.reduceEqDiff, reduceIte, e0, e1, hB1.cell, hB2.cell, hB3.cell, hB4.cell, qv_assign] <;> rfl) (ApS.refl _) ?_
      refine WLJ.nil ?_
      refine th_norm ?_
      refine hx_ret ?_
      refine fin_ret [.cell 4 60, .cell 5 46, .tmp 6] rfl rfl (by simp only [EN, Nat.reduceEqDiff, reduceIte, resv, ld60, ld46, readN, AR, Nat.zero_add, Nat.reduceAdd, e0, e1, hB1.cell, hB2.cell, hB3.cell, hB4.cell]; rfl) ?_  -- ret 2 r6
      rw [hl2] at hc32
      exact ⟨hE9, _, rfl, ⟨a32, c32, by rw [hl2], hs7, hc32⟩⟩
end
end GL

set_option linter.unusedSimpArgs false
set_option linter.unusedVariables false
set_option linter.unnecessarySimpa false
namespace GL
open Go Go.Proofs
set_option maxRecDepth 8000
theorem filt_ge {x : Int} : ∀ {K : List M2} {a : Int}, (∀ (i : Nat) (m : M2), K[i]? = some m → m.1 = a + (i : Int)) → K.filter (fun m => decide (x ≤ m.1)) = K.drop (x - a).toNat
  | [], _, _ => by simp
  | m :: K, a, h => by
    have h0 := h 0 m rfl
    have hr : ∀ (i : Nat) (y : M2), K[i]? = some y → y.1 = (a + 1) + (i : Int) := fun i y hy => by
      have := h (i + 1) y (by rw [List.getElem?_cons_succ]; exact hy)
      omega
    by_cases hx : x ≤ a
    · rw [show (x - a).toNat = 0 by omega, List.drop_zero, List.filter_eq_self]
      intro y hy
      obtain ⟨i, hi⟩ := List.getElem?_of_mem hy
      have := h i y hi
      simp; omega
    · rw [List.filter_cons_of_neg (by simp; omega), filt_ge hr, show (x - a).toNat = (x - (a + 1)).toNat + 1 by omega, List.drop_succ_cons]
theorem filt_le {t : Int} : ∀ {K : List M2} {a : Int}, (∀ (i : Nat) (m : M2), K[i]? = some m → m.1 = a + (i : Int)) → K.filter (fun m => decide (m.1 ≤ t)) = K.take (t + 1 - a).toNat
  | [], _, _ => by simp
  | m :: K, a, h => by
    have h0 := h 0 m rfl
    have hr : ∀ (i : Nat) (y : M2), K[i]? = some y → y.1 = (a + 1) + (i : Int) := fun i y hy => by
      have := h (i + 1) y (by rw [List.getElem?_cons_succ]; exact hy)
      omega
    by_cases hx : a ≤ t
    · rw [List.filter_cons_of_pos (by simp; omega), filt_le hr, show (t + 1 - a).toNat = (t + 1 - (a + 1)).toNat + 1 by omega, List.take_succ_cons]
    · rw [show (t + 1 - a).toNat = 0 by omega, List.take_zero, List.filter_eq_nil_iff]
      intro y hy
      obtain ⟨i, hi⟩ := List.getElem?_of_mem hy
      have := h i y hi
      simp; omega
theorem filt_step {p : M2 → Bool} {K : List M2} {i : Nat} {m : M2} (h : K[i]? = some m) : (K.take (i + 1)).filter p = if p m = true then (K.take i).filter p ++ [m] else (K.take i).filter p := by
  rw [List.take_add_one, h, List.filter_append]
  by_cases hp : p m = true
  · rw [if_pos hp]; simp [hp]
  · rw [if_neg hp]; simp [hp]
theorem filt_len {p : M2 → Bool} {K : List M2} (i : Nat) : ((K.take i).filter p).length ≤ K.length := by
  have h1 := List.length_filter_le p (K.take i)
  rw [List.length_take] at h1
  omega
section
variable {h : Heap} {w n a : Int} {K : List M2}
set_option maxHeartbeats 2000000 in
theorem c_rAck (ar : Option Addr) (cr : Nat) (x : Int) (hS : SG w n a K) (hs : SlR 46 2 msgL h ar K) (hcr : K.length ≤ cr) :
    HCalls Try.prog 43 #[.agg #[iV w, iV n, iV a, .slice ar K.length cr], iV x] h fun v h' => Ext h h' ∧ ∃ u, v = .tuple #[u, iV (ackE n a x)] ∧ RS h' u w n (ackA n a x) (ackK n a x K) := by
  have hkw := hS.kw; have hw2 := hS.w2; have hn2 := hS.n2; have han := hS.an; have ha1 := hS.a1; have hsq := hS.sq
  refine hcalls2 Try.func43 rfl (by decide +kernel) (by simp only [Try.ntmps43]; exact of_decide_eq_true rfl) ?_
  intro e hin
  have e0 := hin 0 _ rfl
  have e1 := hin 1 _ rfl
  have ks := hs
  refine hx_seq ?_
  refine hx_region ?_
  refine WL.box2 (by simp only [EN, Nat.reduceEqDiff, reduceIte, Value.cells, e0]; rfl) ?_
  intro h1 B1 hx1 hlt1 hB1
  have hb1l := (Array.getElem?_eq_some_iff.1 hB1).1
  refine WL.alloc2 zr60 ?_
  intro h2 B2 hx2 hlt2 hB2
  replace hB1 := hB1.ext hx2
  simp only [Value.cells] at hB2
  have hb2l := (Array.getElem?_eq_some_iff.1 hB2).1
  refine WL.qq (by simp only [EN, Nat.reduceEqDiff, reduceIte, qv_assign, hB1.cell, hB2.cell]; rfl) ?_
  refine WL.nil ?_
  refine th_norm ?_
  refine hx_seq ?_
  refine hx_seq ?_
  refine hx_region ?_
  have hz1 := hx1.size; have hz2 := hx2.size; have hn2b : h.size ≤ B2 := (by omega)
  refine WL.qq (by simp only [EN, Nat.reduceEqDiff, reduceIte, qv_move, e1, hB1.cell, hB2.cell]; rfl) ?_
  refine WL.qq (by simp only [EN, Nat.reduceEqDiff, reduceIte, qv_binOp, binv_lss, hB1.cell, hB2.cell]; rfl) ?_
  refine WL.qq (by simp only [EN, Nat.reduceEqDiff, reduceIte, qv_move, hB1.cell, hB2.cell]; rfl) ?_
  refine WL.cq (gd_at (t := 10) rfl (by simp only [EN, Nat.reduceEqDiff, reduceIte, e1, hB1.cell, hB2.cell] <;> rfl)) (fun hg1_3 => by simp only [EN, Nat.reduceEqDiff, reduceIte, qv_move, e1, hB1.cell, hB2.cell, hg1_3, GR]; rfl) ?_
  refine WL.cq (gd_at (t := 10) rfl (by simp only [EN, Nat.reduceEqDiff, reduceIte, hB1.cell, hB2.cell] <;> rfl)) (fun hg1_4 => by simp only [EN, Nat.reduceEqDiff, reduceIte, qv_fieldAddr, fa60_1, Nat.zero_add, Nat.reduceAdd, hB1.cell, hB2.cell, hg1_4, GR]; rfl) ?_
  refine WL.cq (gd_at (t := 10) rfl (by simp only [EN, Nat.reduceEqDiff, reduceIte, hB1.cell, hB2.cell] <;> rfl)) (fun hg1_5 => by simp only [EN, Nat.reduceEqDiff, reduceIte, qv_load, ld3, readN, AR, Nat.zero_add, Nat.reduceAdd, hB1.cell, hB2.cell, hg1_5, GR]; rfl) ?_
  refine WL.cq (gd_at (t := 10) rfl (by simp only [EN, Nat.reduceEqDiff, reduceIte, hB1.cell, hB2.cell] <;> rfl)) (fun hg1_6 => by simp only [EN, Nat.reduceEqDiff, reduceIte, qv_binOp, binv_gtr, hB1.cell, hB2.cell, hg1_6, GR]; rfl) ?_
  refine WL.qq (by simp only [EN, Nat.reduceEqDiff, reduceIte, qv_pick, pk_and, pk_or, GR, hB1.cell, hB2.cell]; rfl) ?_
  refine WL.nil ?_
  refine th_norm ?_
  refine hx_cond (by simp only [EN, Nat.reduceEqDiff, reduceIte, hB1.cell, hB2.cell]; rfl) (fun hct15 => ?_) (fun hct15 => ?_)
  ·
    try simp only [BD] at hct15
    refine hx_seq ?_
    refine hx_region ?_
    refine WL.qq (by simp only [EN, Nat.reduceEqDiff, reduceIte, qv_load, ld60, readN, AR, Nat.zero_add, Nat.reduceAdd, hB1.cell, hB2.cell]; rfl) ?_
    refine WL.store (by simp only [EN, Nat.reduceEqDiff, reduceIte, e0, e1, hB1.cell, hB2.cell] <;> rfl) sz60 (by simp only [EN, Nat.reduceEqDiff, reduceIte, e0, e1, hB1.cell, hB2.cell, Value.cells]; rfl) rfl hB2 (by simp) (by intro u hu; simp at hu; rcases hu with rfl | rfl | rfl | rfl <;> rfl) ?_
    intro h20 hw20
    have hE9 := hw20.ext ((hx1).trans (hx2)) hn2b
    replace hB2 := hw20.at_
    refine WL.qq (by simp only [EN, Nat.reduceEqDiff, reduceIte, qv_assign, hB1.cell, hB2.cell]; rfl) ?_
    refine WL.nil ?_
    refine th_norm ?_
    refine hx_ret ?_
    refine th_ret ?_
    refine fin_ret [.cell 4 60, .tmp 5] rfl rfl (by simp only [EN, Nat.reduceEqDiff, reduceIte, resv, ld60, readN, AR, Nat.zero_add, Nat.reduceAdd, e0, e1, hB1.cell, hB2.cell]; rfl) ?_  -- ret 0 r2
    have he : ackE n a x = 2 := (if_pos (by simpa using hct15))
    have hne : ¬ ackE n a x = 0 := (by rw [he]; decide)
    rw [ackA, ackK, if_neg hne, if_neg hne, he]
    exact ⟨hE9, _, rfl, ⟨ar, cr, rfl, ks.ext hE9, hcr⟩⟩
  ·
    try simp only [BD] at hct15
    have q1 : ¬ (x < 1 ∨ n < x) := (by simpa using hct15)
    refine hx_skip ?_
    refine th_norm ?_
    refine hx_seq ?_
    refine hx_seq ?_
    refine hx_region ?_
    refine WL.qq (by simp only [EN, Nat.reduceEqDiff, reduceIte, qv_move, e1, hB1.cell, hB2.cell]; rfl) ?_
    refine WL.qq (by simp only [EN, Nat.reduceEqDiff, reduceIte, qv_fieldAddr, fa60_2, Nat.zero_add, Nat.reduceAdd, hB1.cell, hB2.cell]; rfl) ?_
    refine WL.qq (by simp only [EN, Nat.reduceEqDiff, reduceIte, qv_load, ld3, readN, AR, Nat.zero_add, Nat.reduceAdd, hB1.cell, hB2.cell]; rfl) ?_
    refine WL.qq (by simp only [EN, Nat.reduceEqDiff, reduceIte, qv_binOp, binv_lss, hB1.cell, hB2.cell]; rfl) ?_
    refine WL.nil ?_
    refine th_norm ?_
    refine hx_cond (by simp only [EN, Nat.reduceEqDiff, reduceIte, hB1.cell, hB2.cell]; rfl) (fun hct20 => ?_) (fun hct20 => ?_)
    ·
      try simp only [BD] at hct20
      refine hx_seq ?_
      refine hx_region ?_
      refine WL.qq (by simp only [EN, Nat.reduceEqDiff, reduceIte, qv_load, ld60, readN, AR, Nat.zero_add, Nat.reduceAdd, hB1.cell, hB2.cell]; rfl) ?_
      refine WL.store (by simp only [EN, Nat.reduceEqDiff, reduceIte, e0, e1, hB1.cell, hB2.cell] <;> rfl) sz60 (by simp only [EN, Nat.reduceEqDiff, reduceIte, e0, e1, hB1.cell, hB2.cell, Value.cells]; rfl) rfl hB2 (by simp) (by intro u hu; simp at hu; rcases hu with rfl | rfl | rfl | rfl <;> rfl) ?_
      intro h22 hw22
      have hE9 := hw22.ext ((hx1).trans (hx2)) hn2b
      replace hB2 := hw22.at_
      refine WL.qq (by simp only [EN, Nat.reduceEqDiff, reduceIte, qv_assign, hB1.cell, hB2.cell]; rfl) ?_
      refine WL.nil ?_
      refine th_norm ?_
      refine hx_ret ?_
      refine th_ret ?_
      refine fin_ret [.cell 4 60, .tmp 5] rfl rfl (by simp only [EN, Nat.reduceEqDiff, reduceIte, resv, ld60, readN, AR, Nat.zero_add, Nat.reduceAdd, e0, e1, hB1.cell, hB2.cell]; rfl) ?_  -- ret 1 r4
      have he : ackE n a x = 20 := ((if_neg q1).trans (if_pos hct20))
      have hne : ¬ ackE n a x = 0 := (by rw [he]; decide)
      rw [ackA, ackK, if_neg hne, if_neg hne, he]
      exact ⟨hE9, _, rfl, ⟨ar, cr, rfl, ks.ext hE9, hcr⟩⟩
    ·
      try simp only [BD] at hct20
      have he : ackE n a x = 0 := ((if_neg q1).trans (if_neg hct20))
      refine hx_skip ?_
      refine th_norm ?_
      refine hx_seq ?_
      refine hx_region ?_
      refine WL.qq (by simp only [EN, Nat.reduceEqDiff, reduceIte, qv_fieldAddr, fa60_0, Nat.zero_add, Nat.reduceAdd, hB1.cell, hB2.cell]; rfl) ?_
      refine WL.qq (by simp only [EN, Nat.reduceEqDiff, reduceIte, qv_load, ld3, readN, AR, Nat.zero_add, Nat.reduceAdd, hB1.cell, hB2.cell]; rfl) ?_
      refine WL.qq (by simp only [EN, Nat.reduceEqDiff, reduceIte, qv_fieldAddr, fa60_1, Nat.zero_add, Nat.reduceAdd, hB1.cell, hB2.cell]; rfl) ?_
      refine WL.qq (by simp only [EN, Nat.reduceEqDiff, reduceIte, qv_load, ld3, readN, AR, Nat.zero_add, Nat.reduceAdd, hB1.cell, hB2.cell]; rfl) ?_
      refine WL.qq (by simp only [EN, Nat.reduceEqDiff, reduceIte, qv_move, e1, hB1.cell, hB2.cell]; rfl) ?_
      refine WL.qq (by refine qv_bld (by simp only [EN, Nat.reduceEqDiff, reduceIte, AR, hB1.cell, hB2.cell] <;> rfl) (by rw [bl60]; simp [Instr.fill, Value.cells]; rfl)) ?_
      have hb2m := (Array.getElem?_eq_some_iff.1 hB2).1; have hb1m := (Array.getElem?_eq_some_iff.1 hB1).1; have hzp := Ext.size ((hx1).trans (hx2))
      refine WL.allocSt zr60 sz60 (fun u => by simp only [EN, Nat.reduceEqDiff, reduceIte, Value.cells, hB1.cell, hB2.cell]; rfl) ⟨rfl, rfl⟩ (by simp [Value.oneCell']) ?_
      intro h3 B3 hx3 hlt3 hB3
      replace hB1 := hB1.ext hx3
      replace hB2 := hB2.ext hx3
      refine WL.nil ?_
      refine th_norm ?_
      refine hx_seq ?_
      refine hx_seq ?_
      refine hx_region ?_
      have hXf := ((hx1).trans ((hx2).trans (hx3))); have hn3b : h.size ≤ B3 := (by omega)
      refine WL.qq (by simp only [EN, Nat.reduceEqDiff, reduceIte, qv_assign, hB1.cell, hB2.cell, hB3.cell]; rfl) ?_
      refine WL.nil ?_
      refine th_norm ?_
      refine hx_block ?_
      refine hx_loopG [7, 28, 29, 30, 31, 32, 33, 34, 35, 36, 37, 38, 39, 40, 41, 42, 43, 44, 45, 46, 47, 48, 49, 50, 51, 52] (fun k e hL0 => ∃ (i : Nat) (v : Value), K.length - i = k ∧ (i ≤ K.length) ∧ (Ext h hL0) ∧ (Has hL0 B1 (.cells #[iV w, iV n, iV a, .slice ar K.length cr] 60)) ∧ (Has hL0 B2 (.cells #[iV 0, iV 0, iV 0, .slice none 0 0] 60)) ∧ (Has hL0 B3 (.cells #[iV w, iV n, iV x, v] 60)) ∧ (Own hL0 h.size 46 2 v ((K.take i).filter fun m => decide (x ≤ m.1)).length (((K.take i).filter fun m => decide (x ≤ m.1)).flatMap msgL)) ∧ e 7 = .int .i64 i) _ ⟨0, .slice none 0 0, rfl, ?_, ?_, ?_, ?_, ?_, ?_, ?_⟩ ?_
      · omega
      · exact hXf
      · exact hB1
      · exact hB2
      · exact hB3
      · exact Own.nil
      · simp only [EN, Nat.reduceEqDiff, reduceIte, e0, e1, hB1.cell, hB2.cell, hB3.cell] <;> rfl
      ·
        rintro k e0L hL0 hfr0 ⟨i, v, rfl, hi, hXe, hB1, hB2, hB3, ho, i7_0⟩
        have k1_0 := hfr0 1 rfl; try simp only [EN, Nat.reduceEqDiff, reduceIte, e1, hB1.cell, hB2.cell, hB3.cell] at k1_0
        have k2_0 := hfr0 2 rfl; try simp only [EN, Nat.reduceEqDiff, reduceIte, hB1.cell, hB2.cell, hB3.cell] at k2_0
        have k4_0 := hfr0 4 rfl; try simp only [EN, Nat.reduceEqDiff, reduceIte, hB1.cell, hB2.cell, hB3.cell] at k4_0
        have k6_0 := hfr0 6 rfl; try simp only [EN, Nat.reduceEqDiff, reduceIte, hB1.cell, hB2.cell, hB3.cell] at k6_0
        refine hx_seq ?_
        refine hx_seq ?_
        refine hx_region ?_
        refine WL.qq (by simp only [EN, Nat.reduceEqDiff, reduceIte, qv_move, i7_0, hB1.cell, hB2.cell, hB3.cell]; rfl) ?_
        refine WL.qq (by simp only [EN, Nat.reduceEqDiff, reduceIte, qv_fieldAddr, fa60_3, Nat.zero_add, Nat.reduceAdd, k2_0, hB1.cell, hB2.cell, hB3.cell]; rfl) ?_
        refine WL.qq (by simp only [EN, Nat.reduceEqDiff, reduceIte, qv_load, ld22, readN, AR, Nat.zero_add, Nat.reduceAdd, hB1.cell, hB2.cell, hB3.cell]; rfl) ?_
        refine WL.qq (by simp only [EN, Nat.reduceEqDiff, reduceIte, qv_len, ln22, AR, hB1.cell, hB2.cell, hB3.cell]; rfl) ?_
        refine WL.qq (by simp only [EN, Nat.reduceEqDiff, reduceIte, qv_binOp, binv_lss, hB1.cell, hB2.cell, hB3.cell]; rfl) ?_
        refine WL.nil ?_
        refine th_norm ?_
        refine hx_cond (by simp only [EN, Nat.reduceEqDiff, reduceIte, hB1.cell, hB2.cell, hB3.cell]; rfl) (fun hct32 => ?_) (fun hct32 => ?_)
        ·
          try simp only [BD] at hct32
          obtain ⟨m, hm⟩ := atG (l := K) (i := i) (by omega)
          have hsx := ks.ext hXe
          obtain ⟨b1, o1, ha1, hr1, hm1, _⟩ := msg_rd hsx.rd hm
          have hfs := filt_step (p := fun m : M2 => decide (x ≤ m.1)) hm; have hfl := filt_len (p := fun m : M2 => decide (x ≤ m.1)) (K := K) i
          refine hx_skip ?_
          refine th_norm ?_
          refine hx_seq ?_
          refine hx_block ?_
          refine hx_seq ?_
          refine hx_region ?_
          refine WL.qq (by simp only [EN, Nat.reduceEqDiff, reduceIte, qv_fieldAddr, fa60_3, Nat.zero_add, Nat.reduceAdd, k2_0, hB1.cell, hB2.cell, hB3.cell]; rfl) ?_
          refine WL.qq (by simp only [EN, Nat.reduceEqDiff, reduceIte, qv_load, ld22, readN, AR, Nat.zero_add, Nat.reduceAdd, hB1.cell, hB2.cell, hB3.cell]; rfl) ?_
          refine WL.qq (by simp only [EN, Nat.reduceEqDiff, reduceIte, qv_move, i7_0, hB1.cell, hB2.cell, hB3.cell]; rfl) ?_
          refine WL.qq (by simp only [EN, Nat.reduceEqDiff, reduceIte, qv_indexAddr, hB1.cell, hB2.cell, hB3.cell, ha1]; (try simp (disch := omega) only [ix22, Int.toNat_natCast]); rfl) ?_
          refine WL.qq (by simp only [EN, Nat.reduceEqDiff, reduceIte, qv_fieldAddr, fa46_0, Nat.zero_add, Nat.reduceAdd, hB1.cell, hB2.cell, hB3.cell]; rfl) ?_
          refine WL.qq (by simp only [EN, Nat.reduceEqDiff, reduceIte, k1_0, k2_0, k4_0, k6_0, i7_0, hB1.cell, hB2.cell, hB3.cell, qv_load, ld3, Int.toNat_natCast, hm1]; rfl) ?_
          refine WL.qq (by simp only [EN, Nat.reduceEqDiff, reduceIte, qv_move, k1_0, hB1.cell, hB2.cell, hB3.cell]; rfl) ?_
          refine WL.qq (by simp only [EN, Nat.reduceEqDiff, reduceIte, qv_binOp, binv_geq, hB1.cell, hB2.cell, hB3.cell]; rfl) ?_
          refine WL.nil ?_
          refine th_norm ?_
          refine hx_cond (by simp only [EN, Nat.reduceEqDiff, reduceIte, hB1.cell, hB2.cell, hB3.cell]; rfl) (fun hct42 => ?_) (fun hct42 => ?_)
          ·
            try simp only [BD] at hct42
            rw [if_pos (decide_eq_true (by omega))] at hfs
            obtain ⟨M, hM⟩ : ∃ M, M = (K.take i).filter fun m => decide (x ≤ m.1) := ⟨_, rfl⟩
            rw [← hM] at ho hfl hfs
            apply hx_draw2 Rel.grows [8, 9, 10] [7] [(7, (Spec.ls (Array.size hL0) (msgL m).toArray 46 1))] rfl (by decide +kernel) rfl
            refine LD.qq rfl rfl (by simp only [EN, Nat.reduceEqDiff, reduceIte, qv_fieldAddr, fa60_3, Nat.zero_add, Nat.reduceAdd, k6_0, hB1.cell, hB2.cell, hB3.cell]; rfl) ?_
            refine LD.qq rfl rfl (by simp only [EN, Nat.reduceEqDiff, reduceIte, qv_load, ld22, readN, AR, Nat.zero_add, Nat.reduceAdd, hB1.cell, hB2.cell, hB3.cell]; rfl) ?_
            refine LD.qq rfl rfl (by simp only [EN, Nat.reduceEqDiff, reduceIte, qv_fieldAddr, fa60_3, Nat.zero_add, Nat.reduceAdd, k2_0, hB1.cell, hB2.cell, hB3.cell]; rfl) ?_
            refine LD.qq rfl rfl (by simp only [EN, Nat.reduceEqDiff, reduceIte, qv_load, ld22, readN, AR, Nat.zero_add, Nat.reduceAdd, hB1.cell, hB2.cell, hB3.cell]; rfl) ?_
            refine LD.qq rfl rfl (by simp only [EN, Nat.reduceEqDiff, reduceIte, qv_move, i7_0, hB1.cell, hB2.cell, hB3.cell]; rfl) ?_
            refine LD.qq rfl rfl (by simp only [EN, Nat.reduceEqDiff, reduceIte, qv_indexAddr, hB1.cell, hB2.cell, hB3.cell, ha1]; (try simp (disch := omega) only [ix22, Int.toNat_natCast]); rfl) ?_
            refine LD.qq rfl rfl (by simp only [EN, Nat.reduceEqDiff, reduceIte, k1_0, k2_0, k4_0, k6_0, i7_0, hB1.cell, hB2.cell, hB3.cell, qv_load, ld46, Int.toNat_natCast, hr1]; rfl) ?_
            refine LD.es rfl rfl (by intro hD hr hf; have hx : Ext _ _ := hr; have hB1 := hB1.ext hx; have hB2 := hB2.ext hx; have hB3 := hB3.ext hx; have ho := ho.ext hx; exact e_lit1 (N := Array.size hL0) hx.size Try.underlying22 sz46 zr46 (by decide) (by simp only [EN, Nat.reduceEqDiff, reduceIte, k1_0, k2_0, k4_0, k6_0, i7_0, hB1.cell, hB2.cell, hB3.cell, Value.cells] <;> rfl) rfl) ?_
            intro u10_7 w10_7
            obtain ⟨B33, hlt33, rfl⟩ := w10_7
            refine LD.skip rfl ?_
            refine LD.skip rfl ?_
            refine LD.skip rfl ?_
            refine LD.nil ?_
            rintro h4 hx4 hF10
            replace hx4 : Ext _ _ := hx4
            replace hB1 := hB1.ext hx4
            replace hB2 := hB2.ext hx4
            replace hB3 := hB3.ext hx4
            replace ho := ho.ext hx4
            have hB33 := hF10 (7, .slice (some ⟨B33, 0, none⟩) 1 1) (by simp) _ rfl B33 rfl
            have hw1 := Ext.size (hx4)
            have hwe := hXe.size
            refine WL.appG (f := msgL) (base := h.size) (n := M.length) (xs := M.flatMap msgL) (bytes := 24) (sz := 2) (L := [m]) Try.underlying22 (inf_of Try.type46) rfl rfl rfl rfl (by decide) (fun _ => rfl) (fun x u hu => by simp at hu; rcases hu with rfl | rfl <;> rfl) (by simp only [EN, Nat.reduceEqDiff, reduceIte, k1_0, k2_0, k4_0, k6_0, i7_0, hB1.cell, hB2.cell, hB3.cell] <;> rfl) ho (by simp only [EN, Nat.reduceEqDiff, reduceIte, k1_0, k2_0, k4_0, k6_0, i7_0, hB1.cell, hB2.cell, hB3.cell] <;> rfl) rfl (by intro hh; cases hh) (slG_has (f := msgL) (sz := 2) (fun _ => rfl) hB33 rfl) (by simp only [maxLen, List.length_singleton]; omega) (by rw [List.length_singleton]; omega) (by omega) ?_
            intro h40 v40 hv40 hg40 hpl40 hn40
            have hB140 := hB1.gr hg40 (ho.ncell hB1 (by decide))
            have hB240 := hB2.gr hg40 (ho.ncell hB2 (by decide))
            have hB340 := hB3.gr hg40 (ho.ncell hB3 (by decide))
            have hE40 := hg40.ext (hXe.trans (hx4)) (fun c hc => (ho.block c hc).1)
            refine WL.qq (by simp only [EN, Nat.reduceEqDiff, reduceIte, qv_fieldAddr, fa60_3, Nat.zero_add, Nat.reduceAdd, k6_0, hB1.cell, hB2.cell, hB3.cell]; rfl) ?_
            refine WL.store (by simp only [EN, Nat.reduceEqDiff, reduceIte, k1_0, k2_0, k4_0, k6_0, i7_0, hB1.cell, hB2.cell, hB3.cell] <;> rfl) sz22 (by simp only [EN, Nat.reduceEqDiff, reduceIte, k1_0, k2_0, k4_0, k6_0, i7_0, hB1.cell, hB2.cell, hB3.cell]; exact hv40.cells) rfl hB340 (by simp) (by simp [hv40.one]) ?_
            intro h41 hw41
            have hv41 := hv40.keep (h' := h41) (fun c hc => hw41.same c fun hh => by subst hh; exact hv40.ncell hB340 (by decide) hc)
            have hB341 := hw41.at_
            simp only [splc, List.take_succ_cons, List.take_zero, List.take_nil, List.drop_succ_cons, List.drop_zero, List.drop_nil, List.cons_append, List.nil_append, List.length_cons, List.length_nil, Nat.zero_add, Nat.add_zero, Nat.reduceAdd, List.append_nil] at hB341
            have hne13 : B1 ≠ B3 := (by omega)
            have hne23 : B2 ≠ B3 := (by omega)
            refine WL.nil ?_
            refine bl_norm ?_
            refine th_norm ?_
            refine hx_region ?_
            refine WL.qq (by simp only [EN, Nat.reduceEqDiff, reduceIte, qv_move, i7_0, hB1.cell, hB2.cell, hB3.cell]; rfl) ?_
            refine WL.qq (by simp only [EN, Nat.reduceEqDiff, reduceIte, qv_binOp, binv_add, hB1.cell, hB2.cell, hB3.cell]; (try simp (disch := omega) only [w64, w8, wu64]); rfl) ?_
            refine WL.qq (by simp only [EN, Nat.reduceEqDiff, reduceIte, qv_assign, hB1.cell, hB2.cell, hB3.cell]; rfl) ?_
            refine WL.nil ?_
            refine th_norm ?_
            refine ⟨rfl, ?_, _, ?_, i + 1, v40, rfl, ?_, ?_, ?_, ?_, ?_, ?_, ?_⟩  -- again 0 of loop 0
            · (repeat (first | exact Fr.refl _ _ | refine Fr.set rfl ?_ | refine Fr.put rfl ?_ | with_reducible refine Fr.put0 ?_))
            · omega
            · omega
            · exact hw41.ext hE40 hn3b
            · exact hB140.wr hw41 hne13
            · exact hB240.wr hw41 hne23
            · exact hB341
            · rw [hfs, List.length_append, List.flatMap_append]; exact hv41
            · simp only [EN, Nat.reduceEqDiff, reduceIte, k1_0, k2_0, k4_0, k6_0, i7_0, hB1.cell, hB2.cell, hB3.cell] <;> first | rfl | (congr 1; omega)
          ·
            try simp only [BD] at hct42
            rw [if_neg (by simp; omega)] at hfs
            refine hx_skip ?_
            refine bl_norm ?_
            refine th_norm ?_
            refine hx_region ?_
            refine WL.qq (by simp only [EN, Nat.reduceEqDiff, reduceIte, qv_move, i7_0, hB1.cell, hB2.cell, hB3.cell]; rfl) ?_
            refine WL.qq (by simp only [EN, Nat.reduceEqDiff, reduceIte, qv_binOp, binv_add, hB1.cell, hB2.cell, hB3.cell]; (try simp (disch := omega) only [w64, w8, wu64]); rfl) ?_
            refine WL.qq (by simp only [EN, Nat.reduceEqDiff, reduceIte, qv_assign, hB1.cell, hB2.cell, hB3.cell]; rfl) ?_
            refine WL.nil ?_
            refine th_norm ?_
            refine ⟨rfl, ?_, _, ?_, i + 1, v, rfl, ?_, ?_, ?_, ?_, ?_, ?_, ?_⟩  -- again 1 of loop 0
            · (repeat (first | exact Fr.refl _ _ | refine Fr.set rfl ?_ | refine Fr.put rfl ?_ | with_reducible refine Fr.put0 ?_))
            · omega
            · omega
            · exact hXe
            · exact hB1
            · exact hB2
            · exact hB3
            · rw [hfs]; exact ho
            · simp only [EN, Nat.reduceEqDiff, reduceIte, k1_0, k2_0, k4_0, k6_0, i7_0, hB1.cell, hB2.cell, hB3.cell] <;> first | rfl | (congr 1; omega)
        ·
          try simp only [BD] at hct32
          rw [show K.take i = K from List.take_of_length_le (by omega), filt_ge hsq] at ho
          obtain ⟨a9, c9, rfl, hle9, _⟩ := ho.shape
          refine hx_exit ?_
          refine th_exit ?_
          refine th_exit ?_
          refine bl_hit ?_
          refine th_norm ?_
          refine hx_seq ?_
          refine hx_region ?_
          refine WL.qq (by simp only [EN, Nat.reduceEqDiff, reduceIte, qv_load, ld60, readN, AR, Nat.zero_add, Nat.reduceAdd, k6_0, hB1.cell, hB2.cell, hB3.cell]; rfl) ?_
          refine WL.store (by simp only [EN, Nat.reduceEqDiff, reduceIte, k1_0, k2_0, k4_0, k6_0, i7_0, hB1.cell, hB2.cell, hB3.cell] <;> rfl) sz60 (by simp only [EN, Nat.reduceEqDiff, reduceIte, k1_0, k2_0, k4_0, k6_0, i7_0, hB1.cell, hB2.cell, hB3.cell, Value.cells]; rfl) rfl hB2 (by simp) (by intro u hu; simp at hu; rcases hu with rfl | rfl | rfl | rfl <;> rfl) ?_
          intro h50 hw50
          have hE50 := hw50.ext hXe hn2b
          have ho50 := ho.keep (h' := h50) (fun c hc => hw50.same c fun hh => by subst hh; exact ho.ncell hB2 (by decide) hc)
          replace hB2 := hw50.at_
          refine WL.qq (by simp only [EN, Nat.reduceEqDiff, reduceIte, qv_assign, hB1.cell, hB2.cell, hB3.cell]; rfl) ?_
          refine WL.nil ?_
          refine th_norm ?_
          refine hx_ret ?_
          refine fin_ret [.cell 4 60, .tmp 5] rfl rfl (by simp only [EN, Nat.reduceEqDiff, reduceIte, resv, ld60, readN, AR, Nat.zero_add, Nat.reduceAdd, k1_0, k2_0, k4_0, k6_0, i7_0, hB1.cell, hB2.cell, hB3.cell]; rfl) ?_  -- ret 2 r11
          rw [ackA, ackK, if_pos he, if_pos he, he]
          exact ⟨hE50, _, rfl, ⟨a9, c9, rfl, SlR.own (f := msgL) (sz := 2) (fun _ => rfl) ho50 rfl, hle9⟩⟩
end
end GL

set_option linter.unusedSimpArgs false
set_option linter.unusedVariables false
set_option linter.unnecessarySimpa false
namespace GL
open Go Go.Proofs
set_option maxRecDepth 8000
theorem idxV_neg {l : List M2} {n : Int} : idxV l n < 0 ↔ ∀ y ∈ l, y.1 ≠ n := by
  unfold idxV
  cases h : idx l n with
  | none => exact ⟨fun _ => lookup_none_iff.1 (idx_none.1 h), fun _ => by decide⟩
  | some i =>
    obtain ⟨x, hx, h1, _⟩ := idx_some h
    exact ⟨fun hh => by simp only at hh; omega, fun hh => absurd h1 (hh x (List.mem_of_getElem? hx))⟩
theorem filt_two {f t a : Int} {K : List M2} (h : ∀ (i : Nat) (m : M2), K[i]? = some m → m.1 = a + (i : Int)) (h1 : a ≤ f) (h2 : f ≤ t) : K.filter (fun m => decide (f ≤ m.1) && decide (m.1 ≤ t)) = (K.drop (f - a).toNat).take ((t - f).toNat + 1) := by
  have h3 : (K.filter fun m => decide (f ≤ m.1)).filter (fun m => decide (m.1 ≤ t)) = K.filter (fun m => decide (f ≤ m.1) && decide (m.1 ≤ t)) := by
    rw [List.filter_filter]
    congr 1
    funext m
    rw [Bool.and_comm]
  rw [← h3, filt_ge h, filt_le (a := f) (fun i m hm => ?_)]
  · rw [show (t + 1 - f).toNat = (t - f).toNat + 1 by omega]
  · rw [List.getElem?_drop] at hm
    have := h _ _ hm
    omega
section
variable {h : Heap} {w n a : Int} {K : List M2}
set_option maxHeartbeats 2000000 in
theorem c_rResend (ar : Option Addr) (cr : Nat) (f t : Int) (hS : SG w n a K) (hs : SlR 46 2 msgL h ar K) (hcr : K.length ≤ cr) :
    HCalls Try.prog 44 #[.agg #[iV w, iV n, iV a, .slice ar K.length cr], iV f, iV t] h fun v h' => Ext h h' ∧ ∃ b c, v = .tuple #[.slice b (resL n a f t K).length c, iV (resE n a f t)] ∧ SlR 46 2 msgL h' b (resL n a f t K) := by
  have hkw := hS.kw; have hw2 := hS.w2; have hn2 := hS.n2; have han := hS.an; have ha1 := hS.a1; have hsq := hS.sq
  refine hcalls2 Try.func44 rfl (by decide +kernel) (by simp only [Try.ntmps44]; exact of_decide_eq_true rfl) ?_
  intro e hin
  have e0 := hin 0 _ rfl
  have e1 := hin 1 _ rfl
  have e2 := hin 2 _ rfl
  have ks := hs
  refine hx_seq ?_
  refine hx_region ?_
  refine WL.box2 (by simp only [EN, Nat.reduceEqDiff, reduceIte, Value.cells, e0]; rfl) ?_
  intro h1 B1 hx1 hlt1 hB1
  replace hs := hs.ext hx1
  refine WL.qq (by simp only [EN, Nat.reduceEqDiff, reduceIte, qv_assign, hB1.cell]; rfl) ?_
  refine WL.qq (by simp only [EN, Nat.reduceEqDiff, reduceIte, qv_assign, hB1.cell]; rfl) ?_
  refine WL.nil ?_
  refine th_norm ?_
  refine hx_seq ?_
  refine hx_seq ?_
  refine hx_region ?_
  have hz1 := hx1.size; have hXf := (hx1)
  refine WL.qq (by simp only [EN, Nat.reduceEqDiff, reduceIte, qv_move, e1, hB1.cell]; rfl) ?_
  refine WL.qq (by simp only [EN, Nat.reduceEqDiff, reduceIte, qv_binOp, binv_lss, hB1.cell]; rfl) ?_
  refine WL.qq (by simp only [EN, Nat.reduceEqDiff, reduceIte, qv_move, hB1.cell]; rfl) ?_
  refine WL.cq (gd_at (t := 12) rfl (by simp only [EN, Nat.reduceEqDiff, reduceIte, e2, hB1.cell] <;> rfl)) (fun hg1_3 => by simp only [EN, Nat.reduceEqDiff, reduceIte, qv_move, e2, hB1.cell, hg1_3, GR]; rfl) ?_
  refine WL.cq (gd_at (t := 12) rfl (by simp only [EN, Nat.reduceEqDiff, reduceIte, e1, hB1.cell] <;> rfl)) (fun hg1_4 => by simp only [EN, Nat.reduceEqDiff, reduceIte, qv_move, e1, hB1.cell, hg1_4, GR]; rfl) ?_
  refine WL.cq (gd_at (t := 12) rfl (by simp only [EN, Nat.reduceEqDiff, reduceIte, hB1.cell] <;> rfl)) (fun hg1_5 => by simp only [EN, Nat.reduceEqDiff, reduceIte, qv_binOp, binv_lss, hB1.cell, hg1_5, GR]; rfl) ?_
  refine WL.qq (by simp only [EN, Nat.reduceEqDiff, reduceIte, qv_pick, pk_and, pk_or, GR, hB1.cell]; rfl) ?_
  refine WL.qq (by simp only [EN, Nat.reduceEqDiff, reduceIte, qv_move, hB1.cell]; rfl) ?_
  refine WL.cq (gd_at (t := 17) rfl (by simp only [EN, Nat.reduceEqDiff, reduceIte, e2, hB1.cell] <;> rfl)) (fun hg1_8 => by simp only [EN, Nat.reduceEqDiff, reduceIte, qv_move, e2, hB1.cell, hg1_8, GR]; rfl) ?_
  refine WL.cq (gd_at (t := 17) rfl (by simp only [EN, Nat.reduceEqDiff, reduceIte, hB1.cell] <;> rfl)) (fun hg1_9 => by simp only [EN, Nat.reduceEqDiff, reduceIte, qv_fieldAddr, fa60_1, Nat.zero_add, Nat.reduceAdd, hB1.cell, hg1_9, GR]; rfl) ?_
  refine WL.cq (gd_at (t := 17) rfl (by simp only [EN, Nat.reduceEqDiff, reduceIte, hB1.cell] <;> rfl)) (fun hg1_10 => by simp only [EN, Nat.reduceEqDiff, reduceIte, qv_load, ld3, readN, AR, Nat.zero_add, Nat.reduceAdd, hB1.cell, hg1_10, GR]; rfl) ?_
  refine WL.cq (gd_at (t := 17) rfl (by simp only [EN, Nat.reduceEqDiff, reduceIte, hB1.cell] <;> rfl)) (fun hg1_11 => by simp only [EN, Nat.reduceEqDiff, reduceIte, qv_binOp, binv_geq, hB1.cell, hg1_11, GR]; rfl) ?_
  refine WL.qq (by simp only [EN, Nat.reduceEqDiff, reduceIte, qv_pick, pk_and, pk_or, GR, hB1.cell]; rfl) ?_
  refine WL.nil ?_
  refine th_norm ?_
  refine hx_cond (by simp only [EN, Nat.reduceEqDiff, reduceIte, hB1.cell]; rfl) (fun hct22 => ?_) (fun hct22 => ?_)
  ·
    try simp only [BD] at hct22
    refine hx_seq ?_
    refine hx_region ?_
    refine WL.qq (by simp only [EN, Nat.reduceEqDiff, reduceIte, qv_assign, hB1.cell]; rfl) ?_
    refine WL.qq (by simp only [EN, Nat.reduceEqDiff, reduceIte, qv_assign, hB1.cell]; rfl) ?_
    refine WL.nil ?_
    refine th_norm ?_
    refine hx_ret ?_
    refine th_ret ?_
    refine fin_ret [.tmp 6, .tmp 7] rfl rfl (by simp only [EN, Nat.reduceEqDiff, reduceIte, resv, e0, e1, e2, hB1.cell]; rfl) ?_  -- ret 0 r2
    have he : resE n a f t = 2 := (if_pos (by have h9 := hct22; (try simp at h9); omega))
    have hne : ¬ resE n a f t = 0 := (by rw [he]; decide)
    rw [resL, if_neg hne, he]
    exact ⟨(hx1), _, _, rfl, slR_nil⟩
  ·
    try simp only [BD] at hct22
    have q1 : ¬ (f < 1 ∨ t < f ∨ n ≤ t) := (by have h9 := hct22; (try simp at h9); omega)
    refine hx_skip ?_
    refine th_norm ?_
    refine hx_seq ?_
    refine hx_seq ?_
    refine hx_region ?_
    refine WL.qq (by simp only [EN, Nat.reduceEqDiff, reduceIte, qv_fieldAddr, fa60_3, Nat.zero_add, Nat.reduceAdd, hB1.cell]; rfl) ?_
    refine WL.qq (by simp only [EN, Nat.reduceEqDiff, reduceIte, qv_load, ld22, readN, AR, Nat.zero_add, Nat.reduceAdd, hB1.cell]; rfl) ?_
    refine WL.qq (by simp only [EN, Nat.reduceEqDiff, reduceIte, qv_move, e1, hB1.cell]; rfl) ?_
    refine WL.ck Try.call49 (by simp only [EN, Nat.reduceEqDiff, reduceIte, AR, hB1.cell]; exact c_find ar K cr f (by omega) hs.rd) ?_
    refine WL.qq (by simp only [EN, Nat.reduceEqDiff, reduceIte, qv_binOp, binv_lss, hB1.cell]; rfl) ?_
    refine WL.nil ?_
    refine th_norm ?_
    refine hx_cond (by simp only [EN, Nat.reduceEqDiff, reduceIte, hB1.cell]; rfl) (fun hct27 => ?_) (fun hct27 => ?_)
    ·
      try simp only [BD] at hct27
      have hfa : f < a := Int.not_le.1 (fun hh => by obtain ⟨y, hy⟩ := atG (l := K) (i := (f - a).toNat) (by omega); have h8 := hsq _ y hy; exact idxV_neg.1 hct27 _ (List.mem_of_getElem? hy) (by omega))
      refine hx_seq ?_
      refine hx_region ?_
      refine WL.qq (by simp only [EN, Nat.reduceEqDiff, reduceIte, qv_assign, hB1.cell]; rfl) ?_
      refine WL.qq (by simp only [EN, Nat.reduceEqDiff, reduceIte, qv_assign, hB1.cell]; rfl) ?_
      refine WL.nil ?_
      refine th_norm ?_
      refine hx_ret ?_
      refine th_ret ?_
      refine fin_ret [.tmp 6, .tmp 7] rfl rfl (by simp only [EN, Nat.reduceEqDiff, reduceIte, resv, e0, e1, e2, hB1.cell]; rfl) ?_  -- ret 1 r4
      have he : resE n a f t = 20 := ((if_neg q1).trans (if_pos hfa))
      have hne : ¬ resE n a f t = 0 := (by rw [he]; decide)
      rw [resL, if_neg hne, he]
      exact ⟨(hx1), _, _, rfl, slR_nil⟩
    ·
      try simp only [BD] at hct27
      have hfa : a ≤ f := Int.not_lt.1 (fun hh => hct27 (idxV_neg.2 (fun y hy he => by obtain ⟨i, hi⟩ := List.getElem?_of_mem hy; have := hsq i y hi; omega)))
      have he : resE n a f t = 0 := ((if_neg q1).trans (if_neg (by omega)))
      refine hx_skip ?_
      refine th_norm ?_
      refine hx_seq ?_
      refine hx_region ?_
      refine WL.qq (by simp only [EN, Nat.reduceEqDiff, reduceIte, qv_assign, hB1.cell]; rfl) ?_
      refine WL.nil ?_
      refine th_norm ?_
      refine hx_seq ?_
      refine hx_seq ?_
      refine hx_region ?_
      refine WL.qq (by simp only [EN, Nat.reduceEqDiff, reduceIte, qv_assign, hB1.cell]; rfl) ?_
      refine WL.nil ?_
      refine th_norm ?_
      refine hx_block ?_
      refine hx_loopG [8, 9, 28, 29, 30, 31, 32, 33, 34, 35, 36, 37, 38, 39, 40, 41, 42, 43, 44, 45, 46, 47, 48, 49, 50, 51, 52, 53, 54, 55, 56, 57, 58, 59, 60] (fun k e hL0 => ∃ (i : Nat) (v : Value), K.length - i = k ∧ (i ≤ K.length) ∧ (Ext h hL0) ∧ (Has hL0 B1 (.cells #[iV w, iV n, iV a, .slice ar K.length cr] 60)) ∧ (Own hL0 h.size 46 2 v ((K.take i).filter fun m => decide (f ≤ m.1) && decide (m.1 ≤ t)).length (((K.take i).filter fun m => decide (f ≤ m.1) && decide (m.1 ≤ t)).flatMap msgL)) ∧ e 8 = v ∧ e 9 = .int .i64 i) _ ⟨0, .slice none 0 0, rfl, ?_, ?_, ?_, ?_, ?_, ?_⟩ ?_
      · omega
      · exact hXf
      · exact hB1
      · exact Own.nil
      · simp only [EN, Nat.reduceEqDiff, reduceIte, e0, e1, e2, hB1.cell] <;> rfl
      · simp only [EN, Nat.reduceEqDiff, reduceIte, e0, e1, e2, hB1.cell] <;> rfl
      ·
        rintro k e0L hL0 hfr0 ⟨i, v, rfl, hi, hXe, hB1, ho, i8_0, i9_0⟩
        have k1_0 := hfr0 1 rfl; try simp only [EN, Nat.reduceEqDiff, reduceIte, e1, hB1.cell] at k1_0
        have k2_0 := hfr0 2 rfl; try simp only [EN, Nat.reduceEqDiff, reduceIte, e2, hB1.cell] at k2_0
        have k3_0 := hfr0 3 rfl; try simp only [EN, Nat.reduceEqDiff, reduceIte, hB1.cell] at k3_0
        refine hx_seq ?_
        refine hx_seq ?_
        refine hx_region ?_
        refine WL.qq (by simp only [EN, Nat.reduceEqDiff, reduceIte, qv_move, i9_0, hB1.cell]; rfl) ?_
        refine WL.qq (by simp only [EN, Nat.reduceEqDiff, reduceIte, qv_fieldAddr, fa60_3, Nat.zero_add, Nat.reduceAdd, k3_0, hB1.cell]; rfl) ?_
        refine WL.qq (by simp only [EN, Nat.reduceEqDiff, reduceIte, qv_load, ld22, readN, AR, Nat.zero_add, Nat.reduceAdd, hB1.cell]; rfl) ?_
        refine WL.qq (by simp only [EN, Nat.reduceEqDiff, reduceIte, qv_len, ln22, AR, hB1.cell]; rfl) ?_
        refine WL.qq (by simp only [EN, Nat.reduceEqDiff, reduceIte, qv_binOp, binv_lss, hB1.cell]; rfl) ?_
        refine WL.nil ?_
        refine th_norm ?_
        refine hx_cond (by simp only [EN, Nat.reduceEqDiff, reduceIte, hB1.cell]; rfl) (fun hct32 => ?_) (fun hct32 => ?_)
        ·
          try simp only [BD] at hct32
          obtain ⟨m, hm⟩ := atG (l := K) (i := i) (by omega)
          have hsx := ks.ext hXe
          obtain ⟨b1, o1, ha1, hr1, hm1, _⟩ := msg_rd hsx.rd hm
          have hfs := filt_step (p := fun m : M2 => decide (f ≤ m.1) && decide (m.1 ≤ t)) hm; have hfl := filt_len (p := fun m : M2 => decide (f ≤ m.1) && decide (m.1 ≤ t)) (K := K) i
          refine hx_skip ?_
          refine th_norm ?_
          refine hx_seq ?_
          refine hx_block ?_
          refine hx_seq ?_
          refine hx_region ?_
          refine WL.qq (by simp only [EN, Nat.reduceEqDiff, reduceIte, qv_fieldAddr, fa60_3, Nat.zero_add, Nat.reduceAdd, k3_0, hB1.cell]; rfl) ?_
          refine WL.qq (by simp only [EN, Nat.reduceEqDiff, reduceIte, qv_load, ld22, readN, AR, Nat.zero_add, Nat.reduceAdd, hB1.cell]; rfl) ?_
          refine WL.qq (by simp only [EN, Nat.reduceEqDiff, reduceIte, qv_move, i9_0, hB1.cell]; rfl) ?_
          refine WL.qq (by simp only [EN, Nat.reduceEqDiff, reduceIte, qv_indexAddr, hB1.cell, ha1]; (try simp (disch := omega) only [ix22, Int.toNat_natCast]); rfl) ?_
          refine WL.qq (by simp only [EN, Nat.reduceEqDiff, reduceIte, qv_fieldAddr, fa46_0, Nat.zero_add, Nat.reduceAdd, hB1.cell]; rfl) ?_
          refine WL.qq (by simp only [EN, Nat.reduceEqDiff, reduceIte, k1_0, k2_0, k3_0, i8_0, i9_0, hB1.cell, qv_load, ld3, Int.toNat_natCast, hm1]; rfl) ?_
          refine WL.qq (by simp only [EN, Nat.reduceEqDiff, reduceIte, qv_move, k1_0, hB1.cell]; rfl) ?_
          refine WL.qq (by simp only [EN, Nat.reduceEqDiff, reduceIte, qv_binOp, binv_geq, hB1.cell]; rfl) ?_
          refine WL.qq (by simp only [EN, Nat.reduceEqDiff, reduceIte, qv_move, hB1.cell]; rfl) ?_
          refine WL.cq (gd_at (t := 43) rfl (by simp only [EN, Nat.reduceEqDiff, reduceIte, k3_0, hB1.cell] <;> rfl)) (fun hg9_9 => by simp only [EN, Nat.reduceEqDiff, reduceIte, qv_fieldAddr, fa60_3, Nat.zero_add, Nat.reduceAdd, k3_0, hB1.cell, hg9_9, GR]; rfl) ?_
          refine WL.cq (gd_at (t := 43) rfl (by simp only [EN, Nat.reduceEqDiff, reduceIte, hB1.cell] <;> rfl)) (fun hg9_10 => by simp only [EN, Nat.reduceEqDiff, reduceIte, qv_load, ld22, readN, AR, Nat.zero_add, Nat.reduceAdd, hB1.cell, hg9_10, GR]; rfl) ?_
          refine WL.cq (gd_at (t := 43) rfl (by simp only [EN, Nat.reduceEqDiff, reduceIte, i9_0, hB1.cell] <;> rfl)) (fun hg9_11 => by simp only [EN, Nat.reduceEqDiff, reduceIte, qv_move, i9_0, hB1.cell, hg9_11, GR]; rfl) ?_
          refine WL.cq (gd_at (t := 43) rfl (by simp only [EN, Nat.reduceEqDiff, reduceIte, hB1.cell] <;> rfl)) (fun hg9_12 => by have hq0 := hg9_12; (try simp only [BD] at hq0); simp only [EN, Nat.reduceEqDiff, reduceIte, qv_indexAddr, hB1.cell, ha1, hg9_12, GR]; (try simp (disch := omega) only [ix22, Int.toNat_natCast]); rfl) ?_
          refine WL.cq (gd_at (t := 43) rfl (by simp only [EN, Nat.reduceEqDiff, reduceIte, hB1.cell] <;> rfl)) (fun hg9_13 => by simp only [EN, Nat.reduceEqDiff, reduceIte, qv_fieldAddr, fa46_0, Nat.zero_add, Nat.reduceAdd, hB1.cell, hg9_13, GR]; rfl) ?_
          refine WL.cq (gd_at (t := 43) rfl (by simp only [EN, Nat.reduceEqDiff, reduceIte, hB1.cell] <;> rfl)) (fun hg9_14 => by simp only [EN, Nat.reduceEqDiff, reduceIte, k1_0, k2_0, k3_0, i8_0, i9_0, hB1.cell, GR, hg9_14, qv_load, ld3, Int.toNat_natCast, hm1]; rfl) ?_
          refine WL.cq (gd_at (t := 43) rfl (by simp only [EN, Nat.reduceEqDiff, reduceIte, k2_0, hB1.cell] <;> rfl)) (fun hg9_15 => by simp only [EN, Nat.reduceEqDiff, reduceIte, qv_move, k2_0, hB1.cell, hg9_15, GR]; rfl) ?_
          refine WL.cq (gd_at (t := 43) rfl (by simp only [EN, Nat.reduceEqDiff, reduceIte, hB1.cell] <;> rfl)) (fun hg9_16 => by simp only [EN, Nat.reduceEqDiff, reduceIte, qv_binOp, binv_leq, hB1.cell, hg9_16, GR]; rfl) ?_
          refine WL.qq (by simp only [EN, Nat.reduceEqDiff, reduceIte, qv_pick, pk_and, pk_or, GR, hB1.cell]; rfl) ?_
          refine WL.nil ?_
          refine th_norm ?_
          refine hx_cond (by simp only [EN, Nat.reduceEqDiff, reduceIte, hB1.cell]; rfl) (fun hct52 => ?_) (fun hct52 => ?_)
          ·
            try simp only [BD] at hct52
            rw [if_pos (by simpa using hct52)] at hfs
            obtain ⟨M, hM⟩ : ∃ M, M = (K.take i).filter fun m => decide (f ≤ m.1) && decide (m.1 ≤ t) := ⟨_, rfl⟩
            rw [← hM] at ho hfl hfs
            refine hx_region ?_
            refine WL.qq (by simp only [EN, Nat.reduceEqDiff, reduceIte, qv_move, i8_0, hB1.cell]; rfl) ?_
            refine WL.qq (by simp only [EN, Nat.reduceEqDiff, reduceIte, qv_fieldAddr, fa60_3, Nat.zero_add, Nat.reduceAdd, k3_0, hB1.cell]; rfl) ?_
            refine WL.qq (by simp only [EN, Nat.reduceEqDiff, reduceIte, qv_load, ld22, readN, AR, Nat.zero_add, Nat.reduceAdd, hB1.cell]; rfl) ?_
            refine WL.qq (by simp only [EN, Nat.reduceEqDiff, reduceIte, qv_move, i9_0, hB1.cell]; rfl) ?_
            refine WL.qq (by simp only [EN, Nat.reduceEqDiff, reduceIte, qv_indexAddr, hB1.cell, ha1]; (try simp (disch := omega) only [ix22, Int.toNat_natCast]); rfl) ?_
            refine WL.qq (by simp only [EN, Nat.reduceEqDiff, reduceIte, k1_0, k2_0, k3_0, i8_0, i9_0, hB1.cell, qv_load, ld46, Int.toNat_natCast, hr1]; rfl) ?_
            refine WL.push (bytes := 24) Try.underlying22 (inf_of Try.type46) rfl rfl rfl rfl (by decide) (by decide) sz46 zr46 (fun u => by simp only [EN, Nat.reduceEqDiff, reduceIte, k1_0, k2_0, k3_0, i8_0, i9_0, hB1.cell]) ho (c := (msgL m).toArray) (by simp only [EN, Nat.reduceEqDiff, reduceIte, k1_0, k2_0, k3_0, i8_0, i9_0, hB1.cell, Value.cells] <;> rfl) rfl (by simp [Value.oneCell']) (by simp only [maxLen]; omega) (by omega) hXe.size ?_
            intro h40 v40 B40 ho40 hg40 hp40 hn40
            have hE40 := hg40.ext hXe (fun c hc => (ho.block c hc).1)
            skip
            refine WL.qq (by simp only [EN, Nat.reduceEqDiff, reduceIte, qv_assign, hB1.cell]; rfl) ?_
            refine WL.nil ?_
            refine bl_norm ?_
            refine th_norm ?_
            refine hx_region ?_
            refine WL.qq (by simp only [EN, Nat.reduceEqDiff, reduceIte, qv_move, i9_0, hB1.cell]; rfl) ?_
            refine WL.qq (by simp only [EN, Nat.reduceEqDiff, reduceIte, qv_binOp, binv_add, hB1.cell]; (try simp (disch := omega) only [w64, w8, wu64]); rfl) ?_
            refine WL.qq (by simp only [EN, Nat.reduceEqDiff, reduceIte, qv_assign, hB1.cell]; rfl) ?_
            refine WL.nil ?_
            refine th_norm ?_
            refine ⟨rfl, ?_, _, ?_, i + 1, v40, rfl, ?_, ?_, ?_, ?_, ?_, ?_⟩  -- again 0 of loop 0
            · (repeat (first | exact Fr.refl _ _ | refine Fr.set rfl ?_ | refine Fr.put rfl ?_ | with_reducible refine Fr.put0 ?_))
            · omega
            · omega
            · exact hE40
            · exact hB1.gr hg40 (ho.ncell hB1 (by decide))
            · rw [hfs, List.length_append, List.flatMap_append]; exact ho40
            · simp only [EN, Nat.reduceEqDiff, reduceIte, k1_0, k2_0, k3_0, i8_0, i9_0, hB1.cell] <;> first | rfl | (congr 1; omega)
            · simp only [EN, Nat.reduceEqDiff, reduceIte, k1_0, k2_0, k3_0, i8_0, i9_0, hB1.cell] <;> first | rfl | (congr 1; omega)
          ·
            try simp only [BD] at hct52
            rw [if_neg (by simp only [Bool.and_eq_true, decide_eq_true_eq]; omega)] at hfs
            refine hx_skip ?_
            refine bl_norm ?_
            refine th_norm ?_
            refine hx_region ?_
            refine WL.qq (by simp only [EN, Nat.reduceEqDiff, reduceIte, qv_move, i9_0, hB1.cell]; rfl) ?_
            refine WL.qq (by simp only [EN, Nat.reduceEqDiff, reduceIte, qv_binOp, binv_add, hB1.cell]; (try simp (disch := omega) only [w64, w8, wu64]); rfl) ?_
            refine WL.qq (by simp only [EN, Nat.reduceEqDiff, reduceIte, qv_assign, hB1.cell]; rfl) ?_
            refine WL.nil ?_
            refine th_norm ?_
            refine ⟨rfl, ?_, _, ?_, i + 1, v, rfl, ?_, ?_, ?_, ?_, ?_, ?_⟩  -- again 1 of loop 0
            · (repeat (first | exact Fr.refl _ _ | refine Fr.set rfl ?_ | refine Fr.put rfl ?_ | with_reducible refine Fr.put0 ?_))
            · omega
            · omega
            · exact hXe
            · exact hB1
            · rw [hfs]; exact ho
            · simp only [EN, Nat.reduceEqDiff, reduceIte, k1_0, k2_0, k3_0, i8_0, i9_0, hB1.cell] <;> first | rfl | (congr 1; omega)
            · simp only [EN, Nat.reduceEqDiff, reduceIte, k1_0, k2_0, k3_0, i8_0, i9_0, hB1.cell] <;> first | rfl | (congr 1; omega)
        ·
          try simp only [BD] at hct32
          rw [show K.take i = K from List.take_of_length_le (by omega), filt_two hsq hfa (by omega)] at ho
          obtain ⟨a9, c9, rfl, hle9, _⟩ := ho.shape
          refine hx_exit ?_
          refine th_exit ?_
          refine th_exit ?_
          refine bl_hit ?_
          refine th_norm ?_
          refine hx_seq ?_
          refine hx_region ?_
          refine WL.qq (by simp only [EN, Nat.reduceEqDiff, reduceIte, qv_move, i8_0, hB1.cell]; rfl) ?_
          refine WL.qq (by simp only [EN, Nat.reduceEqDiff, reduceIte, qv_assign, hB1.cell]; rfl) ?_
          refine WL.qq (by simp only [EN, Nat.reduceEqDiff, reduceIte, qv_assign, hB1.cell]; rfl) ?_
          refine WL.nil ?_
          refine th_norm ?_
          refine hx_ret ?_
          refine fin_ret [.tmp 6, .tmp 7] rfl rfl (by simp only [EN, Nat.reduceEqDiff, reduceIte, resv, k1_0, k2_0, k3_0, i8_0, i9_0, hB1.cell]; rfl) ?_  -- ret 2 r11
          rw [resL, if_pos he, he]
          exact ⟨hXe, a9, c9, rfl, SlR.own (f := msgL) (sz := 2) (fun _ => rfl) ho rfl⟩
theorem c_msgs (b : Option Addr) (L : List M2) (cb : Nat) (b' : Option Addr) (L' : List M2) (cb' : Nat) (hL : L.length ≤ 1000000) (hs : SlG 2 msgL h b L) (hs' : SlG 2 msgL h b' L') :
    HCalls Try.prog 27 #[.slice b L.length cb, .slice b' L'.length cb'] h (Pure (.bool (decide (L = L'))) h) := by
  refine hcalls2 Try.func27 rfl (by decide +kernel) (by simp only [Try.ntmps27]; exact of_decide_eq_true rfl) ?_
  intro e hin
  have e0 := hin 0 _ rfl
  have e1 := hin 1 _ rfl
  refine hx_seq ?_
  refine hx_region ?_
  refine WL.qq (by simp only [EN, Nat.reduceEqDiff, reduceIte, qv_assign, strEq]; rfl) ?_
  refine WL.nil ?_
  refine th_norm ?_
  refine hx_seq ?_
  refine hx_seq ?_
  refine hx_region ?_
  refine WL.qq (by simp only [EN, Nat.reduceEqDiff, reduceIte, qv_move, e0, strEq]; rfl) ?_
  refine WL.qq (by simp only [EN, Nat.reduceEqDiff, reduceIte, qv_len, ln34, AR, strEq]; rfl) ?_
  refine WL.qq (by simp only [EN, Nat.reduceEqDiff, reduceIte, qv_move, e1, strEq]; rfl) ?_
  refine WL.qq (by simp only [EN, Nat.reduceEqDiff, reduceIte, qv_len, ln22, AR, strEq]; rfl) ?_
  refine WL.qq (by simp only [EN, Nat.reduceEqDiff, reduceIte, qv_binOp, binv_neq, eq3, Option.map_some, strEq]; rfl) ?_
  refine WL.nil ?_
  refine th_norm ?_
  refine hx_cond (by simp only [EN, Nat.reduceEqDiff, reduceIte, strEq]; rfl) (fun hct10 => ?_) (fun hct10 => ?_)
  ·
    try simp only [BD] at hct10
    refine hx_seq ?_
    refine hx_region ?_
    refine WL.qq (by simp only [EN, Nat.reduceEqDiff, reduceIte, qv_assign, strEq]; rfl) ?_
    refine WL.nil ?_
    refine th_norm ?_
    refine hx_ret ?_
    refine th_ret ?_
    refine fin_ret [.tmp 4] rfl rfl (by simp only [EN, Nat.reduceEqDiff, reduceIte, resv, e0, e1, strEq]; rfl) ?_  -- ret 0 r2
    exact ⟨by have hne : ¬ L = L' := fun hh => hct10 (by rw [hh]); simp [retOf, hne], rfl⟩
  ·
    try simp only [BD] at hct10
    refine hx_skip ?_
    refine th_norm ?_
    refine hx_seq ?_
    refine hx_seq ?_
    refine hx_region ?_
    refine WL.qq (by simp only [EN, Nat.reduceEqDiff, reduceIte, qv_assign, strEq]; rfl) ?_
    refine WL.nil ?_
    refine th_norm ?_
    refine hx_block ?_
    refine hx_loopS [4, 5, 11, 12, 13, 14, 15, 16, 17, 18, 19, 20, 21, 22, 23, 24, 25] (fun k e => ∃ (i : Nat), L.length - i = k ∧ (i ≤ L.length) ∧ (L.take i = L'.take i) ∧ e 5 = .int .i64 i) _ ⟨0, rfl, ?_, ?_, ?_⟩ ?_
    · omega
    · rfl
    · simp only [EN, Nat.reduceEqDiff, reduceIte, e0, e1, strEq] <;> rfl
    ·
      rintro k e0L hfr0 ⟨i, rfl, hi, hz, i5_0⟩
      have k0_0 := hfr0 0 rfl; try simp only [EN, Nat.reduceEqDiff, reduceIte, e0, strEq] at k0_0
      have k1_0 := hfr0 1 rfl; try simp only [EN, Nat.reduceEqDiff, reduceIte, e1, strEq] at k1_0
      refine hx_seq ?_
      refine hx_seq ?_
      refine hx_region ?_
      refine WL.qq (by simp only [EN, Nat.reduceEqDiff, reduceIte, qv_move, i5_0, strEq]; rfl) ?_
      refine WL.qq (by simp only [EN, Nat.reduceEqDiff, reduceIte, qv_move, k0_0, strEq]; rfl) ?_
      refine WL.qq (by simp only [EN, Nat.reduceEqDiff, reduceIte, qv_len, ln34, AR, strEq]; rfl) ?_
      refine WL.qq (by simp only [EN, Nat.reduceEqDiff, reduceIte, qv_binOp, binv_lss, strEq]; rfl) ?_
      refine WL.nil ?_
      refine th_norm ?_
      refine hx_cond (by simp only [EN, Nat.reduceEqDiff, reduceIte, strEq]; rfl) (fun hct14 => ?_) (fun hct14 => ?_)
      ·
        try simp only [BD] at hct14
        obtain ⟨x, hx⟩ := atG (l := L) (i := i) (by omega)
        obtain ⟨y, hy⟩ := atG (l := L') (i := i) (by omega)
        obtain ⟨b1, o1, ha1, hr1, _⟩ := msg_rd hs hx
        obtain ⟨b2, o2, ha2, hr2, _⟩ := msg_rd hs' hy
        refine hx_skip ?_
        refine th_norm ?_
        refine hx_seq ?_
        refine hx_block ?_
        refine hx_seq ?_
        apply hx_draw2 Rel.same [] [] [] rfl (by decide +kernel) rfl
        refine LD.qq rfl rfl (by simp only [EN, Nat.reduceEqDiff, reduceIte, qv_move, k0_0, strEq]; rfl) ?_
        refine LD.qq rfl rfl (by simp only [EN, Nat.reduceEqDiff, reduceIte, qv_move, i5_0, strEq]; rfl) ?_
        refine LD.qq rfl rfl (by simp only [EN, Nat.reduceEqDiff, reduceIte, qv_indexAddr, strEq, ha1]; (try simp (disch := omega) only [ix34, Int.toNat_natCast]); rfl) ?_
        refine LD.qq rfl rfl (by simp only [EN, Nat.reduceEqDiff, reduceIte, k0_0, k1_0, i5_0, strEq, qv_load, ld43, Int.toNat_natCast, hr1]; rfl) ?_
        refine LD.qq rfl rfl (by simp only [EN, Nat.reduceEqDiff, reduceIte, qv_move, k1_0, strEq]; rfl) ?_
        refine LD.qq rfl rfl (by simp only [EN, Nat.reduceEqDiff, reduceIte, qv_move, i5_0, strEq]; rfl) ?_
        refine LD.qq rfl rfl (by simp only [EN, Nat.reduceEqDiff, reduceIte, qv_indexAddr, strEq, ha2]; (try simp (disch := omega) only [ix22, Int.toNat_natCast]); rfl) ?_
        refine LD.qq rfl rfl (by simp only [EN, Nat.reduceEqDiff, reduceIte, k0_0, k1_0, i5_0, strEq, qv_load, ld46, Int.toNat_natCast, hr2]; rfl) ?_
        refine LD.qq rfl rfl (by simp only [EN, Nat.reduceEqDiff, reduceIte, qv_binOp, binv_neq, eqs46, Option.map_some, strEq]; rfl) ?_
        refine LD.nil ?_
        rintro _ rfl -
        refine WL.nil ?_
        refine th_norm ?_
        refine hx_cond (by simp only [EN, Nat.reduceEqDiff, reduceIte, strEq]; rfl) (fun hct25 => ?_) (fun hct25 => ?_)
        ·
          try simp only [BD] at hct25
          refine hx_seq ?_
          refine hx_region ?_
          refine WL.qq (by simp only [EN, Nat.reduceEqDiff, reduceIte, qv_assign, strEq]; rfl) ?_
          refine WL.nil ?_
          refine th_norm ?_
          refine hx_ret ?_
          refine bl_ret ?_
          refine th_ret ?_
          refine th_ret ?_
          refine bl_ret ?_
          refine th_ret ?_
          refine fin_ret [.tmp 4] rfl rfl (by simp only [EN, Nat.reduceEqDiff, reduceIte, resv, k0_0, k1_0, i5_0, strEq]; rfl) ?_  -- ret 1 r7
          have hxy : ¬ x = y := (fun hh => by subst hh; simp at hct25)
          have hne : ¬ L = L' := (fun hh => by subst hh; rw [hx] at hy; cases hy; exact hxy rfl)
          exact ⟨by simp [retOf, hne], rfl⟩
        ·
          try simp only [BD] at hct25
          have hxy : x = y := (by obtain ⟨x1, x2⟩ := x; obtain ⟨y1, y2⟩ := y; simp at hct25; simp [hct25])
          refine hx_skip ?_
          refine bl_norm ?_
          refine th_norm ?_
          refine hx_region ?_
          refine WL.qq (by simp only [EN, Nat.reduceEqDiff, reduceIte, qv_move, i5_0, strEq]; rfl) ?_
          refine WL.qq (by simp only [EN, Nat.reduceEqDiff, reduceIte, qv_binOp, binv_add, strEq]; (try simp (disch := omega) only [w64, w8, wu64]); rfl) ?_
          refine WL.qq (by simp only [EN, Nat.reduceEqDiff, reduceIte, qv_assign, strEq]; rfl) ?_
          refine WL.nil ?_
          refine th_norm ?_
          refine ⟨rfl, rfl, ?_, _, ?_, i + 1, rfl, ?_, ?_, ?_⟩  -- again 0 of loop 0
          · (repeat (first | exact Fr.refl _ _ | refine Fr.set rfl ?_ | refine Fr.put rfl ?_ | with_reducible refine Fr.put0 ?_))
          · omega
          · omega
          · rw [List.take_add_one, List.take_add_one, hz, hx, hy, hxy]
          · simp only [EN, Nat.reduceEqDiff, reduceIte, k0_0, k1_0, i5_0, strEq] <;> first | rfl | (congr 1; omega)
      ·
        try simp only [BD] at hct14
        refine hx_exit ?_
        refine th_exit ?_
        refine th_exit ?_
        refine bl_hit ?_
        refine th_norm ?_
        refine hx_seq ?_
        refine hx_region ?_
        refine WL.qq (by simp only [EN, Nat.reduceEqDiff, reduceIte, qv_assign, strEq]; rfl) ?_
        refine WL.nil ?_
        refine th_norm ?_
        refine hx_ret ?_
        refine fin_ret [.tmp 4] rfl rfl (by simp only [EN, Nat.reduceEqDiff, reduceIte, resv, k0_0, k1_0, i5_0, strEq]; rfl) ?_  -- ret 2 r8
        have hLL : L = L' := (by have h1 := hz; rw [List.take_of_length_le (by omega), List.take_of_length_le (by omega)] at h1; exact h1)
        exact ⟨by simp [retOf, hLL], rfl⟩
end
end GL


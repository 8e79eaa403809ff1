/- Session: a step of a sender and of its reference. -/
import Derived.Test.YtmlhncifcaicpaaSesT
import Derived.Test.YtmlhncifcaicpaaSesP
import Derived.Test.YtmlhncifcaicpaaSesV
import Derived.Test.YtmlhncifcaicpaaGl36
set_option linter.unusedSimpArgs false
set_option linter.unusedVariables false
set_option linter.unnecessarySimpa false
namespace GL
open Go Go.Proofs
set_option maxRecDepth 8000
def stN (w n : Int) (K : List M2) (o : SOp) : Int := if o.k % 3 = 0 then sndN w n K o.s else n
def stA (n a : Int) (o : SOp) : Int := if o.k % 3 = 1 then ackA n a o.a else a
def stK (w n a : Int) (K : List M2) (o : SOp) : List M2 := if o.k % 3 = 0 then sndK w n K o.s else if o.k % 3 = 1 then ackK n a o.a K else K
theorem SG.stp {w n a : Int} {K : List M2} (o : SOp) (hS : SG w n a K) : SG w (stN w n K o) (stA n a o) (stK w n a K o) := by
  unfold stN stA stK
  by_cases h0 : o.k % 3 = 0
  · rw [if_pos h0, if_pos h0, if_neg (by omega)]; exact hS.snd _
  · rw [if_neg h0, if_neg h0]
    by_cases h1 : o.k % 3 = 1
    · rw [if_pos h1, if_pos h1]; exact hS.ack _
    · rw [if_neg h1, if_neg h1]; exact hS
theorem RS.sf {h0 h h' : Heap} {p cap : Nat} {w n a : Int} {al : Option Addr} {K : List M2} {v : Value} {w' n' a' : Int} {K' : List M2} (hr : RS h v w' n' a' K') (ht : TS h0 h p w n a al cap K) (hs : Sf p al h h') : RS h' v w' n' a' K' := by
  obtain ⟨ar, cr, h1, h2, h3⟩ := hr.ex
  exact ⟨ar, cr, h1, ht.slR hs h2 (by decide) (by decide), h3⟩
theorem res_len (n a f t : Int) (K : List M2) : (resL n a f t K).length ≤ K.length := by
  unfold resL
  split
  · rw [List.length_take, List.length_drop]; omega
  · exact Nat.zero_le _
structure SfX (p : Nat) (al : Option Addr) (h h' : Heap) : Prop where
  s : Sf p al h h'
theorem SfX.ext {p : Nat} {al : Option Addr} {h h' h2 : Heap} (hs : SfX p al h h') (hx : Ext h' h2) : SfX p al h h2 := ⟨hs.s.trans (Sf.ext hx)⟩
/-- Where the kept slice lies afterwards. -/
def Al (h : Heap) (al al' : Option Addr) : Prop := ∀ c off, al' = some ⟨c, off, none⟩ → (∃ off', al = some ⟨c, off', none⟩) ∨ h.size ≤ c
set_option maxHeartbeats 4000000 in
theorem c_step {h0 h : Heap} {p cap : Nat} {w n a : Int} {al : Option Addr} {K : List M2} {u : Value} (o : SOp) (ho : SOk o) (hS : SG w n a K) (ht : TS h0 h p w n a al cap K) (hr : RS h u w n a K) :
    HCalls Try.prog 25 #[.pointer (some ⟨p, 0, none⟩), u, .agg (opL o).toArray] h fun v h' => ∃ u', v = .tuple #[u', .bool true] ∧ RS h' u' w (stN w n K o) (stA n a o) (stK w n a K o) ∧ Sf p al h h' ∧ ∃ al' cap', TS h0 h' p w (stN w n K o) (stA n a o) al' cap' (stK w n a K o) ∧ Al h al al' := by
  obtain ⟨ar, cr, rfl, hK, hcr⟩ := hr.ex
  have hkr := hK
  have hz0 := ht.E.size
  have htm : (o.k : Int).tmod 3 = ((o.k % 3 : Nat) : Int) := by rw [Int.tmod_eq_emod_of_nonneg (by omega)]; omega
  refine hcalls2 Try.func25 rfl (by decide +kernel) (by simp only [Try.ntmps25]; exact of_decide_eq_true rfl) ?_
  intro e hin
  have e0 := hin 0 _ rfl
  have e1 := hin 1 _ rfl
  have e2 := hin 2 _ rfl
  refine hx_seq ?_
  refine hx_region ?_
  refine WL.box2 (by simp only [EN, Nat.reduceEqDiff, reduceIte, Value.cells, e1, strEq]; rfl) ?_
  intro h1 B1 hx1 hlt1 hB1
  replace ht := ht.ext hx1
  replace hK := hK.ext hx1
  have hb1l := (Array.getElem?_eq_some_iff.1 hB1).1
  refine WL.box2 (by simp only [EN, Nat.reduceEqDiff, reduceIte, Value.cells, e2, strEq, hB1.cell]; rfl) ?_
  intro h2 B2 hx2 hlt2 hB2
  replace ht := ht.ext hx2
  replace hK := hK.ext hx2
  replace hB1 := hB1.ext hx2
  have hb2l := (Array.getElem?_eq_some_iff.1 hB2).1
  refine WL.alloc2 zr60 ?_
  intro h3 B3 hx3 hlt3 hB3
  replace ht := ht.ext hx3
  replace hK := hK.ext hx3
  replace hB1 := hB1.ext hx3
  replace hB2 := hB2.ext hx3
  simp only [Value.cells] at hB3
  refine WL.qq (by simp only [EN, Nat.reduceEqDiff, reduceIte, qv_assign, strEq, hB1.cell, hB2.cell, hB3.cell]; rfl) ?_
  refine WL.nil ?_
  refine th_norm ?_
  refine hx_seq ?_
  refine hx_seq ?_
  refine hx_region ?_
  have hz1 := hx1.size; have hz2 := hx2.size; have hz3 := hx3.size; have hSf : SfX p al h h3 := ⟨Sf.ext ((hx1).trans ((hx2).trans (hx3)))⟩; have hn3b : h.size ≤ B3 := (by omega)
  refine WL.qq (by simp only [EN, Nat.reduceEqDiff, reduceIte, qv_fieldAddr, fa62_0, Nat.zero_add, Nat.reduceAdd, strEq, hB1.cell, hB2.cell, hB3.cell]; rfl) ?_
  refine WL.qq (by simp only [EN, Nat.reduceEqDiff, reduceIte, qv_load, ld5, readN, AR, Nat.zero_add, Nat.reduceAdd, strEq, hB1.cell, hB2.cell, hB3.cell]; rfl) ?_
  refine WL.qq (by simp only [EN, Nat.reduceEqDiff, reduceIte, qv_binOp, strEq, hB1.cell, hB2.cell, hB3.cell]; (try simp (disch := omega) only [binv_rem, w64, w8, wu64]); rfl) ?_
  refine WL.nil ?_
  refine th_norm ?_
  refine hx_block ?_
  refine hx_seq ?_
  refine hx_region ?_
  have hk3 := ho.k
  refine WL.qq (by simp only [EN, Nat.reduceEqDiff, reduceIte, qv_binOp, binv_eql, eq5, Option.map_some, strEq, hB1.cell, hB2.cell, hB3.cell]; rfl) ?_
  refine WL.qq (by simp only [EN, Nat.reduceEqDiff, reduceIte, qv_assign, strEq, hB1.cell, hB2.cell, hB3.cell]; rfl) ?_
  refine WL.nil ?_
  refine th_norm ?_
  refine hx_cond (by simp only [EN, Nat.reduceEqDiff, reduceIte, strEq, hB1.cell, hB2.cell, hB3.cell]; rfl) (fun hct23 => ?_) (fun hct23 => ?_)
  ·
    try simp only [BD] at hct23
    refine hx_seq ?_
    refine hx_region ?_
    refine WL.qq (by simp only [EN, Nat.reduceEqDiff, reduceIte, qv_move, e0, strEq, hB1.cell, hB2.cell, hB3.cell]; rfl) ?_
    refine WL.qq (by simp only [EN, Nat.reduceEqDiff, reduceIte, qv_fieldAddr, fa62_1, Nat.zero_add, Nat.reduceAdd, strEq, hB1.cell, hB2.cell, hB3.cell]; rfl) ?_
    refine WL.qq (by simp only [EN, Nat.reduceEqDiff, reduceIte, qv_load, ld9, readN, AR, Nat.zero_add, Nat.reduceAdd, strEq, hB1.cell, hB2.cell, hB3.cell]; rfl) ?_
    refine WL.ce Try.call22 (by simp only [EN, Nat.reduceEqDiff, reduceIte, AR, strEq, hB1.cell, hB2.cell, hB3.cell]; exact c_Send o.s hS ht) ?_
    rintro _ h20 ⟨rfl, al', cap', ht20, hs20, hal20⟩
    simp only [put_some]
    replace hB1 := ht.has hs20 hB1 (by decide) (by decide)
    replace hB2 := ht.has hs20 hB2 (by decide) (by decide)
    replace hB3 := ht.has hs20 hB3 (by decide) (by decide)
    replace hK := ht.slR hs20 hK (by decide) (by decide)
    replace hSf : SfX _ _ _ _ := ⟨hSf.s.trans hs20⟩
    have ht := ht20
    refine WL.qq (by simp only [EN, Nat.reduceEqDiff, reduceIte, qv_move, strEq, hB1.cell, hB2.cell, hB3.cell]; rfl) ?_
    refine WL.qq (by simp only [EN, Nat.reduceEqDiff, reduceIte, qv_extract, AR, strEq, hB1.cell, hB2.cell, hB3.cell]; rfl) ?_
    refine WL.qq (by simp only [EN, Nat.reduceEqDiff, reduceIte, qv_extract, AR, strEq, hB1.cell, hB2.cell, hB3.cell]; rfl) ?_
    refine WL.allocSt zr43 sz43 (fun u => by simp only [EN, Nat.reduceEqDiff, reduceIte, Value.cells, strEq, hB1.cell, hB2.cell, hB3.cell]; rfl) ⟨rfl, rfl⟩ (by simp [Value.oneCell']) ?_
    intro h4 B4 hx4 hlt4 hB4
    replace ht := ht.ext hx4
    replace hK := hK.ext hx4
    replace hB1 := hB1.ext hx4
    replace hB2 := hB2.ext hx4
    replace hB3 := hB3.ext hx4
    replace hSf := hSf.ext hx4
    refine WL.qq (by simp only [EN, Nat.reduceEqDiff, reduceIte, qv_assign, strEq, hB1.cell, hB2.cell, hB3.cell, hB4.cell]; rfl) ?_
    refine WL.nil ?_
    refine th_norm ?_
    refine hx_seq ?_
    refine hx_region ?_
    refine WL.qq (by simp only [EN, Nat.reduceEqDiff, reduceIte, qv_load, ld60, readN, AR, Nat.zero_add, Nat.reduceAdd, strEq, hB1.cell, hB2.cell, hB3.cell, hB4.cell]; rfl) ?_
    refine WL.qq (by simp only [EN, Nat.reduceEqDiff, reduceIte, qv_fieldAddr, fa62_1, Nat.zero_add, Nat.reduceAdd, strEq, hB1.cell, hB2.cell, hB3.cell, hB4.cell]; rfl) ?_
    refine WL.qq (by simp only [EN, Nat.reduceEqDiff, reduceIte, qv_load, ld9, readN, AR, Nat.zero_add, Nat.reduceAdd, strEq, hB1.cell, hB2.cell, hB3.cell, hB4.cell]; rfl) ?_
    refine WL.ce Try.call42 (by simp only [EN, Nat.reduceEqDiff, reduceIte, AR, strEq, hB1.cell, hB2.cell, hB3.cell, hB4.cell]; exact c_rSend ar cr o.s hS hK hcr) ?_
    rintro _ h5 ⟨hx5, u2, rfl, hr2⟩
    replace ht := ht.ext hx5
    replace hK := hK.ext hx5
    replace hB1 := hB1.ext hx5
    replace hB2 := hB2.ext hx5
    replace hB3 := hB3.ext hx5
    replace hSf := hSf.ext hx5
    replace hB4 := hB4.ext hx5
    simp only [put_some]
    obtain ⟨ar2, cr2, rfl, hK2, hcr2⟩ := hr2.ex
    refine WL.qq (by simp only [EN, Nat.reduceEqDiff, reduceIte, qv_move, strEq, hB1.cell, hB2.cell, hB3.cell, hB4.cell]; rfl) ?_
    refine WL.qq (by simp only [EN, Nat.reduceEqDiff, reduceIte, qv_extract, AR, strEq, hB1.cell, hB2.cell, hB3.cell, hB4.cell]; rfl) ?_
    refine WL.qq (by simp only [EN, Nat.reduceEqDiff, reduceIte, qv_extract, AR, strEq, hB1.cell, hB2.cell, hB3.cell, hB4.cell]; rfl) ?_
    refine WL.qq (by simp only [EN, Nat.reduceEqDiff, reduceIte, qv_extract, AR, strEq, hB1.cell, hB2.cell, hB3.cell, hB4.cell]; rfl) ?_
    have q1 := (Array.getElem?_eq_some_iff.1 hB3).1; have q2 := (Array.getElem?_eq_some_iff.1 hB4).1; have hkl : ∀ g off, ar2 = some ⟨g, off, none⟩ → g < Array.size h5 := (fun g off ha => by obtain ⟨cu, hc⟩ := hK2.ty g off ha; exact (Array.getElem?_eq_some_iff.1 hc).1)
    have hzE := ht.E.size; have hzS := hSf.s.1
    refine WL.alloc2 zr60 ?_
    intro h6 B6 hx6 hlt6 hB6
    replace ht := ht.ext hx6
    replace hK := hK.ext hx6
    replace hB1 := hB1.ext hx6
    replace hB2 := hB2.ext hx6
    replace hB3 := hB3.ext hx6
    replace hSf := hSf.ext hx6
    replace hB4 := hB4.ext hx6
    replace hK2 := hK2.ext hx6
    simp only [Value.cells] at hB6
    have q3 := (Array.getElem?_eq_some_iff.1 hB6).1
    refine WL.alloc2 zr46 ?_
    intro h7 B7 hx7 hlt7 hB7
    replace ht := ht.ext hx7
    replace hK := hK.ext hx7
    replace hB1 := hB1.ext hx7
    replace hB2 := hB2.ext hx7
    replace hB3 := hB3.ext hx7
    replace hSf := hSf.ext hx7
    replace hB4 := hB4.ext hx7
    replace hK2 := hK2.ext hx7
    replace hB6 := hB6.ext hx7
    simp only [Value.cells] at hB7
    refine WL.store (by simp only [EN, Nat.reduceEqDiff, reduceIte, e0, e1, e2, strEq, hB1.cell, hB2.cell, hB3.cell, hB4.cell, hB6.cell, hB7.cell] <;> rfl) sz60 (by simp only [EN, Nat.reduceEqDiff, reduceIte, e0, e1, e2, strEq, hB1.cell, hB2.cell, hB3.cell, hB4.cell, hB6.cell, hB7.cell, Value.cells]; rfl) rfl hB6 (by simp) (by intro u hu; simp at hu; rcases hu with rfl | rfl | rfl | rfl <;> rfl) ?_
    intro hq4_10 hw4_10
    simp only [splc, List.take_succ_cons, List.take_zero, List.take_nil, List.drop_succ_cons, List.drop_zero, List.drop_nil, List.cons_append, List.nil_append, List.length_cons, List.length_nil, Nat.zero_add, Nat.add_zero, Nat.reduceAdd, List.append_nil] at hw4_10
    have hn0 : h0.size ≤ B6 := (by omega)
    have hn1 : h.size ≤ B6 := (by omega)
    replace ht := ht.wr hB6 (by decide) (by decide) hw4_10 hn0
    replace hK2 := hK2.wr hw4_10 hB6 (by decide)
    have hne : B3 ≠ B6 := (by omega)
    replace hB3 := hB3.wr hw4_10 hne
    clear hne
    have hne : B4 ≠ B6 := (by omega)
    replace hB4 := hB4.wr hw4_10 hne
    clear hne
    have hne : B7 ≠ B6 := (by omega)
    replace hB7 := hB7.wr hw4_10 hne
    clear hne
    replace hSf : SfX _ _ _ _ := .mk <| hSf.s.wrn hw4_10 (.inr hn1)
    replace hB6 := hw4_10.at_
    clear hn0 hn1
    refine WL.store (by simp only [EN, Nat.reduceEqDiff, reduceIte, e0, e1, e2, strEq, hB1.cell, hB2.cell, hB3.cell, hB4.cell, hB6.cell, hB7.cell] <;> rfl) sz46 (by simp only [EN, Nat.reduceEqDiff, reduceIte, e0, e1, e2, strEq, hB1.cell, hB2.cell, hB3.cell, hB4.cell, hB6.cell, hB7.cell, Value.cells]; rfl) rfl hB7 (by simp) (by intro u hu; simp at hu; rcases hu with rfl | rfl <;> rfl) ?_
    intro hq4_11 hw4_11
    simp only [splc, List.take_succ_cons, List.take_zero, List.take_nil, List.drop_succ_cons, List.drop_zero, List.drop_nil, List.cons_append, List.nil_append, List.length_cons, List.length_nil, Nat.zero_add, Nat.add_zero, Nat.reduceAdd, List.append_nil] at hw4_11
    have hn0 : h0.size ≤ B7 := (by omega)
    have hn1 : h.size ≤ B7 := (by omega)
    replace ht := ht.wr hB7 (by decide) (by decide) hw4_11 hn0
    replace hK2 := hK2.gs (S := [B7]) (Gs.ofWr hw4_11 (by simp)) (fun g off ha hm => by simp at hm; have := hkl g off ha; omega)
    have hne : B3 ≠ B7 := (by omega)
    replace hB3 := hB3.wr hw4_11 hne
    clear hne
    have hne : B4 ≠ B7 := (by omega)
    replace hB4 := hB4.wr hw4_11 hne
    clear hne
    have hne : B6 ≠ B7 := (by omega)
    replace hB6 := hB6.wr hw4_11 hne
    clear hne
    replace hSf : SfX _ _ _ _ := .mk <| hSf.s.wrn hw4_11 (.inr hn1)
    replace hB7 := hw4_11.at_
    clear hn0 hn1
    refine WL.qq (by simp only [EN, Nat.reduceEqDiff, reduceIte, qv_assign, strEq, hB1.cell, hB2.cell, hB3.cell, hB4.cell, hB6.cell, hB7.cell]; rfl) ?_
    refine WL.nil ?_
    refine th_norm ?_
    refine hx_seq ?_
    apply hx_draw2 Rel.same [9, 10] [] [] rfl (by decide +kernel) rfl
    refine LD.qq rfl rfl (by simp only [EN, Nat.reduceEqDiff, reduceIte, qv_load, ld60, readN, AR, Nat.zero_add, Nat.reduceAdd, strEq, hB1.cell, hB2.cell, hB3.cell, hB4.cell, hB6.cell, hB7.cell]; rfl) ?_
    refine LD.qq rfl rfl (by simp only [EN, Nat.reduceEqDiff, reduceIte, qv_load, ld43, readN, AR, Nat.zero_add, Nat.reduceAdd, strEq, hB1.cell, hB2.cell, hB3.cell, hB4.cell, hB6.cell, hB7.cell]; rfl) ?_
    refine LD.qq rfl rfl (by simp only [EN, Nat.reduceEqDiff, reduceIte, qv_load, ld46, readN, AR, Nat.zero_add, Nat.reduceAdd, strEq, hB1.cell, hB2.cell, hB3.cell, hB4.cell, hB6.cell, hB7.cell]; rfl) ?_
    refine LD.qq rfl rfl (by simp only [EN, Nat.reduceEqDiff, reduceIte, qv_binOp, binv_eql, eqs46, Option.map_some, strEq, hB1.cell, hB2.cell, hB3.cell, hB4.cell, hB6.cell, hB7.cell]; rfl) ?_
    refine LD.qq rfl rfl (by simp only [EN, Nat.reduceEqDiff, reduceIte, qv_move, strEq, hB1.cell, hB2.cell, hB3.cell, hB4.cell, hB6.cell, hB7.cell]; rfl) ?_
    refine LD.cq rfl rfl (gd_at (t := 44) rfl (by simp only [EN, Nat.reduceEqDiff, reduceIte, strEq, hB1.cell, hB2.cell, hB3.cell, hB4.cell, hB6.cell, hB7.cell] <;> rfl)) (fun hg5_5 => by simp only [EN, Nat.reduceEqDiff, reduceIte, qv_move, strEq, hB1.cell, hB2.cell, hB3.cell, hB4.cell, hB6.cell, hB7.cell, hg5_5, GR]; rfl) ?_
    refine LD.cq rfl rfl (gd_at (t := 44) rfl (by simp only [EN, Nat.reduceEqDiff, reduceIte, strEq, hB1.cell, hB2.cell, hB3.cell, hB4.cell, hB6.cell, hB7.cell] <;> rfl)) (fun hg5_6 => by simp only [EN, Nat.reduceEqDiff, reduceIte, qv_move, strEq, hB1.cell, hB2.cell, hB3.cell, hB4.cell, hB6.cell, hB7.cell, hg5_6, GR]; rfl) ?_
    refine LD.cq rfl rfl (gd_at (t := 44) rfl (by simp only [EN, Nat.reduceEqDiff, reduceIte, strEq, hB1.cell, hB2.cell, hB3.cell, hB4.cell, hB6.cell, hB7.cell] <;> rfl)) (fun hg5_7 => by simp only [EN, Nat.reduceEqDiff, reduceIte, qv_binOp, binv_eql, eq3, Option.map_some, strEq, hB1.cell, hB2.cell, hB3.cell, hB4.cell, hB6.cell, hB7.cell, hg5_7, GR]; rfl) ?_
    refine LD.qq rfl rfl (by simp only [EN, Nat.reduceEqDiff, reduceIte, qv_pick, pk_and, pk_or, GR, strEq, hB1.cell, hB2.cell, hB3.cell, hB4.cell, hB6.cell, hB7.cell]; rfl) ?_
    refine LD.skip rfl ?_
    refine LD.skip rfl ?_
    refine LD.nil ?_
    rintro _ rfl -
    refine WL.store (by simp only [EN, Nat.reduceEqDiff, reduceIte, e0, e1, e2, strEq, hB1.cell, hB2.cell, hB3.cell, hB4.cell, hB6.cell, hB7.cell] <;> rfl) sz60 (by simp only [EN, Nat.reduceEqDiff, reduceIte, e0, e1, e2, strEq, hB1.cell, hB2.cell, hB3.cell, hB4.cell, hB6.cell, hB7.cell, Value.cells]; rfl) rfl hB3 (by simp) (by intro u hu; simp at hu; rcases hu with rfl | rfl | rfl | rfl <;> rfl) ?_
    intro hq5_9 hw5_9
    simp only [splc, List.take_succ_cons, List.take_zero, List.take_nil, List.drop_succ_cons, List.drop_zero, List.drop_nil, List.cons_append, List.nil_append, List.length_cons, List.length_nil, Nat.zero_add, Nat.add_zero, Nat.reduceAdd, List.append_nil] at hw5_9
    have hn0 : h0.size ≤ B3 := (by omega)
    have hn1 : h.size ≤ B3 := (by omega)
    replace ht := ht.wr hB3 (by decide) (by decide) hw5_9 hn0
    replace hK2 := hK2.wr hw5_9 hB3 (by decide)
    replace hSf : SfX _ _ _ _ := .mk <| hSf.s.wrn hw5_9 (.inr hn1)
    replace hB3 := hw5_9.at_
    clear hn0 hn1
    refine WL.qq (by simp only [EN, Nat.reduceEqDiff, reduceIte, qv_assign, strEq, hB1.cell, hB2.cell, hB3.cell, hB4.cell, hB6.cell, hB7.cell]; rfl) ?_
    refine WL.nil ?_
    refine th_norm ?_
    refine hx_ret ?_
    refine bl_ret ?_
    refine th_ret ?_
    refine fin_ret [.cell 6 60, .tmp 7] rfl rfl (by simp only [EN, Nat.reduceEqDiff, reduceIte, resv, ld60, readN, AR, Nat.zero_add, Nat.reduceAdd, e0, e1, e2, strEq, hB1.cell, hB2.cell, hB3.cell, hB4.cell, hB6.cell, hB7.cell]; rfl) ?_  -- ret 0 r5
    have h3 : o.k % 3 = 0 := (by omega)
    rw [stN, stA, stK, if_pos h3, if_neg (by omega), if_pos h3]
    exact ⟨_, by simp [retOf], ⟨ar2, cr2, rfl, hK2, hcr2⟩, hSf.s, al', cap', ht, fun c off q => (hal20 c off q).imp id (fun h9 => by omega)⟩
  ·
    try simp only [BD] at hct23
    refine hx_seq ?_
    refine hx_region ?_
    refine WL.qq (by simp only [EN, Nat.reduceEqDiff, reduceIte, qv_binOp, binv_eql, eq5, Option.map_some, strEq, hB1.cell, hB2.cell, hB3.cell]; rfl) ?_
    refine WL.qq (by simp only [EN, Nat.reduceEqDiff, reduceIte, qv_assign, strEq, hB1.cell, hB2.cell, hB3.cell]; rfl) ?_
    refine WL.nil ?_
    refine th_norm ?_
    refine hx_cond (by simp only [EN, Nat.reduceEqDiff, reduceIte, strEq, hB1.cell, hB2.cell, hB3.cell]; rfl) (fun hct49 => ?_) (fun hct49 => ?_)
    ·
      try simp only [BD] at hct49
      refine hx_seq ?_
      refine hx_region ?_
      refine WL.qq (by simp only [EN, Nat.reduceEqDiff, reduceIte, qv_move, e0, strEq, hB1.cell, hB2.cell, hB3.cell]; rfl) ?_
      refine WL.qq (by simp only [EN, Nat.reduceEqDiff, reduceIte, qv_fieldAddr, fa62_2, Nat.zero_add, Nat.reduceAdd, strEq, hB1.cell, hB2.cell, hB3.cell]; rfl) ?_
      refine WL.qq (by simp only [EN, Nat.reduceEqDiff, reduceIte, qv_load, ld3, readN, AR, Nat.zero_add, Nat.reduceAdd, strEq, hB1.cell, hB2.cell, hB3.cell]; rfl) ?_
      refine WL.ce Try.call23 (by simp only [EN, Nat.reduceEqDiff, reduceIte, AR, strEq, hB1.cell, hB2.cell, hB3.cell]; exact c_Acknowledge o.a hS ht) ?_
      rintro _ h20 ⟨rfl, al', cap', ht20, hs20, hal20⟩
      simp only [put_some]
      replace hB1 := ht.has hs20 hB1 (by decide) (by decide)
      replace hB2 := ht.has hs20 hB2 (by decide) (by decide)
      replace hB3 := ht.has hs20 hB3 (by decide) (by decide)
      replace hK := ht.slR hs20 hK (by decide) (by decide)
      replace hSf : SfX _ _ _ _ := ⟨hSf.s.trans hs20⟩
      have ht := ht20
      refine WL.qq (by simp only [EN, Nat.reduceEqDiff, reduceIte, qv_assign, strEq, hB1.cell, hB2.cell, hB3.cell]; rfl) ?_
      refine WL.nil ?_
      refine th_norm ?_
      refine hx_seq ?_
      refine hx_region ?_
      refine WL.qq (by simp only [EN, Nat.reduceEqDiff, reduceIte, qv_load, ld60, readN, AR, Nat.zero_add, Nat.reduceAdd, strEq, hB1.cell, hB2.cell, hB3.cell]; rfl) ?_
      refine WL.qq (by simp only [EN, Nat.reduceEqDiff, reduceIte, qv_fieldAddr, fa62_2, Nat.zero_add, Nat.reduceAdd, strEq, hB1.cell, hB2.cell, hB3.cell]; rfl) ?_
      refine WL.qq (by simp only [EN, Nat.reduceEqDiff, reduceIte, qv_load, ld3, readN, AR, Nat.zero_add, Nat.reduceAdd, strEq, hB1.cell, hB2.cell, hB3.cell]; rfl) ?_
      refine WL.ce Try.call43 (by simp only [EN, Nat.reduceEqDiff, reduceIte, AR, strEq, hB1.cell, hB2.cell, hB3.cell]; exact c_rAck ar cr o.a hS hK hcr) ?_
      rintro _ h8 ⟨hx8, u2, rfl, hr2⟩
      replace ht := ht.ext hx8
      replace hK := hK.ext hx8
      replace hB1 := hB1.ext hx8
      replace hB2 := hB2.ext hx8
      replace hB3 := hB3.ext hx8
      replace hSf := hSf.ext hx8
      simp only [put_some]
      obtain ⟨ar2, cr2, rfl, hK2, hcr2⟩ := hr2.ex
      refine WL.qq (by simp only [EN, Nat.reduceEqDiff, reduceIte, qv_move, strEq, hB1.cell, hB2.cell, hB3.cell]; rfl) ?_
      refine WL.qq (by simp only [EN, Nat.reduceEqDiff, reduceIte, qv_extract, AR, strEq, hB1.cell, hB2.cell, hB3.cell]; rfl) ?_
      refine WL.qq (by simp only [EN, Nat.reduceEqDiff, reduceIte, qv_extract, AR, strEq, hB1.cell, hB2.cell, hB3.cell]; rfl) ?_
      refine WL.allocSt zr60 sz60 (fun u => by simp only [EN, Nat.reduceEqDiff, reduceIte, Value.cells, strEq, hB1.cell, hB2.cell, hB3.cell]; rfl) ⟨rfl, rfl⟩ (by simp [Value.oneCell']) ?_
      intro h9 B9 hx9 hlt9 hB9
      replace ht := ht.ext hx9
      replace hK := hK.ext hx9
      replace hB1 := hB1.ext hx9
      replace hB2 := hB2.ext hx9
      replace hB3 := hB3.ext hx9
      replace hSf := hSf.ext hx9
      replace hK2 := hK2.ext hx9
      refine WL.qq (by simp only [EN, Nat.reduceEqDiff, reduceIte, qv_assign, strEq, hB1.cell, hB2.cell, hB3.cell, hB9.cell]; rfl) ?_
      refine WL.nil ?_
      refine th_norm ?_
      refine hx_seq ?_
      refine hx_region ?_
      have hzE := ht.E.size; have hzS := hSf.s.1
      refine WL.qq (by simp only [EN, Nat.reduceEqDiff, reduceIte, qv_load, ld60, readN, AR, Nat.zero_add, Nat.reduceAdd, strEq, hB1.cell, hB2.cell, hB3.cell, hB9.cell]; rfl) ?_
      refine WL.qq (by simp only [EN, Nat.reduceEqDiff, reduceIte, qv_move, strEq, hB1.cell, hB2.cell, hB3.cell, hB9.cell]; rfl) ?_
      refine WL.qq (by simp only [EN, Nat.reduceEqDiff, reduceIte, qv_move, strEq, hB1.cell, hB2.cell, hB3.cell, hB9.cell]; rfl) ?_
      refine WL.qq (by simp only [EN, Nat.reduceEqDiff, reduceIte, qv_binOp, binv_eql, eq3, Option.map_some, strEq, hB1.cell, hB2.cell, hB3.cell, hB9.cell]; rfl) ?_
      refine WL.store (by simp only [EN, Nat.reduceEqDiff, reduceIte, e0, e1, e2, strEq, hB1.cell, hB2.cell, hB3.cell, hB9.cell] <;> rfl) sz60 (by simp only [EN, Nat.reduceEqDiff, reduceIte, e0, e1, e2, strEq, hB1.cell, hB2.cell, hB3.cell, hB9.cell, Value.cells]; rfl) rfl hB3 (by simp) (by intro u hu; simp at hu; rcases hu with rfl | rfl | rfl | rfl <;> rfl) ?_
      intro hq9_4 hw9_4
      simp only [splc, List.take_succ_cons, List.take_zero, List.take_nil, List.drop_succ_cons, List.drop_zero, List.drop_nil, List.cons_append, List.nil_append, List.length_cons, List.length_nil, Nat.zero_add, Nat.add_zero, Nat.reduceAdd, List.append_nil] at hw9_4
      have hn0 : h0.size ≤ B3 := (by omega)
      have hn1 : h.size ≤ B3 := (by omega)
      replace ht := ht.wr hB3 (by decide) (by decide) hw9_4 hn0
      replace hK2 := hK2.wr hw9_4 hB3 (by decide)
      replace hSf : SfX _ _ _ _ := .mk <| hSf.s.wrn hw9_4 (.inr hn1)
      replace hB3 := hw9_4.at_
      clear hn0 hn1
      refine WL.qq (by simp only [EN, Nat.reduceEqDiff, reduceIte, qv_assign, strEq, hB1.cell, hB2.cell, hB3.cell, hB9.cell]; rfl) ?_
      refine WL.nil ?_
      refine th_norm ?_
      refine hx_ret ?_
      refine bl_ret ?_
      refine th_ret ?_
      refine fin_ret [.cell 6 60, .tmp 7] rfl rfl (by simp only [EN, Nat.reduceEqDiff, reduceIte, resv, ld60, readN, AR, Nat.zero_add, Nat.reduceAdd, e0, e1, e2, strEq, hB1.cell, hB2.cell, hB3.cell, hB9.cell]; rfl) ?_  -- ret 1 r9
      have h3 : o.k % 3 = 1 := (by omega)
      rw [stN, stA, stK, if_neg (by omega), if_pos h3, if_neg (by omega), if_pos h3]
      exact ⟨_, by simp [retOf], ⟨ar2, cr2, rfl, hK2, hcr2⟩, hSf.s, al', cap', ht, fun c off q => (hal20 c off q).imp id (fun h9 => by omega)⟩
    ·
      try simp only [BD] at hct49
      refine hx_skip ?_
      refine bl_norm ?_
      refine th_norm ?_
      refine hx_seq ?_
      refine hx_region ?_
      refine WL.qq (by simp only [EN, Nat.reduceEqDiff, reduceIte, qv_move, e0, strEq, hB1.cell, hB2.cell, hB3.cell]; rfl) ?_
      refine WL.qq (by simp only [EN, Nat.reduceEqDiff, reduceIte, qv_fieldAddr, fa62_2, Nat.zero_add, Nat.reduceAdd, strEq, hB1.cell, hB2.cell, hB3.cell]; rfl) ?_
      refine WL.qq (by simp only [EN, Nat.reduceEqDiff, reduceIte, qv_load, ld3, readN, AR, Nat.zero_add, Nat.reduceAdd, strEq, hB1.cell, hB2.cell, hB3.cell]; rfl) ?_
      refine WL.qq (by simp only [EN, Nat.reduceEqDiff, reduceIte, qv_fieldAddr, fa62_3, Nat.zero_add, Nat.reduceAdd, strEq, hB1.cell, hB2.cell, hB3.cell]; rfl) ?_
      refine WL.qq (by simp only [EN, Nat.reduceEqDiff, reduceIte, qv_load, ld3, readN, AR, Nat.zero_add, Nat.reduceAdd, strEq, hB1.cell, hB2.cell, hB3.cell]; rfl) ?_
      refine WL.qq (by refine qv_bld (by simp only [EN, Nat.reduceEqDiff, reduceIte, AR, strEq, hB1.cell, hB2.cell, hB3.cell] <;> rfl) (by rw [bl70]; simp [Instr.fill, Value.cells]; rfl)) ?_
      refine WL.ce Try.call28 (by simp only [EN, Nat.reduceEqDiff, reduceIte, AR, strEq, hB1.cell, hB2.cell, hB3.cell]; exact c_Resend o.a o.b hS ht) ?_
      rintro _ h10 ⟨hx10, b1, c1, rfl, hsl⟩
      replace ht := ht.ext hx10
      replace hK := hK.ext hx10
      replace hB1 := hB1.ext hx10
      replace hB2 := hB2.ext hx10
      replace hB3 := hB3.ext hx10
      replace hSf := hSf.ext hx10
      simp only [put_some]
      refine WL.qq (by simp only [EN, Nat.reduceEqDiff, reduceIte, qv_move, strEq, hB1.cell, hB2.cell, hB3.cell]; rfl) ?_
      refine WL.qq (by simp only [EN, Nat.reduceEqDiff, reduceIte, qv_extract, AR, strEq, hB1.cell, hB2.cell, hB3.cell]; rfl) ?_
      refine WL.qq (by simp only [EN, Nat.reduceEqDiff, reduceIte, qv_extract, AR, strEq, hB1.cell, hB2.cell, hB3.cell]; rfl) ?_
      refine WL.qq (by simp only [EN, Nat.reduceEqDiff, reduceIte, qv_assign, strEq, hB1.cell, hB2.cell, hB3.cell]; rfl) ?_
      refine WL.qq (by simp only [EN, Nat.reduceEqDiff, reduceIte, qv_assign, strEq, hB1.cell, hB2.cell, hB3.cell]; rfl) ?_
      refine WL.nil ?_
      refine th_norm ?_
      refine hx_seq ?_
      refine hx_region ?_
      refine WL.qq (by simp only [EN, Nat.reduceEqDiff, reduceIte, qv_load, ld60, readN, AR, Nat.zero_add, Nat.reduceAdd, strEq, hB1.cell, hB2.cell, hB3.cell]; rfl) ?_
      refine WL.qq (by simp only [EN, Nat.reduceEqDiff, reduceIte, qv_fieldAddr, fa62_2, Nat.zero_add, Nat.reduceAdd, strEq, hB1.cell, hB2.cell, hB3.cell]; rfl) ?_
      refine WL.qq (by simp only [EN, Nat.reduceEqDiff, reduceIte, qv_load, ld3, readN, AR, Nat.zero_add, Nat.reduceAdd, strEq, hB1.cell, hB2.cell, hB3.cell]; rfl) ?_
      refine WL.qq (by simp only [EN, Nat.reduceEqDiff, reduceIte, qv_fieldAddr, fa62_3, Nat.zero_add, Nat.reduceAdd, strEq, hB1.cell, hB2.cell, hB3.cell]; rfl) ?_
      refine WL.qq (by simp only [EN, Nat.reduceEqDiff, reduceIte, qv_load, ld3, readN, AR, Nat.zero_add, Nat.reduceAdd, strEq, hB1.cell, hB2.cell, hB3.cell]; rfl) ?_
      refine WL.ce Try.call44 (by simp only [EN, Nat.reduceEqDiff, reduceIte, AR, strEq, hB1.cell, hB2.cell, hB3.cell]; exact c_rResend ar cr o.a o.b hS hK hcr) ?_
      rintro _ h11 ⟨hx11, b2, c2, rfl, hsr⟩
      replace ht := ht.ext hx11
      replace hK := hK.ext hx11
      replace hB1 := hB1.ext hx11
      replace hB2 := hB2.ext hx11
      replace hB3 := hB3.ext hx11
      replace hSf := hSf.ext hx11
      replace hsl := hsl.ext hx11
      simp only [put_some]
      refine WL.qq (by simp only [EN, Nat.reduceEqDiff, reduceIte, qv_move, strEq, hB1.cell, hB2.cell, hB3.cell]; rfl) ?_
      refine WL.qq (by simp only [EN, Nat.reduceEqDiff, reduceIte, qv_extract, AR, strEq, hB1.cell, hB2.cell, hB3.cell]; rfl) ?_
      refine WL.qq (by simp only [EN, Nat.reduceEqDiff, reduceIte, qv_extract, AR, strEq, hB1.cell, hB2.cell, hB3.cell]; rfl) ?_
      refine WL.qq (by simp only [EN, Nat.reduceEqDiff, reduceIte, qv_assign, strEq, hB1.cell, hB2.cell, hB3.cell]; rfl) ?_
      refine WL.qq (by simp only [EN, Nat.reduceEqDiff, reduceIte, qv_assign, strEq, hB1.cell, hB2.cell, hB3.cell]; rfl) ?_
      refine WL.nil ?_
      refine th_norm ?_
      refine hx_seq ?_
      apply hx_draw2 Rel.same [9, 10] [3] [(3, Spec.is _)] rfl (by decide +kernel) rfl
      have hzE := ht.E.size; have hzS := hSf.s.1
      refine LD.qq rfl rfl (by simp only [EN, Nat.reduceEqDiff, reduceIte, qv_load, ld60, readN, AR, Nat.zero_add, Nat.reduceAdd, strEq, hB1.cell, hB2.cell, hB3.cell]; rfl) ?_
      refine LD.qq rfl rfl (by simp only [EN, Nat.reduceEqDiff, reduceIte, qv_move, strEq, hB1.cell, hB2.cell, hB3.cell]; rfl) ?_
      refine LD.qq rfl rfl (by simp only [EN, Nat.reduceEqDiff, reduceIte, qv_move, strEq, hB1.cell, hB2.cell, hB3.cell]; rfl) ?_
      refine LD.ck rfl rfl Try.call27 (by intro hD hr; obtain rfl : hD = _ := hr; simp only [EN, Nat.reduceEqDiff, reduceIte, AR, strEq, hB1.cell, hB2.cell, hB3.cell]; exact c_msgs b1 _ c1 b2 _ c2 (by have := hS.kw; have := hS.w2; have := res_len n a o.a o.b K; omega) hsl.rd hsr.rd) ?_
      refine LD.qq rfl rfl (by simp only [EN, Nat.reduceEqDiff, reduceIte, qv_move, strEq, hB1.cell, hB2.cell, hB3.cell]; rfl) ?_
      refine LD.cq rfl rfl (gd_at (t := 89) rfl (by simp only [EN, Nat.reduceEqDiff, reduceIte, strEq, hB1.cell, hB2.cell, hB3.cell] <;> rfl)) (fun hg12_5 => by simp only [EN, Nat.reduceEqDiff, reduceIte, qv_move, strEq, hB1.cell, hB2.cell, hB3.cell, hg12_5, GR]; rfl) ?_
      refine LD.cq rfl rfl (gd_at (t := 89) rfl (by simp only [EN, Nat.reduceEqDiff, reduceIte, strEq, hB1.cell, hB2.cell, hB3.cell] <;> rfl)) (fun hg12_6 => by simp only [EN, Nat.reduceEqDiff, reduceIte, qv_move, strEq, hB1.cell, hB2.cell, hB3.cell, hg12_6, GR]; rfl) ?_
      refine LD.cq rfl rfl (gd_at (t := 89) rfl (by simp only [EN, Nat.reduceEqDiff, reduceIte, strEq, hB1.cell, hB2.cell, hB3.cell] <;> rfl)) (fun hg12_7 => by simp only [EN, Nat.reduceEqDiff, reduceIte, qv_binOp, binv_eql, eq3, Option.map_some, strEq, hB1.cell, hB2.cell, hB3.cell, hg12_7, GR]; rfl) ?_
      refine LD.qq rfl rfl (by simp only [EN, Nat.reduceEqDiff, reduceIte, qv_pick, pk_and, pk_or, GR, strEq, hB1.cell, hB2.cell, hB3.cell]; rfl) ?_
      refine LD.skip rfl ?_
      refine LD.skip rfl ?_
      refine LD.nil ?_
      rintro _ rfl -
      refine WL.store (by simp only [EN, Nat.reduceEqDiff, reduceIte, e0, e1, e2, strEq, hB1.cell, hB2.cell, hB3.cell] <;> rfl) sz60 (by simp only [EN, Nat.reduceEqDiff, reduceIte, e0, e1, e2, strEq, hB1.cell, hB2.cell, hB3.cell, Value.cells]; rfl) rfl hB3 (by simp) (by intro u hu; simp at hu; rcases hu with rfl | rfl | rfl | rfl <;> rfl) ?_
      intro hq12_9 hw12_9
      simp only [splc, List.take_succ_cons, List.take_zero, List.take_nil, List.drop_succ_cons, List.drop_zero, List.drop_nil, List.cons_append, List.nil_append, List.length_cons, List.length_nil, Nat.zero_add, Nat.add_zero, Nat.reduceAdd, List.append_nil] at hw12_9
      have hn0 : h0.size ≤ B3 := (by omega)
      have hn1 : h.size ≤ B3 := (by omega)
      replace ht := ht.wr hB3 (by decide) (by decide) hw12_9 hn0
      replace hK := hK.wr hw12_9 hB3 (by decide)
      replace hSf : SfX _ _ _ _ := .mk <| hSf.s.wrn hw12_9 (.inr hn1)
      replace hB3 := hw12_9.at_
      clear hn0 hn1
      refine WL.qq (by simp only [EN, Nat.reduceEqDiff, reduceIte, qv_assign, strEq, hB1.cell, hB2.cell, hB3.cell]; rfl) ?_
      refine WL.nil ?_
      refine th_norm ?_
      refine hx_ret ?_
      refine fin_ret [.cell 6 60, .tmp 7] rfl rfl (by simp only [EN, Nat.reduceEqDiff, reduceIte, resv, ld60, readN, AR, Nat.zero_add, Nat.reduceAdd, e0, e1, e2, strEq, hB1.cell, hB2.cell, hB3.cell]; rfl) ?_  -- ret 2 r12
      have h3 : o.k % 3 ≠ 0 ∧ o.k % 3 ≠ 1 := (by omega)
      rw [stN, stA, stK, if_neg h3.1, if_neg h3.2, if_neg h3.1, if_neg h3.2]
      exact ⟨_, by simp [retOf], ⟨ar, cr, rfl, hK, hcr⟩, hSf.s, al, cap, ht, fun c off q => .inl ⟨off, q⟩⟩
end GL

set_option linter.unusedSimpArgs false
set_option linter.unusedVariables false
set_option linter.unnecessarySimpa false
namespace GL
open Go Go.Proofs
set_option maxRecDepth 8000
/-- Rows of other types stay as they are. -/
def TyS (a b : Heap) : Prop := a.size ≤ b.size ∧ ∀ (c : Nat) (cur : Array Value) (T : TypeId), T ≠ 88 → T ≠ 43 → Has a c (.cells cur T) → Has b c (.cells cur T)
theorem TyS.refl (a : Heap) : TyS a a := ⟨Nat.le_refl _, fun _ _ _ _ _ h => h⟩
theorem TyS.trans {a b c : Heap} (h : TyS a b) (h' : TyS b c) : TyS a c := ⟨Nat.le_trans h.1 h'.1, fun x cu T h1 h2 h3 => h'.2 x cu T h1 h2 (h.2 x cu T h1 h2 h3)⟩
theorem TyS.ofExt {a b : Heap} (hx : Ext a b) : TyS a b := ⟨hx.size, fun _ _ _ _ _ h => h.ext hx⟩
theorem TyS.ofSf {h0 a b : Heap} {p cap : Nat} {w n x : Int} {al : Option Addr} {K : List M2} (ht : TS h0 a p w n x al cap K) (hs : Sf p al a b) : TyS a b := ⟨hs.1, fun _ _ _ h1 h2 h => ht.has hs h h1 h2⟩
theorem TyS.slR {α : Type} {el sz : Nat} {f : α → List Value} {a b : Heap} {c : Option Addr} {L : List α} (hy : TyS a b) (hL : SlR el sz f a c L) (h1 : el ≠ 88) (h2 : el ≠ 43) : SlR el sz f b c L := by
  have hn : ∀ g off, c = some ⟨g, off, none⟩ → b[g]? = a[g]? := fun g off ha => by
    obtain ⟨cu, hc⟩ := hL.ty g off ha
    exact (hy.2 g cu el h1 h2 hc).trans hc.symm
  refine ⟨fun i x hi => ?_, fun g off ha => ?_⟩
  · obtain ⟨g, off, ha, hr⟩ := hL.rd i x hi
    exact ⟨g, off, ha, by rw [readN_same (hn g off ha)]; exact hr⟩
  · obtain ⟨cu, hc⟩ := hL.ty g off ha
    exact ⟨cu, hy.2 g cu el h1 h2 hc⟩
theorem TyS.rs {a b : Heap} {v : Value} {w n x : Int} {K : List M2} (hy : TyS a b) (hr : RS a v w n x K) : RS b v w n x K := by
  obtain ⟨ar, cr, h1, h2, h3⟩ := hr.ex
  exact ⟨ar, cr, h1, hy.slR h2 (by decide) (by decide), h3⟩
def TSx (h0 h : Heap) (p : Nat) (w n a : Int) (K : List M2) : Prop := ∃ al cap, TS h0 h p w n a al cap K
theorem TSx.ext {h0 h h' : Heap} {p : Nat} {w n a : Int} {K : List M2} (ht : TSx h0 h p w n a K) (hx : Ext h h') : TSx h0 h' p w n a K := by
  obtain ⟨al, cap, h1⟩ := ht
  exact ⟨al, cap, h1.ext hx⟩
def Rel.sn (j : Nat) (h0 : Heap) (p : Nat) (w n a : Int) (al : Option Addr) (cap : Nat) (K : List M2) (n' a' : Int) (K' : List M2) : Rel where
  r := fun x y => TyS x y ∧ (TSx h0 x p w n' a' K' → TSx h0 y p w n' a' K') ∧ (Ext h0 x → Ext h0 y)
  refl := fun a => ⟨TyS.refl a, id, id⟩
  trans := fun h h' => ⟨h.1.trans h'.1, fun q => h'.2.1 (h.2.1 q), fun q => h'.2.2 (h.2.2 q)⟩
  neg := fun k x => k = j → TS h0 x p w n a al cap K
instance {j : Nat} {h0 : Heap} {p : Nat} {w n a : Int} {al : Option Addr} {cap : Nat} {K : List M2} {n' a' : Int} {K' : List M2} : RelF (Rel.sn j h0 p w n a al cap K n' a' K') := ⟨fun _ => rfl⟩
instance {j : Nat} {h0 : Heap} {p : Nat} {w n a : Int} {al : Option Addr} {cap : Nat} {K : List M2} {n' a' : Int} {K' : List M2} : RelL (Rel.sn j h0 p w n a al cap K n' a' K') := ⟨fun _ _ _ => trivial⟩
def Spec.sn (h0 : Heap) (p : Nat) (w n a : Int) (K : List M2) : Spec := ⟨fun v => ∃ u, v = .tuple #[u, .bool true], fun v h => ∀ u, v = .tuple #[u, .bool true] → TSx h0 h p w n a K ∧ RS h u w n a K,
  ⟨.tuple #[undef, .bool true], undef, rfl⟩, fun v h h' hx hm u hv => ⟨(hm u hv).1.ext hx, (hm u hv).2.ext hx⟩⟩
def Spec.cel (N : Nat) (c : Array Value) (t : TypeId) : Spec := ⟨fun v => ∃ B, N ≤ B ∧ v = .pointer (some ⟨B, 0, none⟩), fun v h => ∀ B, v = .pointer (some ⟨B, 0, none⟩) → Has h B (.cells c t),
  ⟨.pointer (some ⟨N, 0, none⟩), N, Nat.le_refl _, rfl⟩, fun v h h' hx hm B hv => (hm B hv).ext hx⟩
theorem sn_stable {j i1 i2 N p cap : Nat} {h0 : Heap} {w n a n' a' : Int} {al : Option Addr} {K K' : List M2} {c : Array Value} :
    Stable (Rel.sn j h0 p w n a al cap K n' a' K') (specOf [(i1, Spec.sn h0 p w n' a' K'), (i2, Spec.cel N c 60)]) := by
  intro i s hi u x y hr hm
  simp only [specOf, List.lookup] at hi
  repeat' split at hi
  all_goals cases hi
  · exact fun w hv => ⟨hr.2.1 (hm w hv).1, hr.1.rs (hm w hv).2⟩
  · exact fun B hv => hr.1.2 B _ _ (by decide) (by decide) (hm B hv)
/-- A step as an effect in an open order. -/
theorem sn_of {h0 x y : Heap} {p cap j : Nat} {w n a n' a' : Int} {al : Option Addr} {K K' : List M2} {v : Value} (ht : TS h0 x p w n a al cap K)
    (hh : ∃ u', v = .tuple #[u', .bool true] ∧ RS y u' w n' a' K' ∧ Sf p al x y ∧ ∃ al' cap', TS h0 y p w n' a' al' cap' K' ∧ Al x al al') :
    (Rel.sn j h0 p w n a al cap K n' a' K').r x y ∧ (Spec.sn h0 p w n' a' K').val v ∧ (Spec.sn h0 p w n' a' K').mem v y := by
  obtain ⟨u', rfl, h1, h2, al', cap', h3, _⟩ := hh
  exact ⟨⟨TyS.ofSf ht h2, fun _ => ⟨al', cap', h3⟩, fun _ => h3.E⟩, ⟨u', rfl⟩, fun u hv => by cases hv; exact ⟨⟨al', cap', h3⟩, h1⟩⟩
theorem rs_wr {h h' : Heap} {v : Value} {w n a : Int} {K : List M2} {B : Nat} {o : Obj} {c : Array Value} {T : TypeId} (hr : RS h v w n a K) (hw : Wr h h' B o) (hb : Has h B (.cells c T)) (hT : T ≠ 46) : RS h' v w n a K := by
  obtain ⟨ar, cr, h1, h2, h3⟩ := hr.ex
  exact ⟨ar, cr, h1, h2.wr hw hb hT, h3⟩
end GL


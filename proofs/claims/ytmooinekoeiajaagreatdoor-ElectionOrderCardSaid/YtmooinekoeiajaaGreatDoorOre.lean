/- The law ElectionOrder returns true: the results depend neither on the order of the holders nor on that of the choices of different holders. No condition beyond the row's own. -/
import Derived.Test.YtmooinekoeiajaaGreatDoorOrd
import Derived.Lay
import Derived.SevenTiedAt
import Derived.Test.YtmooinekoeiajaaGreatDoorRows
import Derived.Test.YtmooinekoeiajaaGreatDoorCards
import Derived.Test.YtmooinekoeiajaaGreatDoorTie
import Derived.Test.YtmooinekoeiajaaGreatDoorProg
set_option linter.unusedSimpArgs false
set_option linter.unusedVariables false
set_option linter.unnecessarySimpa false
namespace GL
open Go Go.Proofs
set_option maxRecDepth 8000
abbrev tyOp : TypeId := 43
theorem oxL_one (o : OX) : ∀ u ∈ oxL o, u.oneCell' = true := fun u hu => by simp at hu; rcases hu with rfl | rfl | rfl | rfl | rfl | rfl <;> rfl
theorem CzV.sl {h : Heap} {N : Nat} {x : SX} {L : List OX} {u : Value} (hv : CzV h N x L u) (h40 : x.l.length ≤ 40) :
    ∃ au R cu, u = .slice au R.length cu ∧ SlR tyRx 4 rxL h au R ∧ R = (if erX x = 0 then resE (chzE (nwX x) L) else []) ∧ R.length ≤ 640 := by
  rcases hv with ⟨he, rfl⟩ | ⟨he, au, cu, rfl, hO⟩
  · exact ⟨none, [], 0, rfl, SlR.own (base := N) (f := rxL) (sz := 4) (fun _ => rfl) Own.nil rfl, (if_neg he).symm, by simp⟩
  · exact ⟨au, _, cu, rfl, SlR.own (f := rxL) (sz := 4) (fun _ => rfl) hO rfl, (if_pos he).symm, (cz_ok he h40 L).2.2.2⟩
def othL (L : List OX) (l : List SI) : List OX := l.flatMap fun y => L.filter (byS y.s)
theorem oth_step {L : List OX} {l : List SI} {i : Nat} {y : SI} (hy : l[i]? = some y) : othL L (l.take (i + 1)) = othL L (l.take i) ++ L.filter (byS y.s) := by
  unfold othL
  rw [List.take_add_one, hy, List.flatMap_append]; simp
theorem oth_len {L : List OX} (h60 : L.length ≤ 60) (l : List SI) : (othL L l).length ≤ l.length * 60 := fmp_len (f := fun y : SI => L.filter (byS y.s)) (n := 60) (fun y => Nat.le_trans (List.length_filter_le _ _) h60) l
theorem fl_step {L : List OX} {p : OX → Bool} {j : Nat} {o : OX} (ho : L[j]? = some o) : (L.take (j + 1)).filter p = (L.take j).filter p ++ (if p o then [o] else []) := by
  rw [List.take_add_one, ho, List.filter_append]
  cases h : p o <;> simp [h]
theorem rev_step {l : List SI} {m : Nat} {y : SI} (hy : l[m]? = some y) : ((l.drop m).reverse).flatMap siL = ((l.drop (m + 1)).reverse).flatMap siL ++ siL y := by
  rw [drop_atG hy, List.reverse_cons, List.flatMap_append]; simp
set_option maxHeartbeats 4000000 in
theorem l_order (x : SX) (a : Option Addr) (L : List OX) (c : Nat) (hll : L.length ≤ 9223372036854775807) {h : Heap} (hs : SuI h x) (hsL : SlG 6 oxL h a L) :
    HCalls Tryz.prog 8 #[.agg (suC x), .slice a L.length c] h (Grow (.bool true) h) := by
  have hs0 := hs; have hsL0 := hsL
  refine hcalls2 Tryz.func8 rfl (by decide +kernel) (by simp only [Tryz.ntmps8]; exact of_decide_eq_true rfl) ?_
  intro e hin
  have e0 := hin 0 _ rfl
  have e1 := hin 1 _ rfl
  refine hx_seq (hx_region ?_)
  refine WL.box2 (by simp only [EN, Nat.reduceEqDiff, reduceIte, Value.cells, e0, decide_true, Bool.not_true, Bool.not_false, decide_false, eq_self, strEq, beq_self_eq_true]; rfl) ?_
  intro h1 B1 hx1 hlt1 hB1
  replace hs := hs.ext hx1
  replace hsL := hsL.ext hx1
  refine WL.qq (by simp only [EN, Nat.reduceEqDiff, reduceIte, qv_assign, decide_true, Bool.not_true, Bool.not_false, decide_false, eq_self, strEq, beq_self_eq_true, hB1.cell]; rfl) ?_
  refine WL.nil (th_norm (hx_seq (hx_seq (hx_region ?_))))
  refine WL.cg Tryz.call10 (by simp only [EN, Nat.reduceEqDiff, reduceIte, AR, decide_true, Bool.not_true, Bool.not_false, decide_false, eq_self, strEq, beq_self_eq_true, hB1.cell]; exact c_known44 _) ?_
  intro h2 hx2
  replace hs := hs.ext hx2
  replace hsL := hsL.ext hx2
  replace hB1 := hB1.ext hx2
  iterate 2 refine WL.qq (by simp only [EN, Nat.reduceEqDiff, reduceIte, qv_unOp, unv_not, decide_true, Bool.not_true, Bool.not_false, decide_false, eq_self, strEq, beq_self_eq_true, hB1.cell, qv_move]; rfl) ?_
  refine WL.cq (gd_at (t := 17) rfl (by simp only [EN, Nat.reduceEqDiff, reduceIte, decide_true, Bool.not_true, Bool.not_false, decide_false, eq_self, strEq, beq_self_eq_true, hB1.cell] <;> rfl)) (fun hg1_3 => by simp only [EN, Nat.reduceEqDiff, reduceIte, qv_load, ld27, readN, AR, Nat.zero_add, Nat.reduceAdd, decide_true, Bool.not_true, Bool.not_false, decide_false, eq_self, strEq, beq_self_eq_true, hB1.cell, hg1_3, GR]; rfl) ?_
  refine WL.cq (gd_at (t := 17) rfl (by simp only [EN, Nat.reduceEqDiff, reduceIte, e1, decide_true, Bool.not_true, Bool.not_false, decide_false, eq_self, strEq, beq_self_eq_true, hB1.cell] <;> rfl)) (fun hg1_4 => by simp only [EN, Nat.reduceEqDiff, reduceIte, qv_move, e1, decide_true, Bool.not_true, Bool.not_false, decide_false, eq_self, strEq, beq_self_eq_true, hB1.cell, hg1_4, GR]; rfl) ?_
  refine WL.ccg (gd_at (t := 17) rfl (by simp only [EN, Nat.reduceEqDiff, reduceIte, decide_true, Bool.not_true, Bool.not_false, decide_false, eq_self, strEq, beq_self_eq_true, hB1.cell] <;> rfl)) Tryz.call11 (fun hg1_5 => by simp only [EN, Nat.reduceEqDiff, reduceIte, AR, decide_true, Bool.not_true, Bool.not_false, decide_false, eq_self, strEq, beq_self_eq_true, hB1.cell, hg1_5, GR]; exact c_small x a L.length c hll _) ?_
  intro h3 hx3
  replace hs := hs.ext hx3
  replace hsL := hsL.ext hx3
  replace hB1 := hB1.ext hx3
  refine WL.cq (gd_at (t := 17) rfl (by simp only [EN, Nat.reduceEqDiff, reduceIte, decide_true, Bool.not_true, Bool.not_false, decide_false, eq_self, strEq, beq_self_eq_true, hB1.cell] <;> rfl)) (fun hg1_6 => by simp only [EN, Nat.reduceEqDiff, reduceIte, qv_unOp, unv_not, decide_true, Bool.not_true, Bool.not_false, decide_false, eq_self, strEq, beq_self_eq_true, hB1.cell, hg1_6, GR]; rfl) ?_
  refine WL.qq (by simp only [EN, Nat.reduceEqDiff, reduceIte, qv_pick, pk_and, pk_or, GR, decide_true, Bool.not_true, Bool.not_false, decide_false, eq_self, strEq, beq_self_eq_true, hB1.cell]; rfl) ?_
  refine WL.nil (th_norm ?_)
  refine hx_cond (by simp only [EN, Nat.reduceEqDiff, reduceIte, decide_true, Bool.not_true, Bool.not_false, decide_false, eq_self, strEq, beq_self_eq_true, hB1.cell]; rfl) (fun hct22 => ?_) (fun hct22 => ?_)
  ·
   try simp only [BD] at hct22
   refine hx_seq (hx_region ?_)
   refine WL.cg Tryz.call10 (by simp only [EN, Nat.reduceEqDiff, reduceIte, AR, decide_true, Bool.not_true, Bool.not_false, decide_false, eq_self, strEq, beq_self_eq_true, hB1.cell]; exact c_known44 _) ?_
   intro h4 hx4
   replace hs := hs.ext hx4
   replace hsL := hsL.ext hx4
   replace hB1 := hB1.ext hx4
   refine WL.qq (by simp only [EN, Nat.reduceEqDiff, reduceIte, qv_assign, decide_true, Bool.not_true, Bool.not_false, decide_false, eq_self, strEq, beq_self_eq_true, hB1.cell]; rfl) ?_
   refine WL.nil (th_norm (hx_ret (th_ret ?_)))
   refine fin_ret [.tmp 4] rfl rfl (by simp only [EN, Nat.reduceEqDiff, reduceIte, resv, e0, e1, decide_true, Bool.not_true, Bool.not_false, decide_false, eq_self, strEq, beq_self_eq_true, hB1.cell]; rfl) ?_
   exact ⟨rfl, ((hx1).trans ((hx2).trans ((hx3).trans (hx4))))⟩
  ·
   try simp only [BD] at hct22
   have hsm : smE x L.length := (by simpa using hct22); have hll1 : x.l.length ≤ 40 := hsm.1
   refine hx_skip (th_norm (hx_seq (hx_region ?_)))
   iterate 2 refine WL.qq (by simp only [EN, Nat.reduceEqDiff, reduceIte, qv_load, ld27, readN, AR, Nat.zero_add, Nat.reduceAdd, decide_true, Bool.not_true, Bool.not_false, decide_false, eq_self, strEq, beq_self_eq_true, hB1.cell, qv_move, e1]; rfl) ?_
   refine WL.ce Tryz.call25 (by simp only [EN, Nat.reduceEqDiff, reduceIte, AR, decide_true, Bool.not_true, Bool.not_false, decide_false, eq_self, strEq, beq_self_eq_true, hB1.cell]; exact c_closing x hsm.1 hsm.2.1 a L c (by have := hsm.2.2; omega) hs hsL) ?_
   rintro _ h5 ⟨hx5, u, rfl, hCz⟩
   replace hs := hs.ext hx5
   replace hsL := hsL.ext hx5
   replace hB1 := hB1.ext hx5
   simp only [put_some]
   obtain ⟨au, R, cu, rfl, hRS, hR, hR640⟩ := hCz.sl hsm.1
   iterate 5 refine WL.qq (by simp only [EN, Nat.reduceEqDiff, reduceIte, qv_move, decide_true, Bool.not_true, Bool.not_false, decide_false, eq_self, strEq, beq_self_eq_true, hB1.cell, qv_extract, AR, qv_assign]; rfl) ?_
   refine WL.nil (th_norm (hx_seq (hx_region ?_)))
   have hl1 := (Array.getElem?_eq_some_iff.1 hB1).1; have hz9 := Ext.size ((hx1).trans ((hx2).trans ((hx3).trans (hx5))))
   refine WL.qq (by simp only [EN, Nat.reduceEqDiff, reduceIte, qv_load, ld27, readN, AR, Nat.zero_add, Nat.reduceAdd, decide_true, Bool.not_true, Bool.not_false, decide_false, eq_self, strEq, beq_self_eq_true, hB1.cell]; rfl) ?_
   refine WL.allocSt zr27 sz27 (fun u => by simp only [EN, Nat.reduceEqDiff, reduceIte, Value.cells, decide_true, Bool.not_true, Bool.not_false, decide_false, eq_self, strEq, beq_self_eq_true, hB1.cell]; rfl) ⟨rfl, rfl⟩ (by simp [Value.oneCell']) ?_
   intro h6 B6 hx6 hlt6 hB6
   replace hs := hs.ext hx6
   replace hsL := hsL.ext hx6
   replace hB1 := hB1.ext hx6
   replace hRS := hRS.ext hx6
   refine WL.nil (th_norm (hx_seq (hx_region ?_)))
   have hRSo := hRS; have hB1o := hB1; have hXo := ((hx1).trans ((hx2).trans ((hx3).trans ((hx5).trans (hx6))))); have hbb : h.size ≤ B6 := (by have h9 := hlt6; omega); have hn1B : B1 ≠ B6 := (by have h9 := hlt6; omega)
   refine WL.qq (by simp only [EN, Nat.reduceEqDiff, reduceIte, qv_fieldAddr, fa27_0, Nat.zero_add, Nat.reduceAdd, decide_true, Bool.not_true, Bool.not_false, decide_false, eq_self, strEq, beq_self_eq_true, hB1.cell, hB6.cell]; rfl) ?_
   refine WL.store (by simp only [EN, Nat.reduceEqDiff, reduceIte, decide_true, Bool.not_true, Bool.not_false, decide_false, eq_self, strEq, beq_self_eq_true, hB1.cell, hB6.cell] <;> rfl) sz22 (by simp only [EN, Nat.reduceEqDiff, reduceIte, Value.cells, decide_true, Bool.not_true, Bool.not_false, decide_false, eq_self, strEq, beq_self_eq_true, hB1.cell, hB6.cell] <;> rfl) rfl hB6 (by first | (simp [true_and]; done) | (simp [true_and]; omega) | omega) (by simp [Value.oneCell']) ?_
   intro h7 hw7
   have hX := hw7.ext hXo hbb
   replace hRS := hRSo.wr hw7 hB6 (by decide)
   replace hB1 := hB1o.wr hw7 hn1B
   replace hB6 := hw7.at_
   try simp only [splc, List.take_succ_cons, List.take_zero, List.take_nil, List.drop_succ_cons, List.drop_zero, List.drop_nil, List.cons_append, List.nil_append, List.length_cons, List.length_nil, Nat.zero_add, Nat.add_zero, Nat.reduceAdd, List.append_nil] at hB6
   refine WL.nil (th_norm (hx_seq (hx_seq (hx_region ?_))))
   iterate 5 refine WL.qq (by simp only [EN, Nat.reduceEqDiff, reduceIte, qv_fieldAddr, fa27_0, Nat.zero_add, Nat.reduceAdd, decide_true, Bool.not_true, Bool.not_false, decide_false, eq_self, strEq, beq_self_eq_true, hB1.cell, hB6.cell, qv_load, ld22, readN, AR, qv_len, ln22, qv_binOp, binv_sub, qv_assign]; (try simp (disch := omega) only [w64, w8, wu64]); rfl) ?_
   refine WL.nil (th_norm (hx_block ?_))
   refine hx_loopG [8, 36, 37, 38, 39, 40, 41, 42, 43, 44, 45, 46, 47, 48, 49] (fun k e hL0 => ∃ (m : Nat) (v : Value), m = k ∧ (m ≤ x.l.length) ∧ (Ext h hL0) ∧ (Has hL0 B1 (.cells (suC x) tySu)) ∧ (Has hL0 B6 (.cells #[v, .slice x.ao x.os.length x.co, .string x.s, iV x.d, iV x.m] tySu)) ∧ (SlR tyRx 4 rxL hL0 au R) ∧ (Own hL0 h.size tyRH 2 v (x.l.length - m) (((x.l.drop m).reverse).flatMap siL)) ∧ e 8 = iV ((m : Int) - 1)) _ ⟨x.l.length, .slice none 0 0, rfl, ?_, ?_, ?_, ?_, ?_, ?_, ?_⟩ ?_
   · omega
   · exact hX
   · exact hB1
   · exact hB6
   · exact hRS
   · rw [Nat.sub_self, List.drop_length]; exact Own.nil
   · simp only [EN, Nat.reduceEqDiff, reduceIte, e0, e1, decide_true, Bool.not_true, Bool.not_false, decide_false, eq_self, strEq, beq_self_eq_true, hB1.cell, hB6.cell] <;> rfl
   ·
    rintro k e0L hL0 hfr0 ⟨m, v, rfl, hm, hX, hB1, hB6, hRS, ho, i8_0⟩
    have k1_0 := hfr0 1 rfl; try simp only [EN, Nat.reduceEqDiff, reduceIte, e1, decide_true, Bool.not_true, Bool.not_false, decide_false, eq_self, strEq, beq_self_eq_true, hB1.cell, hB6.cell] at k1_0
    have k2_0 := hfr0 2 rfl; try simp only [EN, Nat.reduceEqDiff, reduceIte, decide_true, Bool.not_true, Bool.not_false, decide_false, eq_self, strEq, beq_self_eq_true, hB1.cell, hB6.cell] at k2_0
    have k5_0 := hfr0 5 rfl; try simp only [EN, Nat.reduceEqDiff, reduceIte, decide_true, Bool.not_true, Bool.not_false, decide_false, eq_self, strEq, beq_self_eq_true, hB1.cell, hB6.cell] at k5_0
    have k6_0 := hfr0 6 rfl; try simp only [EN, Nat.reduceEqDiff, reduceIte, decide_true, Bool.not_true, Bool.not_false, decide_false, eq_self, strEq, beq_self_eq_true, hB1.cell, hB6.cell] at k6_0
    have k7_0 := hfr0 7 rfl; try simp only [EN, Nat.reduceEqDiff, reduceIte, decide_true, Bool.not_true, Bool.not_false, decide_false, eq_self, strEq, beq_self_eq_true, hB1.cell, hB6.cell] at k7_0
    refine hx_seq (hx_seq (hx_region ?_))
    iterate 2 refine WL.qq (by simp only [EN, Nat.reduceEqDiff, reduceIte, qv_move, i8_0, decide_true, Bool.not_true, Bool.not_false, decide_false, eq_self, strEq, beq_self_eq_true, hB1.cell, hB6.cell, hB1.cell, hB6.cell, qv_binOp, binv_geq]; rfl) ?_
    refine WL.nil (th_norm ?_)
    refine hx_cond (by simp only [EN, Nat.reduceEqDiff, reduceIte, decide_true, Bool.not_true, Bool.not_false, decide_false, eq_self, strEq, beq_self_eq_true, hB1.cell, hB6.cell, hB1.cell, hB6.cell]; rfl) (fun hct37 => ?_) (fun hct37 => ?_)
    ·
     try simp only [BD] at hct37
     obtain ⟨m', rfl⟩ : ∃ m', m = m' + 1 := ⟨m - 1, by omega⟩; have hm8 : ((m' + 1 : Nat) : Int) - 1 = (m' : Int) := (by omega); rw [hm8] at i8_0; obtain ⟨y, hy⟩ := atG (l := x.l) (i := m') (by omega); obtain ⟨b3, o3, ha3, hr3, _⟩ := si_rd (hs0.sl.ext hX) hy
     refine hx_skip (th_norm (hx_seq (hx_block ?_)))
     apply hx_draw2 Rel.grows [8, 9, 10] [7] [(7, (Spec.ls (Array.size hL0) (siL y).toArray tyRH 1))] rfl (by decide +kernel) rfl
     iterate 5 refine LD.qq rfl rfl (by simp only [EN, Nat.reduceEqDiff, reduceIte, qv_fieldAddr, fa27_0, Nat.zero_add, Nat.reduceAdd, k7_0, decide_true, Bool.not_true, Bool.not_false, decide_false, eq_self, strEq, beq_self_eq_true, hB1.cell, hB6.cell, hB1.cell, hB6.cell, qv_load, ld22, readN, AR, k2_0, qv_move, i8_0]; rfl) ?_
     refine LD.qq rfl rfl (by simp only [EN, Nat.reduceEqDiff, reduceIte, qv_indexAddr, decide_true, Bool.not_true, Bool.not_false, decide_false, eq_self, strEq, beq_self_eq_true, hB1.cell, hB6.cell, hB1.cell, hB6.cell, ha3]; (try simp (disch := omega) only [ix22, Int.toNat_natCast]); rfl) ?_
     refine LD.qq rfl rfl (by simp only [EN, Nat.reduceEqDiff, reduceIte, k1_0, k2_0, k5_0, k6_0, k7_0, i8_0, decide_true, Bool.not_true, Bool.not_false, decide_false, eq_self, strEq, beq_self_eq_true, hB1.cell, hB6.cell, hB1.cell, hB6.cell, qv_load, ld66, Int.toNat_natCast, hr3]; rfl) ?_
     refine LD.es rfl rfl (by intro hD hr hf; have hx : Ext _ _ := hr; have hX := hX.ext hx; have hB1 := hB1.ext hx; have hB6 := hB6.ext hx; have hRS := hRS.ext hx; have ho := ho.ext hx; exact e_lit1 (N := Array.size hL0) hx.size Tryz.underlying22 sz66 zr66 (by decide) (by simp only [EN, Nat.reduceEqDiff, reduceIte, k1_0, k2_0, k5_0, k6_0, k7_0, i8_0, decide_true, Bool.not_true, Bool.not_false, decide_false, eq_self, strEq, beq_self_eq_true, hB1.cell, hB6.cell, hB1.cell, hB6.cell, Value.cells] <;> rfl) rfl) ?_
     intro u9_7 w9_7
     obtain ⟨B14, hlt14, rfl⟩ := w9_7
     refine LD.skip rfl ?_
     refine LD.skip rfl ?_
     refine LD.skip rfl ?_
     refine LD.nil ?_
     rintro h8 hx8 hF9
     replace hx8 : Ext _ _ := hx8
     replace hX := hX.ext hx8
     replace hB1 := hB1.ext hx8
     replace hB6 := hB6.ext hx8
     replace hRS := hRS.ext hx8
     replace ho := ho.ext hx8
     have hB14 := hF9 (7, .slice (some ⟨B14, 0, none⟩) 1 1) (by simp) _ rfl B14 rfl
     refine WL.app1 (bytes := 24) Tryz.underlying22 (inf_of Tryz.type66) rfl rfl rfl rfl (by decide) (by simp only [EN, Nat.reduceEqDiff, reduceIte, k1_0, k2_0, k5_0, k6_0, k7_0, i8_0, decide_true, Bool.not_true, Bool.not_false, decide_false, eq_self, strEq, beq_self_eq_true, hB1.cell, hB6.cell, hB1.cell, hB6.cell]) ho (by simp only [EN, Nat.reduceEqDiff, reduceIte, k1_0, k2_0, k5_0, k6_0, k7_0, i8_0, decide_true, Bool.not_true, Bool.not_false, decide_false, eq_self, strEq, beq_self_eq_true, hB1.cell, hB6.cell, hB1.cell, hB6.cell] <;> rfl) hB14 rfl (by simp [Value.oneCell']) (by simp only [maxLen]; omega) (by omega) hX.size ?_
     intro h40 v40 ho40 hg40 hp40 hn40
     have hX40 := hg40.ext hX (fun c hc => (ho.block c hc).1)
     have hB140 := hB1.gr hg40 (ho.ncell hB1 (by decide))
     have hB6x0 := hB6.gr hg40 (ho.ncell hB6 (by decide))
     have hRS40 := hRS.gro hg40 ho (by decide)
     obtain ⟨a40, c40, rfl, _⟩ := ho40.shape
     refine WL.qq (by simp only [EN, Nat.reduceEqDiff, reduceIte, qv_fieldAddr, fa27_0, Nat.zero_add, Nat.reduceAdd, k7_0, decide_true, Bool.not_true, Bool.not_false, decide_false, eq_self, strEq, beq_self_eq_true, hB1.cell, hB6.cell, hB1.cell, hB6.cell]; rfl) ?_
     refine WL.store (by simp only [EN, Nat.reduceEqDiff, reduceIte, decide_true, Bool.not_true, Bool.not_false, decide_false, eq_self, strEq, beq_self_eq_true, hB1.cell, hB6.cell, hB1.cell, hB6.cell] <;> rfl) sz22 (by simp only [EN, Nat.reduceEqDiff, reduceIte, Value.cells, decide_true, Bool.not_true, Bool.not_false, decide_false, eq_self, strEq, beq_self_eq_true, hB1.cell, hB6.cell, hB1.cell, hB6.cell] <;> rfl) rfl hB6x0 (by first | (simp [true_and]; done) | (simp [true_and]; omega) | omega) (by simp [Value.oneCell']) ?_
     intro h9 hw9
     have hX50 := hw9.ext hX40 hbb
     have hRS50 := hRS40.wr hw9 hB6x0 (by decide)
     have hB150 := hB140.wr hw9 hn1B
     have ho50 := ho40.keep (h' := h9) (fun c hc => hw9.same c (fun hh => by subst hh; exact ho40.ncell hB6x0 (by decide) hc))
     have hB6x50 := hw9.at_
     try simp only [splc, List.take_succ_cons, List.take_zero, List.take_nil, List.drop_succ_cons, List.drop_zero, List.drop_nil, List.cons_append, List.nil_append, List.length_cons, List.length_nil, Nat.zero_add, Nat.add_zero, Nat.reduceAdd, List.append_nil] at hB6x50
     refine WL.nil (bl_norm (th_norm (hx_region ?_)))
     iterate 3 refine WL.qq (by simp only [EN, Nat.reduceEqDiff, reduceIte, qv_move, i8_0, decide_true, Bool.not_true, Bool.not_false, decide_false, eq_self, strEq, beq_self_eq_true, hB1.cell, hB6.cell, hB1.cell, hB6.cell, qv_binOp, binv_sub, qv_assign]; (try simp (disch := omega) only [w64, w8, wu64]); rfl) ?_
     refine WL.nil (th_norm ?_)
     refine ⟨rfl, ?_, _, ?_, m', .slice a40 (x.l.length - (m' + 1) + 1) c40, rfl, ?_, ?_, ?_, ?_, ?_, ?_, ?_⟩
     · (repeat (first | exact Fr.refl _ _ | refine Fr.set rfl ?_ | refine Fr.put rfl ?_ | with_reducible refine Fr.put0 ?_))
     · omega
     · omega
     · exact hX50
     · exact hB150
     · exact hB6x50
     · exact hRS50
     · rw [rev_step hy, show x.l.length - m' = x.l.length - (m' + 1) + 1 by omega]; exact ho50
     · simp only [EN, Nat.reduceEqDiff, reduceIte, k1_0, k2_0, k5_0, k6_0, k7_0, i8_0, decide_true, Bool.not_true, Bool.not_false, decide_false, eq_self, strEq, beq_self_eq_true, hB1.cell, hB6.cell, hB1.cell, hB6.cell] <;> first | rfl | (congr 1; omega)
    ·
     try simp only [BD] at hct37
     obtain rfl : m = 0 := (by omega)
     rw [List.drop_zero, Nat.sub_zero, show x.l.length = x.l.reverse.length from List.length_reverse.symm] at ho; have hrp : x.l.reverse.Perm x.l := List.reverse_perm x.l; generalize x.l.reverse = rl at ho hrp; obtain ⟨a6, c6, rfl, hc6, hn6, _⟩ := ho.shape; have hs6 := SlR.own (f := siL) (sz := 2) (fun _ => rfl) ho rfl
     refine hx_exit (th_exit (th_exit (bl_hit (th_norm (hx_seq (hx_region ?_))))))
     refine WL.qq (by simp only [EN, Nat.reduceEqDiff, reduceIte, qv_assign, decide_true, Bool.not_true, Bool.not_false, decide_false, eq_self, strEq, beq_self_eq_true, hB1.cell, hB6.cell, hB1.cell, hB6.cell]; rfl) ?_
     refine WL.nil (th_norm (hx_seq (hx_seq (hx_region ?_))))
     refine WL.qq (by simp only [EN, Nat.reduceEqDiff, reduceIte, qv_assign, decide_true, Bool.not_true, Bool.not_false, decide_false, eq_self, strEq, beq_self_eq_true, hB1.cell, hB6.cell, hB1.cell, hB6.cell]; rfl) ?_
     refine WL.nil (th_norm (hx_block ?_))
     refine hx_loopG [9, 10, 11, 50, 51, 52, 53, 54, 55, 56, 57, 58, 59, 60, 61, 62, 63, 64, 65, 66, 67, 68, 69, 70, 71, 72, 73, 74, 75, 76, 77, 78, 79, 80, 81] (fun k e hL1 => ∃ (i : Nat) (w : Value) (K : List OX), x.l.length - i = k ∧ (i ≤ x.l.length) ∧ (Ext h hL1) ∧ (Has hL1 B1 (.cells (suC x) tySu)) ∧ (Has hL1 B6 (.cells #[.slice a6 rl.length c6, .slice x.ao x.os.length x.co, .string x.s, iV x.d, iV x.m] tySu)) ∧ (SlR tyRx 4 rxL hL1 au R) ∧ (SlR tyRH 2 siL hL1 a6 rl) ∧ (Own hL1 h.size tyOp 6 w K.length (K.flatMap oxL)) ∧ (K = othL L (x.l.take i)) ∧ e 10 = .int .i64 i ∧ e 9 = w) _ ⟨0, .slice none 0 0, [], rfl, ?_, ?_, ?_, ?_, ?_, ?_, ?_, ?_, ?_, ?_⟩ ?_
     · omega
     · exact hX
     · exact hB1
     · exact hB6
     · exact hRS
     · exact hs6
     · exact Own.nil
     · rfl
     · simp only [EN, Nat.reduceEqDiff, reduceIte, k1_0, k2_0, k5_0, k6_0, k7_0, i8_0, decide_true, Bool.not_true, Bool.not_false, decide_false, eq_self, strEq, beq_self_eq_true, hB1.cell, hB6.cell, hB1.cell, hB6.cell] <;> rfl
     · simp only [EN, Nat.reduceEqDiff, reduceIte, k1_0, k2_0, k5_0, k6_0, k7_0, i8_0, decide_true, Bool.not_true, Bool.not_false, decide_false, eq_self, strEq, beq_self_eq_true, hB1.cell, hB6.cell, hB1.cell, hB6.cell] <;> rfl
     ·
      rintro k e1L hL1 hfr1 ⟨i, w, K, rfl, hi, hX, hB1, hB6, hRS, hs6, hq, hK, i10_1, i9_1⟩
      have k1_1 := hfr1 1 rfl; try simp only [EN, Nat.reduceEqDiff, reduceIte, k1_0, decide_true, Bool.not_true, Bool.not_false, decide_false, eq_self, strEq, beq_self_eq_true, hB1.cell, hB6.cell, hB1.cell, hB6.cell] at k1_1
      have k2_1 := hfr1 2 rfl; try simp only [EN, Nat.reduceEqDiff, reduceIte, k2_0, decide_true, Bool.not_true, Bool.not_false, decide_false, eq_self, strEq, beq_self_eq_true, hB1.cell, hB6.cell, hB1.cell, hB6.cell] at k2_1
      have k5_1 := hfr1 5 rfl; try simp only [EN, Nat.reduceEqDiff, reduceIte, k5_0, decide_true, Bool.not_true, Bool.not_false, decide_false, eq_self, strEq, beq_self_eq_true, hB1.cell, hB6.cell, hB1.cell, hB6.cell] at k5_1
      have k6_1 := hfr1 6 rfl; try simp only [EN, Nat.reduceEqDiff, reduceIte, k6_0, decide_true, Bool.not_true, Bool.not_false, decide_false, eq_self, strEq, beq_self_eq_true, hB1.cell, hB6.cell, hB1.cell, hB6.cell] at k6_1
      have k7_1 := hfr1 7 rfl; try simp only [EN, Nat.reduceEqDiff, reduceIte, k7_0, decide_true, Bool.not_true, Bool.not_false, decide_false, eq_self, strEq, beq_self_eq_true, hB1.cell, hB6.cell, hB1.cell, hB6.cell] at k7_1
      refine hx_seq (hx_seq (hx_region ?_))
      iterate 5 refine WL.qq (by simp only [EN, Nat.reduceEqDiff, reduceIte, qv_move, i10_1, decide_true, Bool.not_true, Bool.not_false, decide_false, eq_self, strEq, beq_self_eq_true, hB1.cell, hB6.cell, hB1.cell, hB6.cell, hB1.cell, hB6.cell, qv_fieldAddr, fa27_0, Nat.zero_add, Nat.reduceAdd, k2_1, qv_load, ld22, readN, AR, qv_len, ln22, qv_binOp, binv_lss]; rfl) ?_
      refine WL.nil (th_norm ?_)
      refine hx_cond (by simp only [EN, Nat.reduceEqDiff, reduceIte, decide_true, Bool.not_true, Bool.not_false, decide_false, eq_self, strEq, beq_self_eq_true, hB1.cell, hB6.cell, hB1.cell, hB6.cell, hB1.cell, hB6.cell]; rfl) (fun hct54 => ?_) (fun hct54 => ?_)
      ·
       try simp only [BD] at hct54
       obtain ⟨y, hy⟩ := atG (l := x.l) (i := i) (by omega); have hKl := oth_len hsm.2.2 (x.l.take i); rw [← hK, List.length_take] at hKl
       refine hx_skip (th_norm (hx_seq (hx_block (hx_seq (hx_region ?_)))))
       refine WL.qq (by simp only [EN, Nat.reduceEqDiff, reduceIte, qv_assign, decide_true, Bool.not_true, Bool.not_false, decide_false, eq_self, strEq, beq_self_eq_true, hB1.cell, hB6.cell, hB1.cell, hB6.cell, hB1.cell, hB6.cell]; rfl) ?_
       refine WL.nil (th_norm (hx_block ?_))
       refine hx_loopG [9, 11, 57, 58, 59, 60, 61, 62, 63, 64, 65, 66, 67, 68, 69, 70, 71, 72, 73, 74, 75, 76, 77, 78, 79, 80, 81] (fun k e hL2 => ∃ (j : Nat) (w2 : Value) (K2 : List OX), L.length - j = k ∧ (j ≤ L.length) ∧ (Ext h hL2) ∧ (Has hL2 B1 (.cells (suC x) tySu)) ∧ (Has hL2 B6 (.cells #[.slice a6 rl.length c6, .slice x.ao x.os.length x.co, .string x.s, iV x.d, iV x.m] tySu)) ∧ (SlR tyRx 4 rxL hL2 au R) ∧ (SlR tyRH 2 siL hL2 a6 rl) ∧ (Own hL2 h.size tyOp 6 w2 K2.length (K2.flatMap oxL)) ∧ (K2 = K ++ (L.take j).filter (byS y.s)) ∧ e 11 = .int .i64 j ∧ e 9 = w2) _ ⟨0, w, K, rfl, ?_, ?_, ?_, ?_, ?_, ?_, ?_, ?_, ?_, ?_⟩ ?_
       · omega
       · exact hX
       · exact hB1
       · exact hB6
       · exact hRS
       · exact hs6
       · exact hq
       · simp
       · simp only [EN, Nat.reduceEqDiff, reduceIte, k1_1, k2_1, k5_1, k6_1, k7_1, i10_1, i9_1, decide_true, Bool.not_true, Bool.not_false, decide_false, eq_self, strEq, beq_self_eq_true, hB1.cell, hB6.cell, hB1.cell, hB6.cell, hB1.cell, hB6.cell] <;> rfl
       · simp only [EN, Nat.reduceEqDiff, reduceIte, k1_1, k2_1, k5_1, k6_1, k7_1, i10_1, i9_1, decide_true, Bool.not_true, Bool.not_false, decide_false, eq_self, strEq, beq_self_eq_true, hB1.cell, hB6.cell, hB1.cell, hB6.cell, hB1.cell, hB6.cell] <;> rfl
       ·
        rintro k e2L hL2 hfr2 ⟨j, w2, K2, rfl, hj, hX, hB1, hB6, hRS, hs6, hq, hK2, i11_2, i9_2⟩
        have k1_2 := hfr2 1 rfl; try simp only [EN, Nat.reduceEqDiff, reduceIte, k1_1, decide_true, Bool.not_true, Bool.not_false, decide_false, eq_self, strEq, beq_self_eq_true, hB1.cell, hB6.cell, hB1.cell, hB6.cell, hB1.cell, hB6.cell] at k1_2
        have k2_2 := hfr2 2 rfl; try simp only [EN, Nat.reduceEqDiff, reduceIte, k2_1, decide_true, Bool.not_true, Bool.not_false, decide_false, eq_self, strEq, beq_self_eq_true, hB1.cell, hB6.cell, hB1.cell, hB6.cell, hB1.cell, hB6.cell] at k2_2
        have k5_2 := hfr2 5 rfl; try simp only [EN, Nat.reduceEqDiff, reduceIte, k5_1, decide_true, Bool.not_true, Bool.not_false, decide_false, eq_self, strEq, beq_self_eq_true, hB1.cell, hB6.cell, hB1.cell, hB6.cell, hB1.cell, hB6.cell] at k5_2
        have k6_2 := hfr2 6 rfl; try simp only [EN, Nat.reduceEqDiff, reduceIte, k6_1, decide_true, Bool.not_true, Bool.not_false, decide_false, eq_self, strEq, beq_self_eq_true, hB1.cell, hB6.cell, hB1.cell, hB6.cell, hB1.cell, hB6.cell] at k6_2
        have k7_2 := hfr2 7 rfl; try simp only [EN, Nat.reduceEqDiff, reduceIte, k7_1, decide_true, Bool.not_true, Bool.not_false, decide_false, eq_self, strEq, beq_self_eq_true, hB1.cell, hB6.cell, hB1.cell, hB6.cell, hB1.cell, hB6.cell] at k7_2
        have k10_2 := hfr2 10 rfl; try simp only [EN, Nat.reduceEqDiff, reduceIte, i10_1, decide_true, Bool.not_true, Bool.not_false, decide_false, eq_self, strEq, beq_self_eq_true, hB1.cell, hB6.cell, hB1.cell, hB6.cell, hB1.cell, hB6.cell] at k10_2
        refine hx_seq (hx_seq (hx_region ?_))
        iterate 4 refine WL.qq (by simp only [EN, Nat.reduceEqDiff, reduceIte, qv_move, i11_2, decide_true, Bool.not_true, Bool.not_false, decide_false, eq_self, strEq, beq_self_eq_true, hB1.cell, hB6.cell, hB1.cell, hB6.cell, hB1.cell, hB6.cell, hB1.cell, hB6.cell, k1_2, qv_len, ln28, AR, qv_binOp, binv_lss]; rfl) ?_
        refine WL.nil (th_norm ?_)
        refine hx_cond (by simp only [EN, Nat.reduceEqDiff, reduceIte, decide_true, Bool.not_true, Bool.not_false, decide_false, eq_self, strEq, beq_self_eq_true, hB1.cell, hB6.cell, hB1.cell, hB6.cell, hB1.cell, hB6.cell, hB1.cell, hB6.cell]; rfl) (fun hct60 => ?_) (fun hct60 => ?_)
        ·
         try simp only [BD] at hct60
         obtain ⟨o, ho9⟩ := atG (l := L) (i := j) (by omega); obtain ⟨b1, o1, ha1, hr1⟩ := (hsL0.ext hX) j o ho9; have hc1 := readN_cell hr1 1 _ rfl; obtain ⟨b3, o3, ha3, _, hys, _⟩ := si_rd (hs0.sl.ext hX) hy; have hst := fl_step (p := byS y.s) ho9
         have hK2l : K2.length ≤ 2500 := (by have h8 := List.length_filter_le (byS y.s) (L.take j); rw [List.length_take] at h8; have h7 := hsm.2.2; rw [hK2, List.length_append]; omega)
         refine hx_skip (th_norm (hx_seq (hx_block (hx_seq ?_))))
         apply hx_draw2 Rel.same [] [] [] rfl (by decide +kernel) rfl
         iterate 3 refine LD.qq rfl rfl (by simp only [EN, Nat.reduceEqDiff, reduceIte, qv_move, k1_2, decide_true, Bool.not_true, Bool.not_false, decide_false, eq_self, strEq, beq_self_eq_true, hB1.cell, hB6.cell, hB1.cell, hB6.cell, hB1.cell, hB6.cell, hB1.cell, hB6.cell, i11_2, qv_indexAddr, ha1]; (try simp (disch := omega) only [ix28, Int.toNat_natCast]); rfl) ?_
         refine LD.qq rfl rfl (by simp only [EN, Nat.reduceEqDiff, reduceIte, qv_fieldAddr, fa43_1, Nat.zero_add, Nat.reduceAdd, decide_true, Bool.not_true, Bool.not_false, decide_false, eq_self, strEq, beq_self_eq_true, hB1.cell, hB6.cell, hB1.cell, hB6.cell, hB1.cell, hB6.cell, hB1.cell, hB6.cell]; rfl) ?_
         refine LD.qq rfl rfl (by simp only [EN, Nat.reduceEqDiff, reduceIte, k1_2, k2_2, k5_2, k6_2, k7_2, k10_2, i11_2, i9_2, decide_true, Bool.not_true, Bool.not_false, decide_false, eq_self, strEq, beq_self_eq_true, hB1.cell, hB6.cell, hB1.cell, hB6.cell, hB1.cell, hB6.cell, hB1.cell, hB6.cell, qv_load, ld9, Int.toNat_natCast, hc1]; rfl) ?_
         iterate 3 refine LD.qq rfl rfl (by simp only [EN, Nat.reduceEqDiff, reduceIte, qv_fieldAddr, fa27_0, Nat.zero_add, Nat.reduceAdd, k2_2, decide_true, Bool.not_true, Bool.not_false, decide_false, eq_self, strEq, beq_self_eq_true, hB1.cell, hB6.cell, hB1.cell, hB6.cell, hB1.cell, hB6.cell, hB1.cell, hB6.cell, qv_load, ld22, readN, AR, qv_move, k10_2]; rfl) ?_
         refine LD.qq rfl rfl (by simp only [EN, Nat.reduceEqDiff, reduceIte, qv_indexAddr, decide_true, Bool.not_true, Bool.not_false, decide_false, eq_self, strEq, beq_self_eq_true, hB1.cell, hB6.cell, hB1.cell, hB6.cell, hB1.cell, hB6.cell, hB1.cell, hB6.cell, ha3]; (try simp (disch := omega) only [ix22, Int.toNat_natCast]); rfl) ?_
         refine LD.qq rfl rfl (by simp only [EN, Nat.reduceEqDiff, reduceIte, qv_fieldAddr, fa66_0, Nat.zero_add, Nat.reduceAdd, decide_true, Bool.not_true, Bool.not_false, decide_false, eq_self, strEq, beq_self_eq_true, hB1.cell, hB6.cell, hB1.cell, hB6.cell, hB1.cell, hB6.cell, hB1.cell, hB6.cell]; rfl) ?_
         refine LD.qq rfl rfl (by simp only [EN, Nat.reduceEqDiff, reduceIte, k1_2, k2_2, k5_2, k6_2, k7_2, k10_2, i11_2, i9_2, decide_true, Bool.not_true, Bool.not_false, decide_false, eq_self, strEq, beq_self_eq_true, hB1.cell, hB6.cell, hB1.cell, hB6.cell, hB1.cell, hB6.cell, hB1.cell, hB6.cell, qv_load, ld9, Int.toNat_natCast, hys]; rfl) ?_
         refine LD.qq rfl rfl (by simp only [EN, Nat.reduceEqDiff, reduceIte, qv_binOp, binv_eql, eq9, Option.map_some, decide_true, Bool.not_true, Bool.not_false, decide_false, eq_self, strEq, beq_self_eq_true, hB1.cell, hB6.cell, hB1.cell, hB6.cell, hB1.cell, hB6.cell, hB1.cell, hB6.cell]; rfl) ?_
         refine LD.nil ?_
         rintro hL2 rfl -
         refine WL.nil (th_norm ?_)
         refine hx_cond (by simp only [EN, Nat.reduceEqDiff, reduceIte, decide_true, Bool.not_true, Bool.not_false, decide_false, eq_self, strEq, beq_self_eq_true, hB1.cell, hB6.cell, hB1.cell, hB6.cell, hB1.cell, hB6.cell, hB1.cell, hB6.cell]; rfl) (fun hct74 => ?_) (fun hct74 => ?_)
         ·
          try simp only [BD] at hct74
          have hro : byS y.s o = true := (by simpa using hct74); rw [if_pos hro] at hst
          refine hx_region ?_
          iterate 4 refine WL.qq (by simp only [EN, Nat.reduceEqDiff, reduceIte, qv_move, i9_2, decide_true, Bool.not_true, Bool.not_false, decide_false, eq_self, strEq, beq_self_eq_true, hB1.cell, hB6.cell, hB1.cell, hB6.cell, hB1.cell, hB6.cell, hB1.cell, hB6.cell, k1_2, i11_2, qv_indexAddr, ha1]; (try simp (disch := omega) only [ix28, Int.toNat_natCast]); rfl) ?_
          refine WL.qq (by simp only [EN, Nat.reduceEqDiff, reduceIte, k1_2, k2_2, k5_2, k6_2, k7_2, k10_2, i11_2, i9_2, decide_true, Bool.not_true, Bool.not_false, decide_false, eq_self, strEq, beq_self_eq_true, hB1.cell, hB6.cell, hB1.cell, hB6.cell, hB1.cell, hB6.cell, hB1.cell, hB6.cell, qv_load, ld43, Int.toNat_natCast, hr1]; rfl) ?_
          refine WL.push (bytes := 64) Tryz.underlying28 (inf_of Tryz.type43) rfl rfl rfl rfl (by decide) (by decide) sz43 zr43 (fun u => by simp only [EN, Nat.reduceEqDiff, reduceIte, k1_2, k2_2, k5_2, k6_2, k7_2, k10_2, i11_2, i9_2, decide_true, Bool.not_true, Bool.not_false, decide_false, eq_self, strEq, beq_self_eq_true, hB1.cell, hB6.cell, hB1.cell, hB6.cell, hB1.cell, hB6.cell, hB1.cell, hB6.cell]) hq (c := (oxL o).toArray) (by simp only [EN, Nat.reduceEqDiff, reduceIte, k1_2, k2_2, k5_2, k6_2, k7_2, k10_2, i11_2, i9_2, decide_true, Bool.not_true, Bool.not_false, decide_false, eq_self, strEq, beq_self_eq_true, hB1.cell, hB6.cell, hB1.cell, hB6.cell, hB1.cell, hB6.cell, hB1.cell, hB6.cell, Value.cells] <;> rfl) rfl (by simp [Value.oneCell']) (by simp only [maxLen]; omega) (by omega) hX.size ?_
          intro h40 v40 B40 ho40 hg40 hp40 hn40
          have hX40 := hg40.ext hX (fun c hc => (hq.block c hc).1)
          have hB140 := hB1.gr hg40 (hq.ncell hB1 (by decide))
          have hB6x40 := hB6.gr hg40 (hq.ncell hB6 (by decide))
          have hRS40 := hRS.gro hg40 hq (by decide)
          have hs640 := hs6.gro hg40 hq (by decide)
          skip
          refine WL.qq (by simp only [EN, Nat.reduceEqDiff, reduceIte, qv_assign, decide_true, Bool.not_true, Bool.not_false, decide_false, eq_self, strEq, beq_self_eq_true, hB1.cell, hB6.cell, hB1.cell, hB6.cell, hB1.cell, hB6.cell, hB1.cell, hB6.cell]; rfl) ?_
          refine WL.nil (bl_norm (th_norm (hx_region ?_)))
          iterate 3 refine WL.qq (by simp only [EN, Nat.reduceEqDiff, reduceIte, qv_move, i11_2, decide_true, Bool.not_true, Bool.not_false, decide_false, eq_self, strEq, beq_self_eq_true, hB1.cell, hB6.cell, hB1.cell, hB6.cell, hB1.cell, hB6.cell, hB1.cell, hB6.cell, qv_binOp, binv_add, qv_assign]; (try simp (disch := omega) only [w64, w8, wu64]); rfl) ?_
          refine WL.nil (th_norm ?_)
          refine ⟨rfl, ?_, _, ?_, j + 1, v40, K2 ++ [o], rfl, ?_, ?_, ?_, ?_, ?_, ?_, ?_, ?_, ?_, ?_⟩
          · (repeat (first | exact Fr.refl _ _ | refine Fr.set rfl ?_ | refine Fr.put rfl ?_ | with_reducible refine Fr.put0 ?_))
          · omega
          · omega
          · exact hX40
          · exact hB140
          · exact hB6x40
          · exact hRS40
          · exact hs640
          · rw [List.length_append, List.flatMap_append]; exact ho40
          · rw [hst, hK2, List.append_assoc]
          · simp only [EN, Nat.reduceEqDiff, reduceIte, k1_2, k2_2, k5_2, k6_2, k7_2, k10_2, i11_2, i9_2, decide_true, Bool.not_true, Bool.not_false, decide_false, eq_self, strEq, beq_self_eq_true, hB1.cell, hB6.cell, hB1.cell, hB6.cell, hB1.cell, hB6.cell, hB1.cell, hB6.cell] <;> first | rfl | (congr 1; omega)
          · simp only [EN, Nat.reduceEqDiff, reduceIte, k1_2, k2_2, k5_2, k6_2, k7_2, k10_2, i11_2, i9_2, decide_true, Bool.not_true, Bool.not_false, decide_false, eq_self, strEq, beq_self_eq_true, hB1.cell, hB6.cell, hB1.cell, hB6.cell, hB1.cell, hB6.cell, hB1.cell, hB6.cell] <;> first | rfl | (congr 1; omega)
         ·
          try simp only [BD] at hct74
          have hro : ¬ byS y.s o = true := (by simpa using hct74); rw [if_neg hro, List.append_nil] at hst
          refine hx_skip (bl_norm (th_norm (hx_region ?_)))
          iterate 3 refine WL.qq (by simp only [EN, Nat.reduceEqDiff, reduceIte, qv_move, i11_2, decide_true, Bool.not_true, Bool.not_false, decide_false, eq_self, strEq, beq_self_eq_true, hB1.cell, hB6.cell, hB1.cell, hB6.cell, hB1.cell, hB6.cell, hB1.cell, hB6.cell, qv_binOp, binv_add, qv_assign]; (try simp (disch := omega) only [w64, w8, wu64]); rfl) ?_
          refine WL.nil (th_norm ?_)
          refine ⟨rfl, ?_, _, ?_, j + 1, w2, K2, rfl, ?_, ?_, ?_, ?_, ?_, ?_, ?_, ?_, ?_, ?_⟩
          · (repeat (first | exact Fr.refl _ _ | refine Fr.set rfl ?_ | refine Fr.put rfl ?_ | with_reducible refine Fr.put0 ?_))
          · omega
          · omega
          · exact hX
          · exact hB1
          · exact hB6
          · exact hRS
          · exact hs6
          · exact hq
          · rw [hst]; exact hK2
          · simp only [EN, Nat.reduceEqDiff, reduceIte, k1_2, k2_2, k5_2, k6_2, k7_2, k10_2, i11_2, i9_2, decide_true, Bool.not_true, Bool.not_false, decide_false, eq_self, strEq, beq_self_eq_true, hB1.cell, hB6.cell, hB1.cell, hB6.cell, hB1.cell, hB6.cell, hB1.cell, hB6.cell] <;> first | rfl | (congr 1; omega)
          · simp only [EN, Nat.reduceEqDiff, reduceIte, k1_2, k2_2, k5_2, k6_2, k7_2, k10_2, i11_2, i9_2, decide_true, Bool.not_true, Bool.not_false, decide_false, eq_self, strEq, beq_self_eq_true, hB1.cell, hB6.cell, hB1.cell, hB6.cell, hB1.cell, hB6.cell, hB1.cell, hB6.cell] <;> first | rfl | (congr 1; omega)
        ·
         try simp only [BD] at hct60
         obtain rfl : j = L.length := (by omega)
         rw [List.take_length] at hK2
         refine hx_exit (th_exit (th_exit (bl_hit (bl_norm (th_norm (hx_region ?_))))))
         iterate 3 refine WL.qq (by simp only [EN, Nat.reduceEqDiff, reduceIte, qv_move, k10_2, decide_true, Bool.not_true, Bool.not_false, decide_false, eq_self, strEq, beq_self_eq_true, hB1.cell, hB6.cell, hB1.cell, hB6.cell, hB1.cell, hB6.cell, hB1.cell, hB6.cell, qv_binOp, binv_add, qv_assign]; (try simp (disch := omega) only [w64, w8, wu64]); rfl) ?_
         refine WL.nil (th_norm ?_)
         refine ⟨rfl, ?_, _, ?_, i + 1, w2, K2, rfl, ?_, ?_, ?_, ?_, ?_, ?_, ?_, ?_, ?_, ?_⟩
         · (repeat (first | exact Fr.refl _ _ | refine Fr.set rfl ?_ | refine Fr.put rfl ?_ | with_reducible refine Fr.put0 ?_ | refine Fr.trans ?_ (Fr.of hfr2 rfl)))
         · omega
         · omega
         · exact hX
         · exact hB1
         · exact hB6
         · exact hRS
         · exact hs6
         · exact hq
         · rw [oth_step hy, ← hK]; exact hK2
         · simp only [EN, Nat.reduceEqDiff, reduceIte, k1_2, k2_2, k5_2, k6_2, k7_2, k10_2, i11_2, i9_2, decide_true, Bool.not_true, Bool.not_false, decide_false, eq_self, strEq, beq_self_eq_true, hB1.cell, hB6.cell, hB1.cell, hB6.cell, hB1.cell, hB6.cell, hB1.cell, hB6.cell] <;> first | rfl | (congr 1; omega)
         · simp only [EN, Nat.reduceEqDiff, reduceIte, k1_2, k2_2, k5_2, k6_2, k7_2, k10_2, i11_2, i9_2, decide_true, Bool.not_true, Bool.not_false, decide_false, eq_self, strEq, beq_self_eq_true, hB1.cell, hB6.cell, hB1.cell, hB6.cell, hB1.cell, hB6.cell, hB1.cell, hB6.cell] <;> first | rfl | (congr 1; omega)
      ·
       try simp only [BD] at hct54
       obtain rfl : i = x.l.length := (by omega)
       have hKl := oth_len hsm.2.2 (x.l.take x.l.length); rw [← hK, List.length_take] at hKl; rw [List.take_length] at hK; obtain ⟨aw, cw, rfl, _⟩ := hq.shape; have hsK := slG_own (f := oxL) (sz := 6) (fun _ => rfl) hq rfl; have hrl := hrp.length_eq
       have hsB : SuI hL1 ⟨a6, rl, c6, x.ao, x.os, x.co, x.s, x.d, x.m⟩ := ⟨hs6.rd, hs0.so.ext hX, by show rl.length ≤ _; omega, hs0.lo, hc6, hs0.co, hn6, hs0.no, hs0.st⟩
       refine hx_exit (th_exit (th_exit (bl_hit (th_norm (hx_seq (hx_region ?_))))))
       iterate 2 refine WL.qq (by simp only [EN, Nat.reduceEqDiff, reduceIte, qv_load, ld27, readN, AR, Nat.zero_add, Nat.reduceAdd, k7_1, decide_true, Bool.not_true, Bool.not_false, decide_false, eq_self, strEq, beq_self_eq_true, hB1.cell, hB6.cell, hB1.cell, hB6.cell, hB1.cell, hB6.cell, qv_move, i9_1]; rfl) ?_
       refine WL.ce Tryz.call25 (by simp only [EN, Nat.reduceEqDiff, reduceIte, AR, decide_true, Bool.not_true, Bool.not_false, decide_false, eq_self, strEq, beq_self_eq_true, hB1.cell, hB6.cell, hB1.cell, hB6.cell, hB1.cell, hB6.cell]; exact c_closing ⟨a6, rl, c6, x.ao, x.os, x.co, x.s, x.d, x.m⟩ (by show rl.length ≤ 40; omega) hsm.2.1 aw K cw (by omega) hsB hsK) ?_
       rintro _ h10 ⟨hx10, u2, rfl, hCz2⟩
       replace hX := hX.ext hx10
       replace hB1 := hB1.ext hx10
       replace hB6 := hB6.ext hx10
       replace hRS := hRS.ext hx10
       replace hs6 := hs6.ext hx10
       replace hq := hq.ext hx10
       simp only [put_some]
       obtain ⟨au2, R2, cu2, rfl, hRS2, hR2, _⟩ := hCz2.sl (by show rl.length ≤ 40; omega)
       iterate 5 refine WL.qq (by simp only [EN, Nat.reduceEqDiff, reduceIte, qv_move, decide_true, Bool.not_true, Bool.not_false, decide_false, eq_self, strEq, beq_self_eq_true, hB1.cell, hB6.cell, hB1.cell, hB6.cell, hB1.cell, hB6.cell, qv_extract, AR, qv_assign]; rfl) ?_
       refine WL.nil (th_norm (hx_seq (hx_seq (hx_region ?_))))
       have hd : decide (erX ⟨a6, rl, c6, x.ao, x.os, x.co, x.s, x.d, x.m⟩ = 0) = decide (erX x = 0) := decide_eq_decide.2 (er_rest hrp); have hRR : R2 = R := (by rw [hR, hR2, hK]; by_cases he : erX x = 0; (rw [if_pos he, if_pos ((er_rest hrp).2 he)]; exact res_order hrp he L); (rw [if_neg he, if_neg (fun hh => he ((er_rest hrp).1 hh))])); subst hRR
       iterate 4 refine WL.qq (by simp only [EN, Nat.reduceEqDiff, reduceIte, qv_move, k6_1, decide_true, Bool.not_true, Bool.not_false, decide_false, eq_self, strEq, beq_self_eq_true, hB1.cell, hB6.cell, hB1.cell, hB6.cell, hB1.cell, hB6.cell, qv_binOp, binv_neq, eq4, Option.map_some, hd]; rfl) ?_
       refine WL.on (by rw [gOk_s (gd_at (t := 91) rfl (by simp only [EN, Nat.reduceEqDiff, reduceIte, k5_1, decide_true, Bool.not_true, Bool.not_false, decide_false, eq_self, strEq, beq_self_eq_true, hB1.cell, hB6.cell, hB1.cell, hB6.cell, hB1.cell, hB6.cell] <;> rfl))]; rfl) ?_
       refine WL.qq (by simp only [EN, Nat.reduceEqDiff, reduceIte, qv_move, k5_1, decide_true, Bool.not_true, Bool.not_false, decide_false, eq_self, strEq, beq_self_eq_true, hB1.cell, hB6.cell, hB1.cell, hB6.cell, hB1.cell, hB6.cell]; rfl) ?_
       refine WL.on (by rw [gOk_s (gd_at (t := 91) rfl (by simp only [EN, Nat.reduceEqDiff, reduceIte, decide_true, Bool.not_true, Bool.not_false, decide_false, eq_self, strEq, beq_self_eq_true, hB1.cell, hB6.cell, hB1.cell, hB6.cell, hB1.cell, hB6.cell] <;> rfl))]; rfl) ?_
       refine WL.qq (by simp only [EN, Nat.reduceEqDiff, reduceIte, qv_len, ln45, AR, decide_true, Bool.not_true, Bool.not_false, decide_false, eq_self, strEq, beq_self_eq_true, hB1.cell, hB6.cell, hB1.cell, hB6.cell, hB1.cell, hB6.cell]; rfl) ?_
       refine WL.on (by rw [gOk_s (gd_at (t := 91) rfl (by simp only [EN, Nat.reduceEqDiff, reduceIte, decide_true, Bool.not_true, Bool.not_false, decide_false, eq_self, strEq, beq_self_eq_true, hB1.cell, hB6.cell, hB1.cell, hB6.cell, hB1.cell, hB6.cell] <;> rfl))]; rfl) ?_
       refine WL.qq (by simp only [EN, Nat.reduceEqDiff, reduceIte, qv_move, decide_true, Bool.not_true, Bool.not_false, decide_false, eq_self, strEq, beq_self_eq_true, hB1.cell, hB6.cell, hB1.cell, hB6.cell, hB1.cell, hB6.cell]; rfl) ?_
       refine WL.on (by rw [gOk_s (gd_at (t := 91) rfl (by simp only [EN, Nat.reduceEqDiff, reduceIte, decide_true, Bool.not_true, Bool.not_false, decide_false, eq_self, strEq, beq_self_eq_true, hB1.cell, hB6.cell, hB1.cell, hB6.cell, hB1.cell, hB6.cell] <;> rfl))]; rfl) ?_
       refine WL.qq (by simp only [EN, Nat.reduceEqDiff, reduceIte, qv_len, ln45, AR, decide_true, Bool.not_true, Bool.not_false, decide_false, eq_self, strEq, beq_self_eq_true, hB1.cell, hB6.cell, hB1.cell, hB6.cell, hB1.cell, hB6.cell]; rfl) ?_
       refine WL.on (by rw [gOk_s (gd_at (t := 91) rfl (by simp only [EN, Nat.reduceEqDiff, reduceIte, decide_true, Bool.not_true, Bool.not_false, decide_false, eq_self, strEq, beq_self_eq_true, hB1.cell, hB6.cell, hB1.cell, hB6.cell, hB1.cell, hB6.cell] <;> rfl))]; rfl) ?_
       iterate 2 refine WL.qq (by simp only [EN, Nat.reduceEqDiff, reduceIte, qv_binOp, binv_neq, eq3, Option.map_some, decide_true, Bool.not_true, Bool.not_false, decide_false, eq_self, strEq, beq_self_eq_true, hB1.cell, hB6.cell, hB1.cell, hB6.cell, hB1.cell, hB6.cell, qv_pick, pk_and, pk_or, GR]; rfl) ?_
       refine WL.nil (th_norm ?_)
       refine hx_cond (by simp only [EN, Nat.reduceEqDiff, reduceIte, decide_true, Bool.not_true, Bool.not_false, decide_false, eq_self, strEq, beq_self_eq_true, hB1.cell, hB6.cell, hB1.cell, hB6.cell, hB1.cell, hB6.cell]; rfl) (fun hct97 => ?_) (fun hct97 => ?_)
       ·
        simp at hct97
       ·
        try simp only [BD] at hct97
        refine hx_skip (th_norm (hx_seq (hx_seq (hx_region ?_))))
        refine WL.qq (by simp only [EN, Nat.reduceEqDiff, reduceIte, qv_assign, decide_true, Bool.not_true, Bool.not_false, decide_false, eq_self, strEq, beq_self_eq_true, hB1.cell, hB6.cell, hB1.cell, hB6.cell, hB1.cell, hB6.cell]; rfl) ?_
        refine WL.nil (th_norm (hx_block ?_))
        refine hx_loopS [4, 14, 98, 99, 100, 101, 102, 103, 104, 105, 106, 107, 108, 109, 110, 111, 112] (fun k e => ∃ (q : Nat), R2.length - q = k ∧ (q ≤ R2.length) ∧ e 14 = .int .i64 q) _ ⟨0, rfl, ?_, ?_⟩ ?_
        · omega
        · simp only [EN, Nat.reduceEqDiff, reduceIte, k1_1, k2_1, k5_1, k6_1, k7_1, i10_1, i9_1, decide_true, Bool.not_true, Bool.not_false, decide_false, eq_self, strEq, beq_self_eq_true, hB1.cell, hB6.cell, hB1.cell, hB6.cell, hB1.cell, hB6.cell] <;> rfl
        ·
         rintro k e3L hfr3 ⟨q, rfl, hq9, i14_3⟩
         have k5_3 := hfr3 5 rfl; try simp only [EN, Nat.reduceEqDiff, reduceIte, k5_1, decide_true, Bool.not_true, Bool.not_false, decide_false, eq_self, strEq, beq_self_eq_true, hB1.cell, hB6.cell, hB1.cell, hB6.cell, hB1.cell, hB6.cell] at k5_3
         have k12_3 := hfr3 12 rfl; try simp only [EN, Nat.reduceEqDiff, reduceIte, decide_true, Bool.not_true, Bool.not_false, decide_false, eq_self, strEq, beq_self_eq_true, hB1.cell, hB6.cell, hB1.cell, hB6.cell, hB1.cell, hB6.cell] at k12_3
         refine hx_seq (hx_seq (hx_region ?_))
         iterate 4 refine WL.qq (by simp only [EN, Nat.reduceEqDiff, reduceIte, qv_move, i14_3, decide_true, Bool.not_true, Bool.not_false, decide_false, eq_self, strEq, beq_self_eq_true, hB1.cell, hB6.cell, hB1.cell, hB6.cell, hB1.cell, hB6.cell, k5_3, qv_len, ln45, AR, qv_binOp, binv_lss]; rfl) ?_
         refine WL.nil (th_norm ?_)
         refine hx_cond (by simp only [EN, Nat.reduceEqDiff, reduceIte, decide_true, Bool.not_true, Bool.not_false, decide_false, eq_self, strEq, beq_self_eq_true, hB1.cell, hB6.cell, hB1.cell, hB6.cell, hB1.cell, hB6.cell]; rfl) (fun hct101 => ?_) (fun hct101 => ?_)
         ·
          try simp only [BD] at hct101
          obtain ⟨r, hr⟩ := atG (l := R2) (i := q) (by omega); obtain ⟨b2, o2, ha2, hr2⟩ := hRS.rd q _ hr; obtain ⟨b4, o4, ha4, hr4⟩ := hRS2.rd q _ hr
          refine hx_skip (th_norm (hx_seq (hx_block (hx_seq ?_))))
          apply hx_draw2 Rel.same [] [] [] rfl (by decide +kernel) rfl
          iterate 3 refine LD.qq rfl rfl (by simp only [EN, Nat.reduceEqDiff, reduceIte, qv_move, k5_3, decide_true, Bool.not_true, Bool.not_false, decide_false, eq_self, strEq, beq_self_eq_true, hB1.cell, hB6.cell, hB1.cell, hB6.cell, hB1.cell, hB6.cell, i14_3, qv_indexAddr, ha2]; (try simp (disch := omega) only [ix45, Int.toNat_natCast]); rfl) ?_
          refine LD.qq rfl rfl (by simp only [EN, Nat.reduceEqDiff, reduceIte, k5_3, k12_3, i14_3, decide_true, Bool.not_true, Bool.not_false, decide_false, eq_self, strEq, beq_self_eq_true, hB1.cell, hB6.cell, hB1.cell, hB6.cell, hB1.cell, hB6.cell, qv_load, ld64, Int.toNat_natCast, hr2]; rfl) ?_
          iterate 3 refine LD.qq rfl rfl (by simp only [EN, Nat.reduceEqDiff, reduceIte, qv_move, k12_3, decide_true, Bool.not_true, Bool.not_false, decide_false, eq_self, strEq, beq_self_eq_true, hB1.cell, hB6.cell, hB1.cell, hB6.cell, hB1.cell, hB6.cell, i14_3, qv_indexAddr, ha4]; (try simp (disch := omega) only [ix45, Int.toNat_natCast]); rfl) ?_
          refine LD.qq rfl rfl (by simp only [EN, Nat.reduceEqDiff, reduceIte, k5_3, k12_3, i14_3, decide_true, Bool.not_true, Bool.not_false, decide_false, eq_self, strEq, beq_self_eq_true, hB1.cell, hB6.cell, hB1.cell, hB6.cell, hB1.cell, hB6.cell, qv_load, ld64, Int.toNat_natCast, hr4]; rfl) ?_
          refine LD.qq rfl rfl (by simp only [EN, Nat.reduceEqDiff, reduceIte, qv_binOp, binv_neq, eqs64, Option.map_some, decide_true, Bool.not_true, Bool.not_false, decide_false, eq_self, strEq, beq_self_eq_true, hB1.cell, hB6.cell, hB1.cell, hB6.cell, hB1.cell, hB6.cell]; rfl) ?_
          refine LD.nil ?_
          rintro h10 rfl -
          refine WL.nil (th_norm ?_)
          refine hx_cond (by simp only [EN, Nat.reduceEqDiff, reduceIte, decide_true, Bool.not_true, Bool.not_false, decide_false, eq_self, strEq, beq_self_eq_true, hB1.cell, hB6.cell, hB1.cell, hB6.cell, hB1.cell, hB6.cell]; rfl) (fun hct112 => ?_) (fun hct112 => ?_)
          ·
           simp at hct112
          ·
           try simp only [BD] at hct112
           refine hx_skip (bl_norm (th_norm (hx_region ?_)))
           iterate 3 refine WL.qq (by simp only [EN, Nat.reduceEqDiff, reduceIte, qv_move, i14_3, decide_true, Bool.not_true, Bool.not_false, decide_false, eq_self, strEq, beq_self_eq_true, hB1.cell, hB6.cell, hB1.cell, hB6.cell, hB1.cell, hB6.cell, qv_binOp, binv_add, qv_assign]; (try simp (disch := omega) only [w64, w8, wu64]); rfl) ?_
           refine WL.nil (th_norm ?_)
           refine ⟨rfl, rfl, ?_, _, ?_, q + 1, rfl, ?_, ?_⟩
           · (repeat (first | exact Fr.refl _ _ | refine Fr.set rfl ?_ | refine Fr.put rfl ?_ | with_reducible refine Fr.put0 ?_))
           · omega
           · omega
           · simp only [EN, Nat.reduceEqDiff, reduceIte, k5_3, k12_3, i14_3, decide_true, Bool.not_true, Bool.not_false, decide_false, eq_self, strEq, beq_self_eq_true, hB1.cell, hB6.cell, hB1.cell, hB6.cell, hB1.cell, hB6.cell] <;> first | rfl | (congr 1; omega)
         ·
          try simp only [BD] at hct101
          refine hx_exit (th_exit (th_exit (bl_hit (th_norm (hx_seq (hx_region ?_))))))
          refine WL.qq (by simp only [EN, Nat.reduceEqDiff, reduceIte, qv_assign, decide_true, Bool.not_true, Bool.not_false, decide_false, eq_self, strEq, beq_self_eq_true, hB1.cell, hB6.cell, hB1.cell, hB6.cell, hB1.cell, hB6.cell]; rfl) ?_
          refine WL.nil (th_norm (hx_ret ?_))
          refine fin_ret [.tmp 4] rfl rfl (by simp only [EN, Nat.reduceEqDiff, reduceIte, resv, k5_3, k12_3, i14_3, decide_true, Bool.not_true, Bool.not_false, decide_false, eq_self, strEq, beq_self_eq_true, hB1.cell, hB6.cell, hB1.cell, hB6.cell, hB1.cell, hB6.cell]; rfl) ?_
          exact ⟨by simp [retOf], hX⟩
end GL
namespace Go.Proofs.YtmooinekoeiajaaGreatDoor.electionOrder
open Go.ChangeShapes Go.WideShapes Go.ChangeAt Go.RowKit
theorem own : ownKnob Tryz.prog.godebug = none := by kernel_rfl
theorem laid : laidOutB Tryz.prog = true := by kernel_rfl
set_option maxRecDepth 100000 in
theorem lifted (os : Os) (started : os.Started) (H : Type) (enc : TypeId × Value → H) :
    ReturnsInHanded {} Tryz.checked os 8 .any (fun w args => (Rows.electionOrderSpec.pre enc Tryz.prog Tryz.f8 Rows.electionOrderRow.domain false w args ∧ laidMetH Tryz.prog Rows.electionOrderRow.laid w) ∧ sizedMet enc Tryz.prog Tryz.f8 (OpenSpec.ofChange Rows.electionOrderSpec) false w args) (Rows.electionOrderSpec.post enc Tryz.prog Tryz.f8 false true false false) := by
  refine returnsInHanded_of_change_and (C := Tryz.checked) (X := fun w _ => laidMetH Tryz.prog Rows.electionOrderRow.laid w) (fun _ _ _ hh h => h.of_heap hh) own started (by kernel_rfl) Tryz.func8
    (ChangeSpec.witness_shaped (enc := enc) (C := Tryz.checked) (os := os) (X := fun w _ => laidMetH Tryz.prog Rows.electionOrderRow.laid w) false (World.laidAll Tryz.prog os Rows.electionOrderRow.laid) #[(.agg #[(.slice none 0 0), (.slice none 0 0), (.string ⟨#[]⟩), (.int .i64 0), (.int .i64 0)]), (.slice none 0 0)] 8 (World.laidAll_os _ _ _)
      (World.shaped_of_ZipB (by kernel_rfl) (by kernel_rfl)) (by kernel_rfl) (by kernel_rfl) (by kernel_rfl)
      (by rw [MakeChecks.laidMetH_plain _ _ _ (by kernel_rfl)]; exact laidMet_laidAll _ (by kernel_rfl) (by kernel_rfl))) ?_
  intro W base args ds gs before hval0 hW hcnd _ hL _
  have hval : ∀ (j : Nat) t v, Tryz.f8.params[j]? = some t → args[j]? = some v → Value.okWide Tryz.prog W .any base t v := hval0
  have hW' := hW
  obtain ⟨p, q, hA0, hV, rfl, hfz, hnd⟩ := hW
  have hA : DataW.TrodAll enc Tryz.prog W 0 (fun _ => true) true Tryz.f8.params.toList args.toList ds p := hA0
  rw [Tryz.params8] at hA hval
  obtain ⟨v0, vs0, d0, ds0, p0, q0, hargs, rfl, rfl, h0, r0⟩ := trodAll_cons hA
  obtain ⟨v1, vs1, d1, ds1, p1, q1, rfl, rfl, rfl, h1, r1⟩ := trodAll_cons r0
  obtain ⟨rfl, rfl, rfl⟩ := trodAll_nil r1
  obtain rfl : args = #[v0, v1] := by cases args; simp_all
  obtain ⟨rfl, rfl⟩ := trodVars_none hV
  obtain ⟨x, rfl, hx⟩ := GL.view_su (hval 0 27 v0 rfl rfl) h0
  obtain ⟨al, l, cl, rfl, hl, hll⟩ := GL.view_ops (hval 1 28 v1 rfl rfl) h1
  exact GL.law_done (tb := 4) laid (by kernel_rfl) rfl (by kernel_rfl) Tryz.underlying4 hW' rfl (GL.l_order x al l cl hll hx hl)
theorem over : Rows.electionOrderRow.holds Tryz.pinned (OpenSpec.ofChange Rows.electionOrderSpec) :=
  OpenClaim.holds_of_wide 8 Tryz.f8 rfl rfl rfl rfl rfl rfl rfl ⟨rfl, rfl, rfl, rfl, rfl⟩ rfl rfl rfl rfl rfl (by kernel_rfl) Tryz.func8 (by kernel_rfl)
    (of_decide_eq_true (by kernel_rfl)) (by unfold Func.isWrapper; first | (rw [if_pos (by decide +kernel)]; kernel_rfl) | (rw [if_neg (by decide +kernel)]; exact ⟨rfl, rfl⟩))
    (fun os started H enc _ => lifted os started H enc)
theorem proved : Rows.ElectionOrderCardSaid :=
  Claim7.holds_tied_plain_at .later [] [.data, .pinned] true (true, "432ba5930207515d71965132727d0ce340d9dfecd27b298c3f46f89b49a71a5e") true over (fun _ h => by cases h) (by kernel_rfl) (fun _ h => by cases h) electionOrder_row_tie rfl ⟨rfl, rfl⟩ (by kernel_rfl) rfl
    (fun f fn hf hfn => by
      obtain rfl : f = 8 := Option.some.inj ((show Tryz.prog.funcNamed "giro/girolaw44.ElectionOrder" = some 8 by kernel_rfl).symm.trans hf) |>.symm
      obtain rfl : fn = Tryz.f8 := (Option.some.inj (Tryz.func8.symm.trans hfn)).symm
      exact ⟨by kernel_rfl, fun j t ht => by
        rw [Tryz.params8] at ht
        have hm : t ∈ [27, 28] := by simpa using Array.mem_of_getElem? ht
        have hall : ([27, 28].all fun u => !Tryz.prog.wantsStandIn u) = true := by kernel_rfl
        exact (show Tryz.prog.wantsStandIn t = false by simpa using List.all_eq_true.1 hall t hm)⟩)
    (by kernel_rfl)
end Go.Proofs.YtmooinekoeiajaaGreatDoor.electionOrder

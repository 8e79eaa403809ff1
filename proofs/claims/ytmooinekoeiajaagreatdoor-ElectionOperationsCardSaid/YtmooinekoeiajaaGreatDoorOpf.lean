/- The law ElectionOperations returns true: for any election and any sequence of at most 60 operations, all errors and results, and then all views, agree with the reference. No condition beyond the row's own. -/
import Derived.Test.YtmooinekoeiajaaGreatDoorOpe
import Derived.Lay
import Derived.SevenTiedAt
import Derived.Test.YtmooinekoeiajaaGreatDoorRows
import Derived.Test.YtmooinekoeiajaaGreatDoorCards
import Derived.Test.YtmooinekoeiajaaGreatDoorTie
import Derived.Test.YtmooinekoeiajaaGreatDoorProg
set_option linter.unusedSimpArgs false
set_option linter.unusedVariables false
set_option linter.unnecessarySimpa false
namespace GL
open Go Go.Proofs
set_option maxRecDepth 8000
theorem flat_mid {α β : Type} {f : α → List β} {l : List α} {i : Nat} {x : α} (hx : l[i]? = some x) : l.flatMap f = (l.take i).flatMap f ++ (f x ++ (l.drop (i + 1)).flatMap f) := by
  rw [← List.flatMap_cons, ← drop_atG hx, ← List.flatMap_append, List.take_append_drop]
theorem fmap_mid {α β : Type} {f : α → Option β} {l : List α} {i : Nat} {x : α} {y : β} (hx : l[i]? = some x) (hy : f x = some y) : l.filterMap f = (l.take i).filterMap f ++ (y :: (l.drop (i + 1)).filterMap f) := by
  have h1 : (x :: l.drop (i + 1)).filterMap f = y :: (l.drop (i + 1)).filterMap f := by rw [List.filterMap_cons, hy]
  rw [← h1, ← drop_atG hx, ← List.filterMap_append, List.take_append_drop]
theorem chc_at {E : EL} {i j : Nat} {x z : SI} (hx : E.hs[i]? = some x) (hz : E.os[j]? = some z) (hc : 0 < chE E x.s j) :
    (chcE E)[((E.hs.take i).flatMap (rowC E)).length + ((E.os.zipIdx.take j).filterMap (cxF E x)).length]? = some ⟨x.s, z.s, chE E x.s j⟩ := by
  have h1 : cxF E x (z, j) = some ⟨x.s, z.s, chE E x.s j⟩ := if_pos hc
  have h2 := fmap_mid (f := cxF E x) (zip_at hz) h1
  have h3 := flat_mid (f := rowC E) hx
  unfold chcE
  rw [h3, List.getElem?_append_right (by omega), Nat.add_sub_cancel_left]
  unfold rowC at *
  rw [List.getElem?_append_left (by rw [h2, List.length_append, List.length_cons]; omega), h2, List.getElem?_append_right (Nat.le_refl _), Nat.sub_self]
  rfl
theorem chc_len {E : EL} (h40 : E.hs.length ≤ 40) (hno : E.os.length ≤ 16) (i : Nat) : ((E.hs.take i).flatMap (rowC E)).length ≤ 640 := by
  have h8 := fmp_len (f := rowC E) (n := 16) (fun x => Nat.le_trans (List.length_filterMap_le _ _) (by rw [List.length_zipIdx]; omega)) (E.hs.take i)
  rw [List.length_take] at h8
  have h9 : min i E.hs.length * 16 ≤ 40 * 16 := Nat.mul_le_mul_right _ (by omega)
  omega
set_option maxHeartbeats 4000000 in
theorem l_oper (x : SX) (a : Option Addr) (L : List OX) (c : Nat) (s o : ByteArray) (hll : L.length ≤ 9223372036854775807) {h : Heap} (hs : SuI h x) (hsL : SlG 6 oxL h a L) :
    HCalls Tryz.prog 9 #[.agg (suC x), .slice a L.length c, .string s, .string o] h (Grow (.bool true) h) := by
  refine hcalls2 Tryz.func9 rfl (by decide +kernel) (by simp only [Tryz.ntmps9]; exact of_decide_eq_true rfl) ?_
  intro e hin
  have e0 := hin 0 _ rfl
  have e1 := hin 1 _ rfl
  have e2 := hin 2 _ rfl
  have e3 := hin 3 _ rfl
  refine hx_seq (hx_region ?_)
  refine WL.box2 (by simp only [EN, Nat.reduceEqDiff, reduceIte, Value.cells, e0, decide_true, Bool.not_true, Bool.not_false, decide_false, eq_self, strEq]; rfl) ?_
  intro h1 B1 hx1 hlt1 hB1
  replace hs := hs.ext hx1
  replace hsL := hsL.ext hx1
  refine WL.qq (by simp only [EN, Nat.reduceEqDiff, reduceIte, qv_assign, decide_true, Bool.not_true, Bool.not_false, decide_false, eq_self, strEq, hB1.cell]; rfl) ?_
  refine WL.nil (th_norm (hx_seq (hx_seq (hx_region ?_))))
  refine WL.cg Tryz.call10 (by simp only [EN, Nat.reduceEqDiff, reduceIte, AR, decide_true, Bool.not_true, Bool.not_false, decide_false, eq_self, strEq, hB1.cell]; exact c_known44 _) ?_
  intro h2 hx2
  replace hs := hs.ext hx2
  replace hsL := hsL.ext hx2
  replace hB1 := hB1.ext hx2
  iterate 2 refine WL.qq (by simp only [EN, Nat.reduceEqDiff, reduceIte, qv_unOp, unv_not, decide_true, Bool.not_true, Bool.not_false, decide_false, eq_self, strEq, hB1.cell, qv_move]; rfl) ?_
  refine WL.cq (gd_at (t := 26) rfl (by simp only [EN, Nat.reduceEqDiff, reduceIte, decide_true, Bool.not_true, Bool.not_false, decide_false, eq_self, strEq, hB1.cell] <;> rfl)) (fun hg1_3 => by simp only [EN, Nat.reduceEqDiff, reduceIte, qv_load, ld27, readN, AR, Nat.zero_add, Nat.reduceAdd, decide_true, Bool.not_true, Bool.not_false, decide_false, eq_self, strEq, hB1.cell, hg1_3, GR]; rfl) ?_
  refine WL.cq (gd_at (t := 26) rfl (by simp only [EN, Nat.reduceEqDiff, reduceIte, e1, decide_true, Bool.not_true, Bool.not_false, decide_false, eq_self, strEq, hB1.cell] <;> rfl)) (fun hg1_4 => by simp only [EN, Nat.reduceEqDiff, reduceIte, qv_move, e1, decide_true, Bool.not_true, Bool.not_false, decide_false, eq_self, strEq, hB1.cell, hg1_4, GR]; rfl) ?_
  refine WL.ccg (gd_at (t := 26) rfl (by simp only [EN, Nat.reduceEqDiff, reduceIte, decide_true, Bool.not_true, Bool.not_false, decide_false, eq_self, strEq, hB1.cell] <;> rfl)) Tryz.call11 (fun hg1_5 => by simp only [EN, Nat.reduceEqDiff, reduceIte, AR, decide_true, Bool.not_true, Bool.not_false, decide_false, eq_self, strEq, hB1.cell, hg1_5, GR]; exact c_small x a L.length c hll _) ?_
  intro h3 hx3
  replace hs := hs.ext hx3
  replace hsL := hsL.ext hx3
  replace hB1 := hB1.ext hx3
  refine WL.cq (gd_at (t := 26) rfl (by simp only [EN, Nat.reduceEqDiff, reduceIte, decide_true, Bool.not_true, Bool.not_false, decide_false, eq_self, strEq, hB1.cell] <;> rfl)) (fun hg1_6 => by simp only [EN, Nat.reduceEqDiff, reduceIte, qv_unOp, unv_not, decide_true, Bool.not_true, Bool.not_false, decide_false, eq_self, strEq, hB1.cell, hg1_6, GR]; rfl) ?_
  refine WL.qq (by simp only [EN, Nat.reduceEqDiff, reduceIte, qv_pick, pk_and, pk_or, GR, decide_true, Bool.not_true, Bool.not_false, decide_false, eq_self, strEq, hB1.cell]; rfl) ?_
  refine WL.nil (th_norm ?_)
  refine hx_cond (by simp only [EN, Nat.reduceEqDiff, reduceIte, decide_true, Bool.not_true, Bool.not_false, decide_false, eq_self, strEq, hB1.cell]; rfl) (fun hct31 => ?_) (fun hct31 => ?_)
  ·
   try simp only [BD] at hct31
   refine hx_seq (hx_region ?_)
   refine WL.cg Tryz.call10 (by simp only [EN, Nat.reduceEqDiff, reduceIte, AR, decide_true, Bool.not_true, Bool.not_false, decide_false, eq_self, strEq, hB1.cell]; exact c_known44 _) ?_
   intro h4 hx4
   replace hs := hs.ext hx4
   replace hsL := hsL.ext hx4
   replace hB1 := hB1.ext hx4
   refine WL.qq (by simp only [EN, Nat.reduceEqDiff, reduceIte, qv_assign, decide_true, Bool.not_true, Bool.not_false, decide_false, eq_self, strEq, hB1.cell]; rfl) ?_
   refine WL.nil (th_norm (hx_ret (th_ret ?_)))
   refine fin_ret [.tmp 8] rfl rfl (by simp only [EN, Nat.reduceEqDiff, reduceIte, resv, e0, e1, e2, e3, decide_true, Bool.not_true, Bool.not_false, decide_false, eq_self, strEq, hB1.cell]; rfl) ?_
   exact ⟨rfl, ((hx1).trans ((hx2).trans ((hx3).trans (hx4))))⟩
  ·
   try simp only [BD] at hct31
   have hsm : smE x L.length := (by simpa using hct31)
   refine hx_skip (th_norm (hx_seq (hx_region ?_)))
   iterate 2 refine WL.qq (by simp only [EN, Nat.reduceEqDiff, reduceIte, qv_load, ld27, readN, AR, Nat.zero_add, Nat.reduceAdd, decide_true, Bool.not_true, Bool.not_false, decide_false, eq_self, strEq, hB1.cell, qv_move, e1]; rfl) ?_
   refine WL.ce Tryz.call12 (by simp only [EN, Nat.reduceEqDiff, reduceIte, AR, decide_true, Bool.not_true, Bool.not_false, decide_false, eq_self, strEq, hB1.cell]; exact c_run x hsm.1 hsm.2.1 a L c (by have := hsm.2.2; omega) hs hsL) ?_
   rintro _ h5 ⟨hx5, u, w, rfl, hR⟩
   replace hs := hs.ext hx5
   replace hsL := hsL.ext hx5
   replace hB1 := hB1.ext hx5
   simp only [put_some]
   obtain ⟨a0, n0, k0, a1, n1, k1, x2, x3, x4, a5, n5, k5, b6, rfl⟩ := hR.shape
   iterate 5 refine WL.qq (by simp only [EN, Nat.reduceEqDiff, reduceIte, qv_move, decide_true, Bool.not_true, Bool.not_false, decide_false, eq_self, strEq, hB1.cell, qv_extract, AR]; rfl) ?_
   have hRo := hR; have hXo := ((hx1).trans ((hx2).trans ((hx3).trans (hx5))))
   refine WL.alloc2 zr34 ?_
   intro h6 B6 hx6 hlt6 hB6
   replace hs := hs.ext hx6
   replace hsL := hsL.ext hx6
   replace hB1 := hB1.ext hx6
   replace hR := hR.ext hx6
   simp only [Value.cells] at hB6
   refine WL.qq (by simp only [EN, Nat.reduceEqDiff, reduceIte, qv_assign, decide_true, Bool.not_true, Bool.not_false, decide_false, eq_self, strEq, hB1.cell, hB6.cell]; rfl) ?_
   refine WL.store (by simp only [EN, Nat.reduceEqDiff, reduceIte, decide_true, Bool.not_true, Bool.not_false, decide_false, eq_self, strEq, hB1.cell, hB6.cell] <;> rfl) sz34 (by simp only [EN, Nat.reduceEqDiff, reduceIte, Value.cells, decide_true, Bool.not_true, Bool.not_false, decide_false, eq_self, strEq, hB1.cell, hB6.cell] <;> rfl) rfl hB6 (by first | (simp [true_and]; done) | (simp [true_and]; omega) | omega) (by simp [Value.oneCell']) ?_
   intro h7 hw7
   have hx13 := hw7.ext hx6 hlt6
   have hX := hXo.trans hx13
   replace hR := hRo.ext hx13
   replace hB6 := hw7.at_
   try simp only [splc, List.take_succ_cons, List.take_zero, List.take_nil, List.drop_succ_cons, List.drop_zero, List.drop_nil, List.cons_append, List.nil_append, List.length_cons, List.length_nil, Nat.zero_add, Nat.add_zero, Nat.reduceAdd, List.append_nil] at hB6
   iterate 2 refine WL.qq (by simp only [EN, Nat.reduceEqDiff, reduceIte, qv_assign, decide_true, Bool.not_true, Bool.not_false, decide_false, eq_self, strEq, hB1.cell, hB6.cell]; rfl) ?_
   refine WL.nil (th_norm (hx_seq (hx_seq (hx_region ?_))))
   iterate 3 refine WL.qq (by simp only [EN, Nat.reduceEqDiff, reduceIte, qv_move, decide_true, Bool.not_true, Bool.not_false, decide_false, eq_self, strEq, hB1.cell, hB6.cell, qv_unOp, unv_not]; rfl) ?_
   refine WL.cq (gd_at (t := 43) rfl (by simp only [EN, Nat.reduceEqDiff, reduceIte, decide_true, Bool.not_true, Bool.not_false, decide_false, eq_self, strEq, hB1.cell, hB6.cell] <;> rfl)) (fun hg4_3 => by simp only [EN, Nat.reduceEqDiff, reduceIte, qv_move, decide_true, Bool.not_true, Bool.not_false, decide_false, eq_self, strEq, hB1.cell, hB6.cell, hg4_3, GR]; rfl) ?_
   refine WL.cq (gd_at (t := 43) rfl (by simp only [EN, Nat.reduceEqDiff, reduceIte, decide_true, Bool.not_true, Bool.not_false, decide_false, eq_self, strEq, hB1.cell, hB6.cell] <;> rfl)) (fun hg4_4 => by simp only [EN, Nat.reduceEqDiff, reduceIte, qv_unOp, unv_not, decide_true, Bool.not_true, Bool.not_false, decide_false, eq_self, strEq, hB1.cell, hB6.cell, hg4_4, GR]; rfl) ?_
   refine WL.qq (by simp only [EN, Nat.reduceEqDiff, reduceIte, qv_pick, pk_and, pk_or, GR, decide_true, Bool.not_true, Bool.not_false, decide_false, eq_self, strEq, hB1.cell, hB6.cell]; rfl) ?_
   refine WL.nil (th_norm ?_)
   refine hx_cond (by simp only [EN, Nat.reduceEqDiff, reduceIte, decide_true, Bool.not_true, Bool.not_false, decide_false, eq_self, strEq, hB1.cell, hB6.cell]; rfl) (fun hct46 => ?_) (fun hct46 => ?_)
   ·
    try simp only [BD] at hct46
    refine hx_seq (hx_region ?_)
    iterate 2 refine WL.qq (by simp only [EN, Nat.reduceEqDiff, reduceIte, qv_move, decide_true, Bool.not_true, Bool.not_false, decide_false, eq_self, strEq, hB1.cell, hB6.cell, qv_assign]; rfl) ?_
    refine WL.nil (th_norm (hx_ret (th_ret ?_)))
    refine fin_ret [.tmp 8] rfl rfl (by simp only [EN, Nat.reduceEqDiff, reduceIte, resv, e0, e1, e2, e3, decide_true, Bool.not_true, Bool.not_false, decide_false, eq_self, strEq, hB1.cell, hB6.cell]; rfl) ?_
    exact ⟨rfl, (hX)⟩
   ·
    try simp only [BD] at hct46
    have he : erX x = 0 := (by simpa using hct46)
    obtain ⟨_, p, b, vh, vo, wh, wo, wc, rfl, hwe, hE, hI⟩ := hR.resolve_left (fun hh => hh.1 he)
    have hq := Value.agg.inj hwe; rw [hq] at hB6; clear hwe hq
    have g : GoodE (runE (nwX x) L) := good_run (new_good he) L; have h40 : (runE (nwX x) L).hs.length ≤ 40 := (by rw [(runE_hs (nwX x) L).1, nw_len he]; exact hsm.1)
    generalize runE (nwX x) L = E at hE hI g h40 hB6 hR
    obtain ⟨ah, ch, rfl, _, hsh⟩ := id hI.sh; obtain ⟨ao, co, rfl, _, hso⟩ := id hI.so; obtain ⟨ac, cc, rows, rfl, _, hsc, hri⟩ := id hI.sc
    have hnh := g.hn; have hno := g.on; have hlt := totE_len (E := E)
    refine hx_skip (th_norm (hx_seq (hx_region ?_)))
    have hE := hE; have hI := hI
    refine WL.qq (by simp only [EN, Nat.reduceEqDiff, reduceIte, qv_move, decide_true, Bool.not_true, Bool.not_false, decide_false, eq_self, strEq, hB1.cell, hB6.cell]; rfl) ?_
    refine WL.ce Tryz.call22 (by simp only [EN, Nat.reduceEqDiff, reduceIte, AR, decide_true, Bool.not_true, Bool.not_false, decide_false, eq_self, strEq, hB1.cell, hB6.cell]; exact c_totals g.b h40 hE) ?_
    rintro _ h8 ⟨hx8, hto⟩
    replace hB6 := hB6.ext hx8
    simp only [put_some]
    have hE := hE.ext hx8
    have hI := hI.ext hx8
    have hsh := hsh.ext hx8
    have hso := hso.ext hx8
    have hsc := hsc.ext hx8
    have hri := hri.ext hx8
    obtain ⟨t1, tc1, rfl⟩ := hto.slice
    refine WL.qq (by simp only [EN, Nat.reduceEqDiff, reduceIte, qv_assign, decide_true, Bool.not_true, Bool.not_false, decide_false, eq_self, strEq, hB1.cell, hB6.cell]; rfl) ?_
    refine WL.nil (th_norm (hx_seq (hx_region ?_)))
    refine WL.qq (by simp only [EN, Nat.reduceEqDiff, reduceIte, qv_load, ld34, readN, AR, Nat.zero_add, Nat.reduceAdd, decide_true, Bool.not_true, Bool.not_false, decide_false, eq_self, strEq, hB1.cell, hB6.cell]; rfl) ?_
    refine WL.ce Tryz.call26 (by simp only [EN, Nat.reduceEqDiff, reduceIte, AR, decide_true, Bool.not_true, Bool.not_false, decide_false, eq_self, strEq, hB1.cell, hB6.cell]; exact c_rTotals g hI) ?_
    rintro _ h9 ⟨hx9, htr⟩
    replace hB6 := hB6.ext hx9
    replace hE := hE.ext hx9
    replace hI := hI.ext hx9
    replace hto := hto.ext hx9
    replace hsh := hsh.ext hx9
    replace hso := hso.ext hx9
    replace hsc := hsc.ext hx9
    replace hri := hri.ext hx9
    simp only [put_some]
    obtain ⟨t2, tc2, rfl⟩ := htr.slice
    refine WL.qq (by simp only [EN, Nat.reduceEqDiff, reduceIte, qv_assign, decide_true, Bool.not_true, Bool.not_false, decide_false, eq_self, strEq, hB1.cell, hB6.cell]; rfl) ?_
    refine WL.nil (th_norm (hx_seq (hx_seq ?_)))
    apply hx_draw2 Rel.same [] [7] [(7, Spec.is _)] rfl (by decide +kernel) rfl
    iterate 6 refine LD.qq rfl rfl (by simp only [EN, Nat.reduceEqDiff, reduceIte, qv_move, decide_true, Bool.not_true, Bool.not_false, decide_false, eq_self, strEq, hB1.cell, hB6.cell, qv_len, ln55, AR, qv_binOp, binv_neq, eq3, Option.map_some]; rfl) ?_
    refine LD.on (by rw [gOk_s (gd_at (t := 57) rfl (by simp only [EN, Nat.reduceEqDiff, reduceIte, decide_true, Bool.not_true, Bool.not_false, decide_false, eq_self, strEq, hB1.cell, hB6.cell] <;> rfl))]; rfl) ?_
    refine LD.qq rfl rfl (by simp only [EN, Nat.reduceEqDiff, reduceIte, qv_move, decide_true, Bool.not_true, Bool.not_false, decide_false, eq_self, strEq, hB1.cell, hB6.cell]; rfl) ?_
    refine LD.on (by rw [gOk_s (gd_at (t := 57) rfl (by simp only [EN, Nat.reduceEqDiff, reduceIte, decide_true, Bool.not_true, Bool.not_false, decide_false, eq_self, strEq, hB1.cell, hB6.cell] <;> rfl))]; rfl) ?_
    refine LD.ck rfl rfl Tryz.call23 (by intro hD hr; obtain rfl : hD = _ := hr; simp only [EN, Nat.reduceEqDiff, reduceIte, AR, decide_true, Bool.not_true, Bool.not_false, decide_false, eq_self, strEq, hB1.cell, hB6.cell]; exact c_closed hE) ?_
    refine LD.on (by rw [gOk_s (gd_at (t := 57) rfl (by simp only [EN, Nat.reduceEqDiff, reduceIte, decide_true, Bool.not_true, Bool.not_false, decide_false, eq_self, strEq, hB1.cell, hB6.cell] <;> rfl))]; rfl) ?_
    refine LD.qq rfl rfl (by simp only [EN, Nat.reduceEqDiff, reduceIte, qv_fieldAddr, fa34_5, Nat.zero_add, Nat.reduceAdd, decide_true, Bool.not_true, Bool.not_false, decide_false, eq_self, strEq, hB1.cell, hB6.cell]; rfl) ?_
    refine LD.on (by rw [gOk_s (gd_at (t := 57) rfl (by simp only [EN, Nat.reduceEqDiff, reduceIte, decide_true, Bool.not_true, Bool.not_false, decide_false, eq_self, strEq, hB1.cell, hB6.cell] <;> rfl))]; rfl) ?_
    refine LD.qq rfl rfl (by simp only [EN, Nat.reduceEqDiff, reduceIte, qv_load, ld4, readN, AR, Nat.zero_add, Nat.reduceAdd, decide_true, Bool.not_true, Bool.not_false, decide_false, eq_self, strEq, hB1.cell, hB6.cell]; rfl) ?_
    refine LD.on (by rw [gOk_s (gd_at (t := 57) rfl (by simp only [EN, Nat.reduceEqDiff, reduceIte, decide_true, Bool.not_true, Bool.not_false, decide_false, eq_self, strEq, hB1.cell, hB6.cell] <;> rfl))]; rfl) ?_
    iterate 2 refine LD.qq rfl rfl (by simp only [EN, Nat.reduceEqDiff, reduceIte, qv_binOp, binv_neq, eq4, Option.map_some, decide_true, Bool.not_true, Bool.not_false, decide_false, eq_self, strEq, hB1.cell, hB6.cell, qv_pick, pk_and, pk_or, GR]; rfl) ?_
    refine LD.nil ?_
    rintro h9 rfl -
    refine WL.nil (th_norm ?_)
    refine hx_cond (by simp only [EN, Nat.reduceEqDiff, reduceIte, decide_true, Bool.not_true, Bool.not_false, decide_false, eq_self, strEq, hB1.cell, hB6.cell]; rfl) (fun hct63 => ?_) (fun hct63 => ?_)
    ·
     simp at hct63
    ·
     try simp only [BD] at hct63
     refine hx_skip (th_norm (hx_seq (hx_seq (hx_region ?_))))
     refine WL.qq (by simp only [EN, Nat.reduceEqDiff, reduceIte, qv_assign, decide_true, Bool.not_true, Bool.not_false, decide_false, eq_self, strEq, hB1.cell, hB6.cell]; rfl) ?_
     refine WL.nil (th_norm (hx_block ?_))
     refine hx_loopS [8, 15, 64, 65, 66, 67, 68, 69, 70, 71, 72, 73, 74, 75, 76, 77, 78] (fun k e => ∃ (i : Nat), (totE E).length - i = k ∧ (i ≤ (totE E).length) ∧ e 15 = .int .i64 i) _ ⟨0, rfl, ?_, ?_⟩ ?_
     · omega
     · simp only [EN, Nat.reduceEqDiff, reduceIte, e0, e1, e2, e3, decide_true, Bool.not_true, Bool.not_false, decide_false, eq_self, strEq, hB1.cell, hB6.cell] <;> rfl
     ·
      rintro k e0L hfr0 ⟨i, rfl, hi, i15_0⟩
      have k2_0 := hfr0 2 rfl; try simp only [EN, Nat.reduceEqDiff, reduceIte, e2, decide_true, Bool.not_true, Bool.not_false, decide_false, eq_self, strEq, hB1.cell, hB6.cell] at k2_0
      have k3_0 := hfr0 3 rfl; try simp only [EN, Nat.reduceEqDiff, reduceIte, e3, decide_true, Bool.not_true, Bool.not_false, decide_false, eq_self, strEq, hB1.cell, hB6.cell] at k3_0
      have k9_0 := hfr0 9 rfl; try simp only [EN, Nat.reduceEqDiff, reduceIte, decide_true, Bool.not_true, Bool.not_false, decide_false, eq_self, strEq, hB1.cell, hB6.cell] at k9_0
      have k10_0 := hfr0 10 rfl; try simp only [EN, Nat.reduceEqDiff, reduceIte, decide_true, Bool.not_true, Bool.not_false, decide_false, eq_self, strEq, hB1.cell, hB6.cell] at k10_0
      have k13_0 := hfr0 13 rfl; try simp only [EN, Nat.reduceEqDiff, reduceIte, decide_true, Bool.not_true, Bool.not_false, decide_false, eq_self, strEq, hB1.cell, hB6.cell] at k13_0
      have k14_0 := hfr0 14 rfl; try simp only [EN, Nat.reduceEqDiff, reduceIte, decide_true, Bool.not_true, Bool.not_false, decide_false, eq_self, strEq, hB1.cell, hB6.cell] at k14_0
      refine hx_seq (hx_seq (hx_region ?_))
      iterate 4 refine WL.qq (by simp only [EN, Nat.reduceEqDiff, reduceIte, qv_move, i15_0, decide_true, Bool.not_true, Bool.not_false, decide_false, eq_self, strEq, hB1.cell, hB6.cell, k13_0, qv_len, ln55, AR, qv_binOp, binv_lss]; rfl) ?_
      refine WL.nil (th_norm ?_)
      refine hx_cond (by simp only [EN, Nat.reduceEqDiff, reduceIte, decide_true, Bool.not_true, Bool.not_false, decide_false, eq_self, strEq, hB1.cell, hB6.cell]; rfl) (fun hct67 => ?_) (fun hct67 => ?_)
      ·
       try simp only [BD] at hct67
       obtain ⟨y, hy⟩ := atG (l := totE E) (i := i) (by omega)
       obtain ⟨b1, o1, ha1, hc1⟩ := one_at' (slG_own (f := intL) (sz := 1) (fun _ => rfl) hto rfl) hy rfl; obtain ⟨b2, o2, ha2, hc2⟩ := one_at' (slG_own (f := intL) (sz := 1) (fun _ => rfl) htr rfl) hy rfl
       refine hx_skip (th_norm (hx_seq (hx_block (hx_seq ?_))))
       apply hx_draw2 Rel.same [] [] [] rfl (by decide +kernel) rfl
       iterate 3 refine LD.qq rfl rfl (by simp only [EN, Nat.reduceEqDiff, reduceIte, qv_move, k13_0, decide_true, Bool.not_true, Bool.not_false, decide_false, eq_self, strEq, hB1.cell, hB6.cell, i15_0, qv_indexAddr, ha1]; (try simp (disch := omega) only [ix55, Int.toNat_natCast]); rfl) ?_
       refine LD.qq rfl rfl (by simp only [EN, Nat.reduceEqDiff, reduceIte, k2_0, k3_0, k9_0, k10_0, k13_0, k14_0, i15_0, decide_true, Bool.not_true, Bool.not_false, decide_false, eq_self, strEq, hB1.cell, hB6.cell, qv_load, ld2, Int.toNat_natCast, Nat.mul_one, hc1]; rfl) ?_
       iterate 3 refine LD.qq rfl rfl (by simp only [EN, Nat.reduceEqDiff, reduceIte, qv_move, k14_0, decide_true, Bool.not_true, Bool.not_false, decide_false, eq_self, strEq, hB1.cell, hB6.cell, i15_0, qv_indexAddr, ha2]; (try simp (disch := omega) only [ix55, Int.toNat_natCast]); rfl) ?_
       refine LD.qq rfl rfl (by simp only [EN, Nat.reduceEqDiff, reduceIte, k2_0, k3_0, k9_0, k10_0, k13_0, k14_0, i15_0, decide_true, Bool.not_true, Bool.not_false, decide_false, eq_self, strEq, hB1.cell, hB6.cell, qv_load, ld2, Int.toNat_natCast, Nat.mul_one, hc2]; rfl) ?_
       refine LD.qq rfl rfl (by simp only [EN, Nat.reduceEqDiff, reduceIte, qv_binOp, binv_neq, eq2, Option.map_some, decide_true, Bool.not_true, Bool.not_false, decide_false, eq_self, strEq, hB1.cell, hB6.cell]; rfl) ?_
       refine LD.nil ?_
       rintro h9 rfl -
       refine WL.nil (th_norm ?_)
       refine hx_cond (by simp only [EN, Nat.reduceEqDiff, reduceIte, decide_true, Bool.not_true, Bool.not_false, decide_false, eq_self, strEq, hB1.cell, hB6.cell]; rfl) (fun hct78 => ?_) (fun hct78 => ?_)
       ·
        simp at hct78
       ·
        try simp only [BD] at hct78
        refine hx_skip (bl_norm (th_norm (hx_region ?_)))
        iterate 3 refine WL.qq (by simp only [EN, Nat.reduceEqDiff, reduceIte, qv_move, i15_0, decide_true, Bool.not_true, Bool.not_false, decide_false, eq_self, strEq, hB1.cell, hB6.cell, qv_binOp, binv_add, qv_assign]; (try simp (disch := omega) only [w64, w8, wu64]); rfl) ?_
        refine WL.nil (th_norm ?_)
        refine ⟨rfl, rfl, ?_, _, ?_, i + 1, rfl, ?_, ?_⟩
        · (repeat (first | exact Fr.refl _ _ | refine Fr.set rfl ?_ | refine Fr.put rfl ?_ | with_reducible refine Fr.put0 ?_))
        · omega
        · omega
        · simp only [EN, Nat.reduceEqDiff, reduceIte, k2_0, k3_0, k9_0, k10_0, k13_0, k14_0, i15_0, decide_true, Bool.not_true, Bool.not_false, decide_false, eq_self, strEq, hB1.cell, hB6.cell] <;> first | rfl | (congr 1; omega)
      ·
       try simp only [BD] at hct67
       refine hx_exit (th_exit (th_exit (bl_hit (th_norm (hx_seq (hx_region ?_))))))
       iterate 2 refine WL.qq (by simp only [EN, Nat.reduceEqDiff, reduceIte, qv_assign, decide_true, Bool.not_true, Bool.not_false, decide_false, eq_self, strEq, hB1.cell, hB6.cell]; rfl) ?_
       refine WL.nil (th_norm (hx_seq (hx_region ?_)))
       iterate 3 refine WL.qq (by simp only [EN, Nat.reduceEqDiff, reduceIte, qv_load, ld34, readN, AR, Nat.zero_add, Nat.reduceAdd, k10_0, decide_true, Bool.not_true, Bool.not_false, decide_false, eq_self, strEq, hB1.cell, hB6.cell, qv_move, k2_0, k3_0]; rfl) ?_
       refine WL.cg Tryz.call27 (by simp only [EN, Nat.reduceEqDiff, reduceIte, AR, decide_true, Bool.not_true, Bool.not_false, decide_false, eq_self, strEq, hB1.cell, hB6.cell]; exact c_rFind g s o hI) ?_
       intro h10 hx10
       replace hB6 := hB6.ext hx10
       replace hE := hE.ext hx10
       replace hI := hI.ext hx10
       replace hto := hto.ext hx10
       replace hsh := hsh.ext hx10
       replace hso := hso.ext hx10
       replace hsc := hsc.ext hx10
       replace hri := hri.ext hx10
       replace htr := htr.ext hx10
       iterate 5 refine WL.qq (by simp only [EN, Nat.reduceEqDiff, reduceIte, qv_move, decide_true, Bool.not_true, Bool.not_false, decide_false, eq_self, strEq, hB1.cell, hB6.cell, qv_extract, AR, qv_assign]; rfl) ?_
       refine WL.nil (th_norm ?_)
       refine hx_cutX [16, 17, 86, 87, 88, 89, 90, 91, 92, 93, 94, 95, 96, 97, 98, 99, 100] (fun e => e 16 = iV (lk E.m ⟨s, idxS o E.os⟩) ∧ e 17 = iV (freeE E s)) ?_ ?_
       ·
        refine hx_seq (hx_region ?_)
        iterate 2 refine WL.qq (by simp only [EN, Nat.reduceEqDiff, reduceIte, qv_move, decide_true, Bool.not_true, Bool.not_false, decide_false, eq_self, strEq, hB1.cell, hB6.cell, qv_binOp, binv_geq]; rfl) ?_
        refine WL.nil (th_norm ?_)
        refine hx_cond (by simp only [EN, Nat.reduceEqDiff, reduceIte, decide_true, Bool.not_true, Bool.not_false, decide_false, eq_self, strEq, hB1.cell, hB6.cell]; rfl) (fun hct87 => ?_) (fun hct87 => ?_)
        ·
         try simp only [BD] at hct87
         obtain ⟨i1, x1, hi1, hx1x, hxs, hno1⟩ : ∃ i x, idxS s E.hs = (i : Nat) ∧ E.hs[i]? = some x ∧ x.s = s ∧ ∀ y ∈ E.hs.take i, y.s ≠ s := (idxS_cases s E.hs).resolve_left (fun hh => by omega)
         have hz17 : freeE E s = x1.n - sumE E x1.s := (by rw [← hxs]; exact free_at g (List.mem_of_getElem? hx1x)); have hil := (List.getElem?_eq_some_iff.1 hx1x).1
         refine hx_seq (hx_region ?_)
         iterate 2 refine WL.qq (by simp only [EN, Nat.reduceEqDiff, reduceIte, qv_load, ld34, readN, AR, Nat.zero_add, Nat.reduceAdd, k10_0, decide_true, Bool.not_true, Bool.not_false, decide_false, eq_self, strEq, hB1.cell, hB6.cell, qv_move]; rfl) ?_
         refine WL.cg Tryz.call28 (by simp only [EN, Nat.reduceEqDiff, reduceIte, AR, decide_true, Bool.not_true, Bool.not_false, decide_false, eq_self, strEq, hB1.cell, hB6.cell]; exact c_rFreeI g hi1 hx1x hI) ?_
         intro h11 hx11
         replace hB6 := hB6.ext hx11
         replace hE := hE.ext hx11
         replace hI := hI.ext hx11
         replace hto := hto.ext hx11
         replace hsh := hsh.ext hx11
         replace hso := hso.ext hx11
         replace hsc := hsc.ext hx11
         replace hri := hri.ext hx11
         replace htr := htr.ext hx11
         refine WL.qq (by simp only [EN, Nat.reduceEqDiff, reduceIte, qv_assign, decide_true, Bool.not_true, Bool.not_false, decide_false, eq_self, strEq, hB1.cell, hB6.cell]; rfl) ?_
         refine WL.nil (th_norm (hx_seq (hx_region ?_)))
         iterate 2 refine WL.qq (by simp only [EN, Nat.reduceEqDiff, reduceIte, qv_move, decide_true, Bool.not_true, Bool.not_false, decide_false, eq_self, strEq, hB1.cell, hB6.cell, qv_binOp, binv_geq]; rfl) ?_
         refine WL.nil (th_norm ?_)
         refine hx_cond (by simp only [EN, Nat.reduceEqDiff, reduceIte, decide_true, Bool.not_true, Bool.not_false, decide_false, eq_self, strEq, hB1.cell, hB6.cell]; rfl) (fun hct92 => ?_) (fun hct92 => ?_)
         ·
          try simp only [BD] at hct92
          obtain ⟨k1, y1, hk1, hy1, _, _⟩ : ∃ i x, idxS o E.os = (i : Nat) ∧ E.os[i]? = some x ∧ x.s = o ∧ ∀ y ∈ E.os.take i, y.s ≠ o := (idxS_cases o E.os).resolve_left (fun hh => by omega)
          have hkl := (List.getElem?_eq_some_iff.1 hy1).1; obtain ⟨b2, o2, b3, o3, c3, ha2, hc2, hc3⟩ := row_rd hsc.rd hri hx1x hkl; have hz16 : lk E.m ⟨s, idxS o E.os⟩ = chE E x1.s k1 := (by rw [hk1, ← hxs]; rfl)
          refine hx_region ?_
          iterate 3 refine WL.qq (by simp only [EN, Nat.reduceEqDiff, reduceIte, qv_fieldAddr, fa34_4, Nat.zero_add, Nat.reduceAdd, k10_0, decide_true, Bool.not_true, Bool.not_false, decide_false, eq_self, strEq, hB1.cell, hB6.cell, qv_load, ld32, readN, AR, qv_move]; rfl) ?_
          refine WL.qq (by simp only [EN, Nat.reduceEqDiff, reduceIte, qv_indexAddr, decide_true, Bool.not_true, Bool.not_false, decide_false, eq_self, strEq, hB1.cell, hB6.cell, ha2, hi1]; (try simp (disch := omega) only [ix32, Int.toNat_natCast]); rfl) ?_
          refine WL.qq (by simp only [EN, Nat.reduceEqDiff, reduceIte, k2_0, k3_0, k9_0, k10_0, k13_0, k14_0, i15_0, decide_true, Bool.not_true, Bool.not_false, decide_false, eq_self, strEq, hB1.cell, hB6.cell, qv_load, ld55, Int.toNat_natCast, Nat.mul_one, hc2]; rfl) ?_
          iterate 2 refine WL.qq (by simp only [EN, Nat.reduceEqDiff, reduceIte, qv_move, decide_true, Bool.not_true, Bool.not_false, decide_false, eq_self, strEq, hB1.cell, hB6.cell, qv_indexAddr, hk1]; (try simp (disch := omega) only [ix55, Int.toNat_natCast]); rfl) ?_
          refine WL.qq (by simp only [EN, Nat.reduceEqDiff, reduceIte, k2_0, k3_0, k9_0, k10_0, k13_0, k14_0, i15_0, decide_true, Bool.not_true, Bool.not_false, decide_false, eq_self, strEq, hB1.cell, hB6.cell, qv_load, ld2, Int.toNat_natCast, Nat.mul_one, hc3]; rfl) ?_
          refine WL.qq (by simp only [EN, Nat.reduceEqDiff, reduceIte, qv_assign, decide_true, Bool.not_true, Bool.not_false, decide_false, eq_self, strEq, hB1.cell, hB6.cell]; rfl) ?_
          refine WL.nil (th_norm ?_)
          refine ⟨rfl, ?_, ?_, ?_, ?_⟩
          · exact hx11
          · (repeat (first | exact Fr.refl _ _ | refine Fr.set rfl ?_ | refine Fr.put rfl ?_ | with_reducible refine Fr.put0 ?_))
          · simp only [EN, Nat.reduceEqDiff, reduceIte, k2_0, k3_0, k9_0, k10_0, k13_0, k14_0, i15_0, decide_true, Bool.not_true, Bool.not_false, decide_false, eq_self, strEq, hB1.cell, hB6.cell] <;> rw [hz16]
          · simp only [EN, Nat.reduceEqDiff, reduceIte, k2_0, k3_0, k9_0, k10_0, k13_0, k14_0, i15_0, decide_true, Bool.not_true, Bool.not_false, decide_false, eq_self, strEq, hB1.cell, hB6.cell] <;> rw [hz17]
         ·
          try simp only [BD] at hct92
          have hz16 : lk E.m ⟨s, idxS o E.os⟩ = 0 := (by rcases lk_look (l := E.m) (q := ⟨s, idxS o E.os⟩) with h9 | ⟨q9, hq9, h8, _⟩; exact h9; (have h7 := g.mks q9 hq9; rw [h8] at h7; simp only at h7; omega))
          refine hx_skip (th_norm ?_)
          refine ⟨rfl, ?_, ?_, ?_, ?_⟩
          · exact hx11
          · (repeat (first | exact Fr.refl _ _ | refine Fr.set rfl ?_ | refine Fr.put rfl ?_ | with_reducible refine Fr.put0 ?_))
          · simp only [EN, Nat.reduceEqDiff, reduceIte, k2_0, k3_0, k9_0, k10_0, k13_0, k14_0, i15_0, decide_true, Bool.not_true, Bool.not_false, decide_false, eq_self, strEq, hB1.cell, hB6.cell] <;> rw [hz16]
          · simp only [EN, Nat.reduceEqDiff, reduceIte, k2_0, k3_0, k9_0, k10_0, k13_0, k14_0, i15_0, decide_true, Bool.not_true, Bool.not_false, decide_false, eq_self, strEq, hB1.cell, hB6.cell] <;> rw [hz17]
        ·
         try simp only [BD] at hct87
         have hz17 : freeE E s = 0 := if_neg (by omega)
         have hz16 : lk E.m ⟨s, idxS o E.os⟩ = 0 := (by rcases lk_look (l := E.m) (q := ⟨s, idxS o E.os⟩) with h9 | ⟨q9, hq9, h8, _⟩; exact h9; (obtain ⟨y9, hy9, hys⟩ := (g.mks q9 hq9).1; rw [h8] at hys; rcases idxS_cases s E.hs with ⟨_, h6⟩ | ⟨i6, _, h6, _⟩; exact absurd hys (h6 y9 hy9); omega))
         refine hx_skip (th_norm ?_)
         refine ⟨rfl, ?_, ?_, ?_, ?_⟩
         · exact Ext.refl _
         · (repeat (first | exact Fr.refl _ _ | refine Fr.set rfl ?_ | refine Fr.put rfl ?_ | with_reducible refine Fr.put0 ?_))
         · simp only [EN, Nat.reduceEqDiff, reduceIte, k2_0, k3_0, k9_0, k10_0, k13_0, k14_0, i15_0, decide_true, Bool.not_true, Bool.not_false, decide_false, eq_self, strEq, hB1.cell, hB6.cell] <;> rw [hz16]
         · simp only [EN, Nat.reduceEqDiff, reduceIte, k2_0, k3_0, k9_0, k10_0, k13_0, k14_0, i15_0, decide_true, Bool.not_true, Bool.not_false, decide_false, eq_self, strEq, hB1.cell, hB6.cell] <;> rw [hz17]
       ·
        rintro ec17 hC17 hXc17 hfc17 ⟨i16_c17, i17_c17⟩
        replace hB6 := hB6.ext hXc17
        replace hE := hE.ext hXc17
        replace hI := hI.ext hXc17
        replace hto := hto.ext hXc17
        replace hsh := hsh.ext hXc17
        replace hso := hso.ext hXc17
        replace hsc := hsc.ext hXc17
        replace hri := hri.ext hXc17
        replace htr := htr.ext hXc17
        have k2_c17 := hfc17 2 rfl; try simp only [EN, Nat.reduceEqDiff, reduceIte, k2_0, decide_true, Bool.not_true, Bool.not_false, decide_false, eq_self, strEq, hB1.cell, hB6.cell] at k2_c17
        have k3_c17 := hfc17 3 rfl; try simp only [EN, Nat.reduceEqDiff, reduceIte, k3_0, decide_true, Bool.not_true, Bool.not_false, decide_false, eq_self, strEq, hB1.cell, hB6.cell] at k3_c17
        have k9_c17 := hfc17 9 rfl; try simp only [EN, Nat.reduceEqDiff, reduceIte, k9_0, decide_true, Bool.not_true, Bool.not_false, decide_false, eq_self, strEq, hB1.cell, hB6.cell] at k9_c17
        have k10_c17 := hfc17 10 rfl; try simp only [EN, Nat.reduceEqDiff, reduceIte, k10_0, decide_true, Bool.not_true, Bool.not_false, decide_false, eq_self, strEq, hB1.cell, hB6.cell] at k10_c17
        refine hx_seq (hx_seq (hx_region ?_))
        iterate 3 refine WL.qq (by simp only [EN, Nat.reduceEqDiff, reduceIte, qv_move, k9_c17, decide_true, Bool.not_true, Bool.not_false, decide_false, eq_self, strEq, hB1.cell, hB6.cell, k2_c17, k3_c17]; rfl) ?_
        refine WL.cg Tryz.call19 (by simp only [EN, Nat.reduceEqDiff, reduceIte, AR, decide_true, Bool.not_true, Bool.not_false, decide_false, eq_self, strEq, hB1.cell, hB6.cell]; exact c_chosen g.b s o hE) ?_
        intro h12 hx12
        replace hB6 := hB6.ext hx12
        replace hE := hE.ext hx12
        replace hI := hI.ext hx12
        replace hto := hto.ext hx12
        replace hsh := hsh.ext hx12
        replace hso := hso.ext hx12
        replace hsc := hsc.ext hx12
        replace hri := hri.ext hx12
        replace htr := htr.ext hx12
        iterate 3 refine WL.qq (by simp only [EN, Nat.reduceEqDiff, reduceIte, qv_move, i16_c17, decide_true, Bool.not_true, Bool.not_false, decide_false, eq_self, strEq, hB1.cell, hB6.cell, qv_binOp, binv_neq, eq2, Option.map_some]; rfl) ?_
        refine WL.on (by rw [gOk_s (gd_at (t := 107) rfl (by simp only [EN, Nat.reduceEqDiff, reduceIte, k9_c17, decide_true, Bool.not_true, Bool.not_false, decide_false, eq_self, strEq, hB1.cell, hB6.cell] <;> rfl))]; rfl) ?_
        refine WL.qq (by simp only [EN, Nat.reduceEqDiff, reduceIte, qv_move, k9_c17, decide_true, Bool.not_true, Bool.not_false, decide_false, eq_self, strEq, hB1.cell, hB6.cell]; rfl) ?_
        refine WL.on (by rw [gOk_s (gd_at (t := 107) rfl (by simp only [EN, Nat.reduceEqDiff, reduceIte, k2_c17, decide_true, Bool.not_true, Bool.not_false, decide_false, eq_self, strEq, hB1.cell, hB6.cell] <;> rfl))]; rfl) ?_
        refine WL.qq (by simp only [EN, Nat.reduceEqDiff, reduceIte, qv_move, k2_c17, decide_true, Bool.not_true, Bool.not_false, decide_false, eq_self, strEq, hB1.cell, hB6.cell]; rfl) ?_
        refine WL.on (by rw [gOk_s (gd_at (t := 107) rfl (by simp only [EN, Nat.reduceEqDiff, reduceIte, decide_true, Bool.not_true, Bool.not_false, decide_false, eq_self, strEq, hB1.cell, hB6.cell] <;> rfl))]; rfl) ?_
        refine WL.cg Tryz.call20 (by simp only [EN, Nat.reduceEqDiff, reduceIte, AR, decide_true, Bool.not_true, Bool.not_false, decide_false, eq_self, strEq, hB1.cell, hB6.cell]; exact c_free g.b s hE) ?_
        intro h13 hx13
        replace hB6 := hB6.ext hx13
        replace hE := hE.ext hx13
        replace hI := hI.ext hx13
        replace hto := hto.ext hx13
        replace hsh := hsh.ext hx13
        replace hso := hso.ext hx13
        replace hsc := hsc.ext hx13
        replace hri := hri.ext hx13
        replace htr := htr.ext hx13
        refine WL.on (by rw [gOk_s (gd_at (t := 107) rfl (by simp only [EN, Nat.reduceEqDiff, reduceIte, i17_c17, decide_true, Bool.not_true, Bool.not_false, decide_false, eq_self, strEq, hB1.cell, hB6.cell] <;> rfl))]; rfl) ?_
        refine WL.qq (by simp only [EN, Nat.reduceEqDiff, reduceIte, qv_move, i17_c17, decide_true, Bool.not_true, Bool.not_false, decide_false, eq_self, strEq, hB1.cell, hB6.cell]; rfl) ?_
        refine WL.on (by rw [gOk_s (gd_at (t := 107) rfl (by simp only [EN, Nat.reduceEqDiff, reduceIte, decide_true, Bool.not_true, Bool.not_false, decide_false, eq_self, strEq, hB1.cell, hB6.cell] <;> rfl))]; rfl) ?_
        iterate 2 refine WL.qq (by simp only [EN, Nat.reduceEqDiff, reduceIte, qv_binOp, binv_neq, eq2, Option.map_some, decide_true, Bool.not_true, Bool.not_false, decide_false, eq_self, strEq, hB1.cell, hB6.cell, qv_pick, pk_and, pk_or, GR]; rfl) ?_
        refine WL.nil (th_norm ?_)
        refine hx_cond (by simp only [EN, Nat.reduceEqDiff, reduceIte, decide_true, Bool.not_true, Bool.not_false, decide_false, eq_self, strEq, hB1.cell, hB6.cell]; rfl) (fun hct113 => ?_) (fun hct113 => ?_)
        ·
         simp at hct113
        ·
         try simp only [BD] at hct113
         refine hx_skip (th_norm (hx_seq (hx_region ?_)))
         refine WL.qq (by simp only [EN, Nat.reduceEqDiff, reduceIte, qv_move, k9_c17, decide_true, Bool.not_true, Bool.not_false, decide_false, eq_self, strEq, hB1.cell, hB6.cell]; rfl) ?_
         refine WL.ce Tryz.call21 (by simp only [EN, Nat.reduceEqDiff, reduceIte, AR, decide_true, Bool.not_true, Bool.not_false, decide_false, eq_self, strEq, hB1.cell, hB6.cell]; exact c_choices g.b hE) ?_
         rintro _ h14 ⟨hx14, hcx⟩
         replace hB6 := hB6.ext hx14
         replace hE := hE.ext hx14
         replace hI := hI.ext hx14
         replace hto := hto.ext hx14
         replace hsh := hsh.ext hx14
         replace hso := hso.ext hx14
         replace hsc := hsc.ext hx14
         replace hri := hri.ext hx14
         replace htr := htr.ext hx14
         simp only [put_some]
         obtain ⟨a20, c20, rfl⟩ := hcx.slice
         refine WL.qq (by simp only [EN, Nat.reduceEqDiff, reduceIte, qv_assign, decide_true, Bool.not_true, Bool.not_false, decide_false, eq_self, strEq, hB1.cell, hB6.cell]; rfl) ?_
         refine WL.nil (th_norm (hx_seq (hx_region ?_)))
         have hcxG := slG_own (f := cxL) (sz := 3) (fun _ => rfl) hcx rfl
         refine WL.qq (by simp only [EN, Nat.reduceEqDiff, reduceIte, qv_assign, decide_true, Bool.not_true, Bool.not_false, decide_false, eq_self, strEq, hB1.cell, hB6.cell]; rfl) ?_
         refine WL.nil (th_norm (hx_seq (hx_seq (hx_region ?_))))
         refine WL.qq (by simp only [EN, Nat.reduceEqDiff, reduceIte, qv_assign, decide_true, Bool.not_true, Bool.not_false, decide_false, eq_self, strEq, hB1.cell, hB6.cell]; rfl) ?_
         refine WL.nil (th_norm (hx_block ?_))
         refine hx_loopS [8, 21, 22, 23, 116, 117, 118, 119, 120, 121, 122, 123, 124, 125, 126, 127, 128, 129, 130, 131, 132, 133, 134, 135, 136, 137, 138, 139, 140, 141, 142, 143, 144, 145, 146, 147, 148, 149, 150, 151, 152, 153, 154, 155, 156, 157, 158, 159, 160, 161, 162, 163, 164, 165, 166, 167, 168, 169, 170, 171, 172] (fun k e => ∃ (i : Nat) (n : Nat), E.hs.length - i = k ∧ (i ≤ E.hs.length) ∧ (n = ((E.hs.take i).flatMap (rowC E)).length) ∧ e 22 = .int .i64 i ∧ e 21 = .int .i64 n) _ ⟨0, 0, rfl, ?_, ?_, ?_, ?_⟩ ?_
         · omega
         · rfl
         · simp only [EN, Nat.reduceEqDiff, reduceIte, k2_c17, k3_c17, k9_c17, k10_c17, i16_c17, i17_c17, decide_true, Bool.not_true, Bool.not_false, decide_false, eq_self, strEq, hB1.cell, hB6.cell] <;> rfl
         · simp only [EN, Nat.reduceEqDiff, reduceIte, k2_c17, k3_c17, k9_c17, k10_c17, i16_c17, i17_c17, decide_true, Bool.not_true, Bool.not_false, decide_false, eq_self, strEq, hB1.cell, hB6.cell] <;> rfl
         ·
          rintro k e1L hfr1 ⟨i, n, rfl, hi, hn, i22_1, i21_1⟩
          have k10_1 := hfr1 10 rfl; try simp only [EN, Nat.reduceEqDiff, reduceIte, k10_c17, decide_true, Bool.not_true, Bool.not_false, decide_false, eq_self, strEq, hB1.cell, hB6.cell] at k10_1
          have k20_1 := hfr1 20 rfl; try simp only [EN, Nat.reduceEqDiff, reduceIte, decide_true, Bool.not_true, Bool.not_false, decide_false, eq_self, strEq, hB1.cell, hB6.cell] at k20_1
          refine hx_seq (hx_seq (hx_region ?_))
          iterate 5 refine WL.qq (by simp only [EN, Nat.reduceEqDiff, reduceIte, qv_move, i22_1, decide_true, Bool.not_true, Bool.not_false, decide_false, eq_self, strEq, hB1.cell, hB6.cell, qv_fieldAddr, fa34_0, Nat.zero_add, Nat.reduceAdd, k10_1, qv_load, ld22, readN, AR, qv_len, ln22, qv_binOp, binv_lss]; rfl) ?_
          refine WL.nil (th_norm ?_)
          refine hx_cond (by simp only [EN, Nat.reduceEqDiff, reduceIte, decide_true, Bool.not_true, Bool.not_false, decide_false, eq_self, strEq, hB1.cell, hB6.cell]; rfl) (fun hct120 => ?_) (fun hct120 => ?_)
          ·
           try simp only [BD] at hct120
           obtain ⟨y, hy⟩ := atG (l := E.hs) (i := i) (by omega); obtain ⟨b1, o1, ha1, _, hr2, _⟩ := si_rd hsh.rd hy; have hnb := chc_len h40 hno.2 i; rw [← hn] at hnb
           refine hx_skip (th_norm (hx_seq (hx_block (hx_seq (hx_region ?_)))))
           refine WL.qq (by simp only [EN, Nat.reduceEqDiff, reduceIte, qv_assign, decide_true, Bool.not_true, Bool.not_false, decide_false, eq_self, strEq, hB1.cell, hB6.cell]; rfl) ?_
           refine WL.nil (th_norm (hx_block ?_))
           refine hx_loopS [8, 21, 23, 123, 124, 125, 126, 127, 128, 129, 130, 131, 132, 133, 134, 135, 136, 137, 138, 139, 140, 141, 142, 143, 144, 145, 146, 147, 148, 149, 150, 151, 152, 153, 154, 155, 156, 157, 158, 159, 160, 161, 162, 163, 164, 165, 166, 167, 168, 169, 170, 171, 172] (fun k e => ∃ (j : Nat) (n2 : Nat), E.os.length - j = k ∧ (j ≤ E.os.length) ∧ (n2 = n + ((E.os.zipIdx.take j).filterMap (cxF E y)).length) ∧ e 23 = .int .i64 j ∧ e 21 = .int .i64 n2) _ ⟨0, n, rfl, ?_, ?_, ?_, ?_⟩ ?_
           · omega
           · simp
           · simp only [EN, Nat.reduceEqDiff, reduceIte, k10_1, k20_1, i22_1, i21_1, decide_true, Bool.not_true, Bool.not_false, decide_false, eq_self, strEq, hB1.cell, hB6.cell] <;> rfl
           · simp only [EN, Nat.reduceEqDiff, reduceIte, k10_1, k20_1, i22_1, i21_1, decide_true, Bool.not_true, Bool.not_false, decide_false, eq_self, strEq, hB1.cell, hB6.cell] <;> rfl
           ·
            rintro k e2L hfr2 ⟨j, n2, rfl, hj, hn2, i23_2, i21_2⟩
            have k10_2 := hfr2 10 rfl; try simp only [EN, Nat.reduceEqDiff, reduceIte, k10_1, decide_true, Bool.not_true, Bool.not_false, decide_false, eq_self, strEq, hB1.cell, hB6.cell] at k10_2
            have k20_2 := hfr2 20 rfl; try simp only [EN, Nat.reduceEqDiff, reduceIte, k20_1, decide_true, Bool.not_true, Bool.not_false, decide_false, eq_self, strEq, hB1.cell, hB6.cell] at k20_2
            have k22_2 := hfr2 22 rfl; try simp only [EN, Nat.reduceEqDiff, reduceIte, i22_1, decide_true, Bool.not_true, Bool.not_false, decide_false, eq_self, strEq, hB1.cell, hB6.cell] at k22_2
            refine hx_seq (hx_seq (hx_region ?_))
            iterate 5 refine WL.qq (by simp only [EN, Nat.reduceEqDiff, reduceIte, qv_move, i23_2, decide_true, Bool.not_true, Bool.not_false, decide_false, eq_self, strEq, hB1.cell, hB6.cell, qv_fieldAddr, fa34_1, Nat.zero_add, Nat.reduceAdd, k10_2, qv_load, ld23, readN, AR, qv_len, ln23, qv_binOp, binv_lss]; rfl) ?_
            refine WL.nil (th_norm ?_)
            refine hx_cond (by simp only [EN, Nat.reduceEqDiff, reduceIte, decide_true, Bool.not_true, Bool.not_false, decide_false, eq_self, strEq, hB1.cell, hB6.cell]; rfl) (fun hct127 => ?_) (fun hct127 => ?_)
            ·
             try simp only [BD] at hct127
             obtain ⟨z, hz⟩ := atG (l := E.os) (i := j) (by omega); obtain ⟨b3, o3, ha3, _, hr3, _⟩ := si_rd hso.rd hz
             obtain ⟨b4, o4, b5, o5, c5, ha4, hc4, hc5⟩ := row_rd hsc.rd hri hy (k := j) (by omega); have hst := fmap_step (f := cxF E y) (zip_at hz); have hnf := fmap_len (cxF E y) E.os.zipIdx j
             refine hx_skip (th_norm (hx_seq (hx_block (hx_seq (hx_seq (hx_region ?_))))))
             iterate 3 refine WL.qq (by simp only [EN, Nat.reduceEqDiff, reduceIte, qv_fieldAddr, fa34_4, Nat.zero_add, Nat.reduceAdd, k10_2, decide_true, Bool.not_true, Bool.not_false, decide_false, eq_self, strEq, hB1.cell, hB6.cell, qv_load, ld32, readN, AR, qv_move, k22_2]; rfl) ?_
             refine WL.qq (by simp only [EN, Nat.reduceEqDiff, reduceIte, qv_indexAddr, decide_true, Bool.not_true, Bool.not_false, decide_false, eq_self, strEq, hB1.cell, hB6.cell, ha4]; (try simp (disch := omega) only [ix32, Int.toNat_natCast]); rfl) ?_
             refine WL.qq (by simp only [EN, Nat.reduceEqDiff, reduceIte, k10_2, k20_2, k22_2, i23_2, i21_2, decide_true, Bool.not_true, Bool.not_false, decide_false, eq_self, strEq, hB1.cell, hB6.cell, qv_load, ld55, Int.toNat_natCast, Nat.mul_one, hc4]; rfl) ?_
             iterate 2 refine WL.qq (by simp only [EN, Nat.reduceEqDiff, reduceIte, qv_move, i23_2, decide_true, Bool.not_true, Bool.not_false, decide_false, eq_self, strEq, hB1.cell, hB6.cell, qv_indexAddr]; (try simp (disch := omega) only [ix55, Int.toNat_natCast]); rfl) ?_
             refine WL.qq (by simp only [EN, Nat.reduceEqDiff, reduceIte, k10_2, k20_2, k22_2, i23_2, i21_2, decide_true, Bool.not_true, Bool.not_false, decide_false, eq_self, strEq, hB1.cell, hB6.cell, qv_load, ld2, Int.toNat_natCast, Nat.mul_one, hc5]; rfl) ?_
             refine WL.qq (by simp only [EN, Nat.reduceEqDiff, reduceIte, qv_binOp, binv_eql, eq2, Option.map_some, decide_true, Bool.not_true, Bool.not_false, decide_false, eq_self, strEq, hB1.cell, hB6.cell]; rfl) ?_
             refine WL.nil (th_norm ?_)
             refine hx_cond (by simp only [EN, Nat.reduceEqDiff, reduceIte, decide_true, Bool.not_true, Bool.not_false, decide_false, eq_self, strEq, hB1.cell, hB6.cell]; rfl) (fun hct138 => ?_) (fun hct138 => ?_)
             ·
              try simp only [BD] at hct138
              have hcf : cxF E y (z, j) = none := if_neg (show ¬ 0 < chE E y.s j by omega)
              refine hx_exit (th_exit (bl_hit (th_norm (hx_region ?_))))
              iterate 3 refine WL.qq (by simp only [EN, Nat.reduceEqDiff, reduceIte, qv_move, i23_2, decide_true, Bool.not_true, Bool.not_false, decide_false, eq_self, strEq, hB1.cell, hB6.cell, qv_binOp, binv_add, qv_assign]; (try simp (disch := omega) only [w64, w8, wu64]); rfl) ?_
              refine WL.nil (th_norm ?_)
              refine ⟨rfl, rfl, ?_, _, ?_, j + 1, n2, rfl, ?_, ?_, ?_, ?_⟩
              · (repeat (first | exact Fr.refl _ _ | refine Fr.set rfl ?_ | refine Fr.put rfl ?_ | with_reducible refine Fr.put0 ?_))
              · omega
              · omega
              · rw [hst, hcf, hn2]; simp
              · simp only [EN, Nat.reduceEqDiff, reduceIte, k10_2, k20_2, k22_2, i23_2, i21_2, decide_true, Bool.not_true, Bool.not_false, decide_false, eq_self, strEq, hB1.cell, hB6.cell] <;> first | rfl | (congr 1; omega)
              · simp only [EN, Nat.reduceEqDiff, reduceIte, k10_2, k20_2, k22_2, i23_2, i21_2, decide_true, Bool.not_true, Bool.not_false, decide_false, eq_self, strEq, hB1.cell, hB6.cell] <;> first | rfl | (congr 1; omega)
             ·
              try simp only [BD] at hct138
              have hcp : 0 < chE E y.s j := (by have := g.che y.s j; omega); have hcf : cxF E y (z, j) = some ⟨y.s, z.s, chE E y.s j⟩ := if_pos hcp
              have hat := chc_at hy hz hcp; rw [← hn, ← hn2] at hat; have hln := (List.getElem?_eq_some_iff.1 hat).1; have kd : decide (((chcE E).length : Int) ≤ (n2 : Int)) = false := decide_eq_false (by omega); obtain ⟨b6, o6, ha6, hr6⟩ := hcxG n2 _ hat
              refine hx_skip (th_norm (hx_seq (hx_seq ?_)))
              apply hx_draw2 Rel.same [] [] [] rfl (by decide +kernel) rfl
              iterate 5 refine LD.qq rfl rfl (by simp only [EN, Nat.reduceEqDiff, reduceIte, qv_move, i21_2, decide_true, Bool.not_true, Bool.not_false, decide_false, eq_self, strEq, hB1.cell, hB6.cell, k20_2, qv_len, ln53, AR, qv_binOp, binv_geq, kd]; rfl) ?_
              refine LD.on (by rw [gOk_s (gd_at (t := 143) rfl (by simp only [EN, Nat.reduceEqDiff, reduceIte, k20_2, decide_true, Bool.not_true, Bool.not_false, decide_false, eq_self, strEq, hB1.cell, hB6.cell] <;> rfl))]; rfl) ?_
              refine LD.qq rfl rfl (by simp only [EN, Nat.reduceEqDiff, reduceIte, qv_move, k20_2, decide_true, Bool.not_true, Bool.not_false, decide_false, eq_self, strEq, hB1.cell, hB6.cell]; rfl) ?_
              refine LD.on (by rw [gOk_s (gd_at (t := 143) rfl (by simp only [EN, Nat.reduceEqDiff, reduceIte, i21_2, decide_true, Bool.not_true, Bool.not_false, decide_false, eq_self, strEq, hB1.cell, hB6.cell] <;> rfl))]; rfl) ?_
              refine LD.qq rfl rfl (by simp only [EN, Nat.reduceEqDiff, reduceIte, qv_move, i21_2, decide_true, Bool.not_true, Bool.not_false, decide_false, eq_self, strEq, hB1.cell, hB6.cell]; rfl) ?_
              refine LD.on (by rw [gOk_s (gd_at (t := 143) rfl (by simp only [EN, Nat.reduceEqDiff, reduceIte, decide_true, Bool.not_true, Bool.not_false, decide_false, eq_self, strEq, hB1.cell, hB6.cell] <;> rfl))]; rfl) ?_
              refine LD.qq rfl rfl (by simp only [EN, Nat.reduceEqDiff, reduceIte, qv_indexAddr, decide_true, Bool.not_true, Bool.not_false, decide_false, eq_self, strEq, hB1.cell, hB6.cell, ha6]; (try simp (disch := omega) only [ix53, Int.toNat_natCast]); rfl) ?_
              refine LD.on (by rw [gOk_s (gd_at (t := 143) rfl (by simp only [EN, Nat.reduceEqDiff, reduceIte, decide_true, Bool.not_true, Bool.not_false, decide_false, eq_self, strEq, hB1.cell, hB6.cell] <;> rfl))]; rfl) ?_
              refine LD.qq rfl rfl (by simp only [EN, Nat.reduceEqDiff, reduceIte, k10_2, k20_2, k22_2, i23_2, i21_2, decide_true, Bool.not_true, Bool.not_false, decide_false, eq_self, strEq, hB1.cell, hB6.cell, qv_load, ld74, Int.toNat_natCast, hr6]; rfl) ?_
              refine LD.on (by rw [gOk_s (gd_at (t := 143) rfl (by simp only [EN, Nat.reduceEqDiff, reduceIte, k10_2, decide_true, Bool.not_true, Bool.not_false, decide_false, eq_self, strEq, hB1.cell, hB6.cell] <;> rfl))]; rfl) ?_
              refine LD.qq rfl rfl (by simp only [EN, Nat.reduceEqDiff, reduceIte, qv_fieldAddr, fa34_0, Nat.zero_add, Nat.reduceAdd, k10_2, decide_true, Bool.not_true, Bool.not_false, decide_false, eq_self, strEq, hB1.cell, hB6.cell]; rfl) ?_
              refine LD.on (by rw [gOk_s (gd_at (t := 143) rfl (by simp only [EN, Nat.reduceEqDiff, reduceIte, decide_true, Bool.not_true, Bool.not_false, decide_false, eq_self, strEq, hB1.cell, hB6.cell] <;> rfl))]; rfl) ?_
              refine LD.qq rfl rfl (by simp only [EN, Nat.reduceEqDiff, reduceIte, qv_load, ld22, readN, AR, Nat.zero_add, Nat.reduceAdd, decide_true, Bool.not_true, Bool.not_false, decide_false, eq_self, strEq, hB1.cell, hB6.cell]; rfl) ?_
              refine LD.on (by rw [gOk_s (gd_at (t := 143) rfl (by simp only [EN, Nat.reduceEqDiff, reduceIte, k22_2, decide_true, Bool.not_true, Bool.not_false, decide_false, eq_self, strEq, hB1.cell, hB6.cell] <;> rfl))]; rfl) ?_
              refine LD.qq rfl rfl (by simp only [EN, Nat.reduceEqDiff, reduceIte, qv_move, k22_2, decide_true, Bool.not_true, Bool.not_false, decide_false, eq_self, strEq, hB1.cell, hB6.cell]; rfl) ?_
              refine LD.on (by rw [gOk_s (gd_at (t := 143) rfl (by simp only [EN, Nat.reduceEqDiff, reduceIte, decide_true, Bool.not_true, Bool.not_false, decide_false, eq_self, strEq, hB1.cell, hB6.cell] <;> rfl))]; rfl) ?_
              refine LD.qq rfl rfl (by simp only [EN, Nat.reduceEqDiff, reduceIte, qv_indexAddr, decide_true, Bool.not_true, Bool.not_false, decide_false, eq_self, strEq, hB1.cell, hB6.cell, ha1]; (try simp (disch := omega) only [ix22, Int.toNat_natCast]); rfl) ?_
              refine LD.on (by rw [gOk_s (gd_at (t := 143) rfl (by simp only [EN, Nat.reduceEqDiff, reduceIte, decide_true, Bool.not_true, Bool.not_false, decide_false, eq_self, strEq, hB1.cell, hB6.cell] <;> rfl))]; rfl) ?_
              refine LD.qq rfl rfl (by simp only [EN, Nat.reduceEqDiff, reduceIte, qv_fieldAddr, fa66_0, Nat.zero_add, Nat.reduceAdd, decide_true, Bool.not_true, Bool.not_false, decide_false, eq_self, strEq, hB1.cell, hB6.cell]; rfl) ?_
              refine LD.on (by rw [gOk_s (gd_at (t := 143) rfl (by simp only [EN, Nat.reduceEqDiff, reduceIte, decide_true, Bool.not_true, Bool.not_false, decide_false, eq_self, strEq, hB1.cell, hB6.cell] <;> rfl))]; rfl) ?_
              refine LD.qq rfl rfl (by simp only [EN, Nat.reduceEqDiff, reduceIte, k10_2, k20_2, k22_2, i23_2, i21_2, decide_true, Bool.not_true, Bool.not_false, decide_false, eq_self, strEq, hB1.cell, hB6.cell, qv_load, ld9, Int.toNat_natCast, hr2]; rfl) ?_
              refine LD.on (by rw [gOk_s (gd_at (t := 143) rfl (by simp only [EN, Nat.reduceEqDiff, reduceIte, k10_2, decide_true, Bool.not_true, Bool.not_false, decide_false, eq_self, strEq, hB1.cell, hB6.cell] <;> rfl))]; rfl) ?_
              refine LD.qq rfl rfl (by simp only [EN, Nat.reduceEqDiff, reduceIte, qv_fieldAddr, fa34_1, Nat.zero_add, Nat.reduceAdd, k10_2, decide_true, Bool.not_true, Bool.not_false, decide_false, eq_self, strEq, hB1.cell, hB6.cell]; rfl) ?_
              refine LD.on (by rw [gOk_s (gd_at (t := 143) rfl (by simp only [EN, Nat.reduceEqDiff, reduceIte, decide_true, Bool.not_true, Bool.not_false, decide_false, eq_self, strEq, hB1.cell, hB6.cell] <;> rfl))]; rfl) ?_
              refine LD.qq rfl rfl (by simp only [EN, Nat.reduceEqDiff, reduceIte, qv_load, ld23, readN, AR, Nat.zero_add, Nat.reduceAdd, decide_true, Bool.not_true, Bool.not_false, decide_false, eq_self, strEq, hB1.cell, hB6.cell]; rfl) ?_
              refine LD.on (by rw [gOk_s (gd_at (t := 143) rfl (by simp only [EN, Nat.reduceEqDiff, reduceIte, i23_2, decide_true, Bool.not_true, Bool.not_false, decide_false, eq_self, strEq, hB1.cell, hB6.cell] <;> rfl))]; rfl) ?_
              refine LD.qq rfl rfl (by simp only [EN, Nat.reduceEqDiff, reduceIte, qv_move, i23_2, decide_true, Bool.not_true, Bool.not_false, decide_false, eq_self, strEq, hB1.cell, hB6.cell]; rfl) ?_
              refine LD.on (by rw [gOk_s (gd_at (t := 143) rfl (by simp only [EN, Nat.reduceEqDiff, reduceIte, decide_true, Bool.not_true, Bool.not_false, decide_false, eq_self, strEq, hB1.cell, hB6.cell] <;> rfl))]; rfl) ?_
              refine LD.qq rfl rfl (by simp only [EN, Nat.reduceEqDiff, reduceIte, qv_indexAddr, decide_true, Bool.not_true, Bool.not_false, decide_false, eq_self, strEq, hB1.cell, hB6.cell, ha3]; (try simp (disch := omega) only [ix23, Int.toNat_natCast]); rfl) ?_
              refine LD.on (by rw [gOk_s (gd_at (t := 143) rfl (by simp only [EN, Nat.reduceEqDiff, reduceIte, decide_true, Bool.not_true, Bool.not_false, decide_false, eq_self, strEq, hB1.cell, hB6.cell] <;> rfl))]; rfl) ?_
              refine LD.qq rfl rfl (by simp only [EN, Nat.reduceEqDiff, reduceIte, qv_fieldAddr, fa68_0, Nat.zero_add, Nat.reduceAdd, decide_true, Bool.not_true, Bool.not_false, decide_false, eq_self, strEq, hB1.cell, hB6.cell]; rfl) ?_
              refine LD.on (by rw [gOk_s (gd_at (t := 143) rfl (by simp only [EN, Nat.reduceEqDiff, reduceIte, decide_true, Bool.not_true, Bool.not_false, decide_false, eq_self, strEq, hB1.cell, hB6.cell] <;> rfl))]; rfl) ?_
              refine LD.qq rfl rfl (by simp only [EN, Nat.reduceEqDiff, reduceIte, k10_2, k20_2, k22_2, i23_2, i21_2, decide_true, Bool.not_true, Bool.not_false, decide_false, eq_self, strEq, hB1.cell, hB6.cell, qv_load, ld9, Int.toNat_natCast, hr3]; rfl) ?_
              refine LD.on (by rw [gOk_s (gd_at (t := 143) rfl (by simp only [EN, Nat.reduceEqDiff, reduceIte, k10_2, decide_true, Bool.not_true, Bool.not_false, decide_false, eq_self, strEq, hB1.cell, hB6.cell] <;> rfl))]; rfl) ?_
              refine LD.qq rfl rfl (by simp only [EN, Nat.reduceEqDiff, reduceIte, qv_fieldAddr, fa34_4, Nat.zero_add, Nat.reduceAdd, k10_2, decide_true, Bool.not_true, Bool.not_false, decide_false, eq_self, strEq, hB1.cell, hB6.cell]; rfl) ?_
              refine LD.on (by rw [gOk_s (gd_at (t := 143) rfl (by simp only [EN, Nat.reduceEqDiff, reduceIte, decide_true, Bool.not_true, Bool.not_false, decide_false, eq_self, strEq, hB1.cell, hB6.cell] <;> rfl))]; rfl) ?_
              refine LD.qq rfl rfl (by simp only [EN, Nat.reduceEqDiff, reduceIte, qv_load, ld32, readN, AR, Nat.zero_add, Nat.reduceAdd, decide_true, Bool.not_true, Bool.not_false, decide_false, eq_self, strEq, hB1.cell, hB6.cell]; rfl) ?_
              refine LD.on (by rw [gOk_s (gd_at (t := 143) rfl (by simp only [EN, Nat.reduceEqDiff, reduceIte, k22_2, decide_true, Bool.not_true, Bool.not_false, decide_false, eq_self, strEq, hB1.cell, hB6.cell] <;> rfl))]; rfl) ?_
              refine LD.qq rfl rfl (by simp only [EN, Nat.reduceEqDiff, reduceIte, qv_move, k22_2, decide_true, Bool.not_true, Bool.not_false, decide_false, eq_self, strEq, hB1.cell, hB6.cell]; rfl) ?_
              refine LD.on (by rw [gOk_s (gd_at (t := 143) rfl (by simp only [EN, Nat.reduceEqDiff, reduceIte, decide_true, Bool.not_true, Bool.not_false, decide_false, eq_self, strEq, hB1.cell, hB6.cell] <;> rfl))]; rfl) ?_
              refine LD.qq rfl rfl (by simp only [EN, Nat.reduceEqDiff, reduceIte, qv_indexAddr, decide_true, Bool.not_true, Bool.not_false, decide_false, eq_self, strEq, hB1.cell, hB6.cell, ha4]; (try simp (disch := omega) only [ix32, Int.toNat_natCast]); rfl) ?_
              refine LD.on (by rw [gOk_s (gd_at (t := 143) rfl (by simp only [EN, Nat.reduceEqDiff, reduceIte, decide_true, Bool.not_true, Bool.not_false, decide_false, eq_self, strEq, hB1.cell, hB6.cell] <;> rfl))]; rfl) ?_
              refine LD.qq rfl rfl (by simp only [EN, Nat.reduceEqDiff, reduceIte, k10_2, k20_2, k22_2, i23_2, i21_2, decide_true, Bool.not_true, Bool.not_false, decide_false, eq_self, strEq, hB1.cell, hB6.cell, qv_load, ld55, Int.toNat_natCast, Nat.mul_one, hc4]; rfl) ?_
              refine LD.on (by rw [gOk_s (gd_at (t := 143) rfl (by simp only [EN, Nat.reduceEqDiff, reduceIte, i23_2, decide_true, Bool.not_true, Bool.not_false, decide_false, eq_self, strEq, hB1.cell, hB6.cell] <;> rfl))]; rfl) ?_
              refine LD.qq rfl rfl (by simp only [EN, Nat.reduceEqDiff, reduceIte, qv_move, i23_2, decide_true, Bool.not_true, Bool.not_false, decide_false, eq_self, strEq, hB1.cell, hB6.cell]; rfl) ?_
              refine LD.on (by rw [gOk_s (gd_at (t := 143) rfl (by simp only [EN, Nat.reduceEqDiff, reduceIte, decide_true, Bool.not_true, Bool.not_false, decide_false, eq_self, strEq, hB1.cell, hB6.cell] <;> rfl))]; rfl) ?_
              refine LD.qq rfl rfl (by simp only [EN, Nat.reduceEqDiff, reduceIte, qv_indexAddr, decide_true, Bool.not_true, Bool.not_false, decide_false, eq_self, strEq, hB1.cell, hB6.cell]; (try simp (disch := omega) only [ix55, Int.toNat_natCast]); rfl) ?_
              refine LD.on (by rw [gOk_s (gd_at (t := 143) rfl (by simp only [EN, Nat.reduceEqDiff, reduceIte, decide_true, Bool.not_true, Bool.not_false, decide_false, eq_self, strEq, hB1.cell, hB6.cell] <;> rfl))]; rfl) ?_
              refine LD.qq rfl rfl (by simp only [EN, Nat.reduceEqDiff, reduceIte, k10_2, k20_2, k22_2, i23_2, i21_2, decide_true, Bool.not_true, Bool.not_false, decide_false, eq_self, strEq, hB1.cell, hB6.cell, qv_load, ld2, Int.toNat_natCast, Nat.mul_one, hc5]; rfl) ?_
              refine LD.on (by rw [gOk_s (gd_at (t := 143) rfl (by simp only [EN, Nat.reduceEqDiff, reduceIte, decide_true, Bool.not_true, Bool.not_false, decide_false, eq_self, strEq, hB1.cell, hB6.cell] <;> rfl))]; rfl) ?_
              refine LD.qq rfl rfl (by refine qv_bld (by simp only [EN, Nat.reduceEqDiff, reduceIte, AR, decide_true, Bool.not_true, Bool.not_false, decide_false, eq_self, strEq, hB1.cell, hB6.cell] <;> rfl) (by rw [bl74]; simp [Instr.fill, Value.cells]; rfl)) ?_
              refine LD.on (by rw [gOk_s (gd_at (t := 143) rfl (by simp only [EN, Nat.reduceEqDiff, reduceIte, decide_true, Bool.not_true, Bool.not_false, decide_false, eq_self, strEq, hB1.cell, hB6.cell] <;> rfl))]; rfl) ?_
              iterate 2 refine LD.qq rfl rfl (by simp only [EN, Nat.reduceEqDiff, reduceIte, qv_binOp, binv_neq, eqs74, Option.map_some, decide_true, Bool.not_true, Bool.not_false, decide_false, eq_self, strEq, hB1.cell, hB6.cell, qv_pick, pk_and, pk_or, GR]; rfl) ?_
              refine LD.nil ?_
              rintro h14 rfl -
              refine WL.nil (th_norm ?_)
              refine hx_cond (by simp only [EN, Nat.reduceEqDiff, reduceIte, decide_true, Bool.not_true, Bool.not_false, decide_false, eq_self, strEq, hB1.cell, hB6.cell]; rfl) (fun hct170 => ?_) (fun hct170 => ?_)
              ·
               simp at hct170
              ·
               try simp only [BD] at hct170
               refine hx_skip (th_norm (hx_region ?_))
               iterate 3 refine WL.qq (by simp only [EN, Nat.reduceEqDiff, reduceIte, qv_move, i21_2, decide_true, Bool.not_true, Bool.not_false, decide_false, eq_self, strEq, hB1.cell, hB6.cell, qv_binOp, binv_add, qv_assign]; (try simp (disch := omega) only [w64, w8, wu64]); rfl) ?_
               refine WL.nil (bl_norm (th_norm (hx_region ?_)))
               iterate 3 refine WL.qq (by simp only [EN, Nat.reduceEqDiff, reduceIte, qv_move, i23_2, decide_true, Bool.not_true, Bool.not_false, decide_false, eq_self, strEq, hB1.cell, hB6.cell, qv_binOp, binv_add, qv_assign]; (try simp (disch := omega) only [w64, w8, wu64]); rfl) ?_
               refine WL.nil (th_norm ?_)
               refine ⟨rfl, rfl, ?_, _, ?_, j + 1, n2 + 1, rfl, ?_, ?_, ?_, ?_⟩
               · (repeat (first | exact Fr.refl _ _ | refine Fr.set rfl ?_ | refine Fr.put rfl ?_ | with_reducible refine Fr.put0 ?_))
               · omega
               · omega
               · rw [hst, hcf, hn2]; simp; omega
               · simp only [EN, Nat.reduceEqDiff, reduceIte, k10_2, k20_2, k22_2, i23_2, i21_2, decide_true, Bool.not_true, Bool.not_false, decide_false, eq_self, strEq, hB1.cell, hB6.cell] <;> first | rfl | (congr 1; omega)
               · simp only [EN, Nat.reduceEqDiff, reduceIte, k10_2, k20_2, k22_2, i23_2, i21_2, decide_true, Bool.not_true, Bool.not_false, decide_false, eq_self, strEq, hB1.cell, hB6.cell] <;> first | rfl | (congr 1; omega)
            ·
             try simp only [BD] at hct127
             obtain rfl : j = E.os.length := (by omega)
             rw [List.take_of_length_le (by rw [List.length_zipIdx]; exact Nat.le_refl _)] at hn2
             refine hx_exit (th_exit (th_exit (bl_hit (bl_norm (th_norm (hx_region ?_))))))
             iterate 3 refine WL.qq (by simp only [EN, Nat.reduceEqDiff, reduceIte, qv_move, k22_2, decide_true, Bool.not_true, Bool.not_false, decide_false, eq_self, strEq, hB1.cell, hB6.cell, qv_binOp, binv_add, qv_assign]; (try simp (disch := omega) only [w64, w8, wu64]); rfl) ?_
             refine WL.nil (th_norm ?_)
             refine ⟨rfl, rfl, ?_, _, ?_, i + 1, n2, rfl, ?_, ?_, ?_, ?_⟩
             · (repeat (first | exact Fr.refl _ _ | refine Fr.set rfl ?_ | refine Fr.put rfl ?_ | with_reducible refine Fr.put0 ?_ | refine Fr.trans ?_ (Fr.of hfr2 rfl)))
             · omega
             · omega
             · rw [fmp_step hy, List.length_append, hn2, hn]; rfl
             · simp only [EN, Nat.reduceEqDiff, reduceIte, k10_2, k20_2, k22_2, i23_2, i21_2, decide_true, Bool.not_true, Bool.not_false, decide_false, eq_self, strEq, hB1.cell, hB6.cell] <;> first | rfl | (congr 1; omega)
             · simp only [EN, Nat.reduceEqDiff, reduceIte, k10_2, k20_2, k22_2, i23_2, i21_2, decide_true, Bool.not_true, Bool.not_false, decide_false, eq_self, strEq, hB1.cell, hB6.cell] <;> first | rfl | (congr 1; omega)
          ·
           try simp only [BD] at hct120
           obtain rfl : i = E.hs.length := (by omega)
           rw [List.take_length] at hn; have hnn : n = (chcE E).length := hn
           refine hx_exit (th_exit (th_exit (bl_hit (th_norm (hx_seq (hx_region ?_))))))
           iterate 5 refine WL.qq (by simp only [EN, Nat.reduceEqDiff, reduceIte, qv_move, i21_1, decide_true, Bool.not_true, Bool.not_false, decide_false, eq_self, strEq, hB1.cell, hB6.cell, k20_1, qv_len, ln53, AR, qv_binOp, binv_eql, eq3, Option.map_some, qv_assign]; rfl) ?_
           refine WL.nil (th_norm (hx_ret ?_))
           refine fin_ret [.tmp 8] rfl rfl (by simp only [EN, Nat.reduceEqDiff, reduceIte, resv, k10_1, k20_1, i22_1, i21_1, decide_true, Bool.not_true, Bool.not_false, decide_false, eq_self, strEq, hB1.cell, hB6.cell]; rfl) ?_
           exact ⟨by rw [hnn]; simp [retOf], ((hX).trans ((hx8).trans ((hx9).trans ((hx10).trans ((hXc17).trans ((hx12).trans ((hx13).trans (hx14))))))))⟩
end GL
namespace Go.Proofs.YtmooinekoeiajaaGreatDoor.electionOperations
open Go.ChangeShapes Go.WideShapes Go.ChangeAt Go.RowKit
theorem own : ownKnob Tryz.prog.godebug = none := by kernel_rfl
theorem laid : laidOutB Tryz.prog = true := by kernel_rfl
set_option maxRecDepth 100000 in
theorem lifted (os : Os) (started : os.Started) (H : Type) (enc : TypeId × Value → H) :
    ReturnsInHanded {} Tryz.checked os 9 .any (fun w args => (Rows.electionOperationsSpec.pre enc Tryz.prog Tryz.f9 Rows.electionOperationsRow.domain false w args ∧ laidMetH Tryz.prog Rows.electionOperationsRow.laid w) ∧ sizedMet enc Tryz.prog Tryz.f9 (OpenSpec.ofChange Rows.electionOperationsSpec) false w args) (Rows.electionOperationsSpec.post enc Tryz.prog Tryz.f9 false true false false) := by
  refine returnsInHanded_of_change_and (C := Tryz.checked) (X := fun w _ => laidMetH Tryz.prog Rows.electionOperationsRow.laid w) (fun _ _ _ hh h => h.of_heap hh) own started (by kernel_rfl) Tryz.func9
    (ChangeSpec.witness_shaped (enc := enc) (C := Tryz.checked) (os := os) (X := fun w _ => laidMetH Tryz.prog Rows.electionOperationsRow.laid w) false (World.laidAll Tryz.prog os Rows.electionOperationsRow.laid) #[(.agg #[(.slice none 0 0), (.slice none 0 0), (.string ⟨#[]⟩), (.int .i64 0), (.int .i64 0)]), (.slice none 0 0), .string ⟨#[]⟩, .string ⟨#[]⟩] 8 (World.laidAll_os _ _ _)
      (World.shaped_of_ZipB (by kernel_rfl) (by kernel_rfl)) (by kernel_rfl) (by kernel_rfl) (by kernel_rfl)
      (by rw [MakeChecks.laidMetH_plain _ _ _ (by kernel_rfl)]; exact laidMet_laidAll _ (by kernel_rfl) (by kernel_rfl))) ?_
  intro W base args ds gs before hval0 hW hcnd _ hL _
  have hval : ∀ (j : Nat) t v, Tryz.f9.params[j]? = some t → args[j]? = some v → Value.okWide Tryz.prog W .any base t v := hval0
  have hW' := hW
  obtain ⟨p, q, hA0, hV, rfl, hfz, hnd⟩ := hW
  have hA : DataW.TrodAll enc Tryz.prog W 0 (fun _ => true) true Tryz.f9.params.toList args.toList ds p := hA0
  rw [Tryz.params9] at hA hval
  obtain ⟨v0, vs0, d0, ds0, p0, q0, hargs, rfl, rfl, h0, r0⟩ := trodAll_cons hA
  obtain ⟨v1, vs1, d1, ds1, p1, q1, rfl, rfl, rfl, h1, r1⟩ := trodAll_cons r0
  obtain ⟨v2, vs2, d2, ds2, p2, q2, rfl, rfl, rfl, h2, r2⟩ := trodAll_cons r1
  obtain ⟨v3, vs3, d3, ds3, p3, q3, rfl, rfl, rfl, h3, r3⟩ := trodAll_cons r2
  obtain ⟨rfl, rfl, rfl⟩ := trodAll_nil r3
  obtain rfl : args = #[v0, v1, v2, v3] := by cases args; simp_all
  obtain ⟨rfl, rfl⟩ := trodVars_none hV
  obtain ⟨x, rfl, hx⟩ := GL.view_su (hval 0 27 v0 rfl rfl) h0
  obtain ⟨al, l, cl, rfl, hl, hll⟩ := GL.view_ops (hval 1 28 v1 rfl rfl) h1
  obtain ⟨s, rfl, _, _, hs⟩ := Go.ChangeMaps.open_string Tryz.underlying9 (hval 2 9 v2 rfl rfl) h2
  obtain ⟨o, rfl, _, _, ho⟩ := Go.ChangeMaps.open_string Tryz.underlying9 (hval 3 9 v3 rfl rfl) h3
  exact GL.law_done (tb := 4) laid (by kernel_rfl) rfl (by kernel_rfl) Tryz.underlying4 hW' rfl (GL.l_oper x al l cl s o hll hx hl)
theorem over : Rows.electionOperationsRow.holds Tryz.pinned (OpenSpec.ofChange Rows.electionOperationsSpec) :=
  OpenClaim.holds_of_wide 9 Tryz.f9 rfl rfl rfl rfl rfl rfl rfl ⟨rfl, rfl, rfl, rfl, rfl⟩ rfl rfl rfl rfl rfl (by kernel_rfl) Tryz.func9 (by kernel_rfl)
    (of_decide_eq_true (by kernel_rfl)) (by unfold Func.isWrapper; first | (rw [if_pos (by decide +kernel)]; kernel_rfl) | (rw [if_neg (by decide +kernel)]; exact ⟨rfl, rfl⟩))
    (fun os started H enc _ => lifted os started H enc)
theorem proved : Rows.ElectionOperationsCardSaid :=
  Claim7.holds_tied_plain_at .later [] [.data, .pinned] true (true, "432ba5930207515d71965132727d0ce340d9dfecd27b298c3f46f89b49a71a5e") true over (fun _ h => by cases h) (by kernel_rfl) (fun _ h => by cases h) electionOperations_row_tie rfl ⟨rfl, rfl⟩ (by kernel_rfl) rfl
    (fun f fn hf hfn => by
      obtain rfl : f = 9 := Option.some.inj ((show Tryz.prog.funcNamed "giro/girolaw44.ElectionOperations" = some 9 by kernel_rfl).symm.trans hf) |>.symm
      obtain rfl : fn = Tryz.f9 := (Option.some.inj (Tryz.func9.symm.trans hfn)).symm
      exact ⟨by kernel_rfl, fun j t ht => by
        rw [Tryz.params9] at ht
        have hm : t ∈ [27, 28, 9, 9] := by simpa using Array.mem_of_getElem? ht
        have hall : ([27, 28, 9, 9].all fun u => !Tryz.prog.wantsStandIn u) = true := by kernel_rfl
        exact (show Tryz.prog.wantsStandIn t = false by simpa using List.all_eq_true.1 hall t hm)⟩)
    (by kernel_rfl)
end Go.Proofs.YtmooinekoeiajaaGreatDoor.electionOperations

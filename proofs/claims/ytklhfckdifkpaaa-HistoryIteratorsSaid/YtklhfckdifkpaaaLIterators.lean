/- The law HistoryIterators returns true: ByAccount, ByDay and ByRef yield exactly the bundles that they specify, in order. No condition beyond the row's own. -/
import Derived.Test.YtklhfckdifkpaaaRows
import Derived.Test.YtklhfckdifkpaaaHisX
import Derived.Test.YtklhfckdifkpaaaHisV
set_option linter.unusedSimpArgs false
set_option linter.unusedVariables false
set_option linter.unnecessarySimpa false
namespace GL
open Go Go.Proofs
set_option maxRecDepth 8000
theorem it_false {l : List HB} {ok : HB → Bool} {n m : Nat} {b : HB} (h : ∀ j b, n ≤ j → j < l.length → l[j]? = some b → ok b = false) (hm : n ≤ m) (hb : l[m]? = some b) : ok b = false :=
  h m b hm (List.getElem?_eq_some_iff.1 hb).1 hb
set_option maxHeartbeats 8000000 in
theorem l_iter (al : Option Addr) (L : List BX) (cl : Nat) (q : AC) (day : Int) (s : ByteArray) {h : Heap} (hs : SlG 4 bdL h al L) (hb : BXs h L) (ll : L.length ≤ 9223372036854775807) :
    HCalls Try.prog 7 #[.slice al L.length cl, acV q, iV day, .string s] h (Grow (.bool true) h) := by
  refine hcalls2 Try.func7 rfl (by decide +kernel) (by simp only [Try.ntmps7]; exact of_decide_eq_true rfl) ?_
  intro e hin
  have e0 := hin 0 _ rfl
  have e1 := hin 1 _ rfl
  have e2 := hin 2 _ rfl
  have e3 := hin 3 _ rfl
  refine hx_seq ?_
  refine hx_region ?_
  refine WL.box2 (by simp only [EN, Nat.reduceEqDiff, reduceIte, Value.cells, e1, decide_true, Bool.not_true, Bool.not_false, decide_false, eq_self]; rfl) ?_
  intro h1 B1 hx1 hlt1 hB1
  replace hs := hs.ext hx1
  replace hb := hb.ext hx1
  refine WL.box2 (by simp only [EN, Nat.reduceEqDiff, reduceIte, Value.cells, e2, decide_true, Bool.not_true, Bool.not_false, decide_false, eq_self, hB1.cell]; rfl) ?_
  intro h2 B2 hx2 hlt2 hB2
  replace hs := hs.ext hx2
  replace hb := hb.ext hx2
  replace hB1 := hB1.ext hx2
  refine WL.box2 (by simp only [EN, Nat.reduceEqDiff, reduceIte, Value.cells, e3, decide_true, Bool.not_true, Bool.not_false, decide_false, eq_self, hB1.cell, hB2.cell]; rfl) ?_
  intro h3 B3 hx3 hlt3 hB3
  replace hs := hs.ext hx3
  replace hb := hb.ext hx3
  replace hB1 := hB1.ext hx3
  replace hB2 := hB2.ext hx3
  refine WL.alloc2 zr4 ?_
  intro h4 B4 hx4 hlt4 hB4
  replace hs := hs.ext hx4
  replace hb := hb.ext hx4
  replace hB1 := hB1.ext hx4
  replace hB2 := hB2.ext hx4
  replace hB3 := hB3.ext hx4
  simp only [Value.cells] at hB4
  refine WL.nil ?_
  refine th_norm ?_
  refine hx_seq ?_
  refine hx_seq ?_
  refine hx_region ?_
  refine WL.qq (by simp only [EN, Nat.reduceEqDiff, reduceIte, qv_move, e0, decide_true, Bool.not_true, Bool.not_false, decide_false, eq_self, hB1.cell, hB2.cell, hB3.cell, hB4.cell]; rfl) ?_
  refine WL.ck Try.call12 (by simp only [EN, Nat.reduceEqDiff, reduceIte, AR, decide_true, Bool.not_true, Bool.not_false, decide_false, eq_self, hB1.cell, hB2.cell, hB3.cell, hB4.cell]; exact c_few al L cl ll hs hb) ?_
  refine WL.qq (by simp only [EN, Nat.reduceEqDiff, reduceIte, qv_unOp, unv_not, decide_true, Bool.not_true, Bool.not_false, decide_false, eq_self, hB1.cell, hB2.cell, hB3.cell, hB4.cell]; rfl) ?_
  refine WL.nil ?_
  refine th_norm ?_
  refine hx_cond (by simp only [EN, Nat.reduceEqDiff, reduceIte, decide_true, Bool.not_true, Bool.not_false, decide_false, eq_self, hB1.cell, hB2.cell, hB3.cell, hB4.cell]; rfl) (fun hct19 => ?_) (fun hct19 => ?_)
  ·
    try simp only [BD] at hct19
    refine hx_seq ?_
    refine hx_region ?_
    refine WL.cg Try.call13 (by simp only [EN, Nat.reduceEqDiff, reduceIte, AR, decide_true, Bool.not_true, Bool.not_false, decide_false, eq_self, hB1.cell, hB2.cell, hB3.cell, hB4.cell]; exact c_known14 _) ?_
    intro h5 hx5
    replace hs := hs.ext hx5
    replace hb := hb.ext hx5
    replace hB1 := hB1.ext hx5
    replace hB2 := hB2.ext hx5
    replace hB3 := hB3.ext hx5
    replace hB4 := hB4.ext hx5
    refine WL.store (by simp only [EN, Nat.reduceEqDiff, reduceIte, decide_true, Bool.not_true, Bool.not_false, decide_false, eq_self, hB1.cell, hB2.cell, hB3.cell, hB4.cell] <;> rfl) sz4 (by simp only [EN, Nat.reduceEqDiff, reduceIte, Value.cells, decide_true, Bool.not_true, Bool.not_false, decide_false, eq_self, hB1.cell, hB2.cell, hB3.cell, hB4.cell] <;> rfl) rfl hB4 (by first | (simp [true_and]; done) | (simp [true_and]; omega) | omega) (by simp [Value.oneCell']) ?_
    intro h6 hw6
    have hE2 := hw6.ext ((hx1).trans ((hx2).trans ((hx3).trans ((hx4).trans (hx5))))) (by have := hx1.size; have := hx2.size; have := hx3.size; omega)
    replace hB4 := hw6.at_
    simp only [splc, List.take_succ_cons, List.take_zero, List.take_nil, List.drop_succ_cons, List.drop_zero, List.drop_nil, List.cons_append, List.nil_append, List.length_cons, List.length_nil, Nat.zero_add, Nat.add_zero, Nat.reduceAdd, List.append_nil] at hB4
    refine WL.nil ?_
    refine th_norm ?_
    refine hx_ret ?_
    refine th_ret ?_
    refine fin_ret [.cell 8 4] rfl rfl (by simp only [EN, Nat.reduceEqDiff, reduceIte, resv, ld4, readN, AR, Nat.zero_add, Nat.reduceAdd, e0, e1, e2, e3, decide_true, Bool.not_true, Bool.not_false, decide_false, eq_self, hB1.cell, hB2.cell, hB3.cell, hB4.cell]; rfl) ?_  -- ret 0 r2
    exact ⟨rfl, hE2⟩
  ·
    try simp only [BD] at hct19
    have hF : FW L := (by simpa using hct19)
    refine hx_skip ?_
    refine th_norm ?_
    refine hx_seq ?_
    refine hx_region ?_
    refine WL.qq (by simp only [EN, Nat.reduceEqDiff, reduceIte, qv_move, e0, decide_true, Bool.not_true, Bool.not_false, decide_false, eq_self, hB1.cell, hB2.cell, hB3.cell, hB4.cell]; rfl) ?_
    refine WL.ce Try.call14 (by simp only [EN, Nat.reduceEqDiff, reduceIte, AR, decide_true, Bool.not_true, Bool.not_false, decide_false, eq_self, hB1.cell, hB2.cell, hB3.cell, hB4.cell]; exact c_build al L cl hF hs hb) ?_
    rintro _ h7 ⟨hx7, p, a, c, xs, rfl, hS⟩
    replace hs := hs.ext hx7
    replace hb := hb.ext hx7
    replace hB1 := hB1.ext hx7
    replace hB2 := hB2.ext hx7
    replace hB3 := hB3.ext hx7
    replace hB4 := hB4.ext hx7
    simp only [put_some]
    generalize runB (L.map BX.bd) = l at hS
    have hn12 := hS.n
    refine WL.qq (by simp only [EN, Nat.reduceEqDiff, reduceIte, qv_move, decide_true, Bool.not_true, Bool.not_false, decide_false, eq_self, hB1.cell, hB2.cell, hB3.cell, hB4.cell]; rfl) ?_
    refine WL.qq (by simp only [EN, Nat.reduceEqDiff, reduceIte, qv_extract, AR, decide_true, Bool.not_true, Bool.not_false, decide_false, eq_self, hB1.cell, hB2.cell, hB3.cell, hB4.cell]; rfl) ?_
    refine WL.qq (by simp only [EN, Nat.reduceEqDiff, reduceIte, qv_extract, AR, decide_true, Bool.not_true, Bool.not_false, decide_false, eq_self, hB1.cell, hB2.cell, hB3.cell, hB4.cell]; rfl) ?_
    have kz7 := Ext.size ((hx1).trans ((hx2).trans ((hx3).trans ((hx4).trans (hx7))))); have kz74 := hx7.size
    refine WL.alloc2 zr22 ?_
    intro h8 B8 hx8 hlt8 hB8
    replace hB1 := hB1.ext hx8
    replace hB2 := hB2.ext hx8
    replace hB3 := hB3.ext hx8
    replace hB4 := hB4.ext hx8
    replace hS := hS.ext hx8
    simp only [Value.cells] at hB8
    refine WL.qq (by simp only [EN, Nat.reduceEqDiff, reduceIte, qv_assign, decide_true, Bool.not_true, Bool.not_false, decide_false, eq_self, hB1.cell, hB2.cell, hB3.cell, hB4.cell, hB8.cell]; rfl) ?_
    refine WL.store (by simp only [EN, Nat.reduceEqDiff, reduceIte, decide_true, Bool.not_true, Bool.not_false, decide_false, eq_self, hB1.cell, hB2.cell, hB3.cell, hB4.cell, hB8.cell] <;> rfl) sz22 (by simp only [EN, Nat.reduceEqDiff, reduceIte, Value.cells, decide_true, Bool.not_true, Bool.not_false, decide_false, eq_self, hB1.cell, hB2.cell, hB3.cell, hB4.cell, hB8.cell] <;> rfl) rfl hB8 (by first | (simp [true_and]; done) | (simp [true_and]; omega) | omega) (by simp [Value.oneCell']) ?_
    intro h9 hw9
    have hE9 := hw9.ext ((hx1).trans ((hx2).trans ((hx3).trans ((hx4).trans ((hx7).trans (hx8)))))) (by omega)
    have g9 := hw9.gs1
    replace hS := hS.gs1 g9 hB8 (by omega) (by decide) (by decide) (by decide) (by decide) (by decide)
    replace hB1 := hB1.gs1 g9 hB8 (by decide)
    replace hB2 := hB2.gs1 g9 hB8 (by decide)
    replace hB3 := hB3.gs1 g9 hB8 (by decide)
    replace hB4 := hB4.gs1 g9 hB8 (by decide)
    replace hB8 := hw9.at_
    simp only [splc, List.take_succ_cons, List.take_zero, List.take_nil, List.drop_succ_cons, List.drop_zero, List.drop_nil, List.cons_append, List.nil_append, List.length_cons, List.length_nil, Nat.zero_add, Nat.add_zero, Nat.reduceAdd, List.append_nil] at hB8
    have kz9 := hw9.size
    have kz8 := hx8.size
    refine WL.nil ?_
    refine th_norm ?_
    refine hx_seq ?_
    refine hx_seq ?_
    refine hx_region ?_
    refine WL.qq (by simp only [EN, Nat.reduceEqDiff, reduceIte, qv_move, decide_true, Bool.not_true, Bool.not_false, decide_false, eq_self, hB1.cell, hB2.cell, hB3.cell, hB4.cell, hB8.cell]; rfl) ?_
    refine WL.qq (by simp only [EN, Nat.reduceEqDiff, reduceIte, qv_binOp, binv_eql, eqz27, eqn27, eqm27, Option.map_some, decide_true, Bool.not_true, Bool.not_false, decide_false, eq_self, hB1.cell, hB2.cell, hB3.cell, hB4.cell, hB8.cell]; rfl) ?_
    refine WL.nil ?_
    refine th_norm ?_
    refine hx_cond (by simp only [EN, Nat.reduceEqDiff, reduceIte, decide_true, Bool.not_true, Bool.not_false, decide_false, eq_self, hB1.cell, hB2.cell, hB3.cell, hB4.cell, hB8.cell]; rfl) (fun hct27 => ?_) (fun hct27 => ?_)
    ·
      simp at hct27
    ·
      try simp only [BD] at hct27
      refine hx_skip ?_
      refine th_norm ?_
      refine hx_seq ?_
      refine hx_region ?_
      have w2 := (Array.getElem?_eq_some_iff.1 hB2).1
      refine WL.alloc2 zr3 ?_
      intro h10 B10 hx10 hlt10 hB10
      replace hB1 := hB1.ext hx10
      replace hB2 := hB2.ext hx10
      replace hB3 := hB3.ext hx10
      replace hB4 := hB4.ext hx10
      replace hS := hS.ext hx10
      replace hB8 := hB8.ext hx10
      simp only [Value.cells] at hB10
      have w10 := (Array.getElem?_eq_some_iff.1 hB10).1
      refine WL.alloc2 zr3 ?_
      intro h11 B11 hx11 hlt11 hB11
      replace hB1 := hB1.ext hx11
      replace hB2 := hB2.ext hx11
      replace hB3 := hB3.ext hx11
      replace hB4 := hB4.ext hx11
      replace hS := hS.ext hx11
      replace hB8 := hB8.ext hx11
      replace hB10 := hB10.ext hx11
      simp only [Value.cells] at hB11
      have w11 := (Array.getElem?_eq_some_iff.1 hB11).1
      refine WL.alloc2 zr3 ?_
      intro h12 B12 hx12 hlt12 hB12
      replace hB1 := hB1.ext hx12
      replace hB2 := hB2.ext hx12
      replace hB3 := hB3.ext hx12
      replace hB4 := hB4.ext hx12
      replace hS := hS.ext hx12
      replace hB8 := hB8.ext hx12
      replace hB10 := hB10.ext hx12
      replace hB11 := hB11.ext hx12
      simp only [Value.cells] at hB12
      have w12 := (Array.getElem?_eq_some_iff.1 hB12).1; have kz10 := hx10.size; have kz11 := hx11.size; have kz12 := hx12.size
      refine WL.store (by simp only [EN, Nat.reduceEqDiff, reduceIte, decide_true, Bool.not_true, Bool.not_false, decide_false, eq_self, hB1.cell, hB2.cell, hB3.cell, hB4.cell, hB8.cell, hB10.cell, hB11.cell, hB12.cell] <;> rfl) sz3 (by simp only [EN, Nat.reduceEqDiff, reduceIte, Value.cells, decide_true, Bool.not_true, Bool.not_false, decide_false, eq_self, hB1.cell, hB2.cell, hB3.cell, hB4.cell, hB8.cell, hB10.cell, hB11.cell, hB12.cell] <;> rfl) rfl hB10 (by first | (simp [true_and]; done) | (simp [true_and]; omega) | omega) (by simp [Value.oneCell']) ?_
      intro h13 hw13
      have hE13 := hw13.ext ((hE9).trans ((hx10).trans ((hx11).trans (hx12)))) (by omega)
      have g13 := hw13.gs1
      replace hS := hS.gs1 g13 hB10 (by omega) (by decide) (by decide) (by decide) (by decide) (by decide)
      replace hB1 := hB1.gs1 g13 hB10 (by decide)
      replace hB3 := hB3.gs1 g13 hB10 (by decide)
      replace hB4 := hB4.gs1 g13 hB10 (by decide)
      replace hB8 := hB8.gs1 g13 hB10 (by decide)
      replace hB2 := hB2.wr hw13 (by omega)
      replace hB11 := hB11.wr hw13 (by omega)
      replace hB12 := hB12.wr hw13 (by omega)
      replace hB10 := hw13.at_
      simp only [splc, List.take_succ_cons, List.take_zero, List.take_nil, List.drop_succ_cons, List.drop_zero, List.drop_nil, List.cons_append, List.nil_append, List.length_cons, List.length_nil, Nat.zero_add, Nat.add_zero, Nat.reduceAdd, List.append_nil] at hB10
      have kz13 := hw13.size
      refine WL.store (by simp only [EN, Nat.reduceEqDiff, reduceIte, decide_true, Bool.not_true, Bool.not_false, decide_false, eq_self, hB1.cell, hB2.cell, hB3.cell, hB4.cell, hB8.cell, hB10.cell, hB11.cell, hB12.cell] <;> rfl) sz3 (by simp only [EN, Nat.reduceEqDiff, reduceIte, Value.cells, decide_true, Bool.not_true, Bool.not_false, decide_false, eq_self, hB1.cell, hB2.cell, hB3.cell, hB4.cell, hB8.cell, hB10.cell, hB11.cell, hB12.cell] <;> rfl) rfl hB11 (by first | (simp [true_and]; done) | (simp [true_and]; omega) | omega) (by simp [Value.oneCell']) ?_
      intro h14 hw14
      have hE14 := hw14.ext (hE13) (by omega)
      have g14 := hw14.gs1
      replace hS := hS.gs1 g14 hB11 (by omega) (by decide) (by decide) (by decide) (by decide) (by decide)
      replace hB1 := hB1.gs1 g14 hB11 (by decide)
      replace hB3 := hB3.gs1 g14 hB11 (by decide)
      replace hB4 := hB4.gs1 g14 hB11 (by decide)
      replace hB8 := hB8.gs1 g14 hB11 (by decide)
      replace hB2 := hB2.wr hw14 (by omega)
      replace hB10 := hB10.wr hw14 (by omega)
      replace hB12 := hB12.wr hw14 (by omega)
      replace hB11 := hw14.at_
      simp only [splc, List.take_succ_cons, List.take_zero, List.take_nil, List.drop_succ_cons, List.drop_zero, List.drop_nil, List.cons_append, List.nil_append, List.length_cons, List.length_nil, Nat.zero_add, Nat.add_zero, Nat.reduceAdd, List.append_nil] at hB11
      have kz14 := hw14.size
      refine WL.store (by simp only [EN, Nat.reduceEqDiff, reduceIte, decide_true, Bool.not_true, Bool.not_false, decide_false, eq_self, hB1.cell, hB2.cell, hB3.cell, hB4.cell, hB8.cell, hB10.cell, hB11.cell, hB12.cell] <;> rfl) sz3 (by simp only [EN, Nat.reduceEqDiff, reduceIte, Value.cells, decide_true, Bool.not_true, Bool.not_false, decide_false, eq_self, hB1.cell, hB2.cell, hB3.cell, hB4.cell, hB8.cell, hB10.cell, hB11.cell, hB12.cell] <;> rfl) rfl hB12 (by first | (simp [true_and]; done) | (simp [true_and]; omega) | omega) (by simp [Value.oneCell']) ?_
      intro h15 hw15
      have hE15 := hw15.ext (hE14) (by omega)
      have g15 := hw15.gs1
      replace hS := hS.gs1 g15 hB12 (by omega) (by decide) (by decide) (by decide) (by decide) (by decide)
      replace hB1 := hB1.gs1 g15 hB12 (by decide)
      replace hB3 := hB3.gs1 g15 hB12 (by decide)
      replace hB4 := hB4.gs1 g15 hB12 (by decide)
      replace hB8 := hB8.gs1 g15 hB12 (by decide)
      replace hB2 := hB2.wr hw15 (by omega)
      replace hB10 := hB10.wr hw15 (by omega)
      replace hB11 := hB11.wr hw15 (by omega)
      replace hB12 := hw15.at_
      simp only [splc, List.take_succ_cons, List.take_zero, List.take_nil, List.drop_succ_cons, List.drop_zero, List.drop_nil, List.cons_append, List.nil_append, List.length_cons, List.length_nil, Nat.zero_add, Nat.add_zero, Nat.reduceAdd, List.append_nil] at hB12
      have kz15 := hw15.size
      refine WL.nil ?_
      refine th_norm ?_
      refine hx_seq ?_
      refine hx_seq ?_
      refine hx_region ?_
      have w2b : B2 < Array.size h15 := (by omega); have w10b : B10 < Array.size h15 := (by omega); have w11b : B11 < Array.size h15 := (by omega); have w12b : B12 < Array.size h15 := (by omega); have hmk : MK h.size h15 [] := MK.nil
      refine WL.qq (by simp only [EN, Nat.reduceEqDiff, reduceIte, qv_move, decide_true, Bool.not_true, Bool.not_false, decide_false, eq_self]; rfl) ?_
      refine WL.qq (by simp only [EN, Nat.reduceEqDiff, reduceIte, qv_load, ld24, readN, AR, Nat.zero_add, Nat.reduceAdd, decide_true, Bool.not_true, Bool.not_false, decide_false, eq_self, hB1.cell]; rfl) ?_
      refine WL.cg Try.call17 (by simp only [EN, Nat.reduceEqDiff, reduceIte, AR, decide_true, Bool.not_true, Bool.not_false, decide_false, eq_self]; exact c_account _ _) ?_
      intro h16 hx16
      replace hB1 := hB1.ext hx16
      replace hB2 := hB2.ext hx16
      replace hB3 := hB3.ext hx16
      replace hB4 := hB4.ext hx16
      replace hS := hS.ext hx16
      replace hB8 := hB8.ext hx16
      replace hB10 := hB10.ext hx16
      replace hB11 := hB11.ext hx16
      replace hB12 := hB12.ext hx16
      replace hmk := hmk.ext hx16
      refine WL.ce Try.call27 (by simp only [EN, Nat.reduceEqDiff, reduceIte, AR, decide_true, Bool.not_true, Bool.not_false, decide_false, eq_self]; exact c_byAcc (some ⟨p, 0, none⟩) q _) ?_
      rintro _ h17 ⟨hx17, C0a, C0b, C0c, hC0n, rfl, hC0a, hC0b, hC0c⟩
      replace hB1 := hB1.ext hx17
      replace hB2 := hB2.ext hx17
      replace hB3 := hB3.ext hx17
      replace hB4 := hB4.ext hx17
      replace hS := hS.ext hx17
      replace hB8 := hB8.ext hx17
      replace hB10 := hB10.ext hx17
      replace hB11 := hB11.ext hx17
      replace hB12 := hB12.ext hx17
      replace hmk := hmk.ext hx17
      simp only [put_some]
      refine WL.nil ?_
      refine th_norm ?_
      refine hx_block ?_
      refine hx_range (by simp only [EN, Nat.reduceEqDiff, reduceIte, e0, e1, e2, e3, decide_true, Bool.not_true, Bool.not_false, decide_false, eq_self]; rfl) Try.call69 ?_
      intro fnR0 hR0 hxR0 hsR0 hdR0 hrR0
      have hXL := ((hE15).trans ((hx16).trans (hx17)))
      have kzL := hXL.size
      have wz4 := hS.I.E.size
      obtain ⟨av, cap, ys, hK, hyl⟩ := hS.I.hk
      have v2 : B2 < Array.size h17 := (Array.getElem?_eq_some_iff.1 hB2).1
      have v10 : B10 < Array.size h17 := (Array.getElem?_eq_some_iff.1 hB10).1
      have v11 : B11 < Array.size h17 := (Array.getElem?_eq_some_iff.1 hB11).1
      have v12 : B12 < Array.size h17 := (Array.getElem?_eq_some_iff.1 hB12).1
      have vc := (Array.getElem?_eq_some_iff.1 hC0c).1
      have hcne : C0c ≠ B10 := hC0c.ncell hB10 (by decide)
      generalize hrec : recOf _ _ _ _ _ _ _ = rec at hrR0
      refine (c_iter (h0 := h) (Bn := B10) (rec := rec) (posts q) hK hyl hS.g Try.call51 hC0a hC0b hC0c hcne hB10 ?_ ?_ (RX.start hxR0 hsR0 hdR0 hrR0 hXL (by simp; omega) (by simp; omega)) hxR0).mono ?_
      · intro x hD hm hf hbi hq; exact c_okAcc q _ x hf.lens hbi hq
      ·
        rintro i y hx hyi hky ⟨hC, n0, hn0, hno0, hcn⟩ hyr
        have hsz := hC.size; have hil := (List.getElem?_eq_some_iff.1 hyi).1; have hfy := hS.g.f _ (List.mem_of_getElem? hyi)
        have hre : ({ { rec with state := .busy } with state := .ready, pending := none } : Loop) = rec := (by subst hrec; rfl)
        have hRc := hC.rc; rw [← hrec] at hRc
        refine hy_body (vs := [.agg (bdL y).toArray]) (ps := [32]) hRc rfl rfl rfl (by decide) rfl rfl ?_
        simp only [pars, List.zip_cons_cons, List.zip_nil_left, List.foldl_cons, List.foldl_nil]
        refine hx_region ?_
        refine WL.allocSt zr55 sz55 (fun u => by simp only [EN, Nat.reduceEqDiff, reduceIte, Value.cells, decide_true, Bool.not_true, Bool.not_false, decide_false, eq_self]; rfl) ⟨rfl, rfl⟩ (by simp [Value.oneCell']) ?_
        intro h18 B18 hx18 hlt18 hB18
        replace hC := hC.ext hx18
        replace hcn := hcn.ext hx18
        replace hyr := hyr.ext hx18
        refine WL.nil ?_
        refine th_norm ?_
        refine ⟨_, hC.rc, by subst hrec; rfl, ?_⟩
        intro h90 hw90
        replace hC := hC.turn hw90
        replace hcn := hcn.wr hw90 (by omega)
        replace hyr := hyr.keep (fun c hc => hw90.same c (by omega))
        have hP := hB18.wr hw90 (by omega)
        have kP : B18 ≠ B10 := (by omega)
        refine hx_block ?_
        refine hx_seq ?_
        refine hx_block ?_
        refine hx_loopG [33, 34, 35, 36, 37, 38, 39, 40, 41, 42, 43, 44, 45, 46, 47] (fun k e hL0 => ∃ (n : Nat), i - n = k ∧ (n ≤ i) ∧ ((∀ j b, n ≤ j → j < i → l[j]? = some b → (posts q) b = false)) ∧ (RX h h17 [B10] { rec with state := .busy } hL0) ∧ (Has hL0 B10 (.cells #[iV n] tyInt)) ∧ (Has hL0 B18 (.cells (bdL y).toArray tyB)) ∧ (BXr (fun g => Array.size h17 + 2 ≤ g) hL0 y)) _ ⟨n0, rfl, ?_, ?_, ?_, ?_, ?_, ?_⟩ ?_
        · exact hn0
        · exact hno0
        · exact hC
        · exact hcn
        · exact hP
        · exact hyr
        ·
          rintro k e0L hL0 hfr0 ⟨n, rfl, hn, hno, hC, hcn, hP, hyr⟩
          have k5_0 := hfr0 5 rfl; try simp only [EN, Nat.reduceEqDiff, reduceIte, decide_true, Bool.not_true, Bool.not_false, decide_false, eq_self, hB18.cell] at k5_0
          have k8_0 := hfr0 8 rfl; try simp only [EN, Nat.reduceEqDiff, reduceIte, decide_true, Bool.not_true, Bool.not_false, decide_false, eq_self, hB18.cell] at k8_0
          have k10_0 := hfr0 10 rfl; try simp only [EN, Nat.reduceEqDiff, reduceIte, decide_true, Bool.not_true, Bool.not_false, decide_false, eq_self, hB18.cell] at k10_0
          have k11_0 := hfr0 11 rfl; try simp only [EN, Nat.reduceEqDiff, reduceIte, decide_true, Bool.not_true, Bool.not_false, decide_false, eq_self, hB18.cell] at k11_0
          have k14_0 := hfr0 14 rfl; try simp only [EN, Nat.reduceEqDiff, reduceIte, decide_true, Bool.not_true, Bool.not_false, decide_false, eq_self, hB18.cell] at k14_0
          have hS9 := hS.gs1 hC.gs hB10 (by omega) (by decide) (by decide) (by decide) (by decide) (by decide)
          have hA9 := hB8.gs1 hC.gs hB10 (by decide)
          have hQ9 := hB1.gs1 hC.gs hB10 (by decide)
          obtain ⟨x, hx⟩ := atG (l := xs) (i := n) (by have := hS9.n.1; omega)
          obtain ⟨b1, o1, ha1, hr1, _, hdx, _⟩ := bd_rd hS9.sl hx
          have hxb : l[n]? = some x.bd := (by rw [← hS9.m]; exact bd_at hx)
          have hfx := hS9.fb x (List.mem_of_getElem? hx); have hxi9 := hS9.bx x (List.mem_of_getElem? hx)
          have hd9 : decide ((n : Int) < (xs.length : Int)) = true := decide_eq_true (by have := (List.getElem?_eq_some_iff.1 hx).1; omega)
          have hd11 : decide ((xs.length : Int) ≤ (n : Int)) = false := decide_eq_false (by have := (List.getElem?_eq_some_iff.1 hx).1; omega)
          refine hx_seq ?_
          refine hx_seq ?_
          apply hx_draw2 Rel.grows [] [10] [(10, Spec.is _)] rfl (by decide +kernel) rfl
          refine LD.qq rfl rfl (by simp only [EN, Nat.reduceEqDiff, reduceIte, qv_load, ld3, readN, AR, Nat.zero_add, Nat.reduceAdd, k11_0, decide_true, Bool.not_true, Bool.not_false, decide_false, eq_self, hB18.cell, hP.cell, hcn.cell, hA9.cell, hQ9.cell]; rfl) ?_
          refine LD.qq rfl rfl (by simp only [EN, Nat.reduceEqDiff, reduceIte, qv_load, ld22, readN, AR, Nat.zero_add, Nat.reduceAdd, k10_0, decide_true, Bool.not_true, Bool.not_false, decide_false, eq_self, hB18.cell, hP.cell, hcn.cell, hA9.cell, hQ9.cell]; rfl) ?_
          refine LD.qq rfl rfl (by simp only [EN, Nat.reduceEqDiff, reduceIte, qv_len, ln22, AR, decide_true, Bool.not_true, Bool.not_false, decide_false, eq_self, hB18.cell, hP.cell, hcn.cell, hA9.cell, hQ9.cell]; rfl) ?_
          refine LD.qq rfl rfl (by simp only [EN, Nat.reduceEqDiff, reduceIte, qv_binOp, binv_lss, decide_true, Bool.not_true, Bool.not_false, decide_false, eq_self, hB18.cell, hP.cell, hcn.cell, hA9.cell, hQ9.cell, hd9]; rfl) ?_
          refine LD.qq rfl rfl (by simp only [EN, Nat.reduceEqDiff, reduceIte, qv_move, decide_true, Bool.not_true, Bool.not_false, decide_false, eq_self, hB18.cell, hP.cell, hcn.cell, hA9.cell, hQ9.cell]; rfl) ?_
          refine LD.on (by rw [gOk_s (gd_at (t := 37) rfl (by simp only [EN, Nat.reduceEqDiff, reduceIte, k10_0, decide_true, Bool.not_true, Bool.not_false, decide_false, eq_self, hB18.cell, hP.cell, hcn.cell, hA9.cell, hQ9.cell] <;> rfl))]; rfl) ?_
          refine LD.qq rfl rfl (by simp only [EN, Nat.reduceEqDiff, reduceIte, qv_load, ld22, readN, AR, Nat.zero_add, Nat.reduceAdd, k10_0, decide_true, Bool.not_true, Bool.not_false, decide_false, eq_self, hB18.cell, hP.cell, hcn.cell, hA9.cell, hQ9.cell]; rfl) ?_
          refine LD.on (by rw [gOk_s (gd_at (t := 37) rfl (by simp only [EN, Nat.reduceEqDiff, reduceIte, k11_0, decide_true, Bool.not_true, Bool.not_false, decide_false, eq_self, hB18.cell, hP.cell, hcn.cell, hA9.cell, hQ9.cell] <;> rfl))]; rfl) ?_
          refine LD.qq rfl rfl (by simp only [EN, Nat.reduceEqDiff, reduceIte, qv_load, ld3, readN, AR, Nat.zero_add, Nat.reduceAdd, k11_0, decide_true, Bool.not_true, Bool.not_false, decide_false, eq_self, hB18.cell, hP.cell, hcn.cell, hA9.cell, hQ9.cell]; rfl) ?_
          refine LD.on (by rw [gOk_s (gd_at (t := 37) rfl (by simp only [EN, Nat.reduceEqDiff, reduceIte, decide_true, Bool.not_true, Bool.not_false, decide_false, eq_self, hB18.cell, hP.cell, hcn.cell, hA9.cell, hQ9.cell] <;> rfl))]; rfl) ?_
          refine LD.qq rfl rfl (by simp only [EN, Nat.reduceEqDiff, reduceIte, qv_indexAddr, decide_true, Bool.not_true, Bool.not_false, decide_false, eq_self, hB18.cell, hP.cell, hcn.cell, hA9.cell, hQ9.cell, ha1]; (try simp (disch := omega) only [ix22, Int.toNat_natCast]); rfl) ?_
          refine LD.on (by rw [gOk_s (gd_at (t := 37) rfl (by simp only [EN, Nat.reduceEqDiff, reduceIte, decide_true, Bool.not_true, Bool.not_false, decide_false, eq_self, hB18.cell, hP.cell, hcn.cell, hA9.cell, hQ9.cell] <;> rfl))]; rfl) ?_
          refine LD.qq rfl rfl (by simp only [EN, Nat.reduceEqDiff, reduceIte, k5_0, k8_0, k10_0, k11_0, k14_0, decide_true, Bool.not_true, Bool.not_false, decide_false, eq_self, hB18.cell, hP.cell, hcn.cell, hA9.cell, hQ9.cell, qv_load, ld45, Int.toNat_natCast, hr1]; rfl) ?_
          refine LD.on (by rw [gOk_s (gd_at (t := 37) rfl (by simp only [EN, Nat.reduceEqDiff, reduceIte, k5_0, decide_true, Bool.not_true, Bool.not_false, decide_false, eq_self, hB18.cell, hP.cell, hcn.cell, hA9.cell, hQ9.cell] <;> rfl))]; rfl) ?_
          refine LD.qq rfl rfl (by simp only [EN, Nat.reduceEqDiff, reduceIte, qv_load, ld24, readN, AR, Nat.zero_add, Nat.reduceAdd, k5_0, decide_true, Bool.not_true, Bool.not_false, decide_false, eq_self, hB18.cell, hP.cell, hcn.cell, hA9.cell, hQ9.cell]; rfl) ?_
          refine LD.on (by rw [gOk_s (gd_at (t := 37) rfl (by simp only [EN, Nat.reduceEqDiff, reduceIte, decide_true, Bool.not_true, Bool.not_false, decide_false, eq_self, hB18.cell, hP.cell, hcn.cell, hA9.cell, hQ9.cell] <;> rfl))]; rfl) ?_
          refine LD.ck rfl rfl Try.call28 (by intro hD hr; have hx : Ext _ _ := hr; have hC := hC.ext hx; have hcn := hcn.ext hx; have hP := hP.ext hx; have hyr := hyr.ext hx; have hS9 := hS9.ext hx; have hA9 := hA9.ext hx; have hQ9 := hQ9.ext hx; have hxi9 := hxi9.ext hx; simp only [EN, Nat.reduceEqDiff, reduceIte, AR, decide_true, Bool.not_true, Bool.not_false, decide_false, eq_self, hB18.cell, hP.cell, hcn.cell, hA9.cell, hQ9.cell]; exact c_rPosts x q hfx.lens hxi9) ?_
          refine LD.on (by rw [gOk_s (gd_at (t := 37) rfl (by simp only [EN, Nat.reduceEqDiff, reduceIte, decide_true, Bool.not_true, Bool.not_false, decide_false, eq_self, hB18.cell, hP.cell, hcn.cell, hA9.cell, hQ9.cell] <;> rfl))]; rfl) ?_
          refine LD.qq rfl rfl (by simp only [EN, Nat.reduceEqDiff, reduceIte, qv_unOp, unv_not, decide_true, Bool.not_true, Bool.not_false, decide_false, eq_self, hB18.cell, hP.cell, hcn.cell, hA9.cell, hQ9.cell]; rfl) ?_
          refine LD.qq rfl rfl (by simp only [EN, Nat.reduceEqDiff, reduceIte, qv_pick, pk_and, pk_or, GR, decide_true, Bool.not_true, Bool.not_false, decide_false, eq_self, hB18.cell, hP.cell, hcn.cell, hA9.cell, hQ9.cell]; rfl) ?_
          refine LD.nil ?_
          rintro h19 hx19 hF9
          replace hx19 : Ext _ _ := hx19
          replace hC := hC.ext hx19
          replace hcn := hcn.ext hx19
          replace hP := hP.ext hx19
          replace hyr := hyr.ext hx19
          replace hS9 := hS9.ext hx19
          replace hA9 := hA9.ext hx19
          replace hQ9 := hQ9.ext hx19
          replace hxi9 := hxi9.ext hx19
          refine WL.nil ?_
          refine th_norm ?_
          refine hx_cond (by simp only [EN, Nat.reduceEqDiff, reduceIte, decide_true, Bool.not_true, Bool.not_false, decide_false, eq_self, hB18.cell, hP.cell, hcn.cell, hA9.cell, hQ9.cell]; rfl) (fun hct45 => ?_) (fun hct45 => ?_)
          ·
            try simp only [BD] at hct45
            have hp0 : posts q x.bd = false := (by simpa using hct45)
            have hni : n ≠ i := (fun hh => by rw [hh, hyi] at hxb; have e9 := Option.some.inj hxb; rw [← e9] at hp0; have hky2 := hky; (try simp only at hky2); rw [hp0] at hky2; cases hky2)
            refine hx_skip ?_
            refine th_norm ?_
            refine hx_block ?_
            refine hx_region ?_
            refine WL.qq (by simp only [EN, Nat.reduceEqDiff, reduceIte, qv_load, ld3, readN, AR, Nat.zero_add, Nat.reduceAdd, k11_0, decide_true, Bool.not_true, Bool.not_false, decide_false, eq_self, hB18.cell, hP.cell, hcn.cell, hA9.cell, hQ9.cell]; rfl) ?_
            refine WL.qq (by simp only [EN, Nat.reduceEqDiff, reduceIte, qv_binOp, binv_add, decide_true, Bool.not_true, Bool.not_false, decide_false, eq_self, hB18.cell, hP.cell, hcn.cell, hA9.cell, hQ9.cell]; (try simp (disch := omega) only [w64, w8, wu64]); rfl) ?_
            refine WL.store (by simp only [EN, Nat.reduceEqDiff, reduceIte, k11_0, decide_true, Bool.not_true, Bool.not_false, decide_false, eq_self, hB18.cell, hP.cell, hcn.cell, hA9.cell, hQ9.cell] <;> rfl) sz3 (by simp only [EN, Nat.reduceEqDiff, reduceIte, Value.cells, k11_0, decide_true, Bool.not_true, Bool.not_false, decide_false, eq_self, hB18.cell, hP.cell, hcn.cell, hA9.cell, hQ9.cell] <;> rfl) rfl hcn (by first | (simp [true_and]; done) | (simp [true_and]; omega) | omega) (by simp [Value.oneCell']) ?_
            intro h20 hw20
            replace hC := hC.put hw20 (.inl (by simp))
            have hcn2 := hw20.at_
            simp only [splc, List.take_succ_cons, List.take_zero, List.take_nil, List.drop_succ_cons, List.drop_zero, List.drop_nil, List.cons_append, List.nil_append, List.length_cons, List.length_nil, Nat.zero_add, Nat.add_zero, Nat.reduceAdd, List.append_nil] at hcn2
            have hP2 := hP.wr hw20 kP
            have hyr2 := hyr.keep (fun c hc => hw20.same c (by omega))
            refine WL.nil ?_
            refine bl_norm ?_
            refine th_norm ?_
            refine ⟨rfl, ?_, _, ?_, n + 1, rfl, ?_, ?_, ?_, ?_, ?_, ?_⟩  -- again 0 of loop 0
            · (repeat (first | exact Fr.refl _ _ | refine Fr.set rfl ?_ | refine Fr.put rfl ?_ | with_reducible refine Fr.put0 ?_))
            · omega
            · omega
            · intro j b h1 h2 h3; exact hno j b (by omega) h2 h3
            · exact hC
            · exact (show Has _ B10 (.cells #[iV ((n : Int) + 1)] tyInt) from hcn2)
            · exact hP2
            · exact hyr2
          ·
            try simp only [BD] at hct45
            have hp0 : posts q x.bd = true := (by simpa using hct45)
            have hni : n = i := (by rcases Nat.lt_or_ge n i with h9 | h9; (have h8 := hno n x.bd (Nat.le_refl _) h9 hxb; (try simp only at h8); rw [hp0] at h8; cases h8); omega)
            have hyx : y.bd = x.bd := (by rw [hni] at hxb; exact Option.some.inj (hyi.symm.trans hxb))
            refine hx_exit ?_
            refine th_exit ?_
            refine th_exit ?_
            refine bl_hit ?_
            refine th_norm ?_
            refine hx_seq ?_
            refine hx_seq ?_
            apply hx_draw2 Rel.grows [] [6, 11] [(6, (Spec.bk y.bd)), (11, (Spec.is (.bool true)))] rfl (by decide +kernel) rfl
            obtain ⟨_, _, ha2, hr2, _⟩ := bd_rd hS9.sl hx; rw [ha1] at ha2; cases ha2
            refine LD.qq rfl rfl (by simp only [EN, Nat.reduceEqDiff, reduceIte, qv_load, ld3, readN, AR, Nat.zero_add, Nat.reduceAdd, k11_0, decide_true, Bool.not_true, Bool.not_false, decide_false, eq_self, hB18.cell, hP.cell, hcn.cell, hA9.cell, hQ9.cell]; rfl) ?_
            refine LD.qq rfl rfl (by simp only [EN, Nat.reduceEqDiff, reduceIte, qv_load, ld22, readN, AR, Nat.zero_add, Nat.reduceAdd, k10_0, decide_true, Bool.not_true, Bool.not_false, decide_false, eq_self, hB18.cell, hP.cell, hcn.cell, hA9.cell, hQ9.cell]; rfl) ?_
            refine LD.qq rfl rfl (by simp only [EN, Nat.reduceEqDiff, reduceIte, qv_len, ln22, AR, decide_true, Bool.not_true, Bool.not_false, decide_false, eq_self, hB18.cell, hP.cell, hcn.cell, hA9.cell, hQ9.cell]; rfl) ?_
            refine LD.qq rfl rfl (by simp only [EN, Nat.reduceEqDiff, reduceIte, qv_binOp, binv_geq, decide_true, Bool.not_true, Bool.not_false, decide_false, eq_self, hB18.cell, hP.cell, hcn.cell, hA9.cell, hQ9.cell, hd11]; rfl) ?_
            refine LD.qq rfl rfl (by simp only [EN, Nat.reduceEqDiff, reduceIte, qv_move, decide_true, Bool.not_true, Bool.not_false, decide_false, eq_self, hB18.cell, hP.cell, hcn.cell, hA9.cell, hQ9.cell]; rfl) ?_
            refine LD.on (by rw [gOk_s (gd_at (t := 52) rfl (by simp only [EN, Nat.reduceEqDiff, reduceIte, k14_0, decide_true, Bool.not_true, Bool.not_false, decide_false, eq_self, hB18.cell, hP.cell, hcn.cell, hA9.cell, hQ9.cell] <;> rfl))]; rfl) ?_
            refine LD.qq rfl rfl (by simp only [EN, Nat.reduceEqDiff, reduceIte, qv_load, ld55, readN, AR, Nat.zero_add, Nat.reduceAdd, k14_0, decide_true, Bool.not_true, Bool.not_false, decide_false, eq_self, hB18.cell, hP.cell, hcn.cell, hA9.cell, hQ9.cell]; rfl) ?_
            refine LD.on (by rw [gOk_s (gd_at (t := 52) rfl (by simp only [EN, Nat.reduceEqDiff, reduceIte, decide_true, Bool.not_true, Bool.not_false, decide_false, eq_self, hB18.cell, hP.cell, hcn.cell, hA9.cell, hQ9.cell] <;> rfl))]; rfl) ?_
            refine LD.es rfl rfl (by intro hD hr hf; have hx : Ext _ _ := hr; have hC := hC.ext hx; have hcn := hcn.ext hx; have hP := hP.ext hx; have hyr := hyr.ext hx; have hS9 := hS9.ext hx; have hA9 := hA9.ext hx; have hQ9 := hQ9.ext hx; have hxi9 := hxi9.ext hx; exact EOp.mono (e_call Try.call26 (by simp only [EN, Nat.reduceEqDiff, reduceIte, k5_0, k8_0, k10_0, k11_0, k14_0, decide_true, Bool.not_true, Bool.not_false, decide_false, eq_self, hB18.cell, hP.cell, hcn.cell, hA9.cell, hQ9.cell, List.map_toArray, List.map_cons, List.map_nil]; exact c_back y hfy.lens hyr.in_)) (fun _ _ hh => bk_of hh)) ?_
            intro u11_6 w11_6
            refine LD.on (by rw [gOk_s (gd_at (t := 52) rfl (by simp only [EN, Nat.reduceEqDiff, reduceIte, k10_0, decide_true, Bool.not_true, Bool.not_false, decide_false, eq_self, hB18.cell, hP.cell, hcn.cell, hA9.cell, hQ9.cell] <;> rfl))]; rfl) ?_
            refine LD.qq rfl rfl (by simp only [EN, Nat.reduceEqDiff, reduceIte, qv_load, ld22, readN, AR, Nat.zero_add, Nat.reduceAdd, k10_0, decide_true, Bool.not_true, Bool.not_false, decide_false, eq_self, hB18.cell, hP.cell, hcn.cell, hA9.cell, hQ9.cell]; rfl) ?_
            refine LD.on (by rw [gOk_s (gd_at (t := 52) rfl (by simp only [EN, Nat.reduceEqDiff, reduceIte, k11_0, decide_true, Bool.not_true, Bool.not_false, decide_false, eq_self, hB18.cell, hP.cell, hcn.cell, hA9.cell, hQ9.cell] <;> rfl))]; rfl) ?_
            refine LD.qq rfl rfl (by simp only [EN, Nat.reduceEqDiff, reduceIte, qv_load, ld3, readN, AR, Nat.zero_add, Nat.reduceAdd, k11_0, decide_true, Bool.not_true, Bool.not_false, decide_false, eq_self, hB18.cell, hP.cell, hcn.cell, hA9.cell, hQ9.cell]; rfl) ?_
            refine LD.on (by rw [gOk_s (gd_at (t := 52) rfl (by simp only [EN, Nat.reduceEqDiff, reduceIte, decide_true, Bool.not_true, Bool.not_false, decide_false, eq_self, hB18.cell, hP.cell, hcn.cell, hA9.cell, hQ9.cell] <;> rfl))]; rfl) ?_
            refine LD.qq rfl rfl (by simp only [EN, Nat.reduceEqDiff, reduceIte, qv_indexAddr, decide_true, Bool.not_true, Bool.not_false, decide_false, eq_self, hB18.cell, hP.cell, hcn.cell, hA9.cell, hQ9.cell, ha1]; (try simp (disch := omega) only [ix22, Int.toNat_natCast]); rfl) ?_
            refine LD.on (by rw [gOk_s (gd_at (t := 52) rfl (by simp only [EN, Nat.reduceEqDiff, reduceIte, decide_true, Bool.not_true, Bool.not_false, decide_false, eq_self, hB18.cell, hP.cell, hcn.cell, hA9.cell, hQ9.cell] <;> rfl))]; rfl) ?_
            refine LD.qq rfl rfl (by simp only [EN, Nat.reduceEqDiff, reduceIte, k5_0, k8_0, k10_0, k11_0, k14_0, decide_true, Bool.not_true, Bool.not_false, decide_false, eq_self, hB18.cell, hP.cell, hcn.cell, hA9.cell, hQ9.cell, qv_load, ld45, Int.toNat_natCast, hr2]; rfl) ?_
            refine LD.on (by rw [gOk_s (gd_at (t := 52) rfl (by simp only [EN, Nat.reduceEqDiff, reduceIte, decide_true, Bool.not_true, Bool.not_false, decide_false, eq_self, hB18.cell, hP.cell, hcn.cell, hA9.cell, hQ9.cell] <;> rfl))]; rfl) ?_
            refine LD.es rfl rfl (by intro hD hr hf; have hx : Ext _ _ := hr; have hC := hC.ext hx; have hcn := hcn.ext hx; have hP := hP.ext hx; have hyr := hyr.ext hx; have hS9 := hS9.ext hx; have hA9 := hA9.ext hx; have hQ9 := hQ9.ext hx; have hxi9 := hxi9.ext hx; have m3 := hf (6, u11_6) (by simp) (by show tb _ _ 6 = true; decide +kernel) _ rfl; exact EOp.mono (e_call Try.call25 (by simp only [EN, Nat.reduceEqDiff, reduceIte, k5_0, k8_0, k10_0, k11_0, k14_0, decide_true, Bool.not_true, Bool.not_false, decide_false, eq_self, hB18.cell, hP.cell, hcn.cell, hA9.cell, hQ9.cell, List.map_toArray, List.map_cons, List.map_nil]; exact c_sameB hfy m3 x hxi9 (r := true) (by simp [hyx]))) (fun _ _ hh => grow_is hh)) ?_
            intro u11_11 w11_11
            have hu11 : u11_11 = _ := w11_11
            subst hu11
            refine LD.on (by rw [gOk_s (gd_at (t := 52) rfl (by simp only [EN, Nat.reduceEqDiff, reduceIte, decide_true, Bool.not_true, Bool.not_false, decide_false, eq_self, hB18.cell, hP.cell, hcn.cell, hA9.cell, hQ9.cell] <;> rfl))]; rfl) ?_
            refine LD.qq rfl rfl (by simp only [EN, Nat.reduceEqDiff, reduceIte, qv_unOp, unv_not, decide_true, Bool.not_true, Bool.not_false, decide_false, eq_self, hB18.cell, hP.cell, hcn.cell, hA9.cell, hQ9.cell]; rfl) ?_
            refine LD.qq rfl rfl (by simp only [EN, Nat.reduceEqDiff, reduceIte, qv_pick, pk_and, pk_or, GR, decide_true, Bool.not_true, Bool.not_false, decide_false, eq_self, hB18.cell, hP.cell, hcn.cell, hA9.cell, hQ9.cell]; rfl) ?_
            refine LD.nil ?_
            rintro h21 hx21 hF11
            replace hx21 : Ext _ _ := hx21
            replace hC := hC.ext hx21
            replace hcn := hcn.ext hx21
            replace hP := hP.ext hx21
            replace hyr := hyr.ext hx21
            replace hS9 := hS9.ext hx21
            replace hA9 := hA9.ext hx21
            replace hQ9 := hQ9.ext hx21
            replace hxi9 := hxi9.ext hx21
            refine WL.nil ?_
            refine th_norm ?_
            refine hx_cond (by simp only [EN, Nat.reduceEqDiff, reduceIte, decide_true, Bool.not_true, Bool.not_false, decide_false, eq_self, hB18.cell, hP.cell, hcn.cell, hA9.cell, hQ9.cell]; rfl) (fun hct61 => ?_) (fun hct61 => ?_)
            ·
              simp at hct61
            ·
              try simp only [BD] at hct61
              refine hx_skip ?_
              refine th_norm ?_
              refine hx_region ?_
              refine WL.qq (by simp only [EN, Nat.reduceEqDiff, reduceIte, qv_load, ld3, readN, AR, Nat.zero_add, Nat.reduceAdd, k11_0, decide_true, Bool.not_true, Bool.not_false, decide_false, eq_self, hB18.cell, hP.cell, hcn.cell, hA9.cell, hQ9.cell]; rfl) ?_
              refine WL.qq (by simp only [EN, Nat.reduceEqDiff, reduceIte, qv_binOp, binv_add, decide_true, Bool.not_true, Bool.not_false, decide_false, eq_self, hB18.cell, hP.cell, hcn.cell, hA9.cell, hQ9.cell]; (try simp (disch := omega) only [w64, w8, wu64]); rfl) ?_
              refine WL.store (by simp only [EN, Nat.reduceEqDiff, reduceIte, k11_0, decide_true, Bool.not_true, Bool.not_false, decide_false, eq_self, hB18.cell, hP.cell, hcn.cell, hA9.cell, hQ9.cell] <;> rfl) sz3 (by simp only [EN, Nat.reduceEqDiff, reduceIte, Value.cells, k11_0, decide_true, Bool.not_true, Bool.not_false, decide_false, eq_self, hB18.cell, hP.cell, hcn.cell, hA9.cell, hQ9.cell] <;> rfl) rfl hcn (by first | (simp [true_and]; done) | (simp [true_and]; omega) | omega) (by simp [Value.oneCell']) ?_
              intro h22 hw22
              replace hC := hC.put hw22 (.inl (by simp))
              have hcn2 := hw22.at_
              simp only [splc, List.take_succ_cons, List.take_zero, List.take_nil, List.drop_succ_cons, List.drop_zero, List.drop_nil, List.cons_append, List.nil_append, List.length_cons, List.length_nil, Nat.zero_add, Nat.add_zero, Nat.reduceAdd, List.append_nil] at hcn2
              refine WL.nil ?_
              refine bl_norm ?_
              refine ⟨_, hC.rc, ?_⟩
              intro h30 hw30
              refine ⟨true, rfl, fun _ => ⟨hre ▸ hC.turn hw30, i + 1, Nat.le_refl _, fun j b h1 h2 => by omega, ?_⟩, fun hh => by cases hh⟩
              have h9 := hcn2.wr hw30 (by omega); rw [hni] at h9; exact h9
      ·
        rintro v9 hP9 ⟨hC, n1, hn1, hno1, hcn⟩
        refine after_any hC.rc (by subst hrec; rfl) (.inl ⟨by subst hrec; rfl, ?_⟩)
        intro h31 o31 hw31
        have hsz := hC.size
        have hg31 := (hC.end_ hw31 (by omega)).1; have hE31 := (hC.end_ hw31 (by omega)).2
        have hmk1 := hmk.range (Ext.refl _) kzL hC (by intro r hr; simp at hr; subst hr; rw [hB10]; simp) hw31
        replace hS := hS.gs1 hg31 hB10 (by omega) (by decide) (by decide) (by decide) (by decide) (by decide)
        replace hB1 := hB1.gs1 hg31 hB10 (by decide)
        replace hB3 := hB3.gs1 hg31 hB10 (by decide)
        replace hB4 := hB4.gs1 hg31 hB10 (by decide)
        replace hB8 := hB8.gs1 hg31 hB10 (by decide)
        replace hB2 := hB2.gs hg31 (by simp; omega)
        replace hB11 := hB11.gs hg31 (by simp; omega)
        replace hB12 := hB12.gs hg31 (by simp; omega)
        have hN0 := hcn.wr hw31 (by omega)
        refine bl_norm ?_
        refine th_norm ?_
        refine hx_seq ?_
        refine hx_seq ?_
        refine hx_region ?_
        refine WL.qq (by simp only [EN, Nat.reduceEqDiff, reduceIte, qv_move, decide_true, Bool.not_true, Bool.not_false, decide_false, eq_self]; rfl) ?_
        refine WL.qq (by simp only [EN, Nat.reduceEqDiff, reduceIte, qv_load, ld3, readN, AR, Nat.zero_add, Nat.reduceAdd, decide_true, Bool.not_true, Bool.not_false, decide_false, eq_self, hB2.cell]; rfl) ?_
        have wq2 := (Array.getElem?_eq_some_iff.1 hB2).1; have wq11 := (Array.getElem?_eq_some_iff.1 hB11).1
        refine WL.ce Try.call29 (by simp only [EN, Nat.reduceEqDiff, reduceIte, AR, decide_true, Bool.not_true, Bool.not_false, decide_false, eq_self]; exact c_byDay (some ⟨p, 0, none⟩) day _) ?_
        rintro _ h23 ⟨hx23, C1a, C1b, C1c, hC1n, rfl, hC1a, hC1b, hC1c⟩
        replace hS := hS.ext hx23
        replace hB1 := hB1.ext hx23
        replace hB2 := hB2.ext hx23
        replace hB3 := hB3.ext hx23
        replace hB4 := hB4.ext hx23
        replace hB8 := hB8.ext hx23
        replace hmk1 := hmk1.ext hx23
        replace hN0 := hN0.ext hx23
        replace hB11 := hB11.ext hx23
        replace hB12 := hB12.ext hx23
        simp only [put_some]
        refine WL.nil ?_
        refine th_norm ?_
        refine hx_block ?_
        refine hx_range (by simp only [EN, Nat.reduceEqDiff, reduceIte, e0, e1, e2, e3, decide_true, Bool.not_true, Bool.not_false, decide_false, eq_self]; rfl) Try.call69 ?_
        intro fnR1 hR1 hxR1 hsR1 hdR1 hrR1
        have hXL := ((hE31).trans (hx23))
        have kzL := hXL.size
        have wz4 := hS.I.E.size
        obtain ⟨av, cap, ys, hK, hyl⟩ := hS.I.hk
        have v2 : B2 < Array.size h23 := (Array.getElem?_eq_some_iff.1 hB2).1
        have v10 : B10 < Array.size h23 := (Array.getElem?_eq_some_iff.1 hN0).1
        have v11 : B11 < Array.size h23 := (Array.getElem?_eq_some_iff.1 hB11).1
        have v12 : B12 < Array.size h23 := (Array.getElem?_eq_some_iff.1 hB12).1
        have vc := (Array.getElem?_eq_some_iff.1 hC1c).1
        have hcne : C1c ≠ B11 := (show C1c ≠ B11 by omega)
        generalize hrec : recOf _ _ _ _ _ _ _ = rec at hrR1
        refine (c_iter (h0 := h) (Bn := B11) (rec := rec) (fun b => decide (b.day = day)) hK hyl hS.g Try.call52 hC1a hC1b hC1c hcne hB11 ?_ ?_ (RX.start hxR1 hsR1 hdR1 hrR1 hXL (by simp; omega) (by simp; omega)) hxR1).mono ?_
        · intro x hD hm hf hbi hq; exact c_okDay day _ x hq
        ·
          rintro i y hx hyi hky ⟨hC, n0, hn0, hno0, hcn⟩ hyr
          have hsz := hC.size; have hil := (List.getElem?_eq_some_iff.1 hyi).1; have hfy := hS.g.f _ (List.mem_of_getElem? hyi)
          have hre : ({ { rec with state := .busy } with state := .ready, pending := none } : Loop) = rec := (by subst hrec; rfl)
          have hRc := hC.rc; rw [← hrec] at hRc
          refine hy_body (vs := [.agg (bdL y).toArray]) (ps := [67]) hRc rfl rfl rfl (by decide) rfl rfl ?_
          simp only [pars, List.zip_cons_cons, List.zip_nil_left, List.foldl_cons, List.foldl_nil]
          refine hx_region ?_
          refine WL.allocSt zr55 sz55 (fun u => by simp only [EN, Nat.reduceEqDiff, reduceIte, Value.cells, decide_true, Bool.not_true, Bool.not_false, decide_false, eq_self]; rfl) ⟨rfl, rfl⟩ (by simp [Value.oneCell']) ?_
          intro h24 B24 hx24 hlt24 hB24
          replace hC := hC.ext hx24
          replace hcn := hcn.ext hx24
          replace hyr := hyr.ext hx24
          refine WL.nil ?_
          refine th_norm ?_
          refine ⟨_, hC.rc, by subst hrec; rfl, ?_⟩
          intro h90 hw90
          replace hC := hC.turn hw90
          replace hcn := hcn.wr hw90 (by omega)
          replace hyr := hyr.keep (fun c hc => hw90.same c (by omega))
          have hP := hB24.wr hw90 (by omega)
          have kP : B24 ≠ B11 := (by omega)
          refine hx_block ?_
          refine hx_seq ?_
          refine hx_block ?_
          refine hx_loopG [68, 69, 70, 71, 72, 73, 74, 75, 76, 77, 78, 79, 80, 81, 82] (fun k e hL1 => ∃ (n : Nat), i - n = k ∧ (n ≤ i) ∧ ((∀ j b, n ≤ j → j < i → l[j]? = some b → (fun b => decide (b.day = day)) b = false)) ∧ (RX h h23 [B11] { rec with state := .busy } hL1) ∧ (Has hL1 B11 (.cells #[iV n] tyInt)) ∧ (Has hL1 B24 (.cells (bdL y).toArray tyB)) ∧ (BXr (fun g => Array.size h23 + 2 ≤ g) hL1 y)) _ ⟨n0, rfl, ?_, ?_, ?_, ?_, ?_, ?_⟩ ?_
          · exact hn0
          · exact hno0
          · exact hC
          · exact hcn
          · exact hP
          · exact hyr
          ·
            rintro k e1L hL1 hfr1 ⟨n, rfl, hn, hno, hC, hcn, hP, hyr⟩
            have k6_1 := hfr1 6 rfl; try simp only [EN, Nat.reduceEqDiff, reduceIte, decide_true, Bool.not_true, Bool.not_false, decide_false, eq_self, hB24.cell] at k6_1
            have k8_1 := hfr1 8 rfl; try simp only [EN, Nat.reduceEqDiff, reduceIte, decide_true, Bool.not_true, Bool.not_false, decide_false, eq_self, hB24.cell] at k8_1
            have k10_1 := hfr1 10 rfl; try simp only [EN, Nat.reduceEqDiff, reduceIte, decide_true, Bool.not_true, Bool.not_false, decide_false, eq_self, hB24.cell] at k10_1
            have k12_1 := hfr1 12 rfl; try simp only [EN, Nat.reduceEqDiff, reduceIte, decide_true, Bool.not_true, Bool.not_false, decide_false, eq_self, hB24.cell] at k12_1
            have k15_1 := hfr1 15 rfl; try simp only [EN, Nat.reduceEqDiff, reduceIte, decide_true, Bool.not_true, Bool.not_false, decide_false, eq_self, hB24.cell] at k15_1
            have hS9 := hS.gs1 hC.gs hB11 (by omega) (by decide) (by decide) (by decide) (by decide) (by decide)
            have hA9 := hB8.gs1 hC.gs hB11 (by decide)
            have hQ9 := hB2.gs hC.gs (by simp; omega)
            obtain ⟨x, hx⟩ := atG (l := xs) (i := n) (by have := hS9.n.1; omega)
            obtain ⟨b1, o1, ha1, hr1, _, hdx, _⟩ := bd_rd hS9.sl hx
            have hxb : l[n]? = some x.bd := (by rw [← hS9.m]; exact bd_at hx)
            have hfx := hS9.fb x (List.mem_of_getElem? hx); have hxi9 := hS9.bx x (List.mem_of_getElem? hx)
            have hd9 : decide ((n : Int) < (xs.length : Int)) = true := decide_eq_true (by have := (List.getElem?_eq_some_iff.1 hx).1; omega)
            have hd11 : decide ((xs.length : Int) ≤ (n : Int)) = false := decide_eq_false (by have := (List.getElem?_eq_some_iff.1 hx).1; omega)
            refine hx_seq ?_
            refine hx_seq ?_
            apply hx_draw2 Rel.same [] [] [] rfl (by decide +kernel) rfl
            refine LD.qq rfl rfl (by simp only [EN, Nat.reduceEqDiff, reduceIte, qv_load, ld3, readN, AR, Nat.zero_add, Nat.reduceAdd, k12_1, decide_true, Bool.not_true, Bool.not_false, decide_false, eq_self, hB24.cell, hP.cell, hcn.cell, hA9.cell, hQ9.cell]; rfl) ?_
            refine LD.qq rfl rfl (by simp only [EN, Nat.reduceEqDiff, reduceIte, qv_load, ld22, readN, AR, Nat.zero_add, Nat.reduceAdd, k10_1, decide_true, Bool.not_true, Bool.not_false, decide_false, eq_self, hB24.cell, hP.cell, hcn.cell, hA9.cell, hQ9.cell]; rfl) ?_
            refine LD.qq rfl rfl (by simp only [EN, Nat.reduceEqDiff, reduceIte, qv_len, ln22, AR, decide_true, Bool.not_true, Bool.not_false, decide_false, eq_self, hB24.cell, hP.cell, hcn.cell, hA9.cell, hQ9.cell]; rfl) ?_
            refine LD.qq rfl rfl (by simp only [EN, Nat.reduceEqDiff, reduceIte, qv_binOp, binv_lss, decide_true, Bool.not_true, Bool.not_false, decide_false, eq_self, hB24.cell, hP.cell, hcn.cell, hA9.cell, hQ9.cell, hd9]; rfl) ?_
            refine LD.qq rfl rfl (by simp only [EN, Nat.reduceEqDiff, reduceIte, qv_move, decide_true, Bool.not_true, Bool.not_false, decide_false, eq_self, hB24.cell, hP.cell, hcn.cell, hA9.cell, hQ9.cell]; rfl) ?_
            refine LD.on (by rw [gOk_s (gd_at (t := 72) rfl (by simp only [EN, Nat.reduceEqDiff, reduceIte, k10_1, decide_true, Bool.not_true, Bool.not_false, decide_false, eq_self, hB24.cell, hP.cell, hcn.cell, hA9.cell, hQ9.cell] <;> rfl))]; rfl) ?_
            refine LD.qq rfl rfl (by simp only [EN, Nat.reduceEqDiff, reduceIte, qv_load, ld22, readN, AR, Nat.zero_add, Nat.reduceAdd, k10_1, decide_true, Bool.not_true, Bool.not_false, decide_false, eq_self, hB24.cell, hP.cell, hcn.cell, hA9.cell, hQ9.cell]; rfl) ?_
            refine LD.on (by rw [gOk_s (gd_at (t := 72) rfl (by simp only [EN, Nat.reduceEqDiff, reduceIte, k12_1, decide_true, Bool.not_true, Bool.not_false, decide_false, eq_self, hB24.cell, hP.cell, hcn.cell, hA9.cell, hQ9.cell] <;> rfl))]; rfl) ?_
            refine LD.qq rfl rfl (by simp only [EN, Nat.reduceEqDiff, reduceIte, qv_load, ld3, readN, AR, Nat.zero_add, Nat.reduceAdd, k12_1, decide_true, Bool.not_true, Bool.not_false, decide_false, eq_self, hB24.cell, hP.cell, hcn.cell, hA9.cell, hQ9.cell]; rfl) ?_
            refine LD.on (by rw [gOk_s (gd_at (t := 72) rfl (by simp only [EN, Nat.reduceEqDiff, reduceIte, decide_true, Bool.not_true, Bool.not_false, decide_false, eq_self, hB24.cell, hP.cell, hcn.cell, hA9.cell, hQ9.cell] <;> rfl))]; rfl) ?_
            refine LD.qq rfl rfl (by simp only [EN, Nat.reduceEqDiff, reduceIte, qv_indexAddr, decide_true, Bool.not_true, Bool.not_false, decide_false, eq_self, hB24.cell, hP.cell, hcn.cell, hA9.cell, hQ9.cell, ha1]; (try simp (disch := omega) only [ix22, Int.toNat_natCast]); rfl) ?_
            refine LD.on (by rw [gOk_s (gd_at (t := 72) rfl (by simp only [EN, Nat.reduceEqDiff, reduceIte, decide_true, Bool.not_true, Bool.not_false, decide_false, eq_self, hB24.cell, hP.cell, hcn.cell, hA9.cell, hQ9.cell] <;> rfl))]; rfl) ?_
            refine LD.qq rfl rfl (by simp only [EN, Nat.reduceEqDiff, reduceIte, qv_fieldAddr, fa45_1, Nat.zero_add, Nat.reduceAdd, decide_true, Bool.not_true, Bool.not_false, decide_false, eq_self, hB24.cell, hP.cell, hcn.cell, hA9.cell, hQ9.cell]; rfl) ?_
            refine LD.on (by rw [gOk_s (gd_at (t := 72) rfl (by simp only [EN, Nat.reduceEqDiff, reduceIte, decide_true, Bool.not_true, Bool.not_false, decide_false, eq_self, hB24.cell, hP.cell, hcn.cell, hA9.cell, hQ9.cell] <;> rfl))]; rfl) ?_
            refine LD.qq rfl rfl (by simp only [EN, Nat.reduceEqDiff, reduceIte, k6_1, k8_1, k10_1, k12_1, k15_1, decide_true, Bool.not_true, Bool.not_false, decide_false, eq_self, hB24.cell, hP.cell, hcn.cell, hA9.cell, hQ9.cell, qv_load, ld3, Int.toNat_natCast, hdx]; rfl) ?_
            refine LD.on (by rw [gOk_s (gd_at (t := 72) rfl (by simp only [EN, Nat.reduceEqDiff, reduceIte, k6_1, decide_true, Bool.not_true, Bool.not_false, decide_false, eq_self, hB24.cell, hP.cell, hcn.cell, hA9.cell, hQ9.cell] <;> rfl))]; rfl) ?_
            refine LD.qq rfl rfl (by simp only [EN, Nat.reduceEqDiff, reduceIte, qv_load, ld3, readN, AR, Nat.zero_add, Nat.reduceAdd, k6_1, decide_true, Bool.not_true, Bool.not_false, decide_false, eq_self, hB24.cell, hP.cell, hcn.cell, hA9.cell, hQ9.cell]; rfl) ?_
            refine LD.on (by rw [gOk_s (gd_at (t := 72) rfl (by simp only [EN, Nat.reduceEqDiff, reduceIte, decide_true, Bool.not_true, Bool.not_false, decide_false, eq_self, hB24.cell, hP.cell, hcn.cell, hA9.cell, hQ9.cell] <;> rfl))]; rfl) ?_
            refine LD.qq rfl rfl (by simp only [EN, Nat.reduceEqDiff, reduceIte, qv_binOp, binv_neq, eq3, Option.map_some, decide_true, Bool.not_true, Bool.not_false, decide_false, eq_self, hB24.cell, hP.cell, hcn.cell, hA9.cell, hQ9.cell]; rfl) ?_
            refine LD.qq rfl rfl (by simp only [EN, Nat.reduceEqDiff, reduceIte, qv_pick, pk_and, pk_or, GR, decide_true, Bool.not_true, Bool.not_false, decide_false, eq_self, hB24.cell, hP.cell, hcn.cell, hA9.cell, hQ9.cell]; rfl) ?_
            refine LD.nil ?_
            rintro hL1 rfl -
            refine WL.nil ?_
            refine th_norm ?_
            refine hx_cond (by simp only [EN, Nat.reduceEqDiff, reduceIte, decide_true, Bool.not_true, Bool.not_false, decide_false, eq_self, hB24.cell, hP.cell, hcn.cell, hA9.cell, hQ9.cell]; rfl) (fun hct80 => ?_) (fun hct80 => ?_)
            ·
              try simp only [BD] at hct80
              have hp0 : decide (x.bd.day = day) = false := decide_eq_false (by show ¬ x.day = day; simpa using hct80)
              have hni : n ≠ i := (fun hh => by rw [hh, hyi] at hxb; have e9 := Option.some.inj hxb; rw [← e9] at hp0; have hky2 := hky; (try simp only at hky2); rw [hp0] at hky2; cases hky2)
              refine hx_skip ?_
              refine th_norm ?_
              refine hx_block ?_
              refine hx_region ?_
              refine WL.qq (by simp only [EN, Nat.reduceEqDiff, reduceIte, qv_load, ld3, readN, AR, Nat.zero_add, Nat.reduceAdd, k12_1, decide_true, Bool.not_true, Bool.not_false, decide_false, eq_self, hB24.cell, hP.cell, hcn.cell, hA9.cell, hQ9.cell]; rfl) ?_
              refine WL.qq (by simp only [EN, Nat.reduceEqDiff, reduceIte, qv_binOp, binv_add, decide_true, Bool.not_true, Bool.not_false, decide_false, eq_self, hB24.cell, hP.cell, hcn.cell, hA9.cell, hQ9.cell]; (try simp (disch := omega) only [w64, w8, wu64]); rfl) ?_
              refine WL.store (by simp only [EN, Nat.reduceEqDiff, reduceIte, k12_1, decide_true, Bool.not_true, Bool.not_false, decide_false, eq_self, hB24.cell, hP.cell, hcn.cell, hA9.cell, hQ9.cell] <;> rfl) sz3 (by simp only [EN, Nat.reduceEqDiff, reduceIte, Value.cells, k12_1, decide_true, Bool.not_true, Bool.not_false, decide_false, eq_self, hB24.cell, hP.cell, hcn.cell, hA9.cell, hQ9.cell] <;> rfl) rfl hcn (by first | (simp [true_and]; done) | (simp [true_and]; omega) | omega) (by simp [Value.oneCell']) ?_
              intro h25 hw25
              replace hC := hC.put hw25 (.inl (by simp))
              have hcn2 := hw25.at_
              simp only [splc, List.take_succ_cons, List.take_zero, List.take_nil, List.drop_succ_cons, List.drop_zero, List.drop_nil, List.cons_append, List.nil_append, List.length_cons, List.length_nil, Nat.zero_add, Nat.add_zero, Nat.reduceAdd, List.append_nil] at hcn2
              have hP2 := hP.wr hw25 kP
              have hyr2 := hyr.keep (fun c hc => hw25.same c (by omega))
              refine WL.nil ?_
              refine bl_norm ?_
              refine th_norm ?_
              refine ⟨rfl, ?_, _, ?_, n + 1, rfl, ?_, ?_, ?_, ?_, ?_, ?_⟩  -- again 0 of loop 1
              · (repeat (first | exact Fr.refl _ _ | refine Fr.set rfl ?_ | refine Fr.put rfl ?_ | with_reducible refine Fr.put0 ?_))
              · omega
              · omega
              · intro j b h1 h2 h3; exact hno j b (by omega) h2 h3
              · exact hC
              · exact (show Has _ B11 (.cells #[iV ((n : Int) + 1)] tyInt) from hcn2)
              · exact hP2
              · exact hyr2
            ·
              try simp only [BD] at hct80
              have hp0 : decide (x.bd.day = day) = true := decide_eq_true (by show  x.day = day; simpa using hct80)
              have hni : n = i := (by rcases Nat.lt_or_ge n i with h9 | h9; (have h8 := hno n x.bd (Nat.le_refl _) h9 hxb; (try simp only at h8); rw [hp0] at h8; cases h8); omega)
              have hyx : y.bd = x.bd := (by rw [hni] at hxb; exact Option.some.inj (hyi.symm.trans hxb))
              refine hx_exit ?_
              refine th_exit ?_
              refine th_exit ?_
              refine bl_hit ?_
              refine th_norm ?_
              refine hx_seq ?_
              refine hx_seq ?_
              apply hx_draw2 Rel.grows [] [6, 11] [(6, (Spec.bk y.bd)), (11, (Spec.is (.bool true)))] rfl (by decide +kernel) rfl
              obtain ⟨_, _, ha2, hr2, _⟩ := bd_rd hS9.sl hx; rw [ha1] at ha2; cases ha2
              refine LD.qq rfl rfl (by simp only [EN, Nat.reduceEqDiff, reduceIte, qv_load, ld3, readN, AR, Nat.zero_add, Nat.reduceAdd, k12_1, decide_true, Bool.not_true, Bool.not_false, decide_false, eq_self, hB24.cell, hP.cell, hcn.cell, hA9.cell, hQ9.cell]; rfl) ?_
              refine LD.qq rfl rfl (by simp only [EN, Nat.reduceEqDiff, reduceIte, qv_load, ld22, readN, AR, Nat.zero_add, Nat.reduceAdd, k10_1, decide_true, Bool.not_true, Bool.not_false, decide_false, eq_self, hB24.cell, hP.cell, hcn.cell, hA9.cell, hQ9.cell]; rfl) ?_
              refine LD.qq rfl rfl (by simp only [EN, Nat.reduceEqDiff, reduceIte, qv_len, ln22, AR, decide_true, Bool.not_true, Bool.not_false, decide_false, eq_self, hB24.cell, hP.cell, hcn.cell, hA9.cell, hQ9.cell]; rfl) ?_
              refine LD.qq rfl rfl (by simp only [EN, Nat.reduceEqDiff, reduceIte, qv_binOp, binv_geq, decide_true, Bool.not_true, Bool.not_false, decide_false, eq_self, hB24.cell, hP.cell, hcn.cell, hA9.cell, hQ9.cell, hd11]; rfl) ?_
              refine LD.qq rfl rfl (by simp only [EN, Nat.reduceEqDiff, reduceIte, qv_move, decide_true, Bool.not_true, Bool.not_false, decide_false, eq_self, hB24.cell, hP.cell, hcn.cell, hA9.cell, hQ9.cell]; rfl) ?_
              refine LD.on (by rw [gOk_s (gd_at (t := 87) rfl (by simp only [EN, Nat.reduceEqDiff, reduceIte, k15_1, decide_true, Bool.not_true, Bool.not_false, decide_false, eq_self, hB24.cell, hP.cell, hcn.cell, hA9.cell, hQ9.cell] <;> rfl))]; rfl) ?_
              refine LD.qq rfl rfl (by simp only [EN, Nat.reduceEqDiff, reduceIte, qv_load, ld55, readN, AR, Nat.zero_add, Nat.reduceAdd, k15_1, decide_true, Bool.not_true, Bool.not_false, decide_false, eq_self, hB24.cell, hP.cell, hcn.cell, hA9.cell, hQ9.cell]; rfl) ?_
              refine LD.on (by rw [gOk_s (gd_at (t := 87) rfl (by simp only [EN, Nat.reduceEqDiff, reduceIte, decide_true, Bool.not_true, Bool.not_false, decide_false, eq_self, hB24.cell, hP.cell, hcn.cell, hA9.cell, hQ9.cell] <;> rfl))]; rfl) ?_
              refine LD.es rfl rfl (by intro hD hr hf; have hx : Ext _ _ := hr; have hC := hC.ext hx; have hcn := hcn.ext hx; have hP := hP.ext hx; have hyr := hyr.ext hx; have hS9 := hS9.ext hx; have hA9 := hA9.ext hx; have hQ9 := hQ9.ext hx; have hxi9 := hxi9.ext hx; exact EOp.mono (e_call Try.call26 (by simp only [EN, Nat.reduceEqDiff, reduceIte, k6_1, k8_1, k10_1, k12_1, k15_1, decide_true, Bool.not_true, Bool.not_false, decide_false, eq_self, hB24.cell, hP.cell, hcn.cell, hA9.cell, hQ9.cell, List.map_toArray, List.map_cons, List.map_nil]; exact c_back y hfy.lens hyr.in_)) (fun _ _ hh => bk_of hh)) ?_
              intro u18_6 w18_6
              refine LD.on (by rw [gOk_s (gd_at (t := 87) rfl (by simp only [EN, Nat.reduceEqDiff, reduceIte, k10_1, decide_true, Bool.not_true, Bool.not_false, decide_false, eq_self, hB24.cell, hP.cell, hcn.cell, hA9.cell, hQ9.cell] <;> rfl))]; rfl) ?_
              refine LD.qq rfl rfl (by simp only [EN, Nat.reduceEqDiff, reduceIte, qv_load, ld22, readN, AR, Nat.zero_add, Nat.reduceAdd, k10_1, decide_true, Bool.not_true, Bool.not_false, decide_false, eq_self, hB24.cell, hP.cell, hcn.cell, hA9.cell, hQ9.cell]; rfl) ?_
              refine LD.on (by rw [gOk_s (gd_at (t := 87) rfl (by simp only [EN, Nat.reduceEqDiff, reduceIte, k12_1, decide_true, Bool.not_true, Bool.not_false, decide_false, eq_self, hB24.cell, hP.cell, hcn.cell, hA9.cell, hQ9.cell] <;> rfl))]; rfl) ?_
              refine LD.qq rfl rfl (by simp only [EN, Nat.reduceEqDiff, reduceIte, qv_load, ld3, readN, AR, Nat.zero_add, Nat.reduceAdd, k12_1, decide_true, Bool.not_true, Bool.not_false, decide_false, eq_self, hB24.cell, hP.cell, hcn.cell, hA9.cell, hQ9.cell]; rfl) ?_
              refine LD.on (by rw [gOk_s (gd_at (t := 87) rfl (by simp only [EN, Nat.reduceEqDiff, reduceIte, decide_true, Bool.not_true, Bool.not_false, decide_false, eq_self, hB24.cell, hP.cell, hcn.cell, hA9.cell, hQ9.cell] <;> rfl))]; rfl) ?_
              refine LD.qq rfl rfl (by simp only [EN, Nat.reduceEqDiff, reduceIte, qv_indexAddr, decide_true, Bool.not_true, Bool.not_false, decide_false, eq_self, hB24.cell, hP.cell, hcn.cell, hA9.cell, hQ9.cell, ha1]; (try simp (disch := omega) only [ix22, Int.toNat_natCast]); rfl) ?_
              refine LD.on (by rw [gOk_s (gd_at (t := 87) rfl (by simp only [EN, Nat.reduceEqDiff, reduceIte, decide_true, Bool.not_true, Bool.not_false, decide_false, eq_self, hB24.cell, hP.cell, hcn.cell, hA9.cell, hQ9.cell] <;> rfl))]; rfl) ?_
              refine LD.qq rfl rfl (by simp only [EN, Nat.reduceEqDiff, reduceIte, k6_1, k8_1, k10_1, k12_1, k15_1, decide_true, Bool.not_true, Bool.not_false, decide_false, eq_self, hB24.cell, hP.cell, hcn.cell, hA9.cell, hQ9.cell, qv_load, ld45, Int.toNat_natCast, hr2]; rfl) ?_
              refine LD.on (by rw [gOk_s (gd_at (t := 87) rfl (by simp only [EN, Nat.reduceEqDiff, reduceIte, decide_true, Bool.not_true, Bool.not_false, decide_false, eq_self, hB24.cell, hP.cell, hcn.cell, hA9.cell, hQ9.cell] <;> rfl))]; rfl) ?_
              refine LD.es rfl rfl (by intro hD hr hf; have hx : Ext _ _ := hr; have hC := hC.ext hx; have hcn := hcn.ext hx; have hP := hP.ext hx; have hyr := hyr.ext hx; have hS9 := hS9.ext hx; have hA9 := hA9.ext hx; have hQ9 := hQ9.ext hx; have hxi9 := hxi9.ext hx; have m3 := hf (6, u18_6) (by simp) (by show tb _ _ 6 = true; decide +kernel) _ rfl; exact EOp.mono (e_call Try.call25 (by simp only [EN, Nat.reduceEqDiff, reduceIte, k6_1, k8_1, k10_1, k12_1, k15_1, decide_true, Bool.not_true, Bool.not_false, decide_false, eq_self, hB24.cell, hP.cell, hcn.cell, hA9.cell, hQ9.cell, List.map_toArray, List.map_cons, List.map_nil]; exact c_sameB hfy m3 x hxi9 (r := true) (by simp [hyx]))) (fun _ _ hh => grow_is hh)) ?_
              intro u18_11 w18_11
              have hu11 : u18_11 = _ := w18_11
              subst hu11
              refine LD.on (by rw [gOk_s (gd_at (t := 87) rfl (by simp only [EN, Nat.reduceEqDiff, reduceIte, decide_true, Bool.not_true, Bool.not_false, decide_false, eq_self, hB24.cell, hP.cell, hcn.cell, hA9.cell, hQ9.cell] <;> rfl))]; rfl) ?_
              refine LD.qq rfl rfl (by simp only [EN, Nat.reduceEqDiff, reduceIte, qv_unOp, unv_not, decide_true, Bool.not_true, Bool.not_false, decide_false, eq_self, hB24.cell, hP.cell, hcn.cell, hA9.cell, hQ9.cell]; rfl) ?_
              refine LD.qq rfl rfl (by simp only [EN, Nat.reduceEqDiff, reduceIte, qv_pick, pk_and, pk_or, GR, decide_true, Bool.not_true, Bool.not_false, decide_false, eq_self, hB24.cell, hP.cell, hcn.cell, hA9.cell, hQ9.cell]; rfl) ?_
              refine LD.nil ?_
              rintro h26 hx26 hF18
              replace hx26 : Ext _ _ := hx26
              replace hC := hC.ext hx26
              replace hcn := hcn.ext hx26
              replace hP := hP.ext hx26
              replace hyr := hyr.ext hx26
              replace hS9 := hS9.ext hx26
              replace hA9 := hA9.ext hx26
              replace hQ9 := hQ9.ext hx26
              replace hxi9 := hxi9.ext hx26
              refine WL.nil ?_
              refine th_norm ?_
              refine hx_cond (by simp only [EN, Nat.reduceEqDiff, reduceIte, decide_true, Bool.not_true, Bool.not_false, decide_false, eq_self, hB24.cell, hP.cell, hcn.cell, hA9.cell, hQ9.cell]; rfl) (fun hct96 => ?_) (fun hct96 => ?_)
              ·
                simp at hct96
              ·
                try simp only [BD] at hct96
                refine hx_skip ?_
                refine th_norm ?_
                refine hx_region ?_
                refine WL.qq (by simp only [EN, Nat.reduceEqDiff, reduceIte, qv_load, ld3, readN, AR, Nat.zero_add, Nat.reduceAdd, k12_1, decide_true, Bool.not_true, Bool.not_false, decide_false, eq_self, hB24.cell, hP.cell, hcn.cell, hA9.cell, hQ9.cell]; rfl) ?_
                refine WL.qq (by simp only [EN, Nat.reduceEqDiff, reduceIte, qv_binOp, binv_add, decide_true, Bool.not_true, Bool.not_false, decide_false, eq_self, hB24.cell, hP.cell, hcn.cell, hA9.cell, hQ9.cell]; (try simp (disch := omega) only [w64, w8, wu64]); rfl) ?_
                refine WL.store (by simp only [EN, Nat.reduceEqDiff, reduceIte, k12_1, decide_true, Bool.not_true, Bool.not_false, decide_false, eq_self, hB24.cell, hP.cell, hcn.cell, hA9.cell, hQ9.cell] <;> rfl) sz3 (by simp only [EN, Nat.reduceEqDiff, reduceIte, Value.cells, k12_1, decide_true, Bool.not_true, Bool.not_false, decide_false, eq_self, hB24.cell, hP.cell, hcn.cell, hA9.cell, hQ9.cell] <;> rfl) rfl hcn (by first | (simp [true_and]; done) | (simp [true_and]; omega) | omega) (by simp [Value.oneCell']) ?_
                intro h27 hw27
                replace hC := hC.put hw27 (.inl (by simp))
                have hcn2 := hw27.at_
                simp only [splc, List.take_succ_cons, List.take_zero, List.take_nil, List.drop_succ_cons, List.drop_zero, List.drop_nil, List.cons_append, List.nil_append, List.length_cons, List.length_nil, Nat.zero_add, Nat.add_zero, Nat.reduceAdd, List.append_nil] at hcn2
                refine WL.nil ?_
                refine bl_norm ?_
                refine ⟨_, hC.rc, ?_⟩
                intro h30 hw30
                refine ⟨true, rfl, fun _ => ⟨hre ▸ hC.turn hw30, i + 1, Nat.le_refl _, fun j b h1 h2 => by omega, ?_⟩, fun hh => by cases hh⟩
                have h9 := hcn2.wr hw30 (by omega); rw [hni] at h9; exact h9
        ·
          rintro v9 hP9 ⟨hC, n2, hn2, hno2, hcn⟩
          refine after_any hC.rc (by subst hrec; rfl) (.inl ⟨by subst hrec; rfl, ?_⟩)
          intro h32 o31 hw31
          have hsz := hC.size
          have hg31 := (hC.end_ hw31 (by omega)).1; have hE32 := (hC.end_ hw31 (by omega)).2
          have hmk2 := hmk1.range (Ext.refl _) kzL hC (by intro r hr; simp at hr; subst hr; rw [hB11]; simp) hw31
          replace hS := hS.gs1 hg31 hB11 (by omega) (by decide) (by decide) (by decide) (by decide) (by decide)
          replace hB1 := hB1.gs1 hg31 hB11 (by decide)
          replace hB3 := hB3.gs1 hg31 hB11 (by decide)
          replace hB4 := hB4.gs1 hg31 hB11 (by decide)
          replace hB8 := hB8.gs1 hg31 hB11 (by decide)
          replace hB2 := hB2.gs hg31 (by simp; omega)
          replace hN0 := hN0.gs hg31 (by simp; omega)
          replace hB12 := hB12.gs hg31 (by simp; omega)
          have hN1 := hcn.wr hw31 (by omega)
          refine bl_norm ?_
          refine th_norm ?_
          refine hx_seq ?_
          refine hx_seq ?_
          refine hx_region ?_
          refine WL.qq (by simp only [EN, Nat.reduceEqDiff, reduceIte, qv_move, decide_true, Bool.not_true, Bool.not_false, decide_false, eq_self]; rfl) ?_
          refine WL.qq (by simp only [EN, Nat.reduceEqDiff, reduceIte, qv_load, ld9, readN, AR, Nat.zero_add, Nat.reduceAdd, decide_true, Bool.not_true, Bool.not_false, decide_false, eq_self, hB3.cell]; rfl) ?_
          refine WL.ce Try.call30 (by simp only [EN, Nat.reduceEqDiff, reduceIte, AR, decide_true, Bool.not_true, Bool.not_false, decide_false, eq_self]; exact c_byRef (some ⟨p, 0, none⟩) s _) ?_
          rintro _ h28 ⟨hx28, C2a, C2b, C2c, hC2n, rfl, hC2a, hC2b, hC2c⟩
          replace hS := hS.ext hx28
          replace hB1 := hB1.ext hx28
          replace hB2 := hB2.ext hx28
          replace hB3 := hB3.ext hx28
          replace hB4 := hB4.ext hx28
          replace hB8 := hB8.ext hx28
          replace hmk2 := hmk2.ext hx28
          replace hN0 := hN0.ext hx28
          replace hN1 := hN1.ext hx28
          replace hB12 := hB12.ext hx28
          simp only [put_some]
          refine WL.nil ?_
          refine th_norm ?_
          refine hx_block ?_
          refine hx_range (by simp only [EN, Nat.reduceEqDiff, reduceIte, e0, e1, e2, e3, decide_true, Bool.not_true, Bool.not_false, decide_false, eq_self]; rfl) Try.call69 ?_
          intro fnR2 hR2 hxR2 hsR2 hdR2 hrR2
          have hXL := ((hE32).trans (hx28))
          have kzL := hXL.size
          have wz4 := hS.I.E.size
          obtain ⟨av, cap, ys, hK, hyl⟩ := hS.I.hk
          have v2 : B2 < Array.size h28 := (Array.getElem?_eq_some_iff.1 hB2).1
          have v10 : B10 < Array.size h28 := (Array.getElem?_eq_some_iff.1 hN0).1
          have v11 : B11 < Array.size h28 := (Array.getElem?_eq_some_iff.1 hN1).1
          have v12 : B12 < Array.size h28 := (Array.getElem?_eq_some_iff.1 hB12).1
          have vc := (Array.getElem?_eq_some_iff.1 hC2c).1
          have hcne : C2c ≠ B12 := hC2c.ncell hB12 (by decide)
          generalize hrec : recOf _ _ _ _ _ _ _ = rec at hrR2
          refine (c_iter (h0 := h) (Bn := B12) (rec := rec) (refers s) hK hyl hS.g Try.call53 hC2a hC2b hC2c hcne hB12 ?_ ?_ (RX.start hxR2 hsR2 hdR2 hrR2 hXL (by simp; omega) (by simp; omega)) hxR2).mono ?_
          · intro x hD hm hf hbi hq; exact c_okRef s _ x hf.lens.1 hbi hq
          ·
            rintro i y hx hyi hky ⟨hC, n0, hn0, hno0, hcn⟩ hyr
            have hsz := hC.size; have hil := (List.getElem?_eq_some_iff.1 hyi).1; have hfy := hS.g.f _ (List.mem_of_getElem? hyi)
            have hre : ({ { rec with state := .busy } with state := .ready, pending := none } : Loop) = rec := (by subst hrec; rfl)
            have hRc := hC.rc; rw [← hrec] at hRc
            refine hy_body (vs := [.agg (bdL y).toArray]) (ps := [102]) hRc rfl rfl rfl (by decide) rfl rfl ?_
            simp only [pars, List.zip_cons_cons, List.zip_nil_left, List.foldl_cons, List.foldl_nil]
            refine hx_region ?_
            refine WL.allocSt zr55 sz55 (fun u => by simp only [EN, Nat.reduceEqDiff, reduceIte, Value.cells, decide_true, Bool.not_true, Bool.not_false, decide_false, eq_self]; rfl) ⟨rfl, rfl⟩ (by simp [Value.oneCell']) ?_
            intro h29 B29 hx29 hlt29 hB29
            replace hC := hC.ext hx29
            replace hcn := hcn.ext hx29
            replace hyr := hyr.ext hx29
            refine WL.nil ?_
            refine th_norm ?_
            refine ⟨_, hC.rc, by subst hrec; rfl, ?_⟩
            intro h90 hw90
            replace hC := hC.turn hw90
            replace hcn := hcn.wr hw90 (by omega)
            replace hyr := hyr.keep (fun c hc => hw90.same c (by omega))
            have hP := hB29.wr hw90 (by omega)
            have kP : B29 ≠ B12 := (by omega)
            refine hx_block ?_
            refine hx_seq ?_
            refine hx_block ?_
            refine hx_loopG [103, 104, 105, 106, 107, 108, 109, 110, 111, 112, 113, 114, 115, 116, 117] (fun k e hL2 => ∃ (n : Nat), i - n = k ∧ (n ≤ i) ∧ ((∀ j b, n ≤ j → j < i → l[j]? = some b → (refers s) b = false)) ∧ (RX h h28 [B12] { rec with state := .busy } hL2) ∧ (Has hL2 B12 (.cells #[iV n] tyInt)) ∧ (Has hL2 B29 (.cells (bdL y).toArray tyB)) ∧ (BXr (fun g => Array.size h28 + 2 ≤ g) hL2 y)) _ ⟨n0, rfl, ?_, ?_, ?_, ?_, ?_, ?_⟩ ?_
            · exact hn0
            · exact hno0
            · exact hC
            · exact hcn
            · exact hP
            · exact hyr
            ·
              rintro k e2L hL2 hfr2 ⟨n, rfl, hn, hno, hC, hcn, hP, hyr⟩
              have k7_2 := hfr2 7 rfl; try simp only [EN, Nat.reduceEqDiff, reduceIte, decide_true, Bool.not_true, Bool.not_false, decide_false, eq_self, hB29.cell] at k7_2
              have k8_2 := hfr2 8 rfl; try simp only [EN, Nat.reduceEqDiff, reduceIte, decide_true, Bool.not_true, Bool.not_false, decide_false, eq_self, hB29.cell] at k8_2
              have k10_2 := hfr2 10 rfl; try simp only [EN, Nat.reduceEqDiff, reduceIte, decide_true, Bool.not_true, Bool.not_false, decide_false, eq_self, hB29.cell] at k10_2
              have k13_2 := hfr2 13 rfl; try simp only [EN, Nat.reduceEqDiff, reduceIte, decide_true, Bool.not_true, Bool.not_false, decide_false, eq_self, hB29.cell] at k13_2
              have k16_2 := hfr2 16 rfl; try simp only [EN, Nat.reduceEqDiff, reduceIte, decide_true, Bool.not_true, Bool.not_false, decide_false, eq_self, hB29.cell] at k16_2
              have hS9 := hS.gs1 hC.gs hB12 (by omega) (by decide) (by decide) (by decide) (by decide) (by decide)
              have hA9 := hB8.gs1 hC.gs hB12 (by decide)
              have hQ9 := hB3.gs1 hC.gs hB12 (by decide)
              obtain ⟨x, hx⟩ := atG (l := xs) (i := n) (by have := hS9.n.1; omega)
              obtain ⟨b1, o1, ha1, hr1, _, hdx, _⟩ := bd_rd hS9.sl hx
              have hxb : l[n]? = some x.bd := (by rw [← hS9.m]; exact bd_at hx)
              have hfx := hS9.fb x (List.mem_of_getElem? hx); have hxi9 := hS9.bx x (List.mem_of_getElem? hx)
              have hd9 : decide ((n : Int) < (xs.length : Int)) = true := decide_eq_true (by have := (List.getElem?_eq_some_iff.1 hx).1; omega)
              have hd11 : decide ((xs.length : Int) ≤ (n : Int)) = false := decide_eq_false (by have := (List.getElem?_eq_some_iff.1 hx).1; omega)
              refine hx_seq ?_
              refine hx_seq ?_
              apply hx_draw2 Rel.grows [] [10] [(10, Spec.is _)] rfl (by decide +kernel) rfl
              refine LD.qq rfl rfl (by simp only [EN, Nat.reduceEqDiff, reduceIte, qv_load, ld3, readN, AR, Nat.zero_add, Nat.reduceAdd, k13_2, decide_true, Bool.not_true, Bool.not_false, decide_false, eq_self, hB29.cell, hP.cell, hcn.cell, hA9.cell, hQ9.cell]; rfl) ?_
              refine LD.qq rfl rfl (by simp only [EN, Nat.reduceEqDiff, reduceIte, qv_load, ld22, readN, AR, Nat.zero_add, Nat.reduceAdd, k10_2, decide_true, Bool.not_true, Bool.not_false, decide_false, eq_self, hB29.cell, hP.cell, hcn.cell, hA9.cell, hQ9.cell]; rfl) ?_
              refine LD.qq rfl rfl (by simp only [EN, Nat.reduceEqDiff, reduceIte, qv_len, ln22, AR, decide_true, Bool.not_true, Bool.not_false, decide_false, eq_self, hB29.cell, hP.cell, hcn.cell, hA9.cell, hQ9.cell]; rfl) ?_
              refine LD.qq rfl rfl (by simp only [EN, Nat.reduceEqDiff, reduceIte, qv_binOp, binv_lss, decide_true, Bool.not_true, Bool.not_false, decide_false, eq_self, hB29.cell, hP.cell, hcn.cell, hA9.cell, hQ9.cell, hd9]; rfl) ?_
              refine LD.qq rfl rfl (by simp only [EN, Nat.reduceEqDiff, reduceIte, qv_move, decide_true, Bool.not_true, Bool.not_false, decide_false, eq_self, hB29.cell, hP.cell, hcn.cell, hA9.cell, hQ9.cell]; rfl) ?_
              refine LD.on (by rw [gOk_s (gd_at (t := 107) rfl (by simp only [EN, Nat.reduceEqDiff, reduceIte, k10_2, decide_true, Bool.not_true, Bool.not_false, decide_false, eq_self, hB29.cell, hP.cell, hcn.cell, hA9.cell, hQ9.cell] <;> rfl))]; rfl) ?_
              refine LD.qq rfl rfl (by simp only [EN, Nat.reduceEqDiff, reduceIte, qv_load, ld22, readN, AR, Nat.zero_add, Nat.reduceAdd, k10_2, decide_true, Bool.not_true, Bool.not_false, decide_false, eq_self, hB29.cell, hP.cell, hcn.cell, hA9.cell, hQ9.cell]; rfl) ?_
              refine LD.on (by rw [gOk_s (gd_at (t := 107) rfl (by simp only [EN, Nat.reduceEqDiff, reduceIte, k13_2, decide_true, Bool.not_true, Bool.not_false, decide_false, eq_self, hB29.cell, hP.cell, hcn.cell, hA9.cell, hQ9.cell] <;> rfl))]; rfl) ?_
              refine LD.qq rfl rfl (by simp only [EN, Nat.reduceEqDiff, reduceIte, qv_load, ld3, readN, AR, Nat.zero_add, Nat.reduceAdd, k13_2, decide_true, Bool.not_true, Bool.not_false, decide_false, eq_self, hB29.cell, hP.cell, hcn.cell, hA9.cell, hQ9.cell]; rfl) ?_
              refine LD.on (by rw [gOk_s (gd_at (t := 107) rfl (by simp only [EN, Nat.reduceEqDiff, reduceIte, decide_true, Bool.not_true, Bool.not_false, decide_false, eq_self, hB29.cell, hP.cell, hcn.cell, hA9.cell, hQ9.cell] <;> rfl))]; rfl) ?_
              refine LD.qq rfl rfl (by simp only [EN, Nat.reduceEqDiff, reduceIte, qv_indexAddr, decide_true, Bool.not_true, Bool.not_false, decide_false, eq_self, hB29.cell, hP.cell, hcn.cell, hA9.cell, hQ9.cell, ha1]; (try simp (disch := omega) only [ix22, Int.toNat_natCast]); rfl) ?_
              refine LD.on (by rw [gOk_s (gd_at (t := 107) rfl (by simp only [EN, Nat.reduceEqDiff, reduceIte, decide_true, Bool.not_true, Bool.not_false, decide_false, eq_self, hB29.cell, hP.cell, hcn.cell, hA9.cell, hQ9.cell] <;> rfl))]; rfl) ?_
              refine LD.qq rfl rfl (by simp only [EN, Nat.reduceEqDiff, reduceIte, k7_2, k8_2, k10_2, k13_2, k16_2, decide_true, Bool.not_true, Bool.not_false, decide_false, eq_self, hB29.cell, hP.cell, hcn.cell, hA9.cell, hQ9.cell, qv_load, ld45, Int.toNat_natCast, hr1]; rfl) ?_
              refine LD.on (by rw [gOk_s (gd_at (t := 107) rfl (by simp only [EN, Nat.reduceEqDiff, reduceIte, k7_2, decide_true, Bool.not_true, Bool.not_false, decide_false, eq_self, hB29.cell, hP.cell, hcn.cell, hA9.cell, hQ9.cell] <;> rfl))]; rfl) ?_
              refine LD.qq rfl rfl (by simp only [EN, Nat.reduceEqDiff, reduceIte, qv_load, ld9, readN, AR, Nat.zero_add, Nat.reduceAdd, k7_2, decide_true, Bool.not_true, Bool.not_false, decide_false, eq_self, hB29.cell, hP.cell, hcn.cell, hA9.cell, hQ9.cell]; rfl) ?_
              refine LD.on (by rw [gOk_s (gd_at (t := 107) rfl (by simp only [EN, Nat.reduceEqDiff, reduceIte, decide_true, Bool.not_true, Bool.not_false, decide_false, eq_self, hB29.cell, hP.cell, hcn.cell, hA9.cell, hQ9.cell] <;> rfl))]; rfl) ?_
              refine LD.ck rfl rfl Try.call31 (by intro hD hr; have hx : Ext _ _ := hr; have hC := hC.ext hx; have hcn := hcn.ext hx; have hP := hP.ext hx; have hyr := hyr.ext hx; have hS9 := hS9.ext hx; have hA9 := hA9.ext hx; have hQ9 := hQ9.ext hx; have hxi9 := hxi9.ext hx; simp only [EN, Nat.reduceEqDiff, reduceIte, AR, decide_true, Bool.not_true, Bool.not_false, decide_false, eq_self, hB29.cell, hP.cell, hcn.cell, hA9.cell, hQ9.cell]; exact c_rRefers x s hfx.lens.1 hxi9) ?_
              refine LD.on (by rw [gOk_s (gd_at (t := 107) rfl (by simp only [EN, Nat.reduceEqDiff, reduceIte, decide_true, Bool.not_true, Bool.not_false, decide_false, eq_self, hB29.cell, hP.cell, hcn.cell, hA9.cell, hQ9.cell] <;> rfl))]; rfl) ?_
              refine LD.qq rfl rfl (by simp only [EN, Nat.reduceEqDiff, reduceIte, qv_unOp, unv_not, decide_true, Bool.not_true, Bool.not_false, decide_false, eq_self, hB29.cell, hP.cell, hcn.cell, hA9.cell, hQ9.cell]; rfl) ?_
              refine LD.qq rfl rfl (by simp only [EN, Nat.reduceEqDiff, reduceIte, qv_pick, pk_and, pk_or, GR, decide_true, Bool.not_true, Bool.not_false, decide_false, eq_self, hB29.cell, hP.cell, hcn.cell, hA9.cell, hQ9.cell]; rfl) ?_
              refine LD.nil ?_
              rintro h30 hx30 hF23
              replace hx30 : Ext _ _ := hx30
              replace hC := hC.ext hx30
              replace hcn := hcn.ext hx30
              replace hP := hP.ext hx30
              replace hyr := hyr.ext hx30
              replace hS9 := hS9.ext hx30
              replace hA9 := hA9.ext hx30
              replace hQ9 := hQ9.ext hx30
              replace hxi9 := hxi9.ext hx30
              refine WL.nil ?_
              refine th_norm ?_
              refine hx_cond (by simp only [EN, Nat.reduceEqDiff, reduceIte, decide_true, Bool.not_true, Bool.not_false, decide_false, eq_self, hB29.cell, hP.cell, hcn.cell, hA9.cell, hQ9.cell]; rfl) (fun hct115 => ?_) (fun hct115 => ?_)
              ·
                try simp only [BD] at hct115
                have hp0 : refers s x.bd = false := (by simpa using hct115)
                have hni : n ≠ i := (fun hh => by rw [hh, hyi] at hxb; have e9 := Option.some.inj hxb; rw [← e9] at hp0; have hky2 := hky; (try simp only at hky2); rw [hp0] at hky2; cases hky2)
                refine hx_skip ?_
                refine th_norm ?_
                refine hx_block ?_
                refine hx_region ?_
                refine WL.qq (by simp only [EN, Nat.reduceEqDiff, reduceIte, qv_load, ld3, readN, AR, Nat.zero_add, Nat.reduceAdd, k13_2, decide_true, Bool.not_true, Bool.not_false, decide_false, eq_self, hB29.cell, hP.cell, hcn.cell, hA9.cell, hQ9.cell]; rfl) ?_
                refine WL.qq (by simp only [EN, Nat.reduceEqDiff, reduceIte, qv_binOp, binv_add, decide_true, Bool.not_true, Bool.not_false, decide_false, eq_self, hB29.cell, hP.cell, hcn.cell, hA9.cell, hQ9.cell]; (try simp (disch := omega) only [w64, w8, wu64]); rfl) ?_
                refine WL.store (by simp only [EN, Nat.reduceEqDiff, reduceIte, k13_2, decide_true, Bool.not_true, Bool.not_false, decide_false, eq_self, hB29.cell, hP.cell, hcn.cell, hA9.cell, hQ9.cell] <;> rfl) sz3 (by simp only [EN, Nat.reduceEqDiff, reduceIte, Value.cells, k13_2, decide_true, Bool.not_true, Bool.not_false, decide_false, eq_self, hB29.cell, hP.cell, hcn.cell, hA9.cell, hQ9.cell] <;> rfl) rfl hcn (by first | (simp [true_and]; done) | (simp [true_and]; omega) | omega) (by simp [Value.oneCell']) ?_
                intro h31 hw31
                replace hC := hC.put hw31 (.inl (by simp))
                have hcn2 := hw31.at_
                simp only [splc, List.take_succ_cons, List.take_zero, List.take_nil, List.drop_succ_cons, List.drop_zero, List.drop_nil, List.cons_append, List.nil_append, List.length_cons, List.length_nil, Nat.zero_add, Nat.add_zero, Nat.reduceAdd, List.append_nil] at hcn2
                have hP2 := hP.wr hw31 kP
                have hyr2 := hyr.keep (fun c hc => hw31.same c (by omega))
                refine WL.nil ?_
                refine bl_norm ?_
                refine th_norm ?_
                refine ⟨rfl, ?_, _, ?_, n + 1, rfl, ?_, ?_, ?_, ?_, ?_, ?_⟩  -- again 0 of loop 2
                · (repeat (first | exact Fr.refl _ _ | refine Fr.set rfl ?_ | refine Fr.put rfl ?_ | with_reducible refine Fr.put0 ?_))
                · omega
                · omega
                · intro j b h1 h2 h3; exact hno j b (by omega) h2 h3
                · exact hC
                · exact (show Has _ B12 (.cells #[iV ((n : Int) + 1)] tyInt) from hcn2)
                · exact hP2
                · exact hyr2
              ·
                try simp only [BD] at hct115
                have hp0 : refers s x.bd = true := (by simpa using hct115)
                have hni : n = i := (by rcases Nat.lt_or_ge n i with h9 | h9; (have h8 := hno n x.bd (Nat.le_refl _) h9 hxb; (try simp only at h8); rw [hp0] at h8; cases h8); omega)
                have hyx : y.bd = x.bd := (by rw [hni] at hxb; exact Option.some.inj (hyi.symm.trans hxb))
                refine hx_exit ?_
                refine th_exit ?_
                refine th_exit ?_
                refine bl_hit ?_
                refine th_norm ?_
                refine hx_seq ?_
                refine hx_seq ?_
                apply hx_draw2 Rel.grows [] [6, 11] [(6, (Spec.bk y.bd)), (11, (Spec.is (.bool true)))] rfl (by decide +kernel) rfl
                obtain ⟨_, _, ha2, hr2, _⟩ := bd_rd hS9.sl hx; rw [ha1] at ha2; cases ha2
                refine LD.qq rfl rfl (by simp only [EN, Nat.reduceEqDiff, reduceIte, qv_load, ld3, readN, AR, Nat.zero_add, Nat.reduceAdd, k13_2, decide_true, Bool.not_true, Bool.not_false, decide_false, eq_self, hB29.cell, hP.cell, hcn.cell, hA9.cell, hQ9.cell]; rfl) ?_
                refine LD.qq rfl rfl (by simp only [EN, Nat.reduceEqDiff, reduceIte, qv_load, ld22, readN, AR, Nat.zero_add, Nat.reduceAdd, k10_2, decide_true, Bool.not_true, Bool.not_false, decide_false, eq_self, hB29.cell, hP.cell, hcn.cell, hA9.cell, hQ9.cell]; rfl) ?_
                refine LD.qq rfl rfl (by simp only [EN, Nat.reduceEqDiff, reduceIte, qv_len, ln22, AR, decide_true, Bool.not_true, Bool.not_false, decide_false, eq_self, hB29.cell, hP.cell, hcn.cell, hA9.cell, hQ9.cell]; rfl) ?_
                refine LD.qq rfl rfl (by simp only [EN, Nat.reduceEqDiff, reduceIte, qv_binOp, binv_geq, decide_true, Bool.not_true, Bool.not_false, decide_false, eq_self, hB29.cell, hP.cell, hcn.cell, hA9.cell, hQ9.cell, hd11]; rfl) ?_
                refine LD.qq rfl rfl (by simp only [EN, Nat.reduceEqDiff, reduceIte, qv_move, decide_true, Bool.not_true, Bool.not_false, decide_false, eq_self, hB29.cell, hP.cell, hcn.cell, hA9.cell, hQ9.cell]; rfl) ?_
                refine LD.on (by rw [gOk_s (gd_at (t := 122) rfl (by simp only [EN, Nat.reduceEqDiff, reduceIte, k16_2, decide_true, Bool.not_true, Bool.not_false, decide_false, eq_self, hB29.cell, hP.cell, hcn.cell, hA9.cell, hQ9.cell] <;> rfl))]; rfl) ?_
                refine LD.qq rfl rfl (by simp only [EN, Nat.reduceEqDiff, reduceIte, qv_load, ld55, readN, AR, Nat.zero_add, Nat.reduceAdd, k16_2, decide_true, Bool.not_true, Bool.not_false, decide_false, eq_self, hB29.cell, hP.cell, hcn.cell, hA9.cell, hQ9.cell]; rfl) ?_
                refine LD.on (by rw [gOk_s (gd_at (t := 122) rfl (by simp only [EN, Nat.reduceEqDiff, reduceIte, decide_true, Bool.not_true, Bool.not_false, decide_false, eq_self, hB29.cell, hP.cell, hcn.cell, hA9.cell, hQ9.cell] <;> rfl))]; rfl) ?_
                refine LD.es rfl rfl (by intro hD hr hf; have hx : Ext _ _ := hr; have hC := hC.ext hx; have hcn := hcn.ext hx; have hP := hP.ext hx; have hyr := hyr.ext hx; have hS9 := hS9.ext hx; have hA9 := hA9.ext hx; have hQ9 := hQ9.ext hx; have hxi9 := hxi9.ext hx; exact EOp.mono (e_call Try.call26 (by simp only [EN, Nat.reduceEqDiff, reduceIte, k7_2, k8_2, k10_2, k13_2, k16_2, decide_true, Bool.not_true, Bool.not_false, decide_false, eq_self, hB29.cell, hP.cell, hcn.cell, hA9.cell, hQ9.cell, List.map_toArray, List.map_cons, List.map_nil]; exact c_back y hfy.lens hyr.in_)) (fun _ _ hh => bk_of hh)) ?_
                intro u25_6 w25_6
                refine LD.on (by rw [gOk_s (gd_at (t := 122) rfl (by simp only [EN, Nat.reduceEqDiff, reduceIte, k10_2, decide_true, Bool.not_true, Bool.not_false, decide_false, eq_self, hB29.cell, hP.cell, hcn.cell, hA9.cell, hQ9.cell] <;> rfl))]; rfl) ?_
                refine LD.qq rfl rfl (by simp only [EN, Nat.reduceEqDiff, reduceIte, qv_load, ld22, readN, AR, Nat.zero_add, Nat.reduceAdd, k10_2, decide_true, Bool.not_true, Bool.not_false, decide_false, eq_self, hB29.cell, hP.cell, hcn.cell, hA9.cell, hQ9.cell]; rfl) ?_
                refine LD.on (by rw [gOk_s (gd_at (t := 122) rfl (by simp only [EN, Nat.reduceEqDiff, reduceIte, k13_2, decide_true, Bool.not_true, Bool.not_false, decide_false, eq_self, hB29.cell, hP.cell, hcn.cell, hA9.cell, hQ9.cell] <;> rfl))]; rfl) ?_
                refine LD.qq rfl rfl (by simp only [EN, Nat.reduceEqDiff, reduceIte, qv_load, ld3, readN, AR, Nat.zero_add, Nat.reduceAdd, k13_2, decide_true, Bool.not_true, Bool.not_false, decide_false, eq_self, hB29.cell, hP.cell, hcn.cell, hA9.cell, hQ9.cell]; rfl) ?_
                refine LD.on (by rw [gOk_s (gd_at (t := 122) rfl (by simp only [EN, Nat.reduceEqDiff, reduceIte, decide_true, Bool.not_true, Bool.not_false, decide_false, eq_self, hB29.cell, hP.cell, hcn.cell, hA9.cell, hQ9.cell] <;> rfl))]; rfl) ?_
                refine LD.qq rfl rfl (by simp only [EN, Nat.reduceEqDiff, reduceIte, qv_indexAddr, decide_true, Bool.not_true, Bool.not_false, decide_false, eq_self, hB29.cell, hP.cell, hcn.cell, hA9.cell, hQ9.cell, ha1]; (try simp (disch := omega) only [ix22, Int.toNat_natCast]); rfl) ?_
                refine LD.on (by rw [gOk_s (gd_at (t := 122) rfl (by simp only [EN, Nat.reduceEqDiff, reduceIte, decide_true, Bool.not_true, Bool.not_false, decide_false, eq_self, hB29.cell, hP.cell, hcn.cell, hA9.cell, hQ9.cell] <;> rfl))]; rfl) ?_
                refine LD.qq rfl rfl (by simp only [EN, Nat.reduceEqDiff, reduceIte, k7_2, k8_2, k10_2, k13_2, k16_2, decide_true, Bool.not_true, Bool.not_false, decide_false, eq_self, hB29.cell, hP.cell, hcn.cell, hA9.cell, hQ9.cell, qv_load, ld45, Int.toNat_natCast, hr2]; rfl) ?_
                refine LD.on (by rw [gOk_s (gd_at (t := 122) rfl (by simp only [EN, Nat.reduceEqDiff, reduceIte, decide_true, Bool.not_true, Bool.not_false, decide_false, eq_self, hB29.cell, hP.cell, hcn.cell, hA9.cell, hQ9.cell] <;> rfl))]; rfl) ?_
                refine LD.es rfl rfl (by intro hD hr hf; have hx : Ext _ _ := hr; have hC := hC.ext hx; have hcn := hcn.ext hx; have hP := hP.ext hx; have hyr := hyr.ext hx; have hS9 := hS9.ext hx; have hA9 := hA9.ext hx; have hQ9 := hQ9.ext hx; have hxi9 := hxi9.ext hx; have m3 := hf (6, u25_6) (by simp) (by show tb _ _ 6 = true; decide +kernel) _ rfl; exact EOp.mono (e_call Try.call25 (by simp only [EN, Nat.reduceEqDiff, reduceIte, k7_2, k8_2, k10_2, k13_2, k16_2, decide_true, Bool.not_true, Bool.not_false, decide_false, eq_self, hB29.cell, hP.cell, hcn.cell, hA9.cell, hQ9.cell, List.map_toArray, List.map_cons, List.map_nil]; exact c_sameB hfy m3 x hxi9 (r := true) (by simp [hyx]))) (fun _ _ hh => grow_is hh)) ?_
                intro u25_11 w25_11
                have hu11 : u25_11 = _ := w25_11
                subst hu11
                refine LD.on (by rw [gOk_s (gd_at (t := 122) rfl (by simp only [EN, Nat.reduceEqDiff, reduceIte, decide_true, Bool.not_true, Bool.not_false, decide_false, eq_self, hB29.cell, hP.cell, hcn.cell, hA9.cell, hQ9.cell] <;> rfl))]; rfl) ?_
                refine LD.qq rfl rfl (by simp only [EN, Nat.reduceEqDiff, reduceIte, qv_unOp, unv_not, decide_true, Bool.not_true, Bool.not_false, decide_false, eq_self, hB29.cell, hP.cell, hcn.cell, hA9.cell, hQ9.cell]; rfl) ?_
                refine LD.qq rfl rfl (by simp only [EN, Nat.reduceEqDiff, reduceIte, qv_pick, pk_and, pk_or, GR, decide_true, Bool.not_true, Bool.not_false, decide_false, eq_self, hB29.cell, hP.cell, hcn.cell, hA9.cell, hQ9.cell]; rfl) ?_
                refine LD.nil ?_
                rintro h32 hx32 hF25
                replace hx32 : Ext _ _ := hx32
                replace hC := hC.ext hx32
                replace hcn := hcn.ext hx32
                replace hP := hP.ext hx32
                replace hyr := hyr.ext hx32
                replace hS9 := hS9.ext hx32
                replace hA9 := hA9.ext hx32
                replace hQ9 := hQ9.ext hx32
                replace hxi9 := hxi9.ext hx32
                refine WL.nil ?_
                refine th_norm ?_
                refine hx_cond (by simp only [EN, Nat.reduceEqDiff, reduceIte, decide_true, Bool.not_true, Bool.not_false, decide_false, eq_self, hB29.cell, hP.cell, hcn.cell, hA9.cell, hQ9.cell]; rfl) (fun hct131 => ?_) (fun hct131 => ?_)
                ·
                  simp at hct131
                ·
                  try simp only [BD] at hct131
                  refine hx_skip ?_
                  refine th_norm ?_
                  refine hx_region ?_
                  refine WL.qq (by simp only [EN, Nat.reduceEqDiff, reduceIte, qv_load, ld3, readN, AR, Nat.zero_add, Nat.reduceAdd, k13_2, decide_true, Bool.not_true, Bool.not_false, decide_false, eq_self, hB29.cell, hP.cell, hcn.cell, hA9.cell, hQ9.cell]; rfl) ?_
                  refine WL.qq (by simp only [EN, Nat.reduceEqDiff, reduceIte, qv_binOp, binv_add, decide_true, Bool.not_true, Bool.not_false, decide_false, eq_self, hB29.cell, hP.cell, hcn.cell, hA9.cell, hQ9.cell]; (try simp (disch := omega) only [w64, w8, wu64]); rfl) ?_
                  refine WL.store (by simp only [EN, Nat.reduceEqDiff, reduceIte, k13_2, decide_true, Bool.not_true, Bool.not_false, decide_false, eq_self, hB29.cell, hP.cell, hcn.cell, hA9.cell, hQ9.cell] <;> rfl) sz3 (by simp only [EN, Nat.reduceEqDiff, reduceIte, Value.cells, k13_2, decide_true, Bool.not_true, Bool.not_false, decide_false, eq_self, hB29.cell, hP.cell, hcn.cell, hA9.cell, hQ9.cell] <;> rfl) rfl hcn (by first | (simp [true_and]; done) | (simp [true_and]; omega) | omega) (by simp [Value.oneCell']) ?_
                  intro h33 hw33
                  replace hC := hC.put hw33 (.inl (by simp))
                  have hcn2 := hw33.at_
                  simp only [splc, List.take_succ_cons, List.take_zero, List.take_nil, List.drop_succ_cons, List.drop_zero, List.drop_nil, List.cons_append, List.nil_append, List.length_cons, List.length_nil, Nat.zero_add, Nat.add_zero, Nat.reduceAdd, List.append_nil] at hcn2
                  refine WL.nil ?_
                  refine bl_norm ?_
                  refine ⟨_, hC.rc, ?_⟩
                  intro h30 hw30
                  refine ⟨true, rfl, fun _ => ⟨hre ▸ hC.turn hw30, i + 1, Nat.le_refl _, fun j b h1 h2 => by omega, ?_⟩, fun hh => by cases hh⟩
                  have h9 := hcn2.wr hw30 (by omega); rw [hni] at h9; exact h9
          ·
            rintro v9 hP9 ⟨hC, n3, hn3, hno3, hcn⟩
            refine after_any hC.rc (by subst hrec; rfl) (.inl ⟨by subst hrec; rfl, ?_⟩)
            intro h33 o31 hw31
            have hsz := hC.size
            have hg31 := (hC.end_ hw31 (by omega)).1; have hE33 := (hC.end_ hw31 (by omega)).2
            have hmk3 := hmk2.range (Ext.refl _) kzL hC (by intro r hr; simp at hr; subst hr; rw [hB12]; simp) hw31
            replace hS := hS.gs1 hg31 hB12 (by omega) (by decide) (by decide) (by decide) (by decide) (by decide)
            replace hB1 := hB1.gs1 hg31 hB12 (by decide)
            replace hB3 := hB3.gs1 hg31 hB12 (by decide)
            replace hB4 := hB4.gs1 hg31 hB12 (by decide)
            replace hB8 := hB8.gs1 hg31 hB12 (by decide)
            replace hB2 := hB2.gs hg31 (by simp; omega)
            replace hN0 := hN0.gs hg31 (by simp; omega)
            replace hN1 := hN1.gs hg31 (by simp; omega)
            have hN2 := hcn.wr hw31 (by omega)
            refine bl_norm ?_
            refine th_norm ?_
            refine hx_seq ?_
            refine hx_block ?_
            refine hx_loopG [134, 135, 136, 137, 138, 139, 140, 141, 142, 143, 144, 145, 146, 147, 148, 149, 150, 151, 152, 153, 154, 155, 156, 157, 158, 159, 160, 161, 162, 163, 164, 165, 166, 167, 168, 169, 170, 171, 172, 173, 174, 175, 176, 177, 178, 179, 180, 181, 182, 183, 184, 185, 186, 187, 188, 189, 190, 191, 192, 193, 194, 195, 196] (fun k e hL3 => ∃ (t : Nat), 13 - t = k ∧ (t ≤ 12) ∧ (Ext h hL3) ∧ (HS h4 hL3 p a c xs l) ∧ (Has hL3 B8 (.cells #[.slice a xs.length c] 22)) ∧ (Has hL3 B1 (.cells (acL q).toArray 24)) ∧ (Has hL3 B2 (.cells #[iV day] tyInt)) ∧ (Has hL3 B3 (.cells #[.string s] 9)) ∧ (Has hL3 B4 (.cells #[.bool false] tyBo)) ∧ (Has hL3 B10 (.cells #[iV ((n1 + t : Nat) : Int)] tyInt)) ∧ (Has hL3 B11 (.cells #[iV ((n2 + t : Nat) : Int)] tyInt)) ∧ (Has hL3 B12 (.cells #[iV ((n3 + t : Nat) : Int)] tyInt)) ∧ (MK h.size hL3 [Array.size h28, Array.size h23, Array.size h17])) _ ⟨0, rfl, ?_, ?_, ?_, ?_, ?_, ?_, ?_, ?_, ?_, ?_, ?_, ?_⟩ ?_
            · omega
            · exact (hE33)
            · exact hS
            · exact hB8
            · exact hB1
            · exact hB2
            · exact hB3
            · exact hB4
            · exact hN0
            · exact hN1
            · exact hN2
            · exact hmk3
            ·
              rintro k e3L hL3 hfr3 ⟨t, rfl, ht, hE, hS, hA, hQ1, hQ2, hQ3, hR, c1, c2, c3, hmk⟩
              have k5_3 := hfr3 5 rfl; try simp only [EN, Nat.reduceEqDiff, reduceIte, decide_true, Bool.not_true, Bool.not_false, decide_false, eq_self] at k5_3
              have k6_3 := hfr3 6 rfl; try simp only [EN, Nat.reduceEqDiff, reduceIte, decide_true, Bool.not_true, Bool.not_false, decide_false, eq_self] at k6_3
              have k7_3 := hfr3 7 rfl; try simp only [EN, Nat.reduceEqDiff, reduceIte, decide_true, Bool.not_true, Bool.not_false, decide_false, eq_self] at k7_3
              have k8_3 := hfr3 8 rfl; try simp only [EN, Nat.reduceEqDiff, reduceIte, decide_true, Bool.not_true, Bool.not_false, decide_false, eq_self] at k8_3
              have k9_3 := hfr3 9 rfl; try simp only [EN, Nat.reduceEqDiff, reduceIte, decide_true, Bool.not_true, Bool.not_false, decide_false, eq_self] at k9_3
              have k10_3 := hfr3 10 rfl; try simp only [EN, Nat.reduceEqDiff, reduceIte, decide_true, Bool.not_true, Bool.not_false, decide_false, eq_self] at k10_3
              have k11_3 := hfr3 11 rfl; try simp only [EN, Nat.reduceEqDiff, reduceIte, decide_true, Bool.not_true, Bool.not_false, decide_false, eq_self] at k11_3
              have k12_3 := hfr3 12 rfl; try simp only [EN, Nat.reduceEqDiff, reduceIte, decide_true, Bool.not_true, Bool.not_false, decide_false, eq_self] at k12_3
              have k13_3 := hfr3 13 rfl; try simp only [EN, Nat.reduceEqDiff, reduceIte, decide_true, Bool.not_true, Bool.not_false, decide_false, eq_self] at k13_3
              have hbx := hS.bx; have hxl := hS.n.1
              obtain ⟨b1, o1, x1, hx1q⟩ := at_ex a xs (n1 + t) hS.sl
              obtain ⟨b2, o2, x2, hx2q⟩ := at_ex a xs (n2 + t) hS.sl
              obtain ⟨b3, o3, x3, hx3q⟩ := at_ex a xs (n3 + t) hS.sl
              have hxm : ∀ (m : Nat) (x : BX), xs[m]? = some x → l[m]? = some x.bd := fun m x hx => (by rw [← hS.m]; exact bd_at hx)
              have hfb := hS.fb
              have hp1 : ∀ {hD : Heap}, BXs hD xs → n1 + t < xs.length → HCalls Try.prog 28 #[.agg (bdL x1).toArray, acV q] hD (Grow (.bool false) hD) := fun hbD hlt => (by have h9 := hx1q hlt; have h8 := c_rPosts x1 q (hfb x1 (List.mem_of_getElem? h9.1)).lens (hbD x1 (List.mem_of_getElem? h9.1)); rwa [it_false hno1 (by omega) (hxm _ _ h9.1)] at h8)
              have hp2 : n2 + t < xs.length → decide (x2.day = day) = false := fun hlt => (by have h9 := hx2q hlt; exact it_false hno2 (by omega) (hxm _ _ h9.1))
              have hp3 : ∀ {hD : Heap}, BXs hD xs → n3 + t < xs.length → HCalls Try.prog 31 #[.agg (bdL x3).toArray, .string s] hD (Grow (.bool false) hD) := fun hbD hlt => (by have h9 := hx3q hlt; have h8 := c_rRefers x3 s (hfb x3 (List.mem_of_getElem? h9.1)).lens.1 (hbD x3 (List.mem_of_getElem? h9.1)); rwa [it_false hno3 (by omega) (hxm _ _ h9.1)] at h8)
              refine hx_seq ?_
              refine hx_seq ?_
              refine hx_region ?_
              refine WL.qq (by simp only [EN, Nat.reduceEqDiff, reduceIte, qv_load, ld3, readN, AR, Nat.zero_add, Nat.reduceAdd, k11_3, decide_true, Bool.not_true, Bool.not_false, decide_false, eq_self, hA.cell, hQ1.cell, hQ2.cell, hQ3.cell, c1.cell, c2.cell, c3.cell]; rfl) ?_
              refine WL.qq (by simp only [EN, Nat.reduceEqDiff, reduceIte, qv_load, ld22, readN, AR, Nat.zero_add, Nat.reduceAdd, k10_3, decide_true, Bool.not_true, Bool.not_false, decide_false, eq_self, hA.cell, hQ1.cell, hQ2.cell, hQ3.cell, c1.cell, c2.cell, c3.cell]; rfl) ?_
              refine WL.qq (by simp only [EN, Nat.reduceEqDiff, reduceIte, qv_len, ln22, AR, decide_true, Bool.not_true, Bool.not_false, decide_false, eq_self, hA.cell, hQ1.cell, hQ2.cell, hQ3.cell, c1.cell, c2.cell, c3.cell]; rfl) ?_
              refine WL.qq (by simp only [EN, Nat.reduceEqDiff, reduceIte, qv_binOp, binv_lss, decide_true, Bool.not_true, Bool.not_false, decide_false, eq_self, hA.cell, hQ1.cell, hQ2.cell, hQ3.cell, c1.cell, c2.cell, c3.cell]; rfl) ?_
              refine WL.qq (by simp only [EN, Nat.reduceEqDiff, reduceIte, qv_move, decide_true, Bool.not_true, Bool.not_false, decide_false, eq_self, hA.cell, hQ1.cell, hQ2.cell, hQ3.cell, c1.cell, c2.cell, c3.cell]; rfl) ?_
              refine WL.cq (gd_at (t := 138) rfl (by simp only [EN, Nat.reduceEqDiff, reduceIte, k12_3, decide_true, Bool.not_true, Bool.not_false, decide_false, eq_self, hA.cell, hQ1.cell, hQ2.cell, hQ3.cell, c1.cell, c2.cell, c3.cell] <;> rfl)) (fun hg28_5 => by simp only [EN, Nat.reduceEqDiff, reduceIte, qv_load, ld3, readN, AR, Nat.zero_add, Nat.reduceAdd, k12_3, decide_true, Bool.not_true, Bool.not_false, decide_false, eq_self, hA.cell, hQ1.cell, hQ2.cell, hQ3.cell, c1.cell, c2.cell, c3.cell, hg28_5, GR]; rfl) ?_
              refine WL.cq (gd_at (t := 138) rfl (by simp only [EN, Nat.reduceEqDiff, reduceIte, k10_3, decide_true, Bool.not_true, Bool.not_false, decide_false, eq_self, hA.cell, hQ1.cell, hQ2.cell, hQ3.cell, c1.cell, c2.cell, c3.cell] <;> rfl)) (fun hg28_6 => by simp only [EN, Nat.reduceEqDiff, reduceIte, qv_load, ld22, readN, AR, Nat.zero_add, Nat.reduceAdd, k10_3, decide_true, Bool.not_true, Bool.not_false, decide_false, eq_self, hA.cell, hQ1.cell, hQ2.cell, hQ3.cell, c1.cell, c2.cell, c3.cell, hg28_6, GR]; rfl) ?_
              refine WL.cq (gd_at (t := 138) rfl (by simp only [EN, Nat.reduceEqDiff, reduceIte, decide_true, Bool.not_true, Bool.not_false, decide_false, eq_self, hA.cell, hQ1.cell, hQ2.cell, hQ3.cell, c1.cell, c2.cell, c3.cell] <;> rfl)) (fun hg28_7 => by simp only [EN, Nat.reduceEqDiff, reduceIte, qv_len, ln22, AR, decide_true, Bool.not_true, Bool.not_false, decide_false, eq_self, hA.cell, hQ1.cell, hQ2.cell, hQ3.cell, c1.cell, c2.cell, c3.cell, hg28_7, GR]; rfl) ?_
              refine WL.cq (gd_at (t := 138) rfl (by simp only [EN, Nat.reduceEqDiff, reduceIte, decide_true, Bool.not_true, Bool.not_false, decide_false, eq_self, hA.cell, hQ1.cell, hQ2.cell, hQ3.cell, c1.cell, c2.cell, c3.cell] <;> rfl)) (fun hg28_8 => by simp only [EN, Nat.reduceEqDiff, reduceIte, qv_binOp, binv_lss, decide_true, Bool.not_true, Bool.not_false, decide_false, eq_self, hA.cell, hQ1.cell, hQ2.cell, hQ3.cell, c1.cell, c2.cell, c3.cell, hg28_8, GR]; rfl) ?_
              refine WL.qq (by simp only [EN, Nat.reduceEqDiff, reduceIte, qv_pick, pk_and, pk_or, GR, decide_true, Bool.not_true, Bool.not_false, decide_false, eq_self, hA.cell, hQ1.cell, hQ2.cell, hQ3.cell, c1.cell, c2.cell, c3.cell]; rfl) ?_
              refine WL.qq (by simp only [EN, Nat.reduceEqDiff, reduceIte, qv_move, decide_true, Bool.not_true, Bool.not_false, decide_false, eq_self, hA.cell, hQ1.cell, hQ2.cell, hQ3.cell, c1.cell, c2.cell, c3.cell]; rfl) ?_
              refine WL.cq (gd_at (t := 144) rfl (by simp only [EN, Nat.reduceEqDiff, reduceIte, k13_3, decide_true, Bool.not_true, Bool.not_false, decide_false, eq_self, hA.cell, hQ1.cell, hQ2.cell, hQ3.cell, c1.cell, c2.cell, c3.cell] <;> rfl)) (fun hg28_11 => by simp only [EN, Nat.reduceEqDiff, reduceIte, qv_load, ld3, readN, AR, Nat.zero_add, Nat.reduceAdd, k13_3, decide_true, Bool.not_true, Bool.not_false, decide_false, eq_self, hA.cell, hQ1.cell, hQ2.cell, hQ3.cell, c1.cell, c2.cell, c3.cell, hg28_11, GR]; rfl) ?_
              refine WL.cq (gd_at (t := 144) rfl (by simp only [EN, Nat.reduceEqDiff, reduceIte, k10_3, decide_true, Bool.not_true, Bool.not_false, decide_false, eq_self, hA.cell, hQ1.cell, hQ2.cell, hQ3.cell, c1.cell, c2.cell, c3.cell] <;> rfl)) (fun hg28_12 => by simp only [EN, Nat.reduceEqDiff, reduceIte, qv_load, ld22, readN, AR, Nat.zero_add, Nat.reduceAdd, k10_3, decide_true, Bool.not_true, Bool.not_false, decide_false, eq_self, hA.cell, hQ1.cell, hQ2.cell, hQ3.cell, c1.cell, c2.cell, c3.cell, hg28_12, GR]; rfl) ?_
              refine WL.cq (gd_at (t := 144) rfl (by simp only [EN, Nat.reduceEqDiff, reduceIte, decide_true, Bool.not_true, Bool.not_false, decide_false, eq_self, hA.cell, hQ1.cell, hQ2.cell, hQ3.cell, c1.cell, c2.cell, c3.cell] <;> rfl)) (fun hg28_13 => by simp only [EN, Nat.reduceEqDiff, reduceIte, qv_len, ln22, AR, decide_true, Bool.not_true, Bool.not_false, decide_false, eq_self, hA.cell, hQ1.cell, hQ2.cell, hQ3.cell, c1.cell, c2.cell, c3.cell, hg28_13, GR]; rfl) ?_
              refine WL.cq (gd_at (t := 144) rfl (by simp only [EN, Nat.reduceEqDiff, reduceIte, decide_true, Bool.not_true, Bool.not_false, decide_false, eq_self, hA.cell, hQ1.cell, hQ2.cell, hQ3.cell, c1.cell, c2.cell, c3.cell] <;> rfl)) (fun hg28_14 => by simp only [EN, Nat.reduceEqDiff, reduceIte, qv_binOp, binv_lss, decide_true, Bool.not_true, Bool.not_false, decide_false, eq_self, hA.cell, hQ1.cell, hQ2.cell, hQ3.cell, c1.cell, c2.cell, c3.cell, hg28_14, GR]; rfl) ?_
              refine WL.qq (by simp only [EN, Nat.reduceEqDiff, reduceIte, qv_pick, pk_and, pk_or, GR, decide_true, Bool.not_true, Bool.not_false, decide_false, eq_self, hA.cell, hQ1.cell, hQ2.cell, hQ3.cell, c1.cell, c2.cell, c3.cell]; rfl) ?_
              refine WL.nil ?_
              refine th_norm ?_
              refine hx_cond (by simp only [EN, Nat.reduceEqDiff, reduceIte, decide_true, Bool.not_true, Bool.not_false, decide_false, eq_self, hA.cell, hQ1.cell, hQ2.cell, hQ3.cell, c1.cell, c2.cell, c3.cell]; rfl) (fun hct149 => ?_) (fun hct149 => ?_)
              ·
                try simp only [BD] at hct149
                have ht12 : t < 12 := (by omega)
                refine hx_skip ?_
                refine th_norm ?_
                refine hx_seq ?_
                refine hx_block ?_
                refine hx_seq ?_
                apply hx_draw2 Rel.grows [] [10, 38] [(10, Spec.is _), (38, Spec.is _)] rfl (by decide +kernel) rfl
                refine LD.qq rfl rfl (by simp only [EN, Nat.reduceEqDiff, reduceIte, qv_load, ld3, readN, AR, Nat.zero_add, Nat.reduceAdd, k11_3, decide_true, Bool.not_true, Bool.not_false, decide_false, eq_self, hA.cell, hQ1.cell, hQ2.cell, hQ3.cell, c1.cell, c2.cell, c3.cell]; rfl) ?_
                refine LD.qq rfl rfl (by simp only [EN, Nat.reduceEqDiff, reduceIte, qv_load, ld22, readN, AR, Nat.zero_add, Nat.reduceAdd, k10_3, decide_true, Bool.not_true, Bool.not_false, decide_false, eq_self, hA.cell, hQ1.cell, hQ2.cell, hQ3.cell, c1.cell, c2.cell, c3.cell]; rfl) ?_
                refine LD.qq rfl rfl (by simp only [EN, Nat.reduceEqDiff, reduceIte, qv_len, ln22, AR, decide_true, Bool.not_true, Bool.not_false, decide_false, eq_self, hA.cell, hQ1.cell, hQ2.cell, hQ3.cell, c1.cell, c2.cell, c3.cell]; rfl) ?_
                refine LD.qq rfl rfl (by simp only [EN, Nat.reduceEqDiff, reduceIte, qv_binOp, binv_lss, decide_true, Bool.not_true, Bool.not_false, decide_false, eq_self, hA.cell, hQ1.cell, hQ2.cell, hQ3.cell, c1.cell, c2.cell, c3.cell]; rfl) ?_
                refine LD.qq rfl rfl (by simp only [EN, Nat.reduceEqDiff, reduceIte, qv_move, decide_true, Bool.not_true, Bool.not_false, decide_false, eq_self, hA.cell, hQ1.cell, hQ2.cell, hQ3.cell, c1.cell, c2.cell, c3.cell]; rfl) ?_
                refine LD.cq rfl rfl (gd_at (t := 160) rfl (by simp only [EN, Nat.reduceEqDiff, reduceIte, k10_3, decide_true, Bool.not_true, Bool.not_false, decide_false, eq_self, hA.cell, hQ1.cell, hQ2.cell, hQ3.cell, c1.cell, c2.cell, c3.cell] <;> rfl)) (fun hg30_5 => by simp only [EN, Nat.reduceEqDiff, reduceIte, qv_load, ld22, readN, AR, Nat.zero_add, Nat.reduceAdd, k10_3, decide_true, Bool.not_true, Bool.not_false, decide_false, eq_self, hA.cell, hQ1.cell, hQ2.cell, hQ3.cell, c1.cell, c2.cell, c3.cell, hg30_5, GR]; rfl) ?_
                refine LD.cq rfl rfl (gd_at (t := 160) rfl (by simp only [EN, Nat.reduceEqDiff, reduceIte, k11_3, decide_true, Bool.not_true, Bool.not_false, decide_false, eq_self, hA.cell, hQ1.cell, hQ2.cell, hQ3.cell, c1.cell, c2.cell, c3.cell] <;> rfl)) (fun hg30_6 => by simp only [EN, Nat.reduceEqDiff, reduceIte, qv_load, ld3, readN, AR, Nat.zero_add, Nat.reduceAdd, k11_3, decide_true, Bool.not_true, Bool.not_false, decide_false, eq_self, hA.cell, hQ1.cell, hQ2.cell, hQ3.cell, c1.cell, c2.cell, c3.cell, hg30_6, GR]; rfl) ?_
                refine LD.cq rfl rfl (gd_at (t := 160) rfl (by simp only [EN, Nat.reduceEqDiff, reduceIte, decide_true, Bool.not_true, Bool.not_false, decide_false, eq_self, hA.cell, hQ1.cell, hQ2.cell, hQ3.cell, c1.cell, c2.cell, c3.cell] <;> rfl)) (fun hg30_7 => by have hq0 := hg30_7; (try simp only [BD] at hq0); simp only [EN, Nat.reduceEqDiff, reduceIte, qv_indexAddr, decide_true, Bool.not_true, Bool.not_false, decide_false, eq_self, hA.cell, hQ1.cell, hQ2.cell, hQ3.cell, c1.cell, c2.cell, c3.cell, (hx1q (by have h9 := of_decide_eq_true hg30_7; omega)).2.1, hg30_7, GR]; (try simp (disch := omega) only [ix22, Int.toNat_natCast]); rfl) ?_
                refine LD.cq rfl rfl (gd_at (t := 160) rfl (by simp only [EN, Nat.reduceEqDiff, reduceIte, decide_true, Bool.not_true, Bool.not_false, decide_false, eq_self, hA.cell, hQ1.cell, hQ2.cell, hQ3.cell, c1.cell, c2.cell, c3.cell] <;> rfl)) (fun hg30_8 => by have h9 := hx1q (by have h9 := of_decide_eq_true hg30_8; omega); simp only [EN, Nat.reduceEqDiff, reduceIte, k5_3, k6_3, k7_3, k8_3, k9_3, k10_3, k11_3, k12_3, k13_3, decide_true, Bool.not_true, Bool.not_false, decide_false, eq_self, hA.cell, hQ1.cell, hQ2.cell, hQ3.cell, c1.cell, c2.cell, c3.cell, GR, hg30_8, qv_load, ld45, Int.toNat_natCast, h9.2.2.1]; rfl) ?_
                refine LD.cq rfl rfl (gd_at (t := 160) rfl (by simp only [EN, Nat.reduceEqDiff, reduceIte, k5_3, decide_true, Bool.not_true, Bool.not_false, decide_false, eq_self, hA.cell, hQ1.cell, hQ2.cell, hQ3.cell, c1.cell, c2.cell, c3.cell] <;> rfl)) (fun hg30_9 => by simp only [EN, Nat.reduceEqDiff, reduceIte, qv_load, ld24, readN, AR, Nat.zero_add, Nat.reduceAdd, k5_3, decide_true, Bool.not_true, Bool.not_false, decide_false, eq_self, hA.cell, hQ1.cell, hQ2.cell, hQ3.cell, c1.cell, c2.cell, c3.cell, hg30_9, GR]; rfl) ?_
                refine LD.cck rfl rfl (gd_at (t := 160) rfl (by simp only [EN, Nat.reduceEqDiff, reduceIte, decide_true, Bool.not_true, Bool.not_false, decide_false, eq_self, hA.cell, hQ1.cell, hQ2.cell, hQ3.cell, c1.cell, c2.cell, c3.cell] <;> rfl)) Try.call28 (fun hg30_10 => by intro hD hr; have hx : Ext _ _ := hr; have hE := hE.ext hx; have hS := hS.ext hx; have hA := hA.ext hx; have hQ1 := hQ1.ext hx; have hQ2 := hQ2.ext hx; have hQ3 := hQ3.ext hx; have hR := hR.ext hx; have c1 := c1.ext hx; have c2 := c2.ext hx; have c3 := c3.ext hx; have hmk := hmk.ext hx; have hbx := hbx.ext hx; simp only [EN, Nat.reduceEqDiff, reduceIte, AR, decide_true, Bool.not_true, Bool.not_false, decide_false, eq_self, hA.cell, hQ1.cell, hQ2.cell, hQ3.cell, c1.cell, c2.cell, c3.cell, hg30_10, GR]; exact (hp1 hbx (by have h9 := of_decide_eq_true hg30_10; omega))) ?_
                refine LD.qq rfl rfl (by simp only [EN, Nat.reduceEqDiff, reduceIte, qv_pick, pk_and, pk_or, GR, decide_true, Bool.not_true, Bool.not_false, decide_false, eq_self, hA.cell, hQ1.cell, hQ2.cell, hQ3.cell, c1.cell, c2.cell, c3.cell, Bool.and_false]; rfl) ?_
                refine LD.qq rfl rfl (by simp only [EN, Nat.reduceEqDiff, reduceIte, qv_move, decide_true, Bool.not_true, Bool.not_false, decide_false, eq_self, hA.cell, hQ1.cell, hQ2.cell, hQ3.cell, c1.cell, c2.cell, c3.cell]; rfl) ?_
                refine LD.on (by rw [gOk_s (gd_at (t := 168) rfl (by simp only [EN, Nat.reduceEqDiff, reduceIte, k12_3, decide_true, Bool.not_true, Bool.not_false, decide_false, eq_self, hA.cell, hQ1.cell, hQ2.cell, hQ3.cell, c1.cell, c2.cell, c3.cell] <;> rfl))]; rfl) ?_
                refine LD.qq rfl rfl (by simp only [EN, Nat.reduceEqDiff, reduceIte, qv_load, ld3, readN, AR, Nat.zero_add, Nat.reduceAdd, k12_3, decide_true, Bool.not_true, Bool.not_false, decide_false, eq_self, hA.cell, hQ1.cell, hQ2.cell, hQ3.cell, c1.cell, c2.cell, c3.cell]; rfl) ?_
                refine LD.on (by rw [gOk_s (gd_at (t := 168) rfl (by simp only [EN, Nat.reduceEqDiff, reduceIte, k10_3, decide_true, Bool.not_true, Bool.not_false, decide_false, eq_self, hA.cell, hQ1.cell, hQ2.cell, hQ3.cell, c1.cell, c2.cell, c3.cell] <;> rfl))]; rfl) ?_
                refine LD.qq rfl rfl (by simp only [EN, Nat.reduceEqDiff, reduceIte, qv_load, ld22, readN, AR, Nat.zero_add, Nat.reduceAdd, k10_3, decide_true, Bool.not_true, Bool.not_false, decide_false, eq_self, hA.cell, hQ1.cell, hQ2.cell, hQ3.cell, c1.cell, c2.cell, c3.cell]; rfl) ?_
                refine LD.on (by rw [gOk_s (gd_at (t := 168) rfl (by simp only [EN, Nat.reduceEqDiff, reduceIte, decide_true, Bool.not_true, Bool.not_false, decide_false, eq_self, hA.cell, hQ1.cell, hQ2.cell, hQ3.cell, c1.cell, c2.cell, c3.cell] <;> rfl))]; rfl) ?_
                refine LD.qq rfl rfl (by simp only [EN, Nat.reduceEqDiff, reduceIte, qv_len, ln22, AR, decide_true, Bool.not_true, Bool.not_false, decide_false, eq_self, hA.cell, hQ1.cell, hQ2.cell, hQ3.cell, c1.cell, c2.cell, c3.cell]; rfl) ?_
                refine LD.on (by rw [gOk_s (gd_at (t := 168) rfl (by simp only [EN, Nat.reduceEqDiff, reduceIte, decide_true, Bool.not_true, Bool.not_false, decide_false, eq_self, hA.cell, hQ1.cell, hQ2.cell, hQ3.cell, c1.cell, c2.cell, c3.cell] <;> rfl))]; rfl) ?_
                refine LD.qq rfl rfl (by simp only [EN, Nat.reduceEqDiff, reduceIte, qv_binOp, binv_lss, decide_true, Bool.not_true, Bool.not_false, decide_false, eq_self, hA.cell, hQ1.cell, hQ2.cell, hQ3.cell, c1.cell, c2.cell, c3.cell]; rfl) ?_
                refine LD.on (by rw [gOk_s (gd_at (t := 168) rfl (by simp only [EN, Nat.reduceEqDiff, reduceIte, decide_true, Bool.not_true, Bool.not_false, decide_false, eq_self, hA.cell, hQ1.cell, hQ2.cell, hQ3.cell, c1.cell, c2.cell, c3.cell] <;> rfl))]; rfl) ?_
                refine LD.qq rfl rfl (by simp only [EN, Nat.reduceEqDiff, reduceIte, qv_move, decide_true, Bool.not_true, Bool.not_false, decide_false, eq_self, hA.cell, hQ1.cell, hQ2.cell, hQ3.cell, c1.cell, c2.cell, c3.cell]; rfl) ?_
                refine LD.cq rfl rfl (gd_at (t := 173) rfl (by simp only [EN, Nat.reduceEqDiff, reduceIte, k10_3, decide_true, Bool.not_true, Bool.not_false, decide_false, eq_self, hA.cell, hQ1.cell, hQ2.cell, hQ3.cell, c1.cell, c2.cell, c3.cell] <;> rfl)) (fun hg30_18 => by simp only [EN, Nat.reduceEqDiff, reduceIte, qv_load, ld22, readN, AR, Nat.zero_add, Nat.reduceAdd, k10_3, decide_true, Bool.not_true, Bool.not_false, decide_false, eq_self, hA.cell, hQ1.cell, hQ2.cell, hQ3.cell, c1.cell, c2.cell, c3.cell, hg30_18, GR]; rfl) ?_
                refine LD.cq rfl rfl (gd_at (t := 173) rfl (by simp only [EN, Nat.reduceEqDiff, reduceIte, k12_3, decide_true, Bool.not_true, Bool.not_false, decide_false, eq_self, hA.cell, hQ1.cell, hQ2.cell, hQ3.cell, c1.cell, c2.cell, c3.cell] <;> rfl)) (fun hg30_19 => by simp only [EN, Nat.reduceEqDiff, reduceIte, qv_load, ld3, readN, AR, Nat.zero_add, Nat.reduceAdd, k12_3, decide_true, Bool.not_true, Bool.not_false, decide_false, eq_self, hA.cell, hQ1.cell, hQ2.cell, hQ3.cell, c1.cell, c2.cell, c3.cell, hg30_19, GR]; rfl) ?_
                refine LD.cq rfl rfl (gd_at (t := 173) rfl (by simp only [EN, Nat.reduceEqDiff, reduceIte, decide_true, Bool.not_true, Bool.not_false, decide_false, eq_self, hA.cell, hQ1.cell, hQ2.cell, hQ3.cell, c1.cell, c2.cell, c3.cell] <;> rfl)) (fun hg30_20 => by have hq0 := hg30_20; (try simp only [BD] at hq0); simp only [EN, Nat.reduceEqDiff, reduceIte, qv_indexAddr, decide_true, Bool.not_true, Bool.not_false, decide_false, eq_self, hA.cell, hQ1.cell, hQ2.cell, hQ3.cell, c1.cell, c2.cell, c3.cell, (hx2q (by have h9 := of_decide_eq_true hg30_20; omega)).2.1, hg30_20, GR]; (try simp (disch := omega) only [ix22, Int.toNat_natCast]); rfl) ?_
                refine LD.cq rfl rfl (gd_at (t := 173) rfl (by simp only [EN, Nat.reduceEqDiff, reduceIte, decide_true, Bool.not_true, Bool.not_false, decide_false, eq_self, hA.cell, hQ1.cell, hQ2.cell, hQ3.cell, c1.cell, c2.cell, c3.cell] <;> rfl)) (fun hg30_21 => by simp only [EN, Nat.reduceEqDiff, reduceIte, qv_fieldAddr, fa45_1, Nat.zero_add, Nat.reduceAdd, decide_true, Bool.not_true, Bool.not_false, decide_false, eq_self, hA.cell, hQ1.cell, hQ2.cell, hQ3.cell, c1.cell, c2.cell, c3.cell, hg30_21, GR]; rfl) ?_
                refine LD.cq rfl rfl (gd_at (t := 173) rfl (by simp only [EN, Nat.reduceEqDiff, reduceIte, decide_true, Bool.not_true, Bool.not_false, decide_false, eq_self, hA.cell, hQ1.cell, hQ2.cell, hQ3.cell, c1.cell, c2.cell, c3.cell] <;> rfl)) (fun hg30_22 => by have h9 := hx2q (by have h9 := of_decide_eq_true hg30_22; omega); simp only [EN, Nat.reduceEqDiff, reduceIte, k5_3, k6_3, k7_3, k8_3, k9_3, k10_3, k11_3, k12_3, k13_3, decide_true, Bool.not_true, Bool.not_false, decide_false, eq_self, hA.cell, hQ1.cell, hQ2.cell, hQ3.cell, c1.cell, c2.cell, c3.cell, GR, hg30_22, qv_load, ld3, Int.toNat_natCast, h9.2.2.2]; rfl) ?_
                refine LD.cq rfl rfl (gd_at (t := 173) rfl (by simp only [EN, Nat.reduceEqDiff, reduceIte, k6_3, decide_true, Bool.not_true, Bool.not_false, decide_false, eq_self, hA.cell, hQ1.cell, hQ2.cell, hQ3.cell, c1.cell, c2.cell, c3.cell] <;> rfl)) (fun hg30_23 => by simp only [EN, Nat.reduceEqDiff, reduceIte, qv_load, ld3, readN, AR, Nat.zero_add, Nat.reduceAdd, k6_3, decide_true, Bool.not_true, Bool.not_false, decide_false, eq_self, hA.cell, hQ1.cell, hQ2.cell, hQ3.cell, c1.cell, c2.cell, c3.cell, hg30_23, GR]; rfl) ?_
                refine LD.cq rfl rfl (gd_at (t := 173) rfl (by simp only [EN, Nat.reduceEqDiff, reduceIte, decide_true, Bool.not_true, Bool.not_false, decide_false, eq_self, hA.cell, hQ1.cell, hQ2.cell, hQ3.cell, c1.cell, c2.cell, c3.cell] <;> rfl)) (fun hg30_24 => by simp only [EN, Nat.reduceEqDiff, reduceIte, qv_binOp, binv_eql, eq3, Option.map_some, decide_true, Bool.not_true, Bool.not_false, decide_false, eq_self, hA.cell, hQ1.cell, hQ2.cell, hQ3.cell, c1.cell, c2.cell, c3.cell, (hp2 (by have h9 := of_decide_eq_true hg30_24; omega)), hg30_24, GR]; rfl) ?_
                refine LD.on (by rw [gOk_s (gd_at (t := 168) rfl (by simp only [EN, Nat.reduceEqDiff, reduceIte, decide_true, Bool.not_true, Bool.not_false, decide_false, eq_self, hA.cell, hQ1.cell, hQ2.cell, hQ3.cell, c1.cell, c2.cell, c3.cell] <;> rfl))]; rfl) ?_
                refine LD.qq rfl rfl (by simp only [EN, Nat.reduceEqDiff, reduceIte, qv_pick, pk_and, pk_or, GR, decide_true, Bool.not_true, Bool.not_false, decide_false, eq_self, hA.cell, hQ1.cell, hQ2.cell, hQ3.cell, c1.cell, c2.cell, c3.cell, Bool.and_false]; rfl) ?_
                refine LD.qq rfl rfl (by simp only [EN, Nat.reduceEqDiff, reduceIte, qv_pick, pk_and, pk_or, GR, decide_true, Bool.not_true, Bool.not_false, decide_false, eq_self, hA.cell, hQ1.cell, hQ2.cell, hQ3.cell, c1.cell, c2.cell, c3.cell]; rfl) ?_
                refine LD.qq rfl rfl (by simp only [EN, Nat.reduceEqDiff, reduceIte, qv_move, decide_true, Bool.not_true, Bool.not_false, decide_false, eq_self, hA.cell, hQ1.cell, hQ2.cell, hQ3.cell, c1.cell, c2.cell, c3.cell]; rfl) ?_
                refine LD.on (by rw [gOk_s (gd_at (t := 183) rfl (by simp only [EN, Nat.reduceEqDiff, reduceIte, k13_3, decide_true, Bool.not_true, Bool.not_false, decide_false, eq_self, hA.cell, hQ1.cell, hQ2.cell, hQ3.cell, c1.cell, c2.cell, c3.cell] <;> rfl))]; rfl) ?_
                refine LD.qq rfl rfl (by simp only [EN, Nat.reduceEqDiff, reduceIte, qv_load, ld3, readN, AR, Nat.zero_add, Nat.reduceAdd, k13_3, decide_true, Bool.not_true, Bool.not_false, decide_false, eq_self, hA.cell, hQ1.cell, hQ2.cell, hQ3.cell, c1.cell, c2.cell, c3.cell]; rfl) ?_
                refine LD.on (by rw [gOk_s (gd_at (t := 183) rfl (by simp only [EN, Nat.reduceEqDiff, reduceIte, k10_3, decide_true, Bool.not_true, Bool.not_false, decide_false, eq_self, hA.cell, hQ1.cell, hQ2.cell, hQ3.cell, c1.cell, c2.cell, c3.cell] <;> rfl))]; rfl) ?_
                refine LD.qq rfl rfl (by simp only [EN, Nat.reduceEqDiff, reduceIte, qv_load, ld22, readN, AR, Nat.zero_add, Nat.reduceAdd, k10_3, decide_true, Bool.not_true, Bool.not_false, decide_false, eq_self, hA.cell, hQ1.cell, hQ2.cell, hQ3.cell, c1.cell, c2.cell, c3.cell]; rfl) ?_
                refine LD.on (by rw [gOk_s (gd_at (t := 183) rfl (by simp only [EN, Nat.reduceEqDiff, reduceIte, decide_true, Bool.not_true, Bool.not_false, decide_false, eq_self, hA.cell, hQ1.cell, hQ2.cell, hQ3.cell, c1.cell, c2.cell, c3.cell] <;> rfl))]; rfl) ?_
                refine LD.qq rfl rfl (by simp only [EN, Nat.reduceEqDiff, reduceIte, qv_len, ln22, AR, decide_true, Bool.not_true, Bool.not_false, decide_false, eq_self, hA.cell, hQ1.cell, hQ2.cell, hQ3.cell, c1.cell, c2.cell, c3.cell]; rfl) ?_
                refine LD.on (by rw [gOk_s (gd_at (t := 183) rfl (by simp only [EN, Nat.reduceEqDiff, reduceIte, decide_true, Bool.not_true, Bool.not_false, decide_false, eq_self, hA.cell, hQ1.cell, hQ2.cell, hQ3.cell, c1.cell, c2.cell, c3.cell] <;> rfl))]; rfl) ?_
                refine LD.qq rfl rfl (by simp only [EN, Nat.reduceEqDiff, reduceIte, qv_binOp, binv_lss, decide_true, Bool.not_true, Bool.not_false, decide_false, eq_self, hA.cell, hQ1.cell, hQ2.cell, hQ3.cell, c1.cell, c2.cell, c3.cell]; rfl) ?_
                refine LD.on (by rw [gOk_s (gd_at (t := 183) rfl (by simp only [EN, Nat.reduceEqDiff, reduceIte, decide_true, Bool.not_true, Bool.not_false, decide_false, eq_self, hA.cell, hQ1.cell, hQ2.cell, hQ3.cell, c1.cell, c2.cell, c3.cell] <;> rfl))]; rfl) ?_
                refine LD.qq rfl rfl (by simp only [EN, Nat.reduceEqDiff, reduceIte, qv_move, decide_true, Bool.not_true, Bool.not_false, decide_false, eq_self, hA.cell, hQ1.cell, hQ2.cell, hQ3.cell, c1.cell, c2.cell, c3.cell]; rfl) ?_
                refine LD.cq rfl rfl (gd_at (t := 188) rfl (by simp only [EN, Nat.reduceEqDiff, reduceIte, k10_3, decide_true, Bool.not_true, Bool.not_false, decide_false, eq_self, hA.cell, hQ1.cell, hQ2.cell, hQ3.cell, c1.cell, c2.cell, c3.cell] <;> rfl)) (fun hg30_33 => by simp only [EN, Nat.reduceEqDiff, reduceIte, qv_load, ld22, readN, AR, Nat.zero_add, Nat.reduceAdd, k10_3, decide_true, Bool.not_true, Bool.not_false, decide_false, eq_self, hA.cell, hQ1.cell, hQ2.cell, hQ3.cell, c1.cell, c2.cell, c3.cell, hg30_33, GR]; rfl) ?_
                refine LD.cq rfl rfl (gd_at (t := 188) rfl (by simp only [EN, Nat.reduceEqDiff, reduceIte, k13_3, decide_true, Bool.not_true, Bool.not_false, decide_false, eq_self, hA.cell, hQ1.cell, hQ2.cell, hQ3.cell, c1.cell, c2.cell, c3.cell] <;> rfl)) (fun hg30_34 => by simp only [EN, Nat.reduceEqDiff, reduceIte, qv_load, ld3, readN, AR, Nat.zero_add, Nat.reduceAdd, k13_3, decide_true, Bool.not_true, Bool.not_false, decide_false, eq_self, hA.cell, hQ1.cell, hQ2.cell, hQ3.cell, c1.cell, c2.cell, c3.cell, hg30_34, GR]; rfl) ?_
                refine LD.cq rfl rfl (gd_at (t := 188) rfl (by simp only [EN, Nat.reduceEqDiff, reduceIte, decide_true, Bool.not_true, Bool.not_false, decide_false, eq_self, hA.cell, hQ1.cell, hQ2.cell, hQ3.cell, c1.cell, c2.cell, c3.cell] <;> rfl)) (fun hg30_35 => by have hq0 := hg30_35; (try simp only [BD] at hq0); simp only [EN, Nat.reduceEqDiff, reduceIte, qv_indexAddr, decide_true, Bool.not_true, Bool.not_false, decide_false, eq_self, hA.cell, hQ1.cell, hQ2.cell, hQ3.cell, c1.cell, c2.cell, c3.cell, (hx3q (by have h9 := of_decide_eq_true hg30_35; omega)).2.1, hg30_35, GR]; (try simp (disch := omega) only [ix22, Int.toNat_natCast]); rfl) ?_
                refine LD.cq rfl rfl (gd_at (t := 188) rfl (by simp only [EN, Nat.reduceEqDiff, reduceIte, decide_true, Bool.not_true, Bool.not_false, decide_false, eq_self, hA.cell, hQ1.cell, hQ2.cell, hQ3.cell, c1.cell, c2.cell, c3.cell] <;> rfl)) (fun hg30_36 => by have h9 := hx3q (by have h9 := of_decide_eq_true hg30_36; omega); simp only [EN, Nat.reduceEqDiff, reduceIte, k5_3, k6_3, k7_3, k8_3, k9_3, k10_3, k11_3, k12_3, k13_3, decide_true, Bool.not_true, Bool.not_false, decide_false, eq_self, hA.cell, hQ1.cell, hQ2.cell, hQ3.cell, c1.cell, c2.cell, c3.cell, GR, hg30_36, qv_load, ld45, Int.toNat_natCast, h9.2.2.1]; rfl) ?_
                refine LD.cq rfl rfl (gd_at (t := 188) rfl (by simp only [EN, Nat.reduceEqDiff, reduceIte, k7_3, decide_true, Bool.not_true, Bool.not_false, decide_false, eq_self, hA.cell, hQ1.cell, hQ2.cell, hQ3.cell, c1.cell, c2.cell, c3.cell] <;> rfl)) (fun hg30_37 => by simp only [EN, Nat.reduceEqDiff, reduceIte, qv_load, ld9, readN, AR, Nat.zero_add, Nat.reduceAdd, k7_3, decide_true, Bool.not_true, Bool.not_false, decide_false, eq_self, hA.cell, hQ1.cell, hQ2.cell, hQ3.cell, c1.cell, c2.cell, c3.cell, hg30_37, GR]; rfl) ?_
                refine LD.cck rfl rfl (gd_at (t := 188) rfl (by simp only [EN, Nat.reduceEqDiff, reduceIte, decide_true, Bool.not_true, Bool.not_false, decide_false, eq_self, hA.cell, hQ1.cell, hQ2.cell, hQ3.cell, c1.cell, c2.cell, c3.cell] <;> rfl)) Try.call31 (fun hg30_38 => by intro hD hr; have hx : Ext _ _ := hr; have hE := hE.ext hx; have hS := hS.ext hx; have hA := hA.ext hx; have hQ1 := hQ1.ext hx; have hQ2 := hQ2.ext hx; have hQ3 := hQ3.ext hx; have hR := hR.ext hx; have c1 := c1.ext hx; have c2 := c2.ext hx; have c3 := c3.ext hx; have hmk := hmk.ext hx; have hbx := hbx.ext hx; simp only [EN, Nat.reduceEqDiff, reduceIte, AR, decide_true, Bool.not_true, Bool.not_false, decide_false, eq_self, hA.cell, hQ1.cell, hQ2.cell, hQ3.cell, c1.cell, c2.cell, c3.cell, hg30_38, GR]; exact (hp3 hbx (by have h9 := of_decide_eq_true hg30_38; omega))) ?_
                refine LD.on (by rw [gOk_s (gd_at (t := 183) rfl (by simp only [EN, Nat.reduceEqDiff, reduceIte, decide_true, Bool.not_true, Bool.not_false, decide_false, eq_self, hA.cell, hQ1.cell, hQ2.cell, hQ3.cell, c1.cell, c2.cell, c3.cell] <;> rfl))]; rfl) ?_
                refine LD.qq rfl rfl (by simp only [EN, Nat.reduceEqDiff, reduceIte, qv_pick, pk_and, pk_or, GR, decide_true, Bool.not_true, Bool.not_false, decide_false, eq_self, hA.cell, hQ1.cell, hQ2.cell, hQ3.cell, c1.cell, c2.cell, c3.cell, Bool.and_false]; rfl) ?_
                refine LD.qq rfl rfl (by simp only [EN, Nat.reduceEqDiff, reduceIte, qv_pick, pk_and, pk_or, GR, decide_true, Bool.not_true, Bool.not_false, decide_false, eq_self, hA.cell, hQ1.cell, hQ2.cell, hQ3.cell, c1.cell, c2.cell, c3.cell]; rfl) ?_
                refine LD.nil ?_
                rintro h34 hx34 hF30
                replace hx34 : Ext _ _ := hx34
                replace hE := hE.ext hx34
                replace hS := hS.ext hx34
                replace hA := hA.ext hx34
                replace hQ1 := hQ1.ext hx34
                replace hQ2 := hQ2.ext hx34
                replace hQ3 := hQ3.ext hx34
                replace hR := hR.ext hx34
                replace c1 := c1.ext hx34
                replace c2 := c2.ext hx34
                replace c3 := c3.ext hx34
                replace hmk := hmk.ext hx34
                replace hbx := hbx.ext hx34
                refine WL.nil ?_
                refine th_norm ?_
                refine hx_cond (by simp only [EN, Nat.reduceEqDiff, reduceIte, decide_true, Bool.not_true, Bool.not_false, decide_false, eq_self, hA.cell, hQ1.cell, hQ2.cell, hQ3.cell, c1.cell, c2.cell, c3.cell]; rfl) (fun hct196 => ?_) (fun hct196 => ?_)
                ·
                  simp at hct196
                ·
                  try simp only [BD] at hct196
                  refine hx_skip ?_
                  refine bl_norm ?_
                  refine th_norm ?_
                  apply hx_drawP (Rel.three B10 B11 B12 tyInt #[iV ((n1 + t : Nat) + 1)] #[iV ((n2 + t : Nat) + 1)] #[iV ((n3 + t : Nat) + 1)] #[iV ((n1 + t : Nat) : Int)] #[iV ((n2 + t : Nat) : Int)] #[iV ((n3 + t : Nat) : Int)]) [] [6, 7, 8] [] [(0, Spec.is (iV ((n1 + t : Nat) : Int))), (2, Spec.is (iV ((n2 + t : Nat) : Int))), (4, Spec.is (iV ((n3 + t : Nat) : Int))), (6, Spec.nw B10 tyInt #[iV ((n1 + t : Nat) + 1)]), (7, Spec.nw B11 tyInt #[iV ((n2 + t : Nat) + 1)]), (8, Spec.nw B12 tyInt #[iV ((n3 + t : Nat) + 1)])] rfl (fun hh => absurd rfl hh) (by show drawOkP [] [6, 7, 8] _ [] [0, 2, 4, 6, 7, 8] = true; decide +kernel) three_blind three_stable (FrS.none _ (fun _ => rfl)) (fun k => ⟨fun _ => c1, fun _ => c2, fun _ => c3⟩)
                  refine LD.en rfl rfl (fun hD hr hng hf => three_ld (by simp only [EN, Nat.reduceEqDiff, reduceIte, k5_3, k6_3, k7_3, k8_3, k9_3, k10_3, k11_3, k12_3, k13_3, decide_true, Bool.not_true, Bool.not_false, decide_false, eq_self, hA.cell, hQ1.cell, hQ2.cell, hQ3.cell, c1.cell, c2.cell, c3.cell, qv_load, ld3, Nat.zero_add, Nat.reduceAdd, (hng.1 rfl).cell, AR] <;> rfl)) ?_
                  intro u29_0 w29_0; have hu : u29_0 = _ := w29_0; subst hu
                  refine LD.qf rfl rfl (fun hD hr hf => by simp only [EN, Nat.reduceEqDiff, reduceIte, k5_3, k6_3, k7_3, k8_3, k9_3, k10_3, k11_3, k12_3, k13_3, decide_true, Bool.not_true, Bool.not_false, decide_false, eq_self, hA.cell, hQ1.cell, hQ2.cell, hQ3.cell, c1.cell, c2.cell, c3.cell, qv_binOp, binv_add]; (simp (disch := omega) only [w64]); rfl) ?_
                  refine LD.en rfl rfl (fun hD hr hng hf => three_ld (by simp only [EN, Nat.reduceEqDiff, reduceIte, k5_3, k6_3, k7_3, k8_3, k9_3, k10_3, k11_3, k12_3, k13_3, decide_true, Bool.not_true, Bool.not_false, decide_false, eq_self, hA.cell, hQ1.cell, hQ2.cell, hQ3.cell, c1.cell, c2.cell, c3.cell, qv_load, ld3, Nat.zero_add, Nat.reduceAdd, (hng.2.1 rfl).cell, AR] <;> rfl)) ?_
                  intro u29_2 w29_2; have hu : u29_2 = _ := w29_2; subst hu
                  refine LD.qf rfl rfl (fun hD hr hf => by simp only [EN, Nat.reduceEqDiff, reduceIte, k5_3, k6_3, k7_3, k8_3, k9_3, k10_3, k11_3, k12_3, k13_3, decide_true, Bool.not_true, Bool.not_false, decide_false, eq_self, hA.cell, hQ1.cell, hQ2.cell, hQ3.cell, c1.cell, c2.cell, c3.cell, qv_binOp, binv_add]; (simp (disch := omega) only [w64]); rfl) ?_
                  refine LD.en rfl rfl (fun hD hr hng hf => three_ld (by simp only [EN, Nat.reduceEqDiff, reduceIte, k5_3, k6_3, k7_3, k8_3, k9_3, k10_3, k11_3, k12_3, k13_3, decide_true, Bool.not_true, Bool.not_false, decide_false, eq_self, hA.cell, hQ1.cell, hQ2.cell, hQ3.cell, c1.cell, c2.cell, c3.cell, qv_load, ld3, Nat.zero_add, Nat.reduceAdd, (hng.2.2 rfl).cell, AR] <;> rfl)) ?_
                  intro u29_4 w29_4; have hu : u29_4 = _ := w29_4; subst hu
                  refine LD.qf rfl rfl (fun hD hr hf => by simp only [EN, Nat.reduceEqDiff, reduceIte, k5_3, k6_3, k7_3, k8_3, k9_3, k10_3, k11_3, k12_3, k13_3, decide_true, Bool.not_true, Bool.not_false, decide_false, eq_self, hA.cell, hQ1.cell, hQ2.cell, hQ3.cell, c1.cell, c2.cell, c3.cell, qv_binOp, binv_add]; (simp (disch := omega) only [w64]); rfl) ?_
                  refine LD.enN rfl rfl (fun hD hr hng hf => three_s1 (by omega) (by omega) (by show tb _ _ 0 = true; decide +kernel) (e_store1 (o := #[]) (by simp only [EN, Nat.reduceEqDiff, reduceIte, k5_3, k6_3, k7_3, k8_3, k9_3, k10_3, k11_3, k12_3, k13_3, decide_true, Bool.not_true, Bool.not_false, decide_false, eq_self, hA.cell, hQ1.cell, hQ2.cell, hQ3.cell, c1.cell, c2.cell, c3.cell] <;> rfl) sz3 (by simp only [EN, Nat.reduceEqDiff, reduceIte, k5_3, k6_3, k7_3, k8_3, k9_3, k10_3, k11_3, k12_3, k13_3, decide_true, Bool.not_true, Bool.not_false, decide_false, eq_self, hA.cell, hQ1.cell, hQ2.cell, hQ3.cell, c1.cell, c2.cell, c3.cell, Value.cells] <;> rfl) (r3_has hr.2.2.1 c1 rfl) rfl)) ?_
                  intro u29_6 w29_6
                  refine LD.enN rfl rfl (fun hD hr hng hf => three_s2 (by omega) (by omega) (by show tb _ _ 2 = true; decide +kernel) (e_store1 (o := #[]) (by simp only [EN, Nat.reduceEqDiff, reduceIte, k5_3, k6_3, k7_3, k8_3, k9_3, k10_3, k11_3, k12_3, k13_3, decide_true, Bool.not_true, Bool.not_false, decide_false, eq_self, hA.cell, hQ1.cell, hQ2.cell, hQ3.cell, c1.cell, c2.cell, c3.cell] <;> rfl) sz3 (by simp only [EN, Nat.reduceEqDiff, reduceIte, k5_3, k6_3, k7_3, k8_3, k9_3, k10_3, k11_3, k12_3, k13_3, decide_true, Bool.not_true, Bool.not_false, decide_false, eq_self, hA.cell, hQ1.cell, hQ2.cell, hQ3.cell, c1.cell, c2.cell, c3.cell, Value.cells] <;> rfl) (r3_has hr.2.2.2.1 c2 rfl) rfl)) ?_
                  intro u29_7 w29_7
                  refine LD.enN rfl rfl (fun hD hr hng hf => three_s3 (by omega) (by omega) (by show tb _ _ 4 = true; decide +kernel) (e_store1 (o := #[]) (by simp only [EN, Nat.reduceEqDiff, reduceIte, k5_3, k6_3, k7_3, k8_3, k9_3, k10_3, k11_3, k12_3, k13_3, decide_true, Bool.not_true, Bool.not_false, decide_false, eq_self, hA.cell, hQ1.cell, hQ2.cell, hQ3.cell, c1.cell, c2.cell, c3.cell] <;> rfl) sz3 (by simp only [EN, Nat.reduceEqDiff, reduceIte, k5_3, k6_3, k7_3, k8_3, k9_3, k10_3, k11_3, k12_3, k13_3, decide_true, Bool.not_true, Bool.not_false, decide_false, eq_self, hA.cell, hQ1.cell, hQ2.cell, hQ3.cell, c1.cell, c2.cell, c3.cell, Value.cells] <;> rfl) (r3_has hr.2.2.2.2 c3 rfl) rfl)) ?_
                  intro u29_8 w29_8
                  refine LD.nil ?_
                  rintro h43 hr43 hF43
                  have hg43 := R3.gs hr43; have hty : TyS _ [B10, B11, B12] tyInt := (by intro B hB; simp only [List.mem_cons, List.not_mem_nil, or_false] at hB; rcases hB with rfl | rfl | rfl; (exact ⟨_, c1⟩); (exact ⟨_, c2⟩); exact ⟨_, c3⟩)
                  have hN43 : ∀ B ∈ [B10, B11, B12], h4.size ≤ B ∧ h.size ≤ B := (by intro B hB; simp only [List.mem_cons, List.not_mem_nil, or_false] at hB; rcases hB with rfl | rfl | rfl <;> omega)
                  replace hE := hg43.toExt hE (fun B hB => (hN43 B hB).2)
                  replace hS := hS.gsT hg43 hty (fun B hB => (hN43 B hB).1) (by decide) (by decide) (by decide) (by decide) (by decide)
                  replace hmk := hmk.gs hg43 (fun r hr => by obtain ⟨c9, h9⟩ := hty r hr; exact ⟨c9, _, h9⟩)
                  replace hA := hA.gsT hg43 hty (by decide)
                  replace hQ1 := hQ1.gsT hg43 hty (by decide)
                  replace hQ3 := hQ3.gsT hg43 hty (by decide)
                  replace hR := hR.gsT hg43 hty (by decide)
                  replace hQ2 := hQ2.gs hg43 (by simp; omega)
                  have d1 : Has h43 B10 _ := hF43 (6, u29_6) (by simp) _ rfl; have d2 : Has h43 B11 _ := hF43 (7, u29_7) (by simp) _ rfl; have d3 : Has h43 B12 _ := hF43 (8, u29_8) (by simp) _ rfl
                  refine WL.nil ?_
                  refine th_norm ?_
                  refine ⟨rfl, ?_, _, ?_, t + 1, rfl, ?_, ?_, ?_, ?_, ?_, ?_, ?_, ?_, ?_, ?_, ?_, ?_⟩  -- again 0 of loop 3
                  · (repeat (first | exact Fr.refl _ _ | refine Fr.set rfl ?_ | refine Fr.put rfl ?_ | with_reducible refine Fr.put0 ?_))
                  · omega
                  · omega
                  · exact hE
                  · exact hS
                  · exact hA
                  · exact hQ1
                  · exact hQ2
                  · exact hQ3
                  · exact hR
                  · exact d1
                  · exact d2
                  · exact d3
                  · exact hmk
              ·
                try simp only [BD] at hct149
                refine hx_exit ?_
                refine th_exit ?_
                refine th_exit ?_
                refine bl_hit ?_
                refine th_norm ?_
                refine hx_seq ?_
                refine hx_seq ?_
                refine hx_region ?_
                have kzR := (Array.getElem?_eq_some_iff.1 hR).1
                refine WL.qq (by simp only [EN, Nat.reduceEqDiff, reduceIte, qv_move, k9_3, decide_true, Bool.not_true, Bool.not_false, decide_false, eq_self, hA.cell, hQ1.cell, hQ2.cell, hQ3.cell, c1.cell, c2.cell, c3.cell]; rfl) ?_
                refine WL.qq (by simp only [EN, Nat.reduceEqDiff, reduceIte, qv_load, ld3, readN, AR, Nat.zero_add, Nat.reduceAdd, k6_3, decide_true, Bool.not_true, Bool.not_false, decide_false, eq_self, hA.cell, hQ1.cell, hQ2.cell, hQ3.cell, c1.cell, c2.cell, c3.cell, hQ2.cell]; rfl) ?_
                refine WL.ce Try.call29 (by simp only [EN, Nat.reduceEqDiff, reduceIte, AR, decide_true, Bool.not_true, Bool.not_false, decide_false, eq_self, hA.cell, hQ1.cell, hQ2.cell, hQ3.cell, c1.cell, c2.cell, c3.cell]; exact c_byDay (some ⟨p, 0, none⟩) day _) ?_
                rintro _ h35 ⟨hx35, C3a, C3b, C3c, hC3n, rfl, hC3a, hC3b, hC3c⟩
                replace hE := hE.ext hx35
                replace hS := hS.ext hx35
                replace hA := hA.ext hx35
                replace hQ1 := hQ1.ext hx35
                replace hQ2 := hQ2.ext hx35
                replace hQ3 := hQ3.ext hx35
                replace hR := hR.ext hx35
                replace c1 := c1.ext hx35
                replace c2 := c2.ext hx35
                replace c3 := c3.ext hx35
                replace hmk := hmk.ext hx35
                replace hbx := hbx.ext hx35
                simp only [put_some]
                refine WL.nil ?_
                refine th_norm ?_
                refine hx_block ?_
                refine hx_range (by simp only [EN, Nat.reduceEqDiff, reduceIte, k5_3, k6_3, k7_3, k8_3, k9_3, k10_3, k11_3, k12_3, k13_3, decide_true, Bool.not_true, Bool.not_false, decide_false, eq_self, hA.cell, hQ1.cell, hQ2.cell, hQ3.cell, c1.cell, c2.cell, c3.cell]; rfl) Try.call69 ?_
                intro fnR3 hR3 hxR3 hsR3 hdR3 hrR3
                have hXL : Ext h h35 := hE
                have kzL := hXL.size
                obtain ⟨av, cap, ys, hK, hyl⟩ := hS.I.hk
                generalize hrec : recOf _ _ _ _ _ _ _ = rec at hrR3
                have hEg : ∀ {hx : Heap} {rc : Loop}, RX h h35 [] rc hx → Ext h35 hx := fun q1 => Gs.toExt (Ext.refl _) q1.gs (by simp)
                refine (c_whereYield (p := p) (av := av) (xs := ys) (cap := cap) (Bh := C3a) (Bf := C3b) (fo := 52) (cp := #[.pointer (some ⟨C3c, 0, none⟩)]) (fun b => decide (b.day = day)) (fun i hx => RX h h35 [] rec hx) (fun hx => RX h h35 [] { rec with state := .done, pending := some (.exit 14) } hx) hyl hS.g Try.call52 ?_ ?_ ?_ ?_ ?_ ?_).mono ?_
                · rintro i h1 h2 q1 he; exact q1.ext he
                · rintro i hx q1; have e9 := hEg q1; have hk := hK.ext e9; exact ⟨hC3a.ext e9, hC3b.ext e9, hk.hp, hk.sl, hk.b.in_⟩
                · rintro i x hx q1 hm hbi; exact c_okDay day _ x (hC3c.ext (hEg q1))
                · rintro i b hx hb hk q1; exact q1
                rotate_left
                · exact RX.start hxR3 hsR3 hdR3 hrR3 hXL (by simp) (by simp)
                rotate_left
                ·
                  rintro i y hi hx hyi hky hI hC hyr
                  have hRc := hC.rc; rw [← hrec] at hRc
                  refine hy_body (vs := [.agg (bdL y).toArray]) (ps := [200]) hRc rfl rfl rfl (by decide) rfl rfl ?_
                  simp only [pars, List.zip_cons_cons, List.zip_nil_left, List.foldl_cons, List.foldl_nil]
                  refine hx_skip ?_
                  refine th_norm ?_
                  refine ⟨_, hC.rc, by subst hrec; rfl, ?_⟩
                  intro h90 hw90
                  replace hC := hC.turn hw90
                  refine hx_block ?_
                  refine hx_exit ?_
                  refine bl_miss rfl ?_
                  refine ⟨_, hC.rc, ?_⟩
                  intro h30 hw30
                  exact ⟨false, rfl, fun hh => (by cases hh), fun _ => hC.turn hw30⟩
                ·
                  rintro v9 hP9 hor
                  obtain ⟨rec', hC, hst9, hpe9⟩ : ∃ rec' : Loop, RX h h35 [] rec' hP9 ∧ (rec'.state == .busy) = false ∧ (rec'.pending = none ∨ rec'.pending = some (.exit 14)) := (by rcases hor with hC | hC; (exact ⟨rec, hC, by subst hrec; rfl, .inl (by subst hrec; rfl)⟩); exact ⟨_, hC, rfl, .inr rfl⟩)
                  refine after_brk hC.rc hst9 hpe9 ?_
                  intro h34 o34 hw34
                  have hg34 := (hC.end_ hw34 (by omega)).1; have hE34 := (hC.end_ hw34 (by omega)).2
                  have hmk4 := hmk.range (Ext.refl _) kzL hC (by intro r hr; cases hr) hw34
                  replace hR := hR.gs hg34 (by simp)
                  refine bl_norm ?_
                  refine th_norm ?_
                  refine hx_seq ?_
                  refine hx_region ?_
                  refine WL.cg Try.call13 (by simp only [EN, Nat.reduceEqDiff, reduceIte, AR, decide_true, Bool.not_true, Bool.not_false, decide_false, eq_self, hA.cell, hQ1.cell, hQ2.cell, hQ3.cell, c1.cell, c2.cell, c3.cell]; exact c_known14 _) ?_
                  intro h36 hx36
                  replace hR := hR.ext hx36
                  replace hmk4 := hmk4.ext hx36
                  refine WL.store (by simp only [EN, Nat.reduceEqDiff, reduceIte, k8_3, decide_true, Bool.not_true, Bool.not_false, decide_false, eq_self, hA.cell, hQ1.cell, hQ2.cell, hQ3.cell, c1.cell, c2.cell, c3.cell] <;> rfl) sz4 (by simp only [EN, Nat.reduceEqDiff, reduceIte, Value.cells, k8_3, decide_true, Bool.not_true, Bool.not_false, decide_false, eq_self, hA.cell, hQ1.cell, hQ2.cell, hQ3.cell, c1.cell, c2.cell, c3.cell] <;> rfl) rfl hR (by first | (simp [true_and]; done) | (simp [true_and]; omega) | omega) (by simp [Value.oneCell']) ?_
                  intro h37 hw37
                  have hmk9 := hmk4.wr hw37 hR
                  have hE9z := hw37.ext ((hE34).trans (hx36)) (by have := hx1.size; have := hx2.size; have := hx3.size; omega)
                  have hR9 := hw37.at_
                  simp only [splc, List.take_succ_cons, List.take_zero, List.take_nil, List.drop_succ_cons, List.drop_zero, List.drop_nil, List.cons_append, List.nil_append, List.length_cons, List.length_nil, Nat.zero_add, Nat.add_zero, Nat.reduceAdd, List.append_nil] at hR9
                  refine WL.nil ?_
                  refine th_norm ?_
                  refine hx_ret ?_
                  refine fin_marks (.inr rfl) [.cell 8 4] rfl rfl hmk9 ?_
                  intro h5 hg5
                  have hR5 := hR9.gs hg5 (fun hh => by have := hmk9.df _ hh; have h8 : some (Obj.deferred (some [])) = _ := this.symm.trans hR9; cases h8)
                  exact ⟨[.bool true], by simp only [resv, ld4, readN, AR, Nat.zero_add, Nat.reduceAdd, EN, Nat.reduceEqDiff, reduceIte, k5_3, k6_3, k7_3, k8_3, k9_3, k10_3, k11_3, k12_3, k13_3, decide_true, Bool.not_true, Bool.not_false, decide_false, eq_self, hA.cell, hQ1.cell, hQ2.cell, hQ3.cell, c1.cell, c2.cell, c3.cell, hR5.cell] <;> rfl, rfl, hg5.toExt hE9z hmk9.lo⟩
end GL
namespace Go.Proofs.Ytklhfckdifkpaaa.historyIterators
open Go.ChangeShapes Go.WideShapes Go.ChangeAt Go.RowKit
theorem own : ownKnob Try.prog.godebug = none := by kernel_rfl
theorem laid : laidOutB Try.prog = true := by kernel_rfl
set_option maxRecDepth 100000 in
theorem lifted (os : Os) (started : os.Started) (H : Type) (enc : TypeId × Value → H) :
    ReturnsInHanded {} Try.checked os 7 .any (Rows.historyIteratorsSpec.pre6 enc Try.prog Try.f7 Rows.historyIteratorsRow.domain false) (Rows.historyIteratorsSpec.post enc Try.prog Try.f7 false true false false) := by
  refine returnsInHanded_of_change (C := Try.checked) own started (by kernel_rfl) Try.func7
    (ChangeSpec.witness6 (enc := enc) (C := Try.checked) false ⟨#[], #[(.slice none 0 0), (.agg #[(.string ⟨#[]⟩), (.int .i64 0), (.string ⟨#[]⟩)]), (.int .i64 0), (.string ⟨#[]⟩)], []⟩ 8 (by kernel_rfl) (by kernel_rfl) (by kernel_rfl) (by kernel_rfl)) ?_
  intro W base args ds gs before hval0 hW hcnd _
  have hval : ∀ (j : Nat) t v, Try.f7.params[j]? = some t → args[j]? = some v → Value.okWide Try.prog W .any base t v := hval0
  have hW' := hW
  obtain ⟨p, q, hA0, hV, rfl, hfz, hnd⟩ := hW
  have hA : DataW.TrodAll enc Try.prog W 0 (fun _ => true) true Try.f7.params.toList args.toList ds p := hA0
  rw [Try.params7] at hA hval
  obtain ⟨v0, vs0, d0, ds0, p0, q0, hargs, rfl, rfl, h0, r0⟩ := trodAll_cons hA
  obtain ⟨v1, vs1, d1, ds1, p1, q1, rfl, rfl, rfl, h1, r1⟩ := trodAll_cons r0
  obtain ⟨v2, vs2, d2, ds2, p2, q2, rfl, rfl, rfl, h2, r2⟩ := trodAll_cons r1
  obtain ⟨v3, vs3, d3, ds3, p3, q3, rfl, rfl, rfl, h3, r3⟩ := trodAll_cons r2
  obtain ⟨rfl, rfl, rfl⟩ := trodAll_nil r3
  obtain rfl : args = #[v0, v1, v2, v3] := by cases args; simp_all
  obtain ⟨rfl, rfl⟩ := trodVars_none hV
  obtain ⟨al, l, cl, rfl, hl, hb, hll⟩ := GL.view_bs (hval 0 22 v0 rfl rfl) h0
  obtain ⟨q, rfl⟩ := GL.view_ac (hval 1 24 v1 rfl rfl) h1
  obtain ⟨d, rfl, _, _⟩ := GL.view_i (hval 2 3 v2 rfl rfl) h2
  obtain ⟨s, rfl⟩ := GL.view_s (hval 3 9 v3 rfl rfl) h3
  exact GL.law_done (tb := 4) laid (by kernel_rfl) rfl (by kernel_rfl) Try.underlying4 hW' rfl (GL.l_iter al l cl q d s hl hb hll)
theorem over : Rows.historyIteratorsRow.holds Try.pinned (OpenSpec.ofChange Rows.historyIteratorsSpec) :=
  OpenClaim.holds_of_wide 7 Try.f7 rfl rfl rfl rfl rfl rfl rfl ⟨rfl, rfl, rfl, rfl, rfl⟩ rfl rfl rfl rfl rfl (by kernel_rfl) Try.func7 (by kernel_rfl)
    (of_decide_eq_true (by kernel_rfl)) (by unfold Func.isWrapper; first | (rw [if_pos (by decide +kernel)]; kernel_rfl) | (rw [if_neg (by decide +kernel)]; exact ⟨rfl, rfl⟩))
    (fun os started H enc _ => lifted os started H enc)
theorem proved : Rows.HistoryIteratorsSaid := over
end Go.Proofs.Ytklhfckdifkpaaa.historyIterators


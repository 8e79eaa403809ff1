/- History: the iterators over the bundles that satisfy a condition. -/
import Derived.Test.YtklhfckdifkpaaaHisO
import Derived.Test.YtklhfckdifkpaaaHisP
set_option linter.unusedSimpArgs false
set_option linter.unusedVariables false
set_option linter.unnecessarySimpa false
namespace GL
open Go Go.Proofs
set_option maxRecDepth 8000
abbrev tyAcc : TypeId := 35
abbrev tyBo : TypeId := 4
/-! The conditions. -/
def posts (q : AC) (b : HB) : Bool := (pos b).any fun y => decide (y.c = q)
theorem posts_iff {q : AC} {b : HB} : posts q b = true ↔ ∃ y ∈ pos b, y.c = q := by simp [posts]
theorem posts_no {q : AC} {b : HB} (h : ∀ y ∈ pos b, y.c ≠ q) : posts q b = false := by
  rw [← Bool.not_eq_true, posts_iff]
  rintro ⟨y, hy, hq⟩; exact h y hy hq
theorem posts_yes {q : AC} {b : HB} {y : PO} (hy : y ∈ pos b) (hq : y.c = q) : posts q b = true := posts_iff.2 ⟨y, hy, hq⟩
def refers (s : ByteArray) (b : HB) : Bool := b.pts.any fun p => decide (p.r = s)
structure KA (h0 h7 : Heap) (B : Nat) (rec : Loop) (v : Bool) (hx : Heap) : Prop where
  rx : RX h0 h7 [B] rec hx
  b : Has hx B (.cells #[.bool v] tyBo)
set_option maxHeartbeats 2000000 in
theorem c_okAcc (q : AC) (B : Nat) (x : BX) (hlen : x.ps.length ≤ 1000000 ∧ ∀ p ∈ x.ps, p.ps.length ≤ 1000000) {h : Heap} (hbi : BXin h x) (hB : Has h B (.cells (acL q).toArray tyAcc)) :
    HCalls Try.prog 51 #[.agg (bdL x).toArray, .pointer (some ⟨B, 0, none⟩)] h (Grow (.bool (posts q x.bd)) h) := by
  have kbi := hbi
  refine hcalls2 Try.func51 rfl (by decide +kernel) (by simp only [Try.ntmps51]; exact of_decide_eq_true rfl) ?_
  intro e hin
  have e0 := hin 0 _ rfl
  have e1 := hin 1 _ rfl
  refine hx_seq ?_
  refine hx_region ?_
  refine WL.box2 (by simp only [EN, Nat.reduceEqDiff, reduceIte, Value.cells, e0, hB.cell, strEq]; rfl) ?_
  intro h1 B1 hx1 hlt1 hB1
  replace hbi := hbi.ext hx1
  replace hB := hB.ext hx1
  refine WL.alloc2 zr4 ?_
  intro h2 B2 hx2 hlt2 hB2
  replace hbi := hbi.ext hx2
  replace hB := hB.ext hx2
  replace hB1 := hB1.ext hx2
  simp only [Value.cells] at hB2
  refine WL.nil ?_
  refine th_norm ?_
  refine hx_seq ?_
  refine hx_seq ?_
  refine hx_region ?_
  have k1 := (Array.getElem?_eq_some_iff.1 hB1).1; have k2 := (Array.getElem?_eq_some_iff.1 hB2).1; have kz1 := hx1.size
  refine WL.qq (by simp only [EN, Nat.reduceEqDiff, reduceIte, qv_load, ld55, readN, AR, Nat.zero_add, Nat.reduceAdd, hB.cell, strEq, hB1.cell, hB2.cell]; rfl) ?_
  refine WL.ce Try.call48 (by simp only [EN, Nat.reduceEqDiff, reduceIte, AR, hB.cell, strEq, hB1.cell, hB2.cell]; exact c_post x _) ?_
  rintro _ h3 ⟨hx3, B9, rfl, hlt9, hB9⟩
  replace hbi := hbi.ext hx3
  replace hB := hB.ext hx3
  replace hB1 := hB1.ext hx3
  replace hB2 := hB2.ext hx3
  simp only [put_some]
  refine WL.nil ?_
  refine th_norm ?_
  refine hx_block ?_
  refine hx_range (by simp only [EN, Nat.reduceEqDiff, reduceIte, e0, e1, hB.cell, strEq, hB1.cell, hB2.cell]; rfl) Try.call67 ?_
  intro fnR0 hR0 hxR0 hsR0 hdR0 hrR0
  have hXL := ((hx1).trans ((hx2).trans (hx3)))
  have kzL := hXL.size
  have hq0 := (Array.getElem?_eq_some_iff.1 hB).1
  have hq2 := (Array.getElem?_eq_some_iff.1 hB2).1
  have hq9 := (Array.getElem?_eq_some_iff.1 hB9).1
  have hn02 : B ≠ B2 := hB.ncell hB2 (by decide)
  have hn92 : B9 ≠ B2 := hB9.ncell hB2 (by decide)
  generalize hrec : recOf _ _ _ _ _ _ _ = rec at hrR0
  refine (c_postYield x B9 (h3.size + 1) (fun j hy => KA h h3 B2 rec false hy ∧ ∀ y ∈ (pos x.bd).take j, y.c ≠ q) (fun hy => KA h h3 B2 { rec with state := .done, pending := some .ret } true hy ∧ posts q x.bd = true) hlen ?_ ?_ ?_ ?_).mono ?_
  · rintro j h1 h2 ⟨⟨q1, q2⟩, q3⟩ he; exact ⟨⟨q1.ext he, q2.ext he⟩, q3⟩
  · rintro j hy ⟨⟨q1, q2⟩, q3⟩; exact ⟨hB9.gs q1.gs (by simp; omega), kbi.ext q1.ex⟩
  rotate_left
  · exact ⟨⟨RX.start hxR0 hsR0 hdR0 hrR0 hXL (by simp; omega) (by simp; omega), hB2.ext hxR0⟩, by simp⟩
  rotate_left
  ·
    rintro j y hy hyj ⟨⟨hC, hT⟩, hno⟩
    have hsz := hC.size
    subst hrec
    refine hy_body (vs := [.agg (poL y).toArray]) (ps := [7]) hC.rc rfl rfl rfl (by decide) rfl rfl ?_
    simp only [pars, List.zip_cons_cons, List.zip_nil_left, List.foldl_cons, List.foldl_nil]
    have hD := hB.gs hC.gs (by simp; omega)
    refine hx_region ?_
    refine WL.allocSt zr74 sz74 (fun u => by simp only [EN, Nat.reduceEqDiff, reduceIte, Value.cells, hB.cell, strEq, hB1.cell, hB2.cell, hD.cell]; rfl) ⟨rfl, rfl⟩ (by simp [Value.oneCell']) ?_
    intro h4 B4 hx4 hlt4 hB4
    replace hC := hC.ext hx4
    replace hT := hT.ext hx4
    replace hD := hD.ext hx4
    refine WL.nil ?_
    refine th_norm ?_
    refine ⟨_, hC.rc, rfl, ?_⟩
    intro h20 hw20
    replace hC := hC.turn hw20
    replace hT := hT.wr hw20 (by omega)
    replace hD := hD.wr hw20 (by omega)
    replace hB4 := hB4.wr hw20 (by omega)
    refine hx_block ?_
    refine hx_seq ?_
    refine hx_region ?_
    refine WL.qq (by simp only [EN, Nat.reduceEqDiff, reduceIte, qv_fieldAddr, fa74_0, Nat.zero_add, Nat.reduceAdd, hB.cell, strEq, hB1.cell, hB2.cell, hD.cell, hB4.cell]; rfl) ?_
    refine WL.qq (by simp only [EN, Nat.reduceEqDiff, reduceIte, qv_load, ld35, readN, AR, Nat.zero_add, Nat.reduceAdd, hB.cell, strEq, hB1.cell, hB2.cell, hD.cell, hB4.cell]; rfl) ?_
    refine WL.qq (by simp only [EN, Nat.reduceEqDiff, reduceIte, qv_load, ld35, readN, AR, Nat.zero_add, Nat.reduceAdd, e1, hB.cell, strEq, hB1.cell, hB2.cell, hD.cell, hB4.cell]; rfl) ?_
    refine WL.qq (by simp only [EN, Nat.reduceEqDiff, reduceIte, qv_binOp, binv_eql, eqs35, Option.map_some, hB.cell, strEq, hB1.cell, hB2.cell, hD.cell, hB4.cell]; rfl) ?_
    refine WL.nil ?_
    refine th_norm ?_
    refine hx_cond (by simp only [EN, Nat.reduceEqDiff, reduceIte, hB.cell, strEq, hB1.cell, hB2.cell, hD.cell, hB4.cell]; rfl) (fun hct11 => ?_) (fun hct11 => ?_)
    ·
      try simp only [BD] at hct11
      have hq : y.c = q := (by simpa [ac_eq] using hct11)
      refine hx_seq ?_
      refine hx_region ?_
      refine WL.store (by simp only [EN, Nat.reduceEqDiff, reduceIte, hB.cell, strEq, hB1.cell, hB2.cell, hD.cell, hB4.cell] <;> rfl) sz4 (by simp only [EN, Nat.reduceEqDiff, reduceIte, Value.cells, hB.cell, strEq, hB1.cell, hB2.cell, hD.cell, hB4.cell] <;> rfl) rfl hT (by first | (simp [true_and]; done) | (simp [true_and]; omega) | omega) (by simp [Value.oneCell']) ?_
      intro h5 hw5
      replace hC := hC.put hw5 (.inl (by simp))
      have hT2 := hw5.at_
      simp only [splc, List.take_succ_cons, List.take_zero, List.take_nil, List.drop_succ_cons, List.drop_zero, List.drop_nil, List.cons_append, List.nil_append, List.length_cons, List.length_nil, Nat.zero_add, Nat.add_zero, Nat.reduceAdd, List.append_nil] at hT2
      refine WL.nil ?_
      refine th_norm ?_
      refine hx_ret ?_
      refine bl_ret ?_
      refine ⟨_, hC.rc, ?_⟩
      intro h30 hw30
      exact ⟨false, rfl, fun hh => (by cases hh), fun _ => ⟨⟨hC.turn hw30, hT2.wr hw30 (by omega)⟩, posts_yes (List.mem_of_getElem? hyj) hq⟩⟩
    ·
      try simp only [BD] at hct11
      have hq : y.c ≠ q := fun hh => (by rw [ac_eq] at hh; simp [hh] at hct11)
      refine hx_skip ?_
      refine bl_norm ?_
      refine ⟨_, hC.rc, ?_⟩
      intro h30 hw30
      exact ⟨true, rfl, fun _ => ⟨⟨hC.turn hw30, hT.wr hw30 (by omega)⟩, all_take hno hyj hq⟩, fun hh => by cases hh⟩
  ·
    rintro v0 hP (⟨⟨hC, hT⟩, hno⟩ | ⟨⟨hC, hT⟩, hyes⟩)
    rotate_left
    · refine after_any hC.rc rfl (.inr ⟨rfl, ?_⟩)
      intro h4 o hw4
      replace hT := hT.wr hw4 (by omega)
      have hd4 : h4[Array.size h3]? = some (.deferred (some [])) := (by rw [hw4.same _ (by omega)]; exact hC.df)
      have hE4 := (hC.end_ hw4 (by omega)).2
      repeat (first | refine bl_ret ?_ | refine th_ret ?_)
      refine fin_mark (.inr rfl) [.cell 3 4] rfl rfl hd4 ?_
      intro h5 hw5
      replace hT := hT.wr hw5 (by omega)
      rw [hyes]
      exact ⟨[.bool true], by simp only [resv, ld4, readN, AR, Nat.zero_add, Nat.reduceAdd, EN, Nat.reduceEqDiff, reduceIte, e0, e1, hB.cell, strEq, hB1.cell, hB2.cell, hT.cell], rfl, hw5.ext hE4 (by omega)⟩
    refine after_any hC.rc (by subst hrec; rfl) (.inl ⟨by subst hrec; rfl, ?_⟩)
    intro h31 o hw31
    rw [List.take_length] at hno
    replace hT := hT.wr hw31 (by omega)
    have hd31 : h31[Array.size h3]? = some (.deferred (some [])) := (by rw [hw31.same _ (by omega)]; exact hC.df)
    have hE31 := (hC.end_ hw31 (by omega)).2
    refine bl_norm ?_
    refine th_norm ?_
    refine hx_seq ?_
    refine hx_region ?_
    refine WL.store (by simp only [EN, Nat.reduceEqDiff, reduceIte, hB.cell, strEq, hB1.cell, hB2.cell] <;> rfl) sz4 (by simp only [EN, Nat.reduceEqDiff, reduceIte, Value.cells, hB.cell, strEq, hB1.cell, hB2.cell] <;> rfl) rfl hT (by first | (simp [true_and]; done) | (simp [true_and]; omega) | omega) (by simp [Value.oneCell']) ?_
    intro h6 hw6
    have hT2 := hw6.at_
    have hd5 := (hw6.same _ (show Array.size _ ≠ B2 by omega)).trans hd31
    have hE5 := hw6.ext hE31 (by omega)
    simp only [splc, List.take_succ_cons, List.take_zero, List.take_nil, List.drop_succ_cons, List.drop_zero, List.drop_nil, List.cons_append, List.nil_append, List.length_cons, List.length_nil, Nat.zero_add, Nat.add_zero, Nat.reduceAdd, List.append_nil] at hT2
    refine WL.nil ?_
    refine th_norm ?_
    refine hx_ret ?_
    refine fin_mark (.inr rfl) [.cell 3 4] rfl rfl hd5 ?_
    intro h5 hw5
    replace hT2 := hT2.wr hw5 (by omega)
    rw [posts_no hno]
    exact ⟨[.bool false], by simp only [resv, ld4, readN, AR, Nat.zero_add, Nat.reduceAdd, EN, Nat.reduceEqDiff, reduceIte, e0, e1, hB.cell, strEq, hB1.cell, hB2.cell, hT2.cell], rfl, hw5.ext hE5 (by omega)⟩
theorem c_okDay (d : Int) (B : Nat) (x : BX) {h : Heap} (hB : Has h B (.cells #[iV d] 3)) :
    HCalls Try.prog 52 #[.agg (bdL x).toArray, .pointer (some ⟨B, 0, none⟩)] h (Grow (.bool (decide (x.day = d))) h) := by
  refine hcalls2 Try.func52 rfl (by decide +kernel) (by simp only [Try.ntmps52]; exact of_decide_eq_true rfl) ?_
  intro e hin
  have e0 := hin 0 _ rfl
  have e1 := hin 1 _ rfl
  refine hx_seq ?_
  refine hx_region ?_
  refine WL.box2 (by simp only [EN, Nat.reduceEqDiff, reduceIte, Value.cells, e0, hB.cell]; rfl) ?_
  intro h1 B1 hx1 hlt1 hB1
  replace hB := hB.ext hx1
  refine WL.qq (by simp only [EN, Nat.reduceEqDiff, reduceIte, qv_assign, hB.cell, hB1.cell]; rfl) ?_
  refine WL.nil ?_
  refine th_norm ?_
  refine hx_seq ?_
  refine hx_region ?_
  refine WL.qq (by simp only [EN, Nat.reduceEqDiff, reduceIte, qv_fieldAddr, fa55_1, Nat.zero_add, Nat.reduceAdd, hB.cell, hB1.cell]; rfl) ?_
  refine WL.qq (by simp only [EN, Nat.reduceEqDiff, reduceIte, qv_fieldAddr, fa41_0, Nat.zero_add, Nat.reduceAdd, hB.cell, hB1.cell]; rfl) ?_
  refine WL.qq (by simp only [EN, Nat.reduceEqDiff, reduceIte, qv_load, ld3, readN, AR, Nat.zero_add, Nat.reduceAdd, hB.cell, hB1.cell]; rfl) ?_
  refine WL.qq (by simp only [EN, Nat.reduceEqDiff, reduceIte, qv_load, ld3, readN, AR, Nat.zero_add, Nat.reduceAdd, e1, hB.cell, hB1.cell]; rfl) ?_
  refine WL.qq (by simp only [EN, Nat.reduceEqDiff, reduceIte, qv_binOp, binv_eql, eq3, Option.map_some, hB.cell, hB1.cell]; rfl) ?_
  refine WL.qq (by simp only [EN, Nat.reduceEqDiff, reduceIte, qv_assign, hB.cell, hB1.cell]; rfl) ?_
  refine WL.nil ?_
  refine th_norm ?_
  refine hx_ret ?_
  refine fin_ret [.tmp 3] rfl rfl (by simp only [EN, Nat.reduceEqDiff, reduceIte, resv, e0, e1, hB.cell, hB1.cell]; rfl) ?_  -- ret 0 r1
  exact ⟨rfl, (hx1)⟩
theorem c_okRef1 (s : ByteArray) (B : Nat) (x : PX) {h : Heap} (hB : Has h B (.cells #[.string s] 9)) :
    HCalls Try.prog 55 #[.agg (ptL x).toArray, .pointer (some ⟨B, 0, none⟩)] h (Grow (.bool (decide (x.r = s))) h) := by
  refine hcalls2 Try.func55 rfl (by decide +kernel) (by simp only [Try.ntmps55]; exact of_decide_eq_true rfl) ?_
  intro e hin
  have e0 := hin 0 _ rfl
  have e1 := hin 1 _ rfl
  refine hx_seq ?_
  refine hx_region ?_
  refine WL.box2 (by simp only [EN, Nat.reduceEqDiff, reduceIte, Value.cells, e0, hB.cell, strEq]; rfl) ?_
  intro h1 B1 hx1 hlt1 hB1
  replace hB := hB.ext hx1
  refine WL.qq (by simp only [EN, Nat.reduceEqDiff, reduceIte, qv_assign, hB.cell, strEq, hB1.cell]; rfl) ?_
  refine WL.nil ?_
  refine th_norm ?_
  refine hx_seq ?_
  refine hx_region ?_
  refine WL.qq (by simp only [EN, Nat.reduceEqDiff, reduceIte, qv_fieldAddr, fa72_0, Nat.zero_add, Nat.reduceAdd, hB.cell, strEq, hB1.cell]; rfl) ?_
  refine WL.qq (by simp only [EN, Nat.reduceEqDiff, reduceIte, qv_load, ld9, readN, AR, Nat.zero_add, Nat.reduceAdd, hB.cell, strEq, hB1.cell]; rfl) ?_
  refine WL.qq (by simp only [EN, Nat.reduceEqDiff, reduceIte, qv_load, ld9, readN, AR, Nat.zero_add, Nat.reduceAdd, e1, hB.cell, strEq, hB1.cell]; rfl) ?_
  refine WL.qq (by simp only [EN, Nat.reduceEqDiff, reduceIte, qv_binOp, binv_eql, eq9, Option.map_some, hB.cell, strEq, hB1.cell]; rfl) ?_
  refine WL.qq (by simp only [EN, Nat.reduceEqDiff, reduceIte, qv_assign, hB.cell, strEq, hB1.cell]; rfl) ?_
  refine WL.nil ?_
  refine th_norm ?_
  refine hx_ret ?_
  refine fin_ret [.tmp 3] rfl rfl (by simp only [EN, Nat.reduceEqDiff, reduceIte, resv, e0, e1, hB.cell, strEq, hB1.cell]; rfl) ?_  -- ret 0 r1
  exact ⟨rfl, (hx1)⟩
def refI (s : ByteArray) (l : List PX) : Int := match l.findIdx? (fun p => decide (p.r = s)) with
  | some i => (i : Int)
  | none => -1
theorem refI_yes {s : ByteArray} {l : List PX} {i : Nat} {p : PX} (hno : ∀ y ∈ l.take i, y.r ≠ s) (hp : l[i]? = some p) (hs : p.r = s) : refI s l = (i : Int) := by
  have h1 : l.findIdx? (fun p => decide (p.r = s)) = some i := by
    rw [List.findIdx?_eq_some_iff_getElem]
    obtain ⟨hi, rfl⟩ := List.getElem?_eq_some_iff.1 hp
    refine ⟨hi, by simp [hs], fun j hj => ?_⟩
    have : l[j] ∈ l.take i := List.mem_take_iff_getElem.2 ⟨j, by omega, rfl⟩
    simpa using hno _ this
  rw [refI, h1]
theorem refI_no {s : ByteArray} {l : List PX} (hno : ∀ y ∈ l, y.r ≠ s) : refI s l = -1 := by
  have h1 : l.findIdx? (fun p => decide (p.r = s)) = none := by
    rw [List.findIdx?_eq_none_iff]
    intro y hy; simpa using hno y hy
  rw [refI, h1]
theorem c_refIdx (s : ByteArray) (B : Nat) (a : Option Addr) (l : List PX) (c : Nat) (hl : l.length ≤ 1000000) {h : Heap} (hs : SlG 2 ptL h a l) (hB : Has h B (.cells #[.string s] 9)) :
    HCalls Try.prog 70 #[.slice a l.length c, .func (.func 55) #[] #[.pointer (some ⟨B, 0, none⟩)]] h (Grow (iV (refI s l)) h) := by
  refine hcalls2 Try.func70 rfl (by decide +kernel) (by simp only [Try.ntmps70]; exact of_decide_eq_true rfl) ?_
  intro e hin
  have e0 := hin 0 _ rfl
  have e1 := hin 1 _ rfl
  refine hx_seq ?_
  refine hx_region ?_
  refine WL.qq (by simp only [EN, Nat.reduceEqDiff, reduceIte, qv_assign]; rfl) ?_
  refine WL.nil ?_
  refine th_norm ?_
  refine hx_seq ?_
  refine hx_seq ?_
  refine hx_region ?_
  refine WL.qq (by simp only [EN, Nat.reduceEqDiff, reduceIte, qv_move, e0]; rfl) ?_
  refine WL.qq (by simp only [EN, Nat.reduceEqDiff, reduceIte, qv_len, ln53, AR]; rfl) ?_
  refine WL.qq (by simp only [EN, Nat.reduceEqDiff, reduceIte, qv_move]; rfl) ?_
  refine WL.nil ?_
  refine th_norm ?_
  refine hx_block ?_
  refine hx_loopX [4, 5, 8, 9, 10, 11, 12, 13, 14, 15, 16, 17, 18] (fun k e => ∃ (i : Nat), l.length - i = k ∧ (i ≤ l.length) ∧ ((∀ y ∈ l.take i, y.r ≠ s)) ∧ e 8 = .int .i64 i) _ ⟨0, rfl, ?_, ?_, ?_⟩ ?_
  · omega
  · intro y hy; simp at hy
  · simp only [EN, Nat.reduceEqDiff, reduceIte, e0, e1] <;> rfl
  ·
    rintro k e0L hL0 hX0 hfr0 ⟨i, rfl, hi, hno, i8_0⟩
    replace hs := hs.ext hX0
    replace hB := hB.ext hX0
    have k0_0 := hfr0 0 rfl; try simp only [EN, Nat.reduceEqDiff, reduceIte, e0] at k0_0
    have k1_0 := hfr0 1 rfl; try simp only [EN, Nat.reduceEqDiff, reduceIte, e1] at k1_0
    have k7_0 := hfr0 7 rfl; try simp only [EN, Nat.reduceEqDiff, reduceIte] at k7_0
    refine hx_seq ?_
    refine hx_region ?_
    refine WL.qq (by simp only [EN, Nat.reduceEqDiff, reduceIte, qv_binOp, binv_lss, k7_0, i8_0]; rfl) ?_
    refine WL.nil ?_
    refine th_norm ?_
    refine hx_seq ?_
    refine hx_cond (by simp only [EN, Nat.reduceEqDiff, reduceIte]; rfl) (fun hct9 => ?_) (fun hct9 => ?_)
    ·
      try simp only [BD] at hct9
      obtain ⟨x, hx⟩ := atG (l := l) (i := i) (by omega)
      obtain ⟨b1, o1, ha1, hr2, _⟩ := pt_rd hs hx
      refine hx_skip ?_
      refine th_norm ?_
      refine hx_seq ?_
      refine hx_block ?_
      refine hx_seq ?_
      refine hx_region ?_
      refine WL.qq (by simp only [EN, Nat.reduceEqDiff, reduceIte, qv_move, i8_0]; rfl) ?_
      refine WL.qq (by simp only [EN, Nat.reduceEqDiff, reduceIte, qv_assign]; rfl) ?_
      refine WL.nil ?_
      refine th_norm ?_
      refine hx_seq ?_
      refine hx_region ?_
      refine WL.qq (by simp only [EN, Nat.reduceEqDiff, reduceIte, qv_move, k1_0]; rfl) ?_
      refine WL.qq (by simp only [EN, Nat.reduceEqDiff, reduceIte, qv_move, k0_0]; rfl) ?_
      refine WL.qq (by simp only [EN, Nat.reduceEqDiff, reduceIte, qv_move]; rfl) ?_
      refine WL.qq (by simp only [EN, Nat.reduceEqDiff, reduceIte, qv_indexAddr, ha1]; (try simp (disch := omega) only [ix53, Int.toNat_natCast]); rfl) ?_
      refine WL.qq (by simp only [EN, Nat.reduceEqDiff, reduceIte, k0_0, k1_0, k7_0, i8_0, qv_load, ld72, Int.toNat_natCast, hr2]; rfl) ?_
      refine WL.cf (f := 55) (first := #[]) (cap := #[.pointer (some ⟨B, 0, none⟩)]) (by simp only [EN, Nat.reduceEqDiff, reduceIte, k0_0, k1_0, k7_0, i8_0]) Try.call55 (by simp only [EN, Nat.reduceEqDiff, reduceIte, k0_0, k1_0, k7_0, i8_0, List.map_toArray, List.map_cons, List.map_nil, List.append_toArray, List.nil_append, List.cons_append]; exact c_okRef1 s B x hB) ?_
      rintro _ h1 ⟨rfl, hx1⟩
      simp only [put_some]
      replace hs := hs.ext hx1
      replace hB := hB.ext hx1
      refine WL.nil ?_
      refine th_norm ?_
      refine hx_cond (by simp only [EN, Nat.reduceEqDiff, reduceIte]; rfl) (fun hct16 => ?_) (fun hct16 => ?_)
      ·
        try simp only [BD] at hct16
        refine hx_seq ?_
        refine hx_region ?_
        refine WL.qq (by simp only [EN, Nat.reduceEqDiff, reduceIte, qv_move]; rfl) ?_
        refine WL.qq (by simp only [EN, Nat.reduceEqDiff, reduceIte, qv_assign]; rfl) ?_
        refine WL.nil ?_
        refine th_norm ?_
        refine hx_ret ?_
        refine bl_ret ?_
        refine th_ret ?_
        refine th_ret ?_
        refine bl_ret ?_
        refine th_ret ?_
        refine fin_ret [.tmp 4] rfl rfl (by simp only [EN, Nat.reduceEqDiff, reduceIte, resv, k0_0, k1_0, k7_0, i8_0]; rfl) ?_  -- ret 0 r5
        exact ⟨by simp only [retOf]; rw [refI_yes hno hx (by simpa using hct16)], ((hX0).trans (hx1))⟩
      ·
        try simp only [BD] at hct16
        refine hx_skip ?_
        refine bl_norm ?_
        refine th_norm ?_
        refine hx_region ?_
        refine WL.qq (by simp only [EN, Nat.reduceEqDiff, reduceIte, qv_binOp, binv_add, i8_0]; (try simp (disch := omega) only [w64, w8, wu64]); rfl) ?_
        refine WL.qq (by simp only [EN, Nat.reduceEqDiff, reduceIte, qv_move]; rfl) ?_
        refine WL.nil ?_
        refine th_norm ?_
        refine ⟨rfl, ?_, ?_, _, ?_, i + 1, rfl, ?_, ?_, ?_⟩  -- again 0 of loop 0
        · exact hx1
        · (repeat (first | exact Fr.refl _ _ | refine Fr.set rfl ?_ | refine Fr.put rfl ?_ | with_reducible refine Fr.put0 ?_))
        · omega
        · omega
        · exact all_take hno hx (by simpa using hct16)
        · simp only [EN, Nat.reduceEqDiff, reduceIte, k0_0, k1_0, k7_0, i8_0] <;> first | rfl | (congr 1; omega)
    ·
      try simp only [BD] at hct9
      refine hx_exit ?_
      refine th_exit ?_
      refine th_exit ?_
      refine bl_hit ?_
      refine th_norm ?_
      refine hx_seq ?_
      refine hx_region ?_
      refine WL.qq (by simp only [EN, Nat.reduceEqDiff, reduceIte, qv_assign]; rfl) ?_
      refine WL.nil ?_
      refine th_norm ?_
      refine hx_ret ?_
      refine fin_ret [.tmp 4] rfl rfl (by simp only [EN, Nat.reduceEqDiff, reduceIte, resv, k0_0, k1_0, k7_0, i8_0]; rfl) ?_  -- ret 1 r7
      exact ⟨by simp only [retOf]; rw [refI_no (all_end hno (by omega))], (hX0)⟩
theorem refI_ge {s : ByteArray} {l : List PX} : decide (0 ≤ refI s l) = l.any fun p => decide (p.r = s) := by
  rw [Bool.eq_iff_iff, decide_eq_true_iff, List.any_eq_true]
  constructor
  · intro h
    by_cases h1 : ∃ y ∈ l, y.r = s
    · obtain ⟨y, hy, hs⟩ := h1; exact ⟨y, hy, by simpa using hs⟩
    · rw [refI_no fun y hy hs => h1 ⟨y, hy, hs⟩] at h; omega
  · rintro ⟨y, hy, hs⟩
    unfold refI
    split
    · omega
    · rename_i h1
      rw [List.findIdx?_eq_none_iff] at h1
      have := h1 y hy
      rw [this] at hs; cases hs
theorem c_okRef (s : ByteArray) (B : Nat) (x : BX) (hlen : x.ps.length ≤ 1000000) {h : Heap} (hbi : BXin h x) (hB : Has h B (.cells #[.string s] 9)) :
    HCalls Try.prog 53 #[.agg (bdL x).toArray, .pointer (some ⟨B, 0, none⟩)] h (Grow (.bool (refers s x.bd)) h) := by
  have hc : ∀ {h : Heap}, SlG 2 ptL h x.a x.ps → Has h B (.cells #[.string s] 9) → HCalls Try.prog 54 #[.slice x.a x.ps.length x.c, .func (.func 55) #[] #[.pointer (some ⟨B, 0, none⟩)]] h (Grow (.bool (x.ps.any fun p => decide (p.r = s))) h) := by
    intro h hs hB
    refine hcalls2 Try.func54 rfl (by decide +kernel) (by simp only [Try.ntmps54]; exact of_decide_eq_true rfl) ?_
    intro e hin
    have e0 := hin 0 _ rfl
    have e1 := hin 1 _ rfl
    refine hx_seq ?_
    refine hx_region ?_
    refine WL.qq (by simp only [EN, Nat.reduceEqDiff, reduceIte, qv_assign]; rfl) ?_
    refine WL.nil ?_
    refine th_norm ?_
    refine hx_seq ?_
    refine hx_region ?_
    refine WL.qq (by simp only [EN, Nat.reduceEqDiff, reduceIte, qv_move, e0]; rfl) ?_
    refine WL.qq (by simp only [EN, Nat.reduceEqDiff, reduceIte, qv_move, e1]; rfl) ?_
    refine WL.cg Try.call70 (by simp only [EN, Nat.reduceEqDiff, reduceIte, AR]; exact c_refIdx s B x.a x.ps x.c hlen hs hB) ?_
    intro h1 hx1
    replace hs := hs.ext hx1
    replace hB := hB.ext hx1
    refine WL.qq (by simp only [EN, Nat.reduceEqDiff, reduceIte, qv_binOp, binv_geq, refI_ge]; rfl) ?_
    refine WL.qq (by simp only [EN, Nat.reduceEqDiff, reduceIte, qv_assign]; rfl) ?_
    refine WL.nil ?_
    refine th_norm ?_
    refine hx_ret ?_
    refine fin_ret [.tmp 4] rfl rfl (by simp only [EN, Nat.reduceEqDiff, reduceIte, resv, e0, e1]; rfl) ?_  -- ret 0 r1
    exact ⟨rfl, (hx1)⟩
  have hr : refers s x.bd = x.ps.any fun p => decide (p.r = s) := by
    simp only [refers, BX.bd, List.any_map]; rfl
  rw [hr]
  refine hcalls2 Try.func53 rfl (by decide +kernel) (by simp only [Try.ntmps53]; exact of_decide_eq_true rfl) ?_
  intro e hin
  have e0 := hin 0 _ rfl
  have e1 := hin 1 _ rfl
  refine hx_seq ?_
  refine hx_region ?_
  refine WL.box2 (by simp only [EN, Nat.reduceEqDiff, reduceIte, Value.cells, e0]; rfl) ?_
  intro h1 B1 hx1 hlt1 hB1
  replace hbi := hbi.ext hx1
  replace hB := hB.ext hx1
  refine WL.qq (by simp only [EN, Nat.reduceEqDiff, reduceIte, qv_assign, hB1.cell]; rfl) ?_
  refine WL.nil ?_
  refine th_norm ?_
  refine hx_seq ?_
  refine hx_region ?_
  refine WL.qq (by simp only [EN, Nat.reduceEqDiff, reduceIte, qv_fieldAddr, fa55_2, Nat.zero_add, Nat.reduceAdd, hB1.cell]; rfl) ?_
  refine WL.qq (by simp only [EN, Nat.reduceEqDiff, reduceIte, qv_load, ld53, readN, AR, Nat.zero_add, Nat.reduceAdd, hB1.cell]; rfl) ?_
  refine WL.qq (by simp only [EN, Nat.reduceEqDiff, reduceIte, qv_makeFunc, AR, e1, hB1.cell]; rfl) ?_
  refine WL.cg Try.call54 (by simp only [EN, Nat.reduceEqDiff, reduceIte, AR, hB1.cell]; exact hc hbi.1 hB) ?_
  intro h2 hx2
  replace hbi := hbi.ext hx2
  replace hB := hB.ext hx2
  replace hB1 := hB1.ext hx2
  refine WL.qq (by simp only [EN, Nat.reduceEqDiff, reduceIte, qv_assign, hB1.cell]; rfl) ?_
  refine WL.nil ?_
  refine th_norm ?_
  refine hx_ret ?_
  refine fin_ret [.tmp 3] rfl rfl (by simp only [EN, Nat.reduceEqDiff, reduceIte, resv, e0, e1, hB1.cell]; rfl) ?_  -- ret 0 r1
  exact ⟨rfl, ((hx1).trans (hx2))⟩
/-! The iterator. -/
set_option maxHeartbeats 2000000 in
theorem c_whereYield {av : Option Addr} {xs : List BX} {cap p Bh Bf lp fo : Nat} {cp : Array Value} {l : List HB} (ok : HB → Bool) (J : Nat → Heap → Prop) (S : Heap → Prop) (hxl : xs.map BX.bd = l) (hg : GS l)
    (hcf : ∀ args w, (callFunc fo args).run Try.prog w = .ok (.enter fo args) w)
    (hX : ∀ i h h', J i h → Ext h h' → J i h')
    (hJ : ∀ i h, J i h → Has h Bh (.cells #[ptr p] 27) ∧ Has h Bf (.cells #[.func (.func fo) #[] cp] 108) ∧ Has h p (.cells #[.slice av xs.length cap] tyH) ∧ SlG 4 bdL h av xs ∧ BXs h xs)
    (hok : ∀ i x h, J i h → x ∈ xs → BXin h x → HCalls Try.prog fo (#[.agg (bdL x).toArray] ++ cp) h (Grow (.bool (ok x.bd)) h))
    (hst : ∀ i b h, l[i]? = some b → ok b = false → J i h → J (i + 1) h)
    (hy : ∀ i y hi h, l[i]? = some y.bd → ok y.bd = true → J i hi → J i h → BXr (fun g => hi.size ≤ g) h y → HY Try.prog lp #[.agg (bdL y).toArray] h fun v h' => ∃ b : Bool, v = .bool b ∧ (b = true → J (i + 1) h') ∧ (b = false → S h'))
    {h : Heap} (h0 : J 0 h) : HCalls Try.prog 69 #[.func (.yield lp) #[] #[], .pointer (some ⟨Bh, 0, none⟩), .pointer (some ⟨Bf, 0, none⟩)] h fun _ h' => J l.length h' ∨ S h' := by
  obtain ⟨hBh, hBf, hp, hsx, hbx⟩ := hJ 0 h h0
  have hx12 : xs.length ≤ 12 := by have := hg.n; rw [← hxl] at this; simpa using this
  have hxn : xs.length = l.length := by rw [← hxl, List.length_map]
  refine hcalls2 Try.func69 rfl (by decide +kernel) (by simp only [Try.ntmps69]; exact of_decide_eq_true rfl) ?_
  intro e hin
  have e0 := hin 0 _ rfl
  have e1 := hin 1 _ rfl
  have e2 := hin 2 _ rfl
  refine hx_seq ?_
  refine hx_seq ?_
  refine hx_region ?_
  refine WL.qq (by simp only [EN, Nat.reduceEqDiff, reduceIte, qv_load, ld27, readN, AR, Nat.zero_add, Nat.reduceAdd, e1, hBh.cell, hp.cell]; rfl) ?_
  refine WL.qq (by simp only [EN, Nat.reduceEqDiff, reduceIte, qv_binOp, binv_eql, eqz27, eqn27, eqm27, Option.map_some, hBh.cell, hp.cell]; rfl) ?_
  refine WL.nil ?_
  refine th_norm ?_
  refine hx_cond (by simp only [EN, Nat.reduceEqDiff, reduceIte, hBh.cell, hp.cell]; rfl) (fun hct7 => ?_) (fun hct7 => ?_)
  ·
    simp at hct7
  ·
    try simp only [BD] at hct7
    refine hx_skip ?_
    refine th_norm ?_
    refine hx_seq ?_
    refine hx_region ?_
    refine WL.qq (by simp only [EN, Nat.reduceEqDiff, reduceIte, qv_load, ld27, readN, AR, Nat.zero_add, Nat.reduceAdd, e1, hBh.cell, hp.cell]; rfl) ?_
    refine WL.qq (by simp only [EN, Nat.reduceEqDiff, reduceIte, qv_nilCheck, hBh.cell, hp.cell]; rfl) ?_
    refine WL.qq (by simp only [EN, Nat.reduceEqDiff, reduceIte, qv_fieldAddr, fa93_0, Nat.zero_add, Nat.reduceAdd, hBh.cell, hp.cell]; rfl) ?_
    refine WL.qq (by simp only [EN, Nat.reduceEqDiff, reduceIte, qv_load, ld91, readN, AR, Nat.zero_add, Nat.reduceAdd, hBh.cell, hp.cell]; rfl) ?_
    refine WL.qq (by simp only [EN, Nat.reduceEqDiff, reduceIte, qv_len, ln91, AR, hBh.cell, hp.cell]; rfl) ?_
    refine WL.qq (by simp only [EN, Nat.reduceEqDiff, reduceIte, qv_move, hBh.cell, hp.cell]; rfl) ?_
    refine WL.nil ?_
    refine th_norm ?_
    refine hx_block ?_
    refine hx_loopG [5, 13, 14, 15, 16, 17, 18, 19, 20, 21, 22, 23, 24, 25, 26, 27] (fun k e hL0 => ∃ (i : Nat), xs.length - i = k ∧ (i ≤ xs.length) ∧ (KJ J hX i hL0) ∧ e 13 = .int .i64 i) _ ⟨0, rfl, ?_, ?_, ?_⟩ ?_
    · omega
    · exact ⟨h0⟩
    · simp only [EN, Nat.reduceEqDiff, reduceIte, e0, e1, e2, hBh.cell, hp.cell] <;> rfl
    ·
      rintro k e0L hL0 hfr0 ⟨i, rfl, hi, hJi, i13_0⟩
      have k0_0 := hfr0 0 rfl; try simp only [EN, Nat.reduceEqDiff, reduceIte, e0, hBh.cell, hp.cell] at k0_0
      have k2_0 := hfr0 2 rfl; try simp only [EN, Nat.reduceEqDiff, reduceIte, e2, hBh.cell, hp.cell] at k2_0
      have k11_0 := hfr0 11 rfl; try simp only [EN, Nat.reduceEqDiff, reduceIte, hBh.cell, hp.cell] at k11_0
      have k12_0 := hfr0 12 rfl; try simp only [EN, Nat.reduceEqDiff, reduceIte, hBh.cell, hp.cell] at k12_0
      refine hx_seq ?_
      refine hx_region ?_
      refine WL.qq (by simp only [EN, Nat.reduceEqDiff, reduceIte, qv_binOp, binv_lss, k12_0, i13_0, hBh.cell, hp.cell]; rfl) ?_
      refine WL.nil ?_
      refine th_norm ?_
      refine hx_seq ?_
      refine hx_cond (by simp only [EN, Nat.reduceEqDiff, reduceIte, hBh.cell, hp.cell]; rfl) (fun hct14 => ?_) (fun hct14 => ?_)
      ·
        try simp only [BD] at hct14
        obtain ⟨x, hx⟩ := atG (l := xs) (i := i) (by omega)
        obtain ⟨kB1, kB2, kp, ksx, kbx⟩ := hJ _ _ hJi.j
        obtain ⟨b1, o1, ha1, hr4, _⟩ := bd_rd ksx hx
        have hxb : l[i]? = some x.bd := (by rw [← hxl]; exact bd_at hx)
        have hxm := List.mem_of_getElem? hx; have hlx := (hg.f _ (List.mem_of_getElem? hxb)).lens
        refine hx_skip ?_
        refine th_norm ?_
        refine hx_seq ?_
        refine hx_block ?_
        refine hx_seq ?_
        refine hx_region ?_
        refine WL.qq (by simp only [EN, Nat.reduceEqDiff, reduceIte, qv_indexAddr, k11_0, i13_0, hBh.cell, hp.cell, ha1]; (try simp (disch := omega) only [ix91, Int.toNat_natCast]); rfl) ?_
        refine WL.qq (by simp only [EN, Nat.reduceEqDiff, reduceIte, k0_0, k2_0, k11_0, k12_0, i13_0, hBh.cell, hp.cell, qv_load, ld55, Int.toNat_natCast, hr4]; rfl) ?_
        refine WL.allocSt zr55 sz55 (fun u => by simp only [EN, Nat.reduceEqDiff, reduceIte, Value.cells, hBh.cell, hp.cell]; rfl) ⟨rfl, rfl⟩ (by simp [Value.oneCell']) ?_
        intro h1 B1 hx1 hlt1 hB1
        replace hJi := hJi.ext hx1
        refine WL.nil ?_
        refine th_norm ?_
        refine hx_seq ?_
        rcases Bool.eq_false_or_eq_true (ok x.bd) with hk | hk
        ·
          refine hx_region ?_
          obtain ⟨mB1, mB2, mp, msx, mbx⟩ := hJ _ _ hJi.j
          refine WL.qq (by simp only [EN, Nat.reduceEqDiff, reduceIte, qv_load, ld108, readN, AR, Nat.zero_add, Nat.reduceAdd, k2_0, hBh.cell, hp.cell, hB1.cell, mB2.cell]; rfl) ?_
          refine WL.qq (by simp only [EN, Nat.reduceEqDiff, reduceIte, qv_load, ld55, readN, AR, Nat.zero_add, Nat.reduceAdd, hBh.cell, hp.cell, hB1.cell]; rfl) ?_
          refine WL.cf (f := fo) (first := #[]) (cap := cp) (by simp only [EN, Nat.reduceEqDiff, reduceIte, k0_0, k2_0, k11_0, k12_0, i13_0, hBh.cell, hp.cell, hB1.cell]) hcf (by simp only [EN, Nat.reduceEqDiff, reduceIte, k0_0, k2_0, k11_0, k12_0, i13_0, hBh.cell, hp.cell, hB1.cell, List.map_toArray, List.map_cons, List.map_nil]; exact hok i x _ hJi.j hxm (mbx x hxm)) ?_
          rintro _ h60 ⟨rfl, hx60⟩
          simp only [put_some, hk]
          replace hJi := hJi.ext hx60
          replace hB1 := hB1.ext hx60
          refine WL.qq (by simp only [EN, Nat.reduceEqDiff, reduceIte, qv_move, hBh.cell, hp.cell, hB1.cell]; rfl) ?_
          refine WL.on (by rw [gOk_s (gd_at (t := 20) rfl (by simp only [EN, Nat.reduceEqDiff, reduceIte, k0_0, hBh.cell, hp.cell, hB1.cell] <;> rfl))]; rfl) ?_
          refine WL.qq (by simp only [EN, Nat.reduceEqDiff, reduceIte, qv_move, k0_0, hBh.cell, hp.cell, hB1.cell]; rfl) ?_
          refine WL.on (by rw [gOk_s (gd_at (t := 20) rfl (by simp only [EN, Nat.reduceEqDiff, reduceIte, hBh.cell, hp.cell, hB1.cell] <;> rfl))]; rfl) ?_
          refine WL.qq (by simp only [EN, Nat.reduceEqDiff, reduceIte, qv_load, ld55, readN, AR, Nat.zero_add, Nat.reduceAdd, hBh.cell, hp.cell, hB1.cell, hB1.cell]; rfl) ?_
          have hJ0 := hJi.j
          refine WL.on (by rw [gOk_s (gd_at (t := 20) rfl (by simp only [EN, Nat.reduceEqDiff, reduceIte, hBh.cell, hp.cell, hB1.cell] <;> rfl))]; rfl) ?_
          refine WL.ce Try.call49 (by simp only [EN, Nat.reduceEqDiff, reduceIte, AR, hBh.cell, hp.cell, hB1.cell]; exact c_clone x hlx ((hJ _ _ hJi.j).2.2.2.2 x hxm)) ?_
          rintro _ h2 ⟨hx2, y, rfl, hyb, hyr⟩
          replace hJi := hJi.ext hx2
          replace hB1 := hB1.ext hx2
          simp only [put_some]
          refine WL.on (by rw [gOk_s (gd_at (t := 20) rfl (by simp only [EN, Nat.reduceEqDiff, reduceIte, hBh.cell, hp.cell, hB1.cell] <;> rfl))]; rfl) ?_
          refine WL.ef _ (e_yield (l := lp) (by simp only [EN, Nat.reduceEqDiff, reduceIte, k0_0, k2_0, k11_0, k12_0, i13_0, hBh.cell, hp.cell, hB1.cell]) (by simp only [EN, Nat.reduceEqDiff, reduceIte, k0_0, k2_0, k11_0, k12_0, i13_0, hBh.cell, hp.cell, hB1.cell, AR]; exact hy i y _ _ (by rw [hyb]; exact hxb) (by rw [hyb]; exact hk) hJ0 hJi.j hyr)) ?_
          rintro _ h22 ⟨bb, rfl, hbt, hbf⟩
          simp only [put_some]
          refine WL.on (by rw [gOk_s (gd_at (t := 20) rfl (by simp only [EN, Nat.reduceEqDiff, reduceIte, hBh.cell, hp.cell, hB1.cell] <;> rfl))]; rfl) ?_
          refine WL.qq (by simp only [EN, Nat.reduceEqDiff, reduceIte, qv_unOp, unv_not, hBh.cell, hp.cell, hB1.cell]; rfl) ?_
          refine WL.qq (by simp only [EN, Nat.reduceEqDiff, reduceIte, qv_pick, pk_and, pk_or, GR, hBh.cell, hp.cell, hB1.cell]; rfl) ?_
          refine WL.nil ?_
          refine th_norm ?_
          refine hx_cond (by simp only [EN, Nat.reduceEqDiff, reduceIte, hBh.cell, hp.cell, hB1.cell]; rfl) (fun hct26 => ?_) (fun hct26 => ?_)
          ·
            try simp only [BD] at hct26
            refine hx_ret ?_
            refine bl_ret ?_
            refine th_ret ?_
            refine th_ret ?_
            refine bl_ret ?_
            refine fin_ret [] rfl rfl (by simp only [EN, Nat.reduceEqDiff, reduceIte, resv, k0_0, k2_0, k11_0, k12_0, i13_0, hBh.cell, hp.cell, hB1.cell]; rfl) ?_  -- ret 0 r4
            exact .inr (hbf (by simpa using hct26))
          ·
            try simp only [BD] at hct26
            refine hx_skip ?_
            refine bl_norm ?_
            refine th_norm ?_
            refine hx_region ?_
            refine WL.qq (by simp only [EN, Nat.reduceEqDiff, reduceIte, qv_binOp, binv_add, i13_0, hBh.cell, hp.cell, hB1.cell]; (try simp (disch := omega) only [w64, w8, wu64]); rfl) ?_
            refine WL.qq (by simp only [EN, Nat.reduceEqDiff, reduceIte, qv_move, hBh.cell, hp.cell, hB1.cell]; rfl) ?_
            refine WL.nil ?_
            refine th_norm ?_
            refine ⟨rfl, ?_, _, ?_, i + 1, rfl, ?_, ?_, ?_⟩  -- again 0 of loop 0
            · (repeat (first | exact Fr.refl _ _ | refine Fr.set rfl ?_ | refine Fr.put rfl ?_ | with_reducible refine Fr.put0 ?_))
            · omega
            · omega
            · exact ⟨hbt (by simpa using hct26)⟩
            · simp only [EN, Nat.reduceEqDiff, reduceIte, k0_0, k2_0, k11_0, k12_0, i13_0, hBh.cell, hp.cell, hB1.cell] <;> first | rfl | (congr 1; omega)
        ·
          refine hx_region ?_
          obtain ⟨mB1, mB2, mp, msx, mbx⟩ := hJ _ _ hJi.j
          refine WL.qq (by simp only [EN, Nat.reduceEqDiff, reduceIte, qv_load, ld108, readN, AR, Nat.zero_add, Nat.reduceAdd, k2_0, hBh.cell, hp.cell, hB1.cell, mB2.cell]; rfl) ?_
          refine WL.qq (by simp only [EN, Nat.reduceEqDiff, reduceIte, qv_load, ld55, readN, AR, Nat.zero_add, Nat.reduceAdd, hBh.cell, hp.cell, hB1.cell]; rfl) ?_
          refine WL.cf (f := fo) (first := #[]) (cap := cp) (by simp only [EN, Nat.reduceEqDiff, reduceIte, k0_0, k2_0, k11_0, k12_0, i13_0, hBh.cell, hp.cell, hB1.cell]) hcf (by simp only [EN, Nat.reduceEqDiff, reduceIte, k0_0, k2_0, k11_0, k12_0, i13_0, hBh.cell, hp.cell, hB1.cell, List.map_toArray, List.map_cons, List.map_nil]; exact hok i x _ hJi.j hxm (mbx x hxm)) ?_
          rintro _ h60 ⟨rfl, hx60⟩
          simp only [put_some, hk]
          replace hJi := hJi.ext hx60
          replace hB1 := hB1.ext hx60
          refine WL.qq (by simp only [EN, Nat.reduceEqDiff, reduceIte, qv_move, hBh.cell, hp.cell, hB1.cell]; rfl) ?_
          refine WL.offS (by first | (rw [gOk_s (gd_at (t := 20) rfl (by simp only [EN, Nat.reduceEqDiff, reduceIte, k0_0, hBh.cell, hp.cell, hB1.cell] <;> rfl))]; rfl) | exact gOk_z (gd_un (t := 20) rfl (by simp only [EN, Nat.reduceEqDiff, reduceIte, k0_0, hBh.cell, hp.cell, hB1.cell] <;> rfl))) ?_
          refine WL.offS (by first | (rw [gOk_s (gd_at (t := 20) rfl (by simp only [EN, Nat.reduceEqDiff, reduceIte, hBh.cell, hp.cell, hB1.cell] <;> rfl))]; rfl) | exact gOk_z (gd_un (t := 20) rfl (by simp only [EN, Nat.reduceEqDiff, reduceIte, hBh.cell, hp.cell, hB1.cell] <;> rfl))) ?_
          refine WL.offS (by first | (rw [gOk_s (gd_at (t := 20) rfl (by simp only [EN, Nat.reduceEqDiff, reduceIte, hBh.cell, hp.cell, hB1.cell] <;> rfl))]; rfl) | exact gOk_z (gd_un (t := 20) rfl (by simp only [EN, Nat.reduceEqDiff, reduceIte, hBh.cell, hp.cell, hB1.cell] <;> rfl))) ?_
          refine WL.offS (by first | (rw [gOk_s (gd_at (t := 20) rfl (by simp only [EN, Nat.reduceEqDiff, reduceIte, hBh.cell, hp.cell, hB1.cell] <;> rfl))]; rfl) | exact gOk_z (gd_un (t := 20) rfl (by simp only [EN, Nat.reduceEqDiff, reduceIte, hBh.cell, hp.cell, hB1.cell] <;> rfl))) ?_
          refine WL.offS (by first | (rw [gOk_s (gd_at (t := 20) rfl (by simp only [EN, Nat.reduceEqDiff, reduceIte, hBh.cell, hp.cell, hB1.cell] <;> rfl))]; rfl) | exact gOk_z (gd_un (t := 20) rfl (by simp only [EN, Nat.reduceEqDiff, reduceIte, hBh.cell, hp.cell, hB1.cell] <;> rfl))) ?_
          refine WL.qq (by simp only [EN, Nat.reduceEqDiff, reduceIte, qv_pick, pk_and, pk_or, GR, hBh.cell, hp.cell, hB1.cell]; rfl) ?_
          refine WL.nil ?_
          refine th_norm ?_
          refine hx_cond (by simp only [EN, Nat.reduceEqDiff, reduceIte, hBh.cell, hp.cell, hB1.cell]; rfl) (fun hct26 => ?_) (fun hct26 => ?_)
          ·
            simp at hct26
          ·
            try simp only [BD] at hct26
            refine hx_skip ?_
            refine bl_norm ?_
            refine th_norm ?_
            refine hx_region ?_
            refine WL.qq (by simp only [EN, Nat.reduceEqDiff, reduceIte, qv_binOp, binv_add, i13_0, hBh.cell, hp.cell, hB1.cell]; (try simp (disch := omega) only [w64, w8, wu64]); rfl) ?_
            refine WL.qq (by simp only [EN, Nat.reduceEqDiff, reduceIte, qv_move, hBh.cell, hp.cell, hB1.cell]; rfl) ?_
            refine WL.nil ?_
            refine th_norm ?_
            refine ⟨rfl, ?_, _, ?_, i + 1, rfl, ?_, ?_, ?_⟩  -- again 1 of loop 0
            · (repeat (first | exact Fr.refl _ _ | refine Fr.set rfl ?_ | refine Fr.put rfl ?_ | with_reducible refine Fr.put0 ?_))
            · omega
            · omega
            · exact ⟨hst i _ _ hxb hk hJi.j⟩
            · simp only [EN, Nat.reduceEqDiff, reduceIte, k0_0, k2_0, k11_0, k12_0, i13_0, hBh.cell, hp.cell, hB1.cell] <;> first | rfl | (congr 1; omega)
      ·
        try simp only [BD] at hct14
        refine hx_exit ?_
        refine th_exit ?_
        refine th_exit ?_
        refine bl_hit ?_
        refine fin_end [] rfl rfl (by simp only [EN, Nat.reduceEqDiff, reduceIte, resv, k0_0, k2_0, k11_0, k12_0, i13_0, hBh.cell, hp.cell]; rfl) ?_  -- ret 1 r5
        exact .inl (by have h9 := hJi.j; rw [show i = l.length by omega] at h9; exact h9)
theorem c_where (pv : Option Addr) (f : FuncId) (cp : Array Value) (h : Heap) : HCalls Try.prog 50 #[.pointer pv, .func (.func f) #[] cp] h fun u h' => Ext h h' ∧ ∃ B1 B2, u = .func (.func 69) #[] #[.pointer (some ⟨B1, 0, none⟩), .pointer (some ⟨B2, 0, none⟩)] ∧ Has h' B1 (.cells #[.pointer pv] 27) ∧ Has h' B2 (.cells #[.func (.func f) #[] cp] 108) := by
  refine hcalls2 Try.func50 rfl (by decide +kernel) (by simp only [Try.ntmps50]; exact of_decide_eq_true rfl) ?_
  intro e hin
  have e0 := hin 0 _ rfl
  have e1 := hin 1 _ rfl
  refine hx_seq ?_
  refine hx_region ?_
  refine WL.box2 (by simp only [EN, Nat.reduceEqDiff, reduceIte, Value.cells, e0]; rfl) ?_
  intro h1 B1 hx1 hlt1 hB1
  refine WL.box2 (by simp only [EN, Nat.reduceEqDiff, reduceIte, Value.cells, e1, hB1.cell]; rfl) ?_
  intro h2 B2 hx2 hlt2 hB2
  replace hB1 := hB1.ext hx2
  refine WL.qq (by simp only [EN, Nat.reduceEqDiff, reduceIte, qv_assign, hB1.cell, hB2.cell]; rfl) ?_
  refine WL.nil ?_
  refine th_norm ?_
  refine hx_seq ?_
  refine hx_region ?_
  refine WL.qq (by simp only [EN, Nat.reduceEqDiff, reduceIte, qv_makeFunc, AR, hB1.cell, hB2.cell]; rfl) ?_
  refine WL.qq (by simp only [EN, Nat.reduceEqDiff, reduceIte, qv_assign, hB1.cell, hB2.cell]; rfl) ?_
  refine WL.nil ?_
  refine th_norm ?_
  refine hx_ret ?_
  refine fin_ret [.tmp 4] rfl rfl (by simp only [EN, Nat.reduceEqDiff, reduceIte, resv, e0, e1, hB1.cell, hB2.cell]; rfl) ?_  -- ret 0 r1
  exact ⟨((hx1).trans (hx2)), B1, B2, rfl, hB1, hB2⟩
/-- The word of an iterator: the history, the condition's closure, what it holds. -/
def ItOf (h : Heap) (N : Nat) (u : Value) (pv : Option Addr) (f : FuncId) (c : Array Value) (T : TypeId) : Prop := ∃ B1 B2 B, N ≤ B ∧ u = .func (.func 69) #[] #[.pointer (some ⟨B1, 0, none⟩), .pointer (some ⟨B2, 0, none⟩)] ∧ Has h B1 (.cells #[.pointer pv] 27) ∧ Has h B2 (.cells #[.func (.func f) #[] #[.pointer (some ⟨B, 0, none⟩)]] 108) ∧ Has h B (.cells c T)
theorem c_byAcc (pv : Option Addr) (q : AC) (h : Heap) : HCalls Try.prog 27 #[.pointer pv, acV q] h fun u h' => Ext h h' ∧ ItOf h' h.size u pv 51 (acL q).toArray tyAcc := by
  refine hcalls2 Try.func27 rfl (by decide +kernel) (by simp only [Try.ntmps27]; exact of_decide_eq_true rfl) ?_
  intro e hin
  have e0 := hin 0 _ rfl
  have e1 := hin 1 _ rfl
  refine hx_seq ?_
  refine hx_region ?_
  refine WL.box2 (by simp only [EN, Nat.reduceEqDiff, reduceIte, Value.cells, e1]; rfl) ?_
  intro h1 B1 hx1 hlt1 hB1
  refine WL.qq (by simp only [EN, Nat.reduceEqDiff, reduceIte, qv_assign, hB1.cell]; rfl) ?_
  refine WL.nil ?_
  refine th_norm ?_
  refine hx_seq ?_
  refine hx_region ?_
  refine WL.qq (by simp only [EN, Nat.reduceEqDiff, reduceIte, qv_move, e0, hB1.cell]; rfl) ?_
  refine WL.qq (by simp only [EN, Nat.reduceEqDiff, reduceIte, qv_makeFunc, AR, hB1.cell]; rfl) ?_
  refine WL.ce Try.call50 (by simp only [EN, Nat.reduceEqDiff, reduceIte, AR, hB1.cell]; exact c_where pv _ _ _) ?_
  rintro _ h2 ⟨hx2, C1, C2, rfl, hC1, hC2⟩
  replace hB1 := hB1.ext hx2
  simp only [put_some]
  refine WL.qq (by simp only [EN, Nat.reduceEqDiff, reduceIte, qv_assign, hB1.cell]; rfl) ?_
  refine WL.nil ?_
  refine th_norm ?_
  refine hx_ret ?_
  refine fin_ret [.tmp 4] rfl rfl (by simp only [EN, Nat.reduceEqDiff, reduceIte, resv, e0, e1, hB1.cell]; rfl) ?_  -- ret 0 r1
  exact ⟨((hx1).trans (hx2)), C1, C2, B1, hlt1, rfl, hC1, hC2, hB1⟩
theorem c_byDay (pv : Option Addr) (d : Int) (h : Heap) : HCalls Try.prog 29 #[.pointer pv, iV d] h fun u h' => Ext h h' ∧ ItOf h' h.size u pv 52 #[iV d] 3 := by
  refine hcalls2 Try.func29 rfl (by decide +kernel) (by simp only [Try.ntmps29]; exact of_decide_eq_true rfl) ?_
  intro e hin
  have e0 := hin 0 _ rfl
  have e1 := hin 1 _ rfl
  refine hx_seq ?_
  refine hx_region ?_
  refine WL.box2 (by simp only [EN, Nat.reduceEqDiff, reduceIte, Value.cells, e1]; rfl) ?_
  intro h1 B1 hx1 hlt1 hB1
  refine WL.qq (by simp only [EN, Nat.reduceEqDiff, reduceIte, qv_assign, hB1.cell]; rfl) ?_
  refine WL.nil ?_
  refine th_norm ?_
  refine hx_seq ?_
  refine hx_region ?_
  refine WL.qq (by simp only [EN, Nat.reduceEqDiff, reduceIte, qv_move, e0, hB1.cell]; rfl) ?_
  refine WL.qq (by simp only [EN, Nat.reduceEqDiff, reduceIte, qv_makeFunc, AR, hB1.cell]; rfl) ?_
  refine WL.ce Try.call50 (by simp only [EN, Nat.reduceEqDiff, reduceIte, AR, hB1.cell]; exact c_where pv _ _ _) ?_
  rintro _ h2 ⟨hx2, C1, C2, rfl, hC1, hC2⟩
  replace hB1 := hB1.ext hx2
  simp only [put_some]
  refine WL.qq (by simp only [EN, Nat.reduceEqDiff, reduceIte, qv_assign, hB1.cell]; rfl) ?_
  refine WL.nil ?_
  refine th_norm ?_
  refine hx_ret ?_
  refine fin_ret [.tmp 4] rfl rfl (by simp only [EN, Nat.reduceEqDiff, reduceIte, resv, e0, e1, hB1.cell]; rfl) ?_  -- ret 0 r1
  exact ⟨((hx1).trans (hx2)), C1, C2, B1, hlt1, rfl, hC1, hC2, hB1⟩
theorem c_byRef (pv : Option Addr) (s : ByteArray) (h : Heap) : HCalls Try.prog 30 #[.pointer pv, .string s] h fun u h' => Ext h h' ∧ ItOf h' h.size u pv 53 #[.string s] 9 := by
  refine hcalls2 Try.func30 rfl (by decide +kernel) (by simp only [Try.ntmps30]; exact of_decide_eq_true rfl) ?_
  intro e hin
  have e0 := hin 0 _ rfl
  have e1 := hin 1 _ rfl
  refine hx_seq ?_
  refine hx_region ?_
  refine WL.box2 (by simp only [EN, Nat.reduceEqDiff, reduceIte, Value.cells, e1]; rfl) ?_
  intro h1 B1 hx1 hlt1 hB1
  refine WL.qq (by simp only [EN, Nat.reduceEqDiff, reduceIte, qv_assign, hB1.cell]; rfl) ?_
  refine WL.nil ?_
  refine th_norm ?_
  refine hx_seq ?_
  refine hx_region ?_
  refine WL.qq (by simp only [EN, Nat.reduceEqDiff, reduceIte, qv_move, e0, hB1.cell]; rfl) ?_
  refine WL.qq (by simp only [EN, Nat.reduceEqDiff, reduceIte, qv_makeFunc, AR, hB1.cell]; rfl) ?_
  refine WL.ce Try.call50 (by simp only [EN, Nat.reduceEqDiff, reduceIte, AR, hB1.cell]; exact c_where pv _ _ _) ?_
  rintro _ h2 ⟨hx2, C1, C2, rfl, hC1, hC2⟩
  replace hB1 := hB1.ext hx2
  simp only [put_some]
  refine WL.qq (by simp only [EN, Nat.reduceEqDiff, reduceIte, qv_assign, hB1.cell]; rfl) ?_
  refine WL.nil ?_
  refine th_norm ?_
  refine hx_ret ?_
  refine fin_ret [.tmp 4] rfl rfl (by simp only [EN, Nat.reduceEqDiff, reduceIte, resv, e0, e1, hB1.cell]; rfl) ?_  -- ret 0 r1
  exact ⟨((hx1).trans (hx2)), C1, C2, B1, hlt1, rfl, hC1, hC2, hB1⟩
/-- The iterator of a nil history yields nothing. -/
theorem c_whereNil (B1 B2 lp : Nat) {h : Heap} (hB1 : Has h B1 (.cells #[.pointer none] 27)) : HCalls Try.prog 69 #[.func (.yield lp) #[] #[], .pointer (some ⟨B1, 0, none⟩), .pointer (some ⟨B2, 0, none⟩)] h fun _ h' => h' = h := by
  refine hcalls2 Try.func69 rfl (by decide +kernel) (by simp only [Try.ntmps69]; exact of_decide_eq_true rfl) ?_
  intro e hin
  have e0 := hin 0 _ rfl
  have e1 := hin 1 _ rfl
  have e2 := hin 2 _ rfl
  refine hx_seq ?_
  refine hx_seq ?_
  refine hx_region ?_
  refine WL.qq (by simp only [EN, Nat.reduceEqDiff, reduceIte, qv_load, ld27, readN, AR, Nat.zero_add, Nat.reduceAdd, e1, hB1.cell]; rfl) ?_
  refine WL.qq (by simp only [EN, Nat.reduceEqDiff, reduceIte, qv_binOp, binv_eql, eqz27, eqn27, eqm27, Option.map_some, hB1.cell]; rfl) ?_
  refine WL.nil ?_
  refine th_norm ?_
  refine hx_cond (by simp only [EN, Nat.reduceEqDiff, reduceIte, hB1.cell]; rfl) (fun hct7 => ?_) (fun hct7 => ?_)
  ·
    try simp only [BD] at hct7
    refine hx_ret ?_
    refine th_ret ?_
    refine fin_ret [] rfl rfl (by simp only [EN, Nat.reduceEqDiff, reduceIte, resv, e0, e1, e2, hB1.cell]; rfl) ?_  -- ret 0 r0
    rfl
  ·
    simp at hct7
end GL


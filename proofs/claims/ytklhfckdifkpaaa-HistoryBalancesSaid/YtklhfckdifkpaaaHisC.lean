/- History: a history in memory, as it is read; the sum of an account. -/
import Derived.Test.YtklhfckdifkpaaaHisB
set_option linter.unusedSimpArgs false
set_option linter.unusedVariables false
set_option linter.unnecessarySimpa false
namespace GL
open Go Go.Proofs
set_option maxRecDepth 8000
def BXs (h : Heap) (xs : List BX) : Prop := ∀ x ∈ xs, BXin h x
theorem BXs.ext {h h' : Heap} {xs : List BX} (hb : BXs h xs) (hx : Ext h h') : BXs h' xs := fun x hm => (hb x hm).ext hx
/-- A history in memory, as it is read. -/
structure HR (h : Heap) (p : Nat) (l : List HB) : Prop where
  ex : ∃ a cap xs, Has h p (.cells #[.slice a xs.length cap] tyH) ∧ SlG 4 bdL h a xs ∧ xs.map BX.bd = l ∧ BXs h xs ∧ xs.length ≤ cap ∧ ∀ x, a = some x → x.spot = none
theorem HR.ext {h h' : Heap} {p : Nat} {l : List HB} (hr : HR h p l) (hx : Ext h h') : HR h' p l := by
  obtain ⟨a, cap, xs, h1, h2, h3, h4, h5, h6⟩ := hr.ex
  exact ⟨a, cap, xs, h1.ext hx, h2.ext hx, h3, h4.ext hx, h5, h6⟩
/-- A history within the limits of the statements. -/
structure GS (l : List HB) : Prop where
  g : GH l
  n : l.length ≤ 12
  f : ∀ b ∈ l, FB b
theorem FB.lens {x : BX} (h : FB x.bd) : x.ps.length ≤ 1000000 ∧ ∀ p ∈ x.ps, p.ps.length ≤ 1000000 := by
  obtain ⟨h1, h2⟩ := h
  simp only [BX.bd, List.length_map] at h1
  refine ⟨by omega, fun p hp => ?_⟩
  have := (h2 p.pt (List.mem_map.2 ⟨p, hp, rfl⟩)).1
  simp only [PX.pt] at this
  omega
theorem bd_at {xs : List BX} {i : Nat} {x : BX} (h : xs[i]? = some x) : (xs.map BX.bd)[i]? = some x.bd := by rw [List.getElem?_map, h]; rfl
theorem allP_step {l : List HB} {i : Nat} {b : HB} (h : l[i]? = some b) : allP (l.take (i + 1)) = allP (l.take i) ++ pos b := by
  rw [List.take_add_one, h, allP_app]; simp [allP]
theorem dS_step (q : AC) {l : List PO} {i : Nat} {y : PO} (h : l[i]? = some y) : dS q (l.take (i + 1)) = dS q (l.take i) + if y.c = q then y.d else 0 := by
  rw [List.take_add_one, h, dS_app]; simp [dS_one]
theorem mem_allP {l : List HB} {b : HB} (hb : b ∈ l) {y : PO} (hy : y ∈ pos b) : y ∈ allP l := List.mem_flatMap.2 ⟨b, hb, hy⟩
/-- How large a sum on the way may be. -/
theorem GS.sum {l : List HB} (hg : GS l) (q : AC) {i j : Nat} {b : HB} (hi : l[i]? = some b) : -1200000000000000000 ≤ dS q (allP (l.take i) ++ (pos b).take j) ∧ dS q (allP (l.take i) ++ (pos b).take j) ≤ 1200000000000000000 := by
  have hb : b ∈ l := List.mem_of_getElem? hi
  have h1 := dS_bd q (l := allP (l.take i) ++ (pos b).take j) (fun x hx => by
    rcases List.mem_append.1 hx with hx | hx
    · obtain ⟨c, hc, hx2⟩ := List.mem_flatMap.1 hx
      exact pos_in (hg.g.mem (List.mem_of_mem_take hc)) x hx2
    · exact pos_in (hg.g.mem hb) x (List.mem_of_mem_take hx))
  have h2 : (allP (l.take i)).length ≤ (l.take i).length * 96 := flat_le fun c hc => (hg.f c (List.mem_of_mem_take hc)).pos
  have h3 := (hg.f b hb).pos
  have h4 := hg.n
  have h5 : (l.take i).length ≤ 12 := by rw [List.length_take]; omega
  have h6 : ((pos b).take j).length ≤ 96 := by rw [List.length_take]; omega
  have h7 : (l.take i).length < 12 := by
    have := (List.getElem?_eq_some_iff.1 hi).1
    rw [List.length_take]; omega
  have h8 : ((allP (l.take i) ++ (pos b).take j).length : Int) ≤ 1152 := by
    rw [List.length_append]; omega
  simp only [MA] at h1
  omega
structure SB (h0 h7 : Heap) (B : Nat) (rec : Loop) (s : Int) (hx : Heap) : Prop where
  rx : RX h0 h7 [B] rec hx
  b : Has hx B (.cells #[iV (s / 1000000), iV (s % 1000000)] 95)
set_option maxHeartbeats 2000000 in
theorem c_sum {h : Heap} {p : Nat} {l : List HB} (q : AC) (n : Nat) (hn : n ≤ l.length) (hg : GS l) (hr : HR h p l) :
    HCalls Try.prog 42 #[.pointer (some ⟨p, 0, none⟩), acV q, iV n] h (Grow (wV (dS q (allP (l.take n)))) h) := by
  obtain ⟨av, cap, xs, hp, hsx, hxl, hbx, hcap, hsp⟩ := hr.ex
  subst hxl
  have hln : n ≤ xs.length := by simpa using hn
  have hx12 : xs.length ≤ 12 := by have := hg.n; simpa using this
  have ksx := hsx
  have kbx := hbx
  refine hcalls2 Try.func42 rfl (by decide +kernel) (by simp only [Try.ntmps42]; exact of_decide_eq_true rfl) ?_
  intro e hin
  have e0 := hin 0 _ rfl
  have e1 := hin 1 _ rfl
  have e2 := hin 2 _ rfl
  refine hx_seq ?_
  refine hx_region ?_
  refine WL.box2 (by simp only [EN, Nat.reduceEqDiff, reduceIte, Value.cells, e1, hp.cell]; rfl) ?_
  intro h1 B1 hx1 hlt1 hB1
  replace hp := hp.ext hx1
  refine WL.alloc2 zr95 ?_
  intro h2 B2 hx2 hlt2 hB2
  replace hp := hp.ext hx2
  replace hB1 := hB1.ext hx2
  simp only [Value.cells] at hB2
  refine WL.nil ?_
  refine th_norm ?_
  refine hx_seq ?_
  refine hx_region ?_
  have kz1 := hx1.size; have k1 := (Array.getElem?_eq_some_iff.1 hB1).1; have k2 := (Array.getElem?_eq_some_iff.1 hB2).1
  refine WL.alloc2 zr95 ?_
  intro h3 B3 hx3 hlt3 hB3
  replace hp := hp.ext hx3
  replace hB1 := hB1.ext hx3
  replace hB2 := hB2.ext hx3
  simp only [Value.cells] at hB3
  refine WL.nil ?_
  refine th_norm ?_
  refine hx_seq ?_
  refine hx_seq ?_
  refine hx_region ?_
  refine WL.qq (by simp only [EN, Nat.reduceEqDiff, reduceIte, qv_move, e0, hp.cell, hB1.cell, hB2.cell, hB3.cell]; rfl) ?_
  refine WL.qq (by simp only [EN, Nat.reduceEqDiff, reduceIte, qv_nilCheck, hp.cell, hB1.cell, hB2.cell, hB3.cell]; rfl) ?_
  refine WL.qq (by simp only [EN, Nat.reduceEqDiff, reduceIte, qv_fieldAddr, fa93_0, Nat.zero_add, Nat.reduceAdd, hp.cell, hB1.cell, hB2.cell, hB3.cell]; rfl) ?_
  refine WL.qq (by simp only [EN, Nat.reduceEqDiff, reduceIte, qv_load, ld91, readN, AR, Nat.zero_add, Nat.reduceAdd, hp.cell, hB1.cell, hB2.cell, hB3.cell]; rfl) ?_
  refine WL.qq (by simp only [EN, Nat.reduceEqDiff, reduceIte, qv_move, e2, hp.cell, hB1.cell, hB2.cell, hB3.cell]; rfl) ?_
  refine WL.qq (by simp only [EN, Nat.reduceEqDiff, reduceIte, e0, e1, e2, hp.cell, hB1.cell, hB2.cell, hB3.cell, qv_slice, Option.map_some, Option.map_none, iV]; exact (show slicev Try.prog 91 (.slice av xs.length cap) none (some (.int .i64 (n : Int))) none = some (.slice av n cap) by rw [slicev_h Try.underlying91 sz55 av hsp xs.length cap .i64 (n : Int) (by omega) (by omega), Int.toNat_natCast])) ?_
  refine WL.qq (by simp only [EN, Nat.reduceEqDiff, reduceIte, qv_len, ln91, AR, hp.cell, hB1.cell, hB2.cell, hB3.cell]; rfl) ?_
  refine WL.qq (by simp only [EN, Nat.reduceEqDiff, reduceIte, qv_move, hp.cell, hB1.cell, hB2.cell, hB3.cell]; rfl) ?_
  refine WL.nil ?_
  refine th_norm ?_
  refine hx_block ?_
  refine hx_loopM [9, 10, 18, 19, 20, 21, 22, 23, 25, 26, 27, 28, 29, 30, 31, 32, 33] (fun k e ms hL0 => ∃ (i : Nat), n - i = k ∧ (i ≤ n) ∧ (Ext h hL0) ∧ (Has hL0 B1 (.cells (acL q).toArray 35)) ∧ (Has hL0 B2 (.cells #[iV 0, iV 0] 95)) ∧ (Has hL0 B3 (.cells #[iV (dS q (allP ((xs.map BX.bd).take i)) / 1000000), iV (dS q (allP ((xs.map BX.bd).take i)) % 1000000)] 95)) ∧ (MK h.size hL0 ms) ∧ e 18 = .int .i64 i) _ [] ⟨0, rfl, ?_, ?_, ?_, ?_, ?_, ?_, ?_⟩ ?_
  · omega
  · exact ((hx1).trans ((hx2).trans (hx3)))
  · exact hB1
  · exact hB2
  · exact hB3
  · exact MK.nil
  · simp only [EN, Nat.reduceEqDiff, reduceIte, e0, e1, e2, hp.cell, hB1.cell, hB2.cell, hB3.cell] <;> rfl
  ·
    rintro k e0L ms hL0 hfr0 ⟨i, rfl, hi, hx, hA1, hA2, hA3, hmk, i18_0⟩
    have k4_0 := hfr0 4 rfl; try simp only [EN, Nat.reduceEqDiff, reduceIte, hp.cell, hB1.cell, hB2.cell, hB3.cell] at k4_0
    have k6_0 := hfr0 6 rfl; try simp only [EN, Nat.reduceEqDiff, reduceIte, hp.cell, hB1.cell, hB2.cell, hB3.cell] at k6_0
    have k7_0 := hfr0 7 rfl; try simp only [EN, Nat.reduceEqDiff, reduceIte, hp.cell, hB1.cell, hB2.cell, hB3.cell] at k7_0
    have k16_0 := hfr0 16 rfl; try simp only [EN, Nat.reduceEqDiff, reduceIte, hp.cell, hB1.cell, hB2.cell, hB3.cell] at k16_0
    have k17_0 := hfr0 17 rfl; try simp only [EN, Nat.reduceEqDiff, reduceIte, hp.cell, hB1.cell, hB2.cell, hB3.cell] at k17_0
    refine hx_seq ?_
    refine hx_region ?_
    refine WL.qq (by simp only [EN, Nat.reduceEqDiff, reduceIte, qv_binOp, binv_lss, k17_0, i18_0, hp.cell, hB1.cell, hB2.cell, hB3.cell, hA1.cell, hA2.cell, hA3.cell]; rfl) ?_
    refine WL.nil ?_
    refine th_norm ?_
    refine hx_seq ?_
    refine hx_cond (by simp only [EN, Nat.reduceEqDiff, reduceIte, hp.cell, hB1.cell, hB2.cell, hB3.cell, hA1.cell, hA2.cell, hA3.cell]; rfl) (fun hct19 => ?_) (fun hct19 => ?_)
    ·
      try simp only [BD] at hct19
      obtain ⟨x, hxi⟩ := atG (l := xs) (i := i) (by omega)
      obtain ⟨b1, o1, rfl, hr4, _⟩ := bd_rd (ksx.ext hx) hxi
      have hxb := bd_at hxi
      have hxm : x.bd ∈ xs.map BX.bd := List.mem_of_getElem? hxb
      have hxl := (hg.f _ hxm).lens
      have kz0 := hx.size
      refine hx_skip ?_
      refine th_norm ?_
      refine hx_seq ?_
      refine hx_block ?_
      refine hx_seq ?_
      refine hx_region ?_
      refine WL.qq (by simp only [EN, Nat.reduceEqDiff, reduceIte, qv_indexAddr, k16_0, i18_0, hp.cell, hB1.cell, hB2.cell, hB3.cell, hA1.cell, hA2.cell, hA3.cell]; (try simp (disch := omega) only [ix91, Int.toNat_natCast]); rfl) ?_
      refine WL.qq (by simp only [EN, Nat.reduceEqDiff, reduceIte, k4_0, k6_0, k7_0, k16_0, k17_0, i18_0, hp.cell, hB1.cell, hB2.cell, hB3.cell, hA1.cell, hA2.cell, hA3.cell, qv_load, ld55, Int.toNat_natCast, hr4]; rfl) ?_
      refine WL.allocSt zr55 sz55 (fun u => by simp only [EN, Nat.reduceEqDiff, reduceIte, Value.cells, hp.cell, hB1.cell, hB2.cell, hB3.cell, hA1.cell, hA2.cell, hA3.cell]; rfl) ⟨rfl, rfl⟩ (by simp [Value.oneCell']) ?_
      intro h4 B4 hx4 hlt4 hB4
      replace hA1 := hA1.ext hx4
      replace hA2 := hA2.ext hx4
      replace hA3 := hA3.ext hx4
      refine WL.nil ?_
      refine th_norm ?_
      refine hx_seq ?_
      refine hx_region ?_
      refine WL.qq (by simp only [EN, Nat.reduceEqDiff, reduceIte, qv_load, ld55, readN, AR, Nat.zero_add, Nat.reduceAdd, hp.cell, hB1.cell, hB2.cell, hB3.cell, hA1.cell, hA2.cell, hA3.cell, hB4.cell]; rfl) ?_
      have k3 := (Array.getElem?_eq_some_iff.1 hA3).1
      refine WL.ce Try.call48 (by simp only [EN, Nat.reduceEqDiff, reduceIte, AR, hp.cell, hB1.cell, hB2.cell, hB3.cell, hA1.cell, hA2.cell, hA3.cell, hB4.cell]; exact c_post x _) ?_
      rintro _ h5 ⟨hx5, B9, rfl, hlt9, hB9⟩
      replace hA1 := hA1.ext hx5
      replace hA2 := hA2.ext hx5
      replace hA3 := hA3.ext hx5
      replace hB4 := hB4.ext hx5
      simp only [put_some]
      refine WL.nil ?_
      refine th_norm ?_
      refine hx_block ?_
      refine hx_range (by simp only [EN, Nat.reduceEqDiff, reduceIte, k4_0, k6_0, k7_0, k16_0, k17_0, i18_0, hp.cell, hB1.cell, hB2.cell, hB3.cell, hA1.cell, hA2.cell, hA3.cell, hB4.cell]; rfl) Try.call67 ?_
      intro fnR0 hR0 hxR0 hsR0 hdR0 hrR0
      have hXL := ((hx4).trans (hx5))
      have kx0 : Ext h h5 := hx.trans hXL
      have hq3 := (Array.getElem?_eq_some_iff.1 hA3).1
      have hq1 := (Array.getElem?_eq_some_iff.1 hA1).1
      have hq2 := (Array.getElem?_eq_some_iff.1 hA2).1
      have hq9 := (Array.getElem?_eq_some_iff.1 hB9).1
      generalize hrec : recOf _ _ _ _ _ _ _ = rec at hrR0
      refine (c_postYield x B9 (h5.size + 1) (fun j hy => SB h h5 B3 rec (dS q (allP ((xs.map BX.bd).take i) ++ (pos x.bd).take j)) hy) (fun _ => False) hxl ?_ ?_ ?_ ?_).mono ?_
      · rintro j h1 h2 ⟨q1, q2⟩ he; exact ⟨q1.ext he, q2.ext he⟩
      · rintro j hy ⟨q1, q2⟩; exact ⟨hB9.gs q1.gs (by simp; omega), (kbx x (List.mem_of_getElem? hxi)).ext q1.ex⟩
      rotate_left
      · exact ⟨RX.start hxR0 hsR0 hdR0 hrR0 kx0 (by simp; omega) (by simp; omega), by rw [List.take_zero, List.append_nil]; exact hA3.ext hxR0⟩
      rotate_left
      ·
        rintro j y hy hyj ⟨hC, hT⟩
        have hsz := hC.size
        subst hrec
        have hsum := hg.sum q hxb (j := j)
        have hyd : inR y.d := pos_in (hg.g.mem hxm) y (List.mem_of_getElem? hyj)
        have hstep : dS q (allP ((xs.map BX.bd).take i) ++ (pos x.bd).take (j + 1)) = dS q (allP ((xs.map BX.bd).take i) ++ (pos x.bd).take j) + if y.c = q then y.d else 0 := by rw [dS_app, dS_app, dS_step q hyj]; omega
        refine hy_body (vs := [.agg (poL y).toArray]) (ps := [24]) hC.rc rfl rfl rfl (by decide) rfl rfl ?_
        simp only [pars, List.zip_cons_cons, List.zip_nil_left, List.foldl_cons, List.foldl_nil]
        have hD1 := hA1.gs hC.gs (by simp; omega)
        refine hx_region ?_
        refine WL.allocSt zr74 sz74 (fun u => by simp only [EN, Nat.reduceEqDiff, reduceIte, Value.cells, hp.cell, hB1.cell, hB2.cell, hB3.cell, hA1.cell, hA2.cell, hA3.cell, hB4.cell, hT.cell, hD1.cell]; rfl) ⟨rfl, rfl⟩ (by simp [Value.oneCell']) ?_
        intro h6 B6 hx6 hlt6 hB6
        replace hC := hC.ext hx6
        replace hT := hT.ext hx6
        replace hD1 := hD1.ext hx6
        refine WL.nil ?_
        refine th_norm ?_
        refine ⟨_, hC.rc, rfl, ?_⟩
        intro h20 hw20
        replace hC := hC.turn hw20
        replace hT := hT.wr hw20 (by omega)
        replace hD1 := hD1.wr hw20 (by omega)
        replace hB6 := hB6.wr hw20 (by omega)
        refine hx_block ?_
        refine hx_seq ?_
        refine hx_region ?_
        refine WL.qq (by simp only [EN, Nat.reduceEqDiff, reduceIte, qv_fieldAddr, fa74_0, Nat.zero_add, Nat.reduceAdd, hp.cell, hB1.cell, hB2.cell, hB3.cell, hA1.cell, hA2.cell, hA3.cell, hB4.cell, hT.cell, hD1.cell, hB6.cell]; rfl) ?_
        refine WL.qq (by simp only [EN, Nat.reduceEqDiff, reduceIte, qv_load, ld35, readN, AR, Nat.zero_add, Nat.reduceAdd, hp.cell, hB1.cell, hB2.cell, hB3.cell, hA1.cell, hA2.cell, hA3.cell, hB4.cell, hT.cell, hD1.cell, hB6.cell]; rfl) ?_
        refine WL.qq (by simp only [EN, Nat.reduceEqDiff, reduceIte, qv_load, ld35, readN, AR, Nat.zero_add, Nat.reduceAdd, k4_0, hp.cell, hB1.cell, hB2.cell, hB3.cell, hA1.cell, hA2.cell, hA3.cell, hB4.cell, hT.cell, hD1.cell, hB6.cell]; rfl) ?_
        refine WL.qq (by simp only [EN, Nat.reduceEqDiff, reduceIte, qv_binOp, binv_eql, eqs35, Option.map_some, hp.cell, hB1.cell, hB2.cell, hB3.cell, hA1.cell, hA2.cell, hA3.cell, hB4.cell, hT.cell, hD1.cell, hB6.cell]; rfl) ?_
        refine WL.nil ?_
        refine th_norm ?_
        refine hx_cond (by simp only [EN, Nat.reduceEqDiff, reduceIte, hp.cell, hB1.cell, hB2.cell, hB3.cell, hA1.cell, hA2.cell, hA3.cell, hB4.cell, hT.cell, hD1.cell, hB6.cell]; rfl) (fun hct28 => ?_) (fun hct28 => ?_)
        ·
          try simp only [BD] at hct28
          have hq : y.c = q := (by simpa [ac_eq] using hct28)
          refine hx_region ?_
          refine WL.qq (by simp only [EN, Nat.reduceEqDiff, reduceIte, qv_load, ld95, readN, AR, Nat.zero_add, Nat.reduceAdd, k7_0, hp.cell, hB1.cell, hB2.cell, hB3.cell, hA1.cell, hA2.cell, hA3.cell, hB4.cell, hT.cell, hD1.cell, hB6.cell]; rfl) ?_
          refine WL.qq (by simp only [EN, Nat.reduceEqDiff, reduceIte, qv_fieldAddr, fa74_1, Nat.zero_add, Nat.reduceAdd, hp.cell, hB1.cell, hB2.cell, hB3.cell, hA1.cell, hA2.cell, hA3.cell, hB4.cell, hT.cell, hD1.cell, hB6.cell]; rfl) ?_
          refine WL.qq (by simp only [EN, Nat.reduceEqDiff, reduceIte, qv_load, ld2, readN, AR, Nat.zero_add, Nat.reduceAdd, hp.cell, hB1.cell, hB2.cell, hB3.cell, hA1.cell, hA2.cell, hA3.cell, hB4.cell, hT.cell, hD1.cell, hB6.cell]; rfl) ?_
          refine WL.cg Try.call66 (by simp only [EN, Nat.reduceEqDiff, reduceIte, AR, hp.cell, hB1.cell, hB2.cell, hB3.cell, hA1.cell, hA2.cell, hA3.cell, hB4.cell, hT.cell, hD1.cell, hB6.cell]; exact c_plus _ y.d (by omega) hyd _) ?_
          intro h7 hx7
          replace hC := hC.ext hx7
          replace hT := hT.ext hx7
          replace hD1 := hD1.ext hx7
          replace hB6 := hB6.ext hx7
          refine WL.store (by simp only [EN, Nat.reduceEqDiff, reduceIte, k7_0, hp.cell, hB1.cell, hB2.cell, hB3.cell, hA1.cell, hA2.cell, hA3.cell, hB4.cell, hT.cell, hD1.cell, hB6.cell] <;> rfl) sz95 (by simp only [EN, Nat.reduceEqDiff, reduceIte, Value.cells, k7_0, hp.cell, hB1.cell, hB2.cell, hB3.cell, hA1.cell, hA2.cell, hA3.cell, hB4.cell, hT.cell, hD1.cell, hB6.cell] <;> rfl) rfl hT (by first | (simp [true_and]; done) | (simp [true_and]; omega) | omega) (by simp [Value.oneCell']) ?_
          intro h8 hw8
          replace hC := hC.put hw8 (.inl (by simp))
          replace hT : Has _ B3 (.cells #[iV (dS q (allP ((xs.map BX.bd).take i) ++ (pos x.bd).take (j + 1)) / 1000000), iV (dS q (allP ((xs.map BX.bd).take i) ++ (pos x.bd).take (j + 1)) % 1000000)] 95) := (by rw [hstep, if_pos hq]; have h9 := hw8.at_; simpa [splc] using h9)
          refine WL.nil ?_
          refine bl_norm ?_
          refine ⟨_, hC.rc, ?_⟩
          intro h30 hw30
          exact ⟨true, rfl, fun _ => ⟨hC.turn hw30, hT.wr hw30 (by omega)⟩, fun hh => by cases hh⟩
        ·
          try simp only [BD] at hct28
          have hq : y.c ≠ q := fun hh => (by rw [ac_eq] at hh; simp [hh] at hct28)
          replace hT : Has _ B3 (.cells #[iV (dS q (allP ((xs.map BX.bd).take i) ++ (pos x.bd).take (j + 1)) / 1000000), iV (dS q (allP ((xs.map BX.bd).take i) ++ (pos x.bd).take (j + 1)) % 1000000)] 95) := (by rw [hstep, if_neg hq, Int.add_zero]; exact hT)
          refine hx_skip ?_
          refine bl_norm ?_
          refine ⟨_, hC.rc, ?_⟩
          intro h30 hw30
          exact ⟨true, rfl, fun _ => ⟨hC.turn hw30, hT.wr hw30 (by omega)⟩, fun hh => by cases hh⟩
      ·
        rintro v0 h3 (⟨hC, hT⟩ | hf)
        rotate_left
        · exact hf.elim
        refine after_any hC.rc (by subst hrec; rfl) (.inl ⟨by subst hrec; rfl, ?_⟩)
        intro h31 o hw31
        rw [List.take_length, ← allP_step hxb] at hT
        replace hT := hT.wr hw31 (by omega)
        have hE31 := (hC.end_ hw31 (by omega)).2
        have hmk31 := hmk.range hXL kz0 hC (by simp; rw [hA3]; simp) hw31
        have hF1 := (hA1.gs hC.gs (by simp; omega)).wr hw31 (by omega)
        have hF2 := (hA2.gs hC.gs (by simp; omega)).wr hw31 (by omega)
        refine bl_norm ?_
        refine bl_norm ?_
        refine th_norm ?_
        refine hx_region ?_
        refine WL.qq (by simp only [EN, Nat.reduceEqDiff, reduceIte, qv_binOp, binv_add, i18_0, hp.cell, hB1.cell, hB2.cell, hB3.cell, hA1.cell, hA2.cell, hA3.cell, hB4.cell]; (try simp (disch := omega) only [w64, w8, wu64]); rfl) ?_
        refine WL.qq (by simp only [EN, Nat.reduceEqDiff, reduceIte, qv_move, hp.cell, hB1.cell, hB2.cell, hB3.cell, hA1.cell, hA2.cell, hA3.cell, hB4.cell]; rfl) ?_
        refine WL.nil ?_
        refine th_norm ?_
        refine ⟨(Array.size h5 :: ms), rfl, ?_, _, ?_, i + 1, rfl, ?_, ?_, ?_, ?_, ?_, ?_, ?_⟩  -- again 0 of loop 0
        · (repeat (first | exact Fr.refl _ _ | refine Fr.set rfl ?_ | refine Fr.put rfl ?_ | with_reducible refine Fr.put0 ?_))
        · omega
        · omega
        · exact hE31
        · exact hF1
        · exact hF2
        · exact hT
        · exact hmk31
        · simp only [EN, Nat.reduceEqDiff, reduceIte, k4_0, k6_0, k7_0, k16_0, k17_0, i18_0, hp.cell, hB1.cell, hB2.cell, hB3.cell, hA1.cell, hA2.cell, hA3.cell, hB4.cell] <;> first | rfl | (congr 1; omega)
    ·
      try simp only [BD] at hct19
      obtain rfl : i = n := (by omega)
      refine hx_exit ?_
      refine th_exit ?_
      refine th_exit ?_
      refine bl_hit ?_
      refine th_norm ?_
      refine hx_seq ?_
      refine hx_region ?_
      refine WL.qq (by simp only [EN, Nat.reduceEqDiff, reduceIte, qv_load, ld95, readN, AR, Nat.zero_add, Nat.reduceAdd, k7_0, hp.cell, hB1.cell, hB2.cell, hB3.cell, hA1.cell, hA2.cell, hA3.cell]; rfl) ?_
      refine WL.store (by simp only [EN, Nat.reduceEqDiff, reduceIte, k6_0, hp.cell, hB1.cell, hB2.cell, hB3.cell, hA1.cell, hA2.cell, hA3.cell] <;> rfl) sz95 (by simp only [EN, Nat.reduceEqDiff, reduceIte, Value.cells, k6_0, hp.cell, hB1.cell, hB2.cell, hB3.cell, hA1.cell, hA2.cell, hA3.cell] <;> rfl) rfl hA2 (by first | (simp [true_and]; done) | (simp [true_and]; omega) | omega) (by simp [Value.oneCell']) ?_
      intro h9 hw9
      have hR := hw9.at_
      try simp only [splc, List.take_succ_cons, List.take_zero, List.take_nil, List.drop_succ_cons, List.drop_zero, List.drop_nil, List.cons_append, List.nil_append, List.length_cons, List.length_nil, Nat.zero_add, Nat.add_zero, Nat.reduceAdd, List.append_nil] at hR
      have hmk9 := hmk.wr hw9 hA2
      have hE9 := hw9.ext hx (by omega)
      refine WL.nil ?_
      refine th_norm ?_
      refine hx_ret ?_
      refine fin_marks (.inr rfl) [.cell 6 95] rfl rfl hmk9 ?_
      intro h5 hg5
      have hR5 := hR.gs hg5 (fun hh => by have := hmk9.df _ hh; have h8 : some (Obj.deferred (some [])) = _ := this.symm.trans hR; cases h8)
      exact ⟨[wV (dS q (allP ((xs.map BX.bd).take i)))], by simp only [resv, ld95, readN, AR, Nat.zero_add, Nat.reduceAdd, EN, Nat.reduceEqDiff, reduceIte, k4_0, k6_0, k7_0, k16_0, k17_0, i18_0, hp.cell, hB1.cell, hB2.cell, hB3.cell, hA1.cell, hA2.cell, hA3.cell, hR5.cell], rfl, hg5.toExt hE9 hmk9.lo⟩
end GL


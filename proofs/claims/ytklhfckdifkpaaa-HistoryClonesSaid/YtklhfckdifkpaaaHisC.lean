/- History: a history in memory, as it is read; the sum of an account. -/
import Derived.Test.YtklhfckdifkpaaaHisB
set_option linter.unusedSimpArgs false
set_option linter.unusedVariables false
set_option linter.unnecessarySimpa false
namespace GL
open Go Go.Proofs
set_option maxRecDepth 8000
def BXs (h : Heap) (xs : List BX) : Prop := ∀ x ∈ xs, BXin h x
theorem BXs.ext {h h' : Heap} {xs : List BX} (hb : BXs h xs) (hx : Ext h h') : BXs h' xs := fun x hm => (hb x hm).ext hx
/-- A history in memory, as it is read. -/
structure HR (h : Heap) (p : Nat) (l : List HB) : Prop where
  ex : ∃ a cap xs, Has h p (.cells #[.slice a xs.length cap] tyH) ∧ SlG 4 bdL h a xs ∧ xs.map BX.bd = l ∧ BXs h xs ∧ xs.length ≤ cap ∧ ∀ x, a = some x → x.spot = none
theorem HR.ext {h h' : Heap} {p : Nat} {l : List HB} (hr : HR h p l) (hx : Ext h h') : HR h' p l := by
  obtain ⟨a, cap, xs, h1, h2, h3, h4, h5, h6⟩ := hr.ex
  exact ⟨a, cap, xs, h1.ext hx, h2.ext hx, h3, h4.ext hx, h5, h6⟩
/-- A history within the limits of the statements. -/
structure GS (l : List HB) : Prop where
  g : GH l
  n : l.length ≤ 12
  f : ∀ b ∈ l, FB b
theorem FB.lens {x : BX} (h : FB x.bd) : x.ps.length ≤ 1000000 ∧ ∀ p ∈ x.ps, p.ps.length ≤ 1000000 := by
  obtain ⟨h1, h2⟩ := h
  simp only [BX.bd, List.length_map] at h1
  refine ⟨by omega, fun p hp => ?_⟩
  have := (h2 p.pt (List.mem_map.2 ⟨p, hp, rfl⟩)).1
  simp only [PX.pt] at this
  omega
theorem bd_at {xs : List BX} {i : Nat} {x : BX} (h : xs[i]? = some x) : (xs.map BX.bd)[i]? = some x.bd := by rw [List.getElem?_map, h]; rfl
theorem allP_step {l : List HB} {i : Nat} {b : HB} (h : l[i]? = some b) : allP (l.take (i + 1)) = allP (l.take i) ++ pos b := by
  rw [List.take_add_one, h, allP_app]; simp [allP]
theorem dS_step (q : AC) {l : List PO} {i : Nat} {y : PO} (h : l[i]? = some y) : dS q (l.take (i + 1)) = dS q (l.take i) + if y.c = q then y.d else 0 := by
  rw [List.take_add_one, h, dS_app]; simp [dS_one]
theorem mem_allP {l : List HB} {b : HB} (hb : b ∈ l) {y : PO} (hy : y ∈ pos b) : y ∈ allP l := List.mem_flatMap.2 ⟨b, hb, hy⟩
/-- How large a sum on the way may be. -/
theorem GS.sum {l : List HB} (hg : GS l) (q : AC) {i j : Nat} {b : HB} (hi : l[i]? = some b) : -1200000000000000000 ≤ dS q (allP (l.take i) ++ (pos b).take j) ∧ dS q (allP (l.take i) ++ (pos b).take j) ≤ 1200000000000000000 := by
  have hb : b ∈ l := List.mem_of_getElem? hi
  have h1 := dS_bd q (l := allP (l.take i) ++ (pos b).take j) (fun x hx => by
    rcases List.mem_append.1 hx with hx | hx
    · obtain ⟨c, hc, hx2⟩ := List.mem_flatMap.1 hx
      exact pos_in (hg.g.mem (List.mem_of_mem_take hc)) x hx2
    · exact pos_in (hg.g.mem hb) x (List.mem_of_mem_take hx))
  have h2 : (allP (l.take i)).length ≤ (l.take i).length * 96 := flat_le fun c hc => (hg.f c (List.mem_of_mem_take hc)).pos
  have h3 := (hg.f b hb).pos
  have h4 := hg.n
  have h5 : (l.take i).length ≤ 12 := by rw [List.length_take]; omega
  have h6 : ((pos b).take j).length ≤ 96 := by rw [List.length_take]; omega
  have h7 : (l.take i).length < 12 := by
    have := (List.getElem?_eq_some_iff.1 hi).1
    rw [List.length_take]; omega
  have h8 : ((allP (l.take i) ++ (pos b).take j).length : Int) ≤ 1152 := by
    rw [List.length_append]; omega
  simp only [MA] at h1
  omega
structure SB (h0 h7 : Heap) (B : Nat) (rec : Loop) (s : Int) (hx : Heap) : Prop where
  rx : RX h0 h7 [B] rec hx
  b : Has hx B (.cells #[iV (s / 1000000), iV (s % 1000000)] 95)
set_option maxHeartbeats 2000000 in
theorem c_sum {h : Heap} {p : Nat} {l : List HB} (q : AC) (n : Nat) (hn : n ≤ l.length) (hg : GS l) (hr : HR h p l) :
    HCalls Try.prog 42 #[.pointer (some ⟨p, 0, none⟩), acV q, iV n] h (Grow (wV (dS q (allP (l.take n)))) h) := by
  obtain ⟨av, cap, xs, hp, hsx, hxl, hbx, hcap, hsp⟩ := hr.ex
  subst hxl
  have hln : n ≤ xs.length := by simpa using hn
  have hx12 : xs.length ≤ 12 := by have := hg.n; simpa using this
  have ksx := hsx
  have kbx := hbx
  refine hcalls2 Try.func42 rfl (by decide +kernel) (by simp only [Try.ntmps42]; exact of_decide_eq_true rfl) ?_
  intro e hin
  have e0 := hin 0 _ rfl
  have e1 := hin 1 _ rfl
  have e2 := hin 2 _ rfl
  refine hx_seq ?_
  refine hx_region ?_
  refine WL.box2 (by simp only [EN, Nat.reduceEqDiff, reduceIte, Value.cells, e1, hp.cell]; rfl) ?_
  intro h1 B1 hx1 hlt1 hB1
  replace hp := hp.ext hx1
  refine WL.alloc2 zr95 ?_
  intro h2 B2 hx2 hlt2 hB2
  replace hp := hp.ext hx2
  replace hB1 := hB1.ext hx2
  simp only [Value.cells] at hB2
  refine WL.nil ?_
  refine th_norm ?_
  refine hx_seq ?_
  refine hx_region ?_
  have kz1 := hx1.size; have k1 := (Array.getElem?_eq_some_iff.1 hB1).1; have k2 := (Array.getElem?_eq_some_iff.1 hB2).1
  refine WL.alloc2 zr95 ?_
  intro h3 B3 hx3 hlt3 hB3
  replace hp := hp.ext hx3
  replace hB1 := hB1.ext hx3
  replace hB2 := hB2.ext hx3
  simp only [Value.cells] at hB3
  refine WL.nil ?_
  refine th_norm ?_
  refine hx_seq ?_
  refine hx_seq ?_
  refine hx_region ?_
  refine WL.qq (by simp only [EN, Nat.reduceEqDiff, reduceIte, qv_move, e0, hp.cell, hB1.cell, hB2.cell, hB3.cell]; rfl) ?_
  refine WL.qq (by simp only [EN, Nat.reduceEqDiff, reduceIte, qv_nilCheck, hp.cell, hB1.cell, hB2.cell, hB3.cell]; rfl) ?_
  refine WL.qq (by simp only [EN, Nat.reduceEqDiff, reduceIte, qv_fieldAddr, fa93_0, Nat.zero_add, Nat.reduceAdd, hp.cell, hB1.cell, hB2.cell, hB3.cell]; rfl) ?_
  refine WL.qq (by simp only [EN, Nat.reduceEqDiff, reduceIte, qv_load, ld91, readN, AR, Nat.zero_add, Nat.reduceAdd, hp.cell, hB1.cell, hB2.cell, hB3.cell]; rfl) ?_
  refine WL.qq (by simp only [EN, Nat.reduceEqDiff, reduceIte, qv_move, e2, hp.cell, hB1.cell, hB2.cell, hB3.cell]; rfl) ?_
  refine WL.qq (by simp only [EN, Nat.reduceEqDiff, reduceIte, e0, e1, e2, hp.cell, hB1.cell, hB2.cell, hB3.cell, qv_slice, Option.map_some, Option.map_none, iV]; exact (show slicev Try.prog 91 (.slice av xs.length cap) none (some (.int .i64 (n : Int))) none = some (.slice av n cap) by rw [slicev_h Try.underlying91 sz55 av hsp xs.length cap .i64 (n : Int) (by omega) (by omega), Int.toNat_natCast])) ?_
  refine WL.qq (by simp only [EN, Nat.reduceEqDiff, reduceIte, qv_len, ln91, AR, hp.cell, hB1.cell, hB2.cell, hB3.cell]; rfl) ?_
  refine WL.qq (by simp only [EN, Nat.reduceEqDiff, reduceIte, qv_move, hp.cell, hB1.cell, hB2.cell, hB3.cell]; rfl) ?_
  refine WL.nil ?_
  refine th_norm ?_
  refine hx_block ?_
  refine hx_loopM [9, 10, 18, 19, 20, 21, 22, 23, 25, 26, 27, 28, 29, 30, 31, 32, 33] (fun k e ms hL0 => ∃ (i : Nat), n - i = k ∧ (i ≤ n) ∧ (Ext h hL0) ∧ (Has hL0 B1 (.cells (acL q).toArray 35)) ∧ (Has hL0 B2 (.cells #[iV 0, iV 0] 95)) ∧ (Has hL0 B3 (.cells #[iV (dS q (allP ((xs.map BX.bd).take i)) / 1000000), iV (dS q (allP ((xs.map BX.bd).take i)) % 1000000)] 95)) ∧ (MK h.size hL0 ms) ∧ e 18 = .int .i64 i) _ [] ⟨0, rfl, ?_, ?_, ?_, ?_, ?_, ?_, ?_⟩ ?_
  · omega
  · exact ((hx1).trans ((hx2).trans (hx3)))
  · exact hB1
  · exact hB2
  · exact hB3
  · exact MK.nil
  · simp only [EN, Nat.reduceEqDiff, reduceIte, e0, e1, e2, hp.cell, hB1.cell, hB2.cell, hB3.cell] <;> rfl
  ·
    rintro k e0L ms hL0 hfr0 ⟨i, rfl, hi, hx, hA1, hA2, hA3, hmk, i18_0⟩
    have k4_0 := hfr0 4 rfl; try simp only [EN, Nat.reduceEqDiff, reduceIte, hp.cell, hB1.cell, hB2.cell, hB3.cell] at k4_0
    have k6_0 := hfr0 6 rfl; try simp only [EN, Nat.reduceEqDiff, reduceIte, hp.cell, hB1.cell, hB2.cell, hB3.cell] at k6_0
    have k7_0 := hfr0 7 rfl; try simp only [EN, Nat.reduceEqDiff, reduceIte, hp.cell, hB1.cell, hB2.cell, hB3.cell] at k7_0
    have k16_0 := hfr0 16 rfl; try simp only [EN, Nat.reduceEqDiff, reduceIte, hp.cell, hB1.cell, hB2.cell, hB3.cell] at k16_0
    have k17_0 := hfr0 17 rfl; try simp only [EN, Nat.reduceEqDiff, reduceIte, hp.cell, hB1.cell, hB2.cell, hB3.cell] at k17_0
    refine hx_seq ?_
    refine hx_region ?_
    refine WL.qq (by simp only [EN, Nat.reduceEqDiff, reduceIte, qv_binOp, binv_lss, k17_0, i18_0, hp.cell, hB1.cell, hB2.cell, hB3.cell, hA1.cell, hA2.cell, hA3.cell]; rfl) ?_
    refine WL.nil ?_
    refine th_norm ?_
    refine hx_seq ?_
    refine hx_cond (by simp only [EN, Nat.reduceEqDiff, reduceIte, hp.cell, hB1.cell, hB2.cell, hB3.cell, hA1.cell, hA2.cell, hA3.cell]; rfl) (fun hct19 => ?_) (fun hct19 => ?_)
    ·
      try simp only [BD] at hct19
      obtain ⟨x, hxi⟩ := atG (l := xs) (i := i) (by omega)
      obtain ⟨b1, o1, rfl, hr4, _⟩ := bd_rd (ksx.ext hx) hxi
      have hxb := bd_at hxi
      have hxm : x.bd ∈ xs.map BX.bd := List.mem_of_getElem? hxb
      have hxl := (hg.f _ hxm).lens
      have kz0 := hx.size
      refine hx_skip ?_
      refine th_norm ?_
      refine hx_seq ?_
      refine hx_block ?_
      refine hx_seq ?_
      refine hx_region ?_
      refine WL.qq (by simp only [EN, Nat.reduceEqDiff, reduceIte, qv_indexAddr, k16_0, i18_0, hp.cell, hB1.cell, hB2.cell, hB3.cell, hA1.cell, hA2.cell, hA3.cell]; (try simp (disch := omega) only [ix91, Int.toNat_natCast]); rfl) ?_
      refine WL.qq (by simp only [EN, Nat.reduceEqDiff, reduceIte, k4_0, k6_0, k7_0, k16_0, k17_0, i18_0, hp.cell, hB1.cell, hB2.cell, hB3.cell, hA1.cell, hA2.cell, hA3.cell, qv_load, ld55, Int.toNat_natCast, hr4]; rfl) ?_
      refine WL.allocSt zr55 sz55 (fun u => by simp only [EN, Nat.reduceEqDiff, reduceIte, Value.cells, hp.cell, hB1.cell, hB2.cell, hB3.cell, hA1.cell, hA2.cell, hA3.cell]; rfl) ⟨rfl, rfl⟩ (by simp [Value.oneCell']) ?_
      intro h4 B4 hx4 hlt4 hB4
      replace hA1 := hA1.ext hx4
      replace hA2 := hA2.ext hx4
      replace hA3 := hA3.ext hx4
      refine WL.nil ?_
      refine th_norm ?_
      refine hx_seq ?_
      refine hx_region ?_
      refine WL.qq (by simp only [EN, Nat.reduceEqDiff, reduceIte, qv_load, ld55, readN, AR, Nat.zero_add, Nat.reduceAdd, hp.cell, hB1.cell, hB2.cell, hB3.cell, hA1.cell, hA2.cell, hA3.cell, hB4.cell]; rfl) ?_
      have k3 := (Array.getElem?_eq_some_iff.1 hA3).1
      refine WL.ce Try.call48 (by simp only [EN, Nat.reduceEqDiff, reduceIte, AR, hp.cell, hB1.cell, hB2.cell, hB3.cell, hA1.cell, hA2.cell, hA3.cell, hB4.cell]; exact c_post x _) ?_
      rintro _ h5 ⟨hx5, B9, rfl, hlt9, hB9⟩
      replace hA1 := hA1.ext hx5
      replace hA2 := hA2.ext hx5
      replace hA3 := hA3.ext hx5
      replace hB4 := hB4.ext hx5
      simp only [put_some]
      refine WL.nil ?_
      refine th_norm ?_
      refine hx_block ?_
      refine hx_range (by simp only [EN, Nat.reduceEqDiff, reduceIte, k4_0, k6_0, k7_0, k16_0, k17_0, i18_0, hp.cell, hB1.cell, hB2.cell, hB3.cell, hA1.cell, hA2.cell, hA3.cell, hB4.cell]; rfl) Try.call67 ?_
      intro fnR0 hR0 hxR0 hsR0 hdR0 hrR0
      have hXL := ((hx4).trans (hx5))
      have kx0 : Ext h h5 := hx.trans hXL
      have hq3 := (Array.getElem?_eq_some_iff.1 hA3).1
      have hq1 := (Array.getElem?_eq_some_iff.1 hA1).1
      have hq2 := (Array.getElem?_eq_some_iff.1 hA2).1
      have hq9 := (Array.getElem?_eq_some_iff.1 hB9).1
      generalize hrec : recOf _ _ _ _ _ _ _ = rec at hrR0
      refine (c_postYield x B9 (h5.size + 1) (fun j hy => SB h h5 B3 rec (dS q (allP ((xs.map BX.bd).take i) ++ (pos x.bd).take j)) hy) (fun _ => False) hxl ?_ ?_ ?_ ?_).mono ?_
      · rintro j h1 h2 ⟨q1, q2⟩ he; exact ⟨q1.ext he, q2.ext he⟩
      · rintro j hy ⟨q1, q2⟩; exact ⟨hB9.gs q1.gs (by simp; omega), (kbx x (List.mem_of_getElem? hxi)).ext q1.ex⟩
      rotate_left
      · exact ⟨RX.start hxR0 hsR0 hdR0 hrR0 kx0 (by simp; omega) (by simp; omega), by rw [List.take_zero, List.append_nil]; exact hA3.ext hxR0⟩
      rotate_left
      ·
        rintro j y hy hyj ⟨hC, hT⟩
        have hsz := hC.size
        subst hrec
        have hsum := hg.sum q hxb (j := j)
        have hyd : inR y.d := pos_in (hg.g.mem hxm) y (List.mem_of_getElem? hyj)
        have hstep : dS q (allP ((xs.map BX.bd).take i) ++ (pos x.bd).take (j + 1)) = dS q (allP ((xs.map BX.bd).take i) ++ (pos x.bd).take j) + if y.c = q then y.d else 0 := by rw [dS_app, dS_app, dS_step q hyj]; omega
        refine hy_body (vs := [.agg (poL y).toArray]) (ps := [24]) hC.rc rfl rfl rfl (by decide) rfl rfl ?_
        simp only [pars, List.zip_cons_cons, List.zip_nil_left, List.foldl_cons, List.foldl_nil]
        have hD1 := hA1.gs hC.gs (by simp; omega)
        refine hx_region ?_
        refine WL.allocSt zr74 sz74 (fun u => by simp only [EN, Nat.reduceEqDiff, reduceIte, Value.cells, hp.cell, hB1.cell, hB2.cell, hB3.cell, hA1.cell, hA2.cell, hA3.cell, hB4.cell, hT.cell, hD1.cell]; rfl) ⟨rfl, rfl⟩ (by simp [Value.oneCell']) ?_
        intro h6 B6 hx6 hlt6 hB6
        replace hC := hC.ext hx6
        replace hT := hT.ext hx6
        replace hD1 := hD1.ext hx6
        refine WL.nil ?_
        refine th_norm ?_
        refine ⟨_, hC.rc, rfl, ?_⟩
        intro h20 hw20
        replace hC := hC.turn hw20
        replace hT := hT.wr hw20 (by omega)
        replace hD1 := hD1.wr hw20 (by omega)
        replace hB6 := hB6.wr hw20 (by omega)
        refine hx_block ?_
        refine hx_seq ?_
        refine hx_region ?_
        refine WL.qq (by simp only [EN, Nat.reduceEqDiff, reduceIte, qv_fieldAddr, fa74_0, Nat.zero_add, Nat.reduceAdd, hp.cell, hB1.cell, hB2.cell, hB3.cell, hA1.cell, hA2.cell, hA3.cell, hB4.cell, hT.cell, hD1.cell, hB6.cell]; rfl) ?_
        refine WL.qq (by simp only [EN, Nat.reduceEqDiff, reduceIte, qv_load, ld35, readN, AR, Nat.zero_add, Nat.reduceAdd, hp.cell, hB1.cell, hB2.cell, hB3.cell, hA1.cell, hA2.cell, hA3.cell, hB4.cell, hT.cell, hD1.cell, hB6.cell]; rfl) ?_
        refine WL.qq (by simp only [EN, Nat.reduceEqDiff, reduceIte, qv_load, ld35, readN, AR, Nat.zero_add, Nat.reduceAdd, k4_0, hp.cell, hB1.cell, hB2.cell, hB3.cell, hA1.cell, hA2.cell, hA3.cell, hB4.cell, hT.cell, hD1.cell, hB6.cell]; rfl) ?_
        refine WL.qq (by simp only [EN, Nat.reduceEqDiff, reduceIte, qv_binOp, binv_eql, eqs35, Option.map_some, hp.cell, hB1.cell, hB2.cell, hB3.cell, hA1.cell, hA2.cell, hA3.cell, hB4.cell, hT.cell, hD1.cell, hB6.cell]; rfl) ?_
        refine WL.nil ?_
        refine th_norm ?_
        refine hx_cond (by simp only [EN, Nat.reduceEqDiff, reduceIte, hp.cell, hB1.cell, hB2.cell, hB3.cell, hA1.cell, hA2.cell, hA3.cell, hB4.cell, hT.cell, hD1.cell, hB6.cell]; rfl) (fun hct28 => ?_) (fun hct28 => ?_)
        ·
          try simp only [BD] at hct28
          have hq : y.c = q := (by simpa [ac_eq] using hct28)
          refine hx_region ?_
          refine WL.qq (by simp only [EN, Nat.reduceEqDiff, reduceIte, qv_load, ld95, readN, AR, Nat.zero_add, Nat.reduceAdd, k7_0, hp.cell, hB1.cell, hB2.cell, hB3.cell, hA1.cell, hA2.cell, hA3.cell, hB4.cell, hT.cell, hD1.cell, hB6.cell]; rfl) ?_
          refine WL.qq (by simp only [EN, Nat.reduceEqDiff, reduceIte, qv_fieldAddr, fa74_1, Nat.zero_add, Nat.reduceAdd, hp.cell, hB1.cell, hB2.cell, hB3.cell, hA1.cell, hA2.cell, hA3.cell, hB4.cell, hT.cell, hD1.cell, hB6.cell]; rfl) ?_
          refine WL.qq (by simp only [EN, Nat.reduceEqDiff, reduceIte, qv_load, ld2, readN, AR, Nat.zero_add, Nat.reduceAdd, hp.cell, hB1.cell, hB2.cell, hB3.cell, hA1.cell, hA2.cell, hA3.cell, hB4.cell, hT.cell, hD1.cell, hB6.cell]; rfl) ?_
          refine WL.cg Try.call66 (by simp only [EN, Nat.reduceEqDiff, reduceIte, AR, hp.cell, hB1.cell, hB2.cell, hB3.cell, hA1.cell, hA2.cell, hA3.cell, hB4.cell, hT.cell, hD1.cell, hB6.cell]; exact c_plus _ y.d (by omega) hyd _) ?_
          intro h7 hx7
          replace hC := hC.ext hx7
          replace hT := hT.ext hx7
          replace hD1 := hD1.ext hx7
          replace hB6 := hB6.ext hx7
          refine WL.store (by simp only [EN, Nat.reduceEqDiff, reduceIte, k7_0, hp.cell, hB1.cell, hB2.cell, hB3.cell, hA1.cell, hA2.cell, hA3.cell, hB4.cell, hT.cell, hD1.cell, hB6.cell] <;> rfl) sz95 (by simp only [EN, Nat.reduceEqDiff, reduceIte, Value.cells, k7_0, hp.cell, hB1.cell, hB2.cell, hB3.cell, hA1.cell, hA2.cell, hA3.cell, hB4.cell, hT.cell, hD1.cell, hB6.cell] <;> rfl) rfl hT (by first | (simp [true_and]; done) | (simp [true_and]; omega) | omega) (by simp [Value.oneCell']) ?_
          intro h8 hw8
          replace hC := hC.put hw8 (.inl (by simp))
          replace hT : Has _ B3 (.cells #[iV (dS q (allP ((xs.map BX.bd).take i) ++ (pos x.bd).take (j + 1)) / 1000000), iV (dS q (allP ((xs.map BX.bd).take i) ++ (pos x.bd).take (j + 1)) % 1000000)] 95) := (by rw [hstep, if_pos hq]; have h9 := hw8.at_; simpa [splc] using h9)
          refine WL.nil ?_
          refine bl_norm ?_
          refine ⟨_, hC.rc, ?_⟩
          intro h30 hw30
          exact ⟨true, rfl, fun _ => ⟨hC.turn hw30, hT.wr hw30 (by omega)⟩, fun hh => by cases hh⟩
        ·
          try simp only [BD] at hct28
          have hq : y.c ≠ q := fun hh => (by rw [ac_eq] at hh; simp [hh] at hct28)
          replace hT : Has _ B3 (.cells #[iV (dS q (allP ((xs.map BX.bd).take i) ++ (pos x.bd).take (j + 1)) / 1000000), iV (dS q (allP ((xs.map BX.bd).take i) ++ (pos x.bd).take (j + 1)) % 1000000)] 95) := (by rw [hstep, if_neg hq, Int.add_zero]; exact hT)
          refine hx_skip ?_
          refine bl_norm ?_
          refine ⟨_, hC.rc, ?_⟩
          intro h30 hw30
          exact ⟨true, rfl, fun _ => ⟨hC.turn hw30, hT.wr hw30 (by omega)⟩, fun hh => by cases hh⟩
      ·
        rintro v0 h3 (⟨hC, hT⟩ | hf)
        rotate_left
        · exact hf.elim
        refine after_any hC.rc (by subst hrec; rfl) (.inl ⟨by subst hrec; rfl, ?_⟩)
        intro h31 o hw31
        rw [List.take_length, ← allP_step hxb] at hT
        replace hT := hT.wr hw31 (by omega)
        have hE31 := (hC.end_ hw31 (by omega)).2
        have hmk31 := hmk.range hXL kz0 hC (by simp; rw [hA3]; simp) hw31
        have hF1 := (hA1.gs hC.gs (by simp; omega)).wr hw31 (by omega)
        have hF2 := (hA2.gs hC.gs (by simp; omega)).wr hw31 (by omega)
        refine bl_norm ?_
        refine bl_norm ?_
        refine th_norm ?_
        refine hx_region ?_
        refine WL.qq (by simp only [EN, Nat.reduceEqDiff, reduceIte, qv_binOp, binv_add, i18_0, hp.cell, hB1.cell, hB2.cell, hB3.cell, hA1.cell, hA2.cell, hA3.cell, hB4.cell]; (try simp (disch := omega) only [w64, w8, wu64]); rfl) ?_
        refine WL.qq (by simp only [EN, Nat.reduceEqDiff, reduceIte, qv_move, hp.cell, hB1.cell, hB2.cell, hB3.cell, hA1.cell, hA2.cell, hA3.cell, hB4.cell]; rfl) ?_
        refine WL.nil ?_
        refine th_norm ?_
        refine ⟨(Array.size h5 :: ms), rfl, ?_, _, ?_, i + 1, rfl, ?_, ?_, ?_, ?_, ?_, ?_, ?_⟩  -- again 0 of loop 0
        · (repeat (first | exact Fr.refl _ _ | refine Fr.set rfl ?_ | refine Fr.put rfl ?_ | with_reducible refine Fr.put0 ?_))
        · omega
        · omega
        · exact hE31
        · exact hF1
        · exact hF2
        · exact hT
        · exact hmk31
        · simp only [EN, Nat.reduceEqDiff, reduceIte, k4_0, k6_0, k7_0, k16_0, k17_0, i18_0, hp.cell, hB1.cell, hB2.cell, hB3.cell, hA1.cell, hA2.cell, hA3.cell, hB4.cell] <;> first | rfl | (congr 1; omega)
    ·
      try simp only [BD] at hct19
      obtain rfl : i = n := (by omega)
      refine hx_exit ?_
      refine th_exit ?_
      refine th_exit ?_
      refine bl_hit ?_
      refine th_norm ?_
      refine hx_seq ?_
      refine hx_region ?_
      refine WL.qq (by simp only [EN, Nat.reduceEqDiff, reduceIte, qv_load, ld95, readN, AR, Nat.zero_add, Nat.reduceAdd, k7_0, hp.cell, hB1.cell, hB2.cell, hB3.cell, hA1.cell, hA2.cell, hA3.cell]; rfl) ?_
      refine WL.store (by simp only [EN, Nat.reduceEqDiff, reduceIte, k6_0, hp.cell, hB1.cell, hB2.cell, hB3.cell, hA1.cell, hA2.cell, hA3.cell] <;> rfl) sz95 (by simp only [EN, Nat.reduceEqDiff, reduceIte, Value.cells, k6_0, hp.cell, hB1.cell, hB2.cell, hB3.cell, hA1.cell, hA2.cell, hA3.cell] <;> rfl) rfl hA2 (by first | (simp [true_and]; done) | (simp [true_and]; omega) | omega) (by simp [Value.oneCell']) ?_
      intro h9 hw9
      have hR := hw9.at_
      try simp only [splc, List.take_succ_cons, List.take_zero, List.take_nil, List.drop_succ_cons, List.drop_zero, List.drop_nil, List.cons_append, List.nil_append, List.length_cons, List.length_nil, Nat.zero_add, Nat.add_zero, Nat.reduceAdd, List.append_nil] at hR
      have hmk9 := hmk.wr hw9 hA2
      have hE9 := hw9.ext hx (by omega)
      refine WL.nil ?_
      refine th_norm ?_
      refine hx_ret ?_
      refine fin_marks (.inr rfl) [.cell 6 95] rfl rfl hmk9 ?_
      intro h5 hg5
      have hR5 := hR.gs hg5 (fun hh => by have := hmk9.df _ hh; have h8 : some (Obj.deferred (some [])) = _ := this.symm.trans hR; cases h8)
      exact ⟨[wV (dS q (allP ((xs.map BX.bd).take i)))], by simp only [resv, ld95, readN, AR, Nat.zero_add, Nat.reduceAdd, EN, Nat.reduceEqDiff, reduceIte, k4_0, k6_0, k7_0, k16_0, k17_0, i18_0, hp.cell, hB1.cell, hB2.cell, hB3.cell, hA1.cell, hA2.cell, hA3.cell, hR5.cell], rfl, hg5.toExt hE9 hmk9.lo⟩
end GL
set_option linter.unusedSimpArgs false
set_option linter.unusedVariables false
set_option linter.unnecessarySimpa false
namespace GL
open Go Go.Proofs
set_option maxRecDepth 8000
abbrev ptr (p : Nat) : Value := .pointer (some ⟨p, 0, none⟩)
theorem c_len {h : Heap} {p : Nat} {l : List HB} (hr : HR h p l) : HCalls Try.prog 23 #[ptr p] h (Pure (iV l.length) h) := by
  obtain ⟨av, cap, xs, hp, hsx, hxl, hbx, hcap, hsp⟩ := hr.ex
  subst hxl
  refine hcalls2 Try.func23 rfl (by decide +kernel) (by simp only [Try.ntmps23]; exact of_decide_eq_true rfl) ?_
  intro e hin
  have e0 := hin 0 _ rfl
  refine hx_seq ?_
  refine hx_region ?_
  refine WL.qq (by simp only [EN, Nat.reduceEqDiff, reduceIte, qv_assign, hp.cell]; rfl) ?_
  refine WL.nil ?_
  refine th_norm ?_
  refine hx_seq ?_
  refine hx_seq ?_
  refine hx_region ?_
  refine WL.qq (by simp only [EN, Nat.reduceEqDiff, reduceIte, qv_move, e0, hp.cell]; rfl) ?_
  refine WL.qq (by simp only [EN, Nat.reduceEqDiff, reduceIte, qv_binOp, binv_eql, eqz27, eqn27, eqm27, Option.map_some, hp.cell]; rfl) ?_
  refine WL.nil ?_
  refine th_norm ?_
  refine hx_cond (by simp only [EN, Nat.reduceEqDiff, reduceIte, hp.cell]; rfl) (fun hct4 => ?_) (fun hct4 => ?_)
  ·
    simp at hct4
  ·
    try simp only [BD] at hct4
    refine hx_skip ?_
    refine th_norm ?_
    refine hx_seq ?_
    refine hx_region ?_
    refine WL.qq (by simp only [EN, Nat.reduceEqDiff, reduceIte, qv_move, e0, hp.cell]; rfl) ?_
    refine WL.qq (by simp only [EN, Nat.reduceEqDiff, reduceIte, qv_nilCheck, hp.cell]; rfl) ?_
    refine WL.qq (by simp only [EN, Nat.reduceEqDiff, reduceIte, qv_fieldAddr, fa93_0, Nat.zero_add, Nat.reduceAdd, hp.cell]; rfl) ?_
    refine WL.qq (by simp only [EN, Nat.reduceEqDiff, reduceIte, qv_load, ld91, readN, AR, Nat.zero_add, Nat.reduceAdd, hp.cell]; rfl) ?_
    refine WL.qq (by simp only [EN, Nat.reduceEqDiff, reduceIte, qv_len, ln91, AR, hp.cell]; rfl) ?_
    refine WL.qq (by simp only [EN, Nat.reduceEqDiff, reduceIte, qv_assign, hp.cell]; rfl) ?_
    refine WL.nil ?_
    refine th_norm ?_
    refine hx_ret ?_
    refine fin_ret [.tmp 2] rfl rfl (by simp only [EN, Nat.reduceEqDiff, reduceIte, resv, e0, hp.cell]; rfl) ?_  -- ret 0 r3
    exact ⟨by rw [List.length_map]; rfl, rfl⟩
/-- The sum of an account over the first n bundles. -/
def balA (l : List HB) (q : AC) (n : Int) : Int := if 0 ≤ n ∧ n ≤ l.length then dS q (allP (l.take n.toNat)) else 0
def balE (l : List HB) (n : Int) : Int := if 0 ≤ n ∧ n ≤ l.length then 0 else 2
theorem GS.all {l : List HB} (hg : GS l) (q : AC) (n : Nat) : -1200000000000000000 ≤ dS q (allP (l.take n)) ∧ dS q (allP (l.take n)) ≤ 1200000000000000000 := by
  have h1 := dS_bd q (l := allP (l.take n)) (hg.g.take n).inR
  have h2 := all_len (l := l.take n) (fun b hb => hg.f b (List.mem_of_mem_take hb)) (by rw [List.length_take]; have := hg.n; omega)
  simp only [MA] at h1
  omega
theorem c_balAt {h : Heap} {p : Nat} {l : List HB} (q : AC) (n : Int) (hg : GS l) (hr : HR h p l) :
    HCalls Try.prog 16 #[ptr p, acV q, iV n] h (Grow (.tuple #[iV (balA l q n), iV (balE l n)]) h) := by
  obtain ⟨av, cap, xs, hp, hsx, hxl, hbx, hcap, hsp⟩ := hr.ex
  subst hxl
  have hr0 := hr
  refine hcalls2 Try.func16 rfl (by decide +kernel) (by simp only [Try.ntmps16]; exact of_decide_eq_true rfl) ?_
  intro e hin
  have e0 := hin 0 _ rfl
  have e1 := hin 1 _ rfl
  have e2 := hin 2 _ rfl
  refine hx_seq ?_
  refine hx_region ?_
  refine WL.box2 (by simp only [EN, Nat.reduceEqDiff, reduceIte, Value.cells, e1, hp.cell]; rfl) ?_
  intro h1 B1 hx1 hlt1 hB1
  replace hp := hp.ext hx1
  replace hr0 := hr0.ext hx1
  refine WL.qq (by simp only [EN, Nat.reduceEqDiff, reduceIte, qv_assign, hp.cell, hB1.cell]; rfl) ?_
  refine WL.qq (by simp only [EN, Nat.reduceEqDiff, reduceIte, qv_assign, hp.cell, hB1.cell]; rfl) ?_
  refine WL.nil ?_
  refine th_norm ?_
  refine hx_seq ?_
  refine hx_block ?_
  refine hx_seq ?_
  refine hx_region ?_
  refine WL.qq (by simp only [EN, Nat.reduceEqDiff, reduceIte, qv_move, e0, hp.cell, hB1.cell]; rfl) ?_
  refine WL.qq (by simp only [EN, Nat.reduceEqDiff, reduceIte, qv_binOp, binv_eql, eqz27, eqn27, eqm27, Option.map_some, hp.cell, hB1.cell]; rfl) ?_
  refine WL.qq (by simp only [EN, Nat.reduceEqDiff, reduceIte, qv_assign, hp.cell, hB1.cell]; rfl) ?_
  refine WL.nil ?_
  refine th_norm ?_
  refine hx_cond (by simp only [EN, Nat.reduceEqDiff, reduceIte, hp.cell, hB1.cell]; rfl) (fun hct8 => ?_) (fun hct8 => ?_)
  ·
    simp at hct8
  ·
    try simp only [BD] at hct8
    refine hx_seq ?_
    refine hx_region ?_
    refine WL.qq (by simp only [EN, Nat.reduceEqDiff, reduceIte, qv_move, e2, hp.cell, hB1.cell]; rfl) ?_
    refine WL.qq (by simp only [EN, Nat.reduceEqDiff, reduceIte, qv_binOp, binv_lss, hp.cell, hB1.cell]; rfl) ?_
    refine WL.qq (by simp only [EN, Nat.reduceEqDiff, reduceIte, qv_move, hp.cell, hB1.cell]; rfl) ?_
    refine WL.cq (gd_at (t := 14) rfl (by simp only [EN, Nat.reduceEqDiff, reduceIte, e2, hp.cell, hB1.cell] <;> rfl)) (fun hg3_3 => by simp only [EN, Nat.reduceEqDiff, reduceIte, qv_move, e2, hp.cell, hB1.cell, hg3_3, GR]; rfl) ?_
    refine WL.cq (gd_at (t := 14) rfl (by simp only [EN, Nat.reduceEqDiff, reduceIte, e0, hp.cell, hB1.cell] <;> rfl)) (fun hg3_4 => by simp only [EN, Nat.reduceEqDiff, reduceIte, qv_move, e0, hp.cell, hB1.cell, hg3_4, GR]; rfl) ?_
    refine WL.cq (gd_at (t := 14) rfl (by simp only [EN, Nat.reduceEqDiff, reduceIte, hp.cell, hB1.cell] <;> rfl)) (fun hg3_5 => by simp only [EN, Nat.reduceEqDiff, reduceIte, qv_nilCheck, hp.cell, hB1.cell, hg3_5, GR]; rfl) ?_
    refine WL.cq (gd_at (t := 14) rfl (by simp only [EN, Nat.reduceEqDiff, reduceIte, hp.cell, hB1.cell] <;> rfl)) (fun hg3_6 => by simp only [EN, Nat.reduceEqDiff, reduceIte, qv_fieldAddr, fa93_0, Nat.zero_add, Nat.reduceAdd, hp.cell, hB1.cell, hg3_6, GR]; rfl) ?_
    refine WL.cq (gd_at (t := 14) rfl (by simp only [EN, Nat.reduceEqDiff, reduceIte, hp.cell, hB1.cell] <;> rfl)) (fun hg3_7 => by simp only [EN, Nat.reduceEqDiff, reduceIte, qv_load, ld91, readN, AR, Nat.zero_add, Nat.reduceAdd, hp.cell, hB1.cell, hg3_7, GR]; rfl) ?_
    refine WL.cq (gd_at (t := 14) rfl (by simp only [EN, Nat.reduceEqDiff, reduceIte, hp.cell, hB1.cell] <;> rfl)) (fun hg3_8 => by simp only [EN, Nat.reduceEqDiff, reduceIte, qv_len, ln91, AR, hp.cell, hB1.cell, hg3_8, GR]; rfl) ?_
    refine WL.cq (gd_at (t := 14) rfl (by simp only [EN, Nat.reduceEqDiff, reduceIte, hp.cell, hB1.cell] <;> rfl)) (fun hg3_9 => by simp only [EN, Nat.reduceEqDiff, reduceIte, qv_binOp, binv_gtr, hp.cell, hB1.cell, hg3_9, GR]; rfl) ?_
    refine WL.qq (by simp only [EN, Nat.reduceEqDiff, reduceIte, qv_pick, pk_and, pk_or, GR, hp.cell, hB1.cell]; rfl) ?_
    refine WL.qq (by simp only [EN, Nat.reduceEqDiff, reduceIte, qv_assign, hp.cell, hB1.cell]; rfl) ?_
    refine WL.nil ?_
    refine th_norm ?_
    refine hx_cond (by simp only [EN, Nat.reduceEqDiff, reduceIte, hp.cell, hB1.cell]; rfl) (fun hct11 => ?_) (fun hct11 => ?_)
    ·
      try simp only [BD] at hct11
      refine hx_seq ?_
      refine hx_region ?_
      refine WL.qq (by simp only [EN, Nat.reduceEqDiff, reduceIte, qv_assign, hp.cell, hB1.cell]; rfl) ?_
      refine WL.qq (by simp only [EN, Nat.reduceEqDiff, reduceIte, qv_assign, hp.cell, hB1.cell]; rfl) ?_
      refine WL.nil ?_
      refine th_norm ?_
      refine hx_ret ?_
      refine bl_ret ?_
      refine th_ret ?_
      refine fin_ret [.tmp 6, .tmp 7] rfl rfl (by simp only [EN, Nat.reduceEqDiff, reduceIte, resv, e0, e1, e2, hp.cell, hB1.cell]; rfl) ?_  -- ret 0 r4
      have hn : ¬ (0 ≤ n ∧ n ≤ ((xs.map BX.bd).length : Int)) := (by rw [List.length_map]; omega)
      exact ⟨by rw [balA, balE, if_neg hn, if_neg hn]; rfl, (hx1)⟩
    ·
      try simp only [BD] at hct11
      have hn : 0 ≤ n ∧ n ≤ ((xs.map BX.bd).length : Int) := (by rw [List.length_map]; omega)
      obtain ⟨m, rfl⟩ : ∃ m : Nat, n = (m : Int) := ⟨n.toNat, by omega⟩
      have hba : balA (xs.map BX.bd) q (m : Int) = dS q (allP ((xs.map BX.bd).take m)) := (by rw [balA, if_pos hn, Int.toNat_natCast])
      have hbe : balE (xs.map BX.bd) (m : Int) = 0 := if_pos hn
      have hsum := hg.all q m
      refine hx_skip ?_
      refine bl_norm ?_
      refine th_norm ?_
      refine hx_seq ?_
      refine hx_region ?_
      refine WL.qq (by simp only [EN, Nat.reduceEqDiff, reduceIte, qv_move, e0, hp.cell, hB1.cell]; rfl) ?_
      refine WL.qq (by simp only [EN, Nat.reduceEqDiff, reduceIte, qv_load, ld35, readN, AR, Nat.zero_add, Nat.reduceAdd, hp.cell, hB1.cell]; rfl) ?_
      refine WL.qq (by simp only [EN, Nat.reduceEqDiff, reduceIte, qv_move, e2, hp.cell, hB1.cell]; rfl) ?_
      refine WL.cg Try.call42 (by simp only [EN, Nat.reduceEqDiff, reduceIte, AR, hp.cell, hB1.cell]; exact c_sum q m (by omega) hg hr0) ?_
      intro h2 hx2
      replace hp := hp.ext hx2
      replace hr0 := hr0.ext hx2
      replace hB1 := hB1.ext hx2
      refine WL.cg Try.call43 (by simp only [EN, Nat.reduceEqDiff, reduceIte, AR, hp.cell, hB1.cell]; exact c_value _ (by omega) _) ?_
      intro h3 hx3
      replace hp := hp.ext hx3
      replace hr0 := hr0.ext hx3
      replace hB1 := hB1.ext hx3
      refine WL.qq (by simp only [EN, Nat.reduceEqDiff, reduceIte, qv_assign, hp.cell, hB1.cell]; rfl) ?_
      refine WL.qq (by simp only [EN, Nat.reduceEqDiff, reduceIte, qv_assign, hp.cell, hB1.cell]; rfl) ?_
      refine WL.nil ?_
      refine th_norm ?_
      refine hx_ret ?_
      refine fin_ret [.tmp 6, .tmp 7] rfl rfl (by simp only [EN, Nat.reduceEqDiff, reduceIte, resv, e0, e1, e2, hp.cell, hB1.cell]; rfl) ?_  -- ret 1 r5
      exact ⟨by rw [hba, hbe]; rfl, ((hx1).trans ((hx2).trans (hx3)))⟩
theorem c_size (x : BX) (h8 : x.ps.length ≤ 8) (h12 : ∀ p ∈ x.ps, p.ps.length ≤ 12) {h : Heap} (hin : BXin h x) {r : Int} (hr : (if x.ps = [] then (1 : Int) else 0) = r) :
    HCalls Try.prog 74 #[.agg (bdL x).toArray] h (Grow (iV r) h) := by
  subst hr
  obtain ⟨xs, xd, xm, xa, xp, xc⟩ := x
  simp only at h8 h12
  have hip : SlG 2 ptL h xa xp := hin.1
  refine hcalls2 Try.func74 rfl (by decide +kernel) (by simp only [Try.ntmps74]; exact of_decide_eq_true rfl) ?_
  intro e hin
  have e0 := hin 0 _ rfl
  refine hx_seq ?_
  refine hx_region ?_
  refine WL.box2 (by simp only [EN, Nat.reduceEqDiff, reduceIte, Value.cells, e0]; rfl) ?_
  intro h1 B1 hx1 hlt1 hB1
  replace hip := hip.ext hx1
  refine WL.qq (by simp only [EN, Nat.reduceEqDiff, reduceIte, qv_assign, hB1.cell]; rfl) ?_
  refine WL.nil ?_
  refine th_norm ?_
  refine hx_seq ?_
  refine hx_seq ?_
  refine hx_region ?_
  refine WL.qq (by simp only [EN, Nat.reduceEqDiff, reduceIte, qv_fieldAddr, fa55_2, Nat.zero_add, Nat.reduceAdd, hB1.cell]; rfl) ?_
  refine WL.qq (by simp only [EN, Nat.reduceEqDiff, reduceIte, qv_load, ld53, readN, AR, Nat.zero_add, Nat.reduceAdd, hB1.cell]; rfl) ?_
  refine WL.qq (by simp only [EN, Nat.reduceEqDiff, reduceIte, qv_len, ln53, AR, hB1.cell]; rfl) ?_
  refine WL.qq (by simp only [EN, Nat.reduceEqDiff, reduceIte, qv_binOp, binv_eql, eq3, Option.map_some, hB1.cell]; rfl) ?_
  refine WL.nil ?_
  refine th_norm ?_
  refine hx_cond (by simp only [EN, Nat.reduceEqDiff, reduceIte, hB1.cell]; rfl) (fun hct9 => ?_) (fun hct9 => ?_)
  ·
    try simp only [BD] at hct9
    refine hx_seq ?_
    refine hx_region ?_
    refine WL.qq (by simp only [EN, Nat.reduceEqDiff, reduceIte, qv_assign, hB1.cell]; rfl) ?_
    refine WL.nil ?_
    refine th_norm ?_
    refine hx_ret ?_
    refine th_ret ?_
    refine fin_ret [.tmp 2] rfl rfl (by simp only [EN, Nat.reduceEqDiff, reduceIte, resv, e0, hB1.cell]; rfl) ?_  -- ret 0 r2
    have h9 : xp = [] := List.length_eq_zero_iff.1 (by omega)
    exact ⟨by simp only; rw [if_pos h9]; rfl, (hx1)⟩
  ·
    try simp only [BD] at hct9
    have h9 : xp ≠ [] := (fun hh => by rw [hh] at hct9; simp at hct9)
    refine hx_skip ?_
    refine th_norm ?_
    refine hx_seq ?_
    refine hx_region ?_
    refine WL.qq (by simp only [EN, Nat.reduceEqDiff, reduceIte, qv_assign, hB1.cell]; rfl) ?_
    refine WL.nil ?_
    refine th_norm ?_
    refine hx_seq ?_
    refine hx_seq ?_
    refine hx_region ?_
    refine WL.qq (by simp only [EN, Nat.reduceEqDiff, reduceIte, qv_fieldAddr, fa55_2, Nat.zero_add, Nat.reduceAdd, hB1.cell]; rfl) ?_
    refine WL.qq (by simp only [EN, Nat.reduceEqDiff, reduceIte, qv_load, ld53, readN, AR, Nat.zero_add, Nat.reduceAdd, hB1.cell]; rfl) ?_
    refine WL.qq (by simp only [EN, Nat.reduceEqDiff, reduceIte, qv_len, ln53, AR, hB1.cell]; rfl) ?_
    refine WL.qq (by simp only [EN, Nat.reduceEqDiff, reduceIte, qv_move, hB1.cell]; rfl) ?_
    refine WL.nil ?_
    refine th_norm ?_
    refine hx_block ?_
    refine hx_loopX [3, 5, 13, 14, 15, 16, 17, 18, 19, 20, 21, 22] (fun k e => ∃ (i : Nat) (tot : Nat), xp.length - i = k ∧ (i ≤ xp.length) ∧ (tot ≤ 12 * i) ∧ e 13 = .int .i64 i ∧ e 3 = .int .i64 tot) _ ⟨0, 0, rfl, ?_, ?_, ?_, ?_⟩ ?_
    · omega
    · omega
    · simp only [EN, Nat.reduceEqDiff, reduceIte, e0, hB1.cell] <;> rfl
    · simp only [EN, Nat.reduceEqDiff, reduceIte, e0, hB1.cell] <;> rfl
    ·
      rintro k e0L hL0 hX0 hfr0 ⟨i, tot, rfl, hi, ht, i13_0, i3_0⟩
      replace hip := hip.ext hX0
      replace hB1 := hB1.ext hX0
      have k1_0 := hfr0 1 rfl; try simp only [EN, Nat.reduceEqDiff, reduceIte, hB1.cell] at k1_0
      have k11_0 := hfr0 11 rfl; try simp only [EN, Nat.reduceEqDiff, reduceIte, hB1.cell] at k11_0
      have k12_0 := hfr0 12 rfl; try simp only [EN, Nat.reduceEqDiff, reduceIte, hB1.cell] at k12_0
      refine hx_seq ?_
      refine hx_region ?_
      refine WL.qq (by simp only [EN, Nat.reduceEqDiff, reduceIte, qv_binOp, binv_lss, k12_0, i13_0, hB1.cell]; rfl) ?_
      refine WL.nil ?_
      refine th_norm ?_
      refine hx_seq ?_
      refine hx_cond (by simp only [EN, Nat.reduceEqDiff, reduceIte, hB1.cell]; rfl) (fun hct14 => ?_) (fun hct14 => ?_)
      ·
        try simp only [BD] at hct14
        obtain ⟨⟨pr, pa, pl, pc⟩, hp⟩ := atG (l := xp) (i := i) (by omega)
        have hpl := h12 _ (List.mem_of_getElem? hp); simp only at hpl
        obtain ⟨b1, o1, rfl, hr2, _⟩ := pt_rd hip hp
        refine hx_skip ?_
        refine th_norm ?_
        refine hx_seq ?_
        refine hx_block ?_
        refine hx_seq ?_
        refine hx_region ?_
        refine WL.qq (by simp only [EN, Nat.reduceEqDiff, reduceIte, qv_indexAddr, k11_0, i13_0, hB1.cell]; (try simp (disch := omega) only [ix53, Int.toNat_natCast]); rfl) ?_
        refine WL.qq (by simp only [EN, Nat.reduceEqDiff, reduceIte, k1_0, k11_0, k12_0, i13_0, i3_0, hB1.cell, qv_load, ld72, Int.toNat_natCast, hr2]; rfl) ?_
        refine WL.allocSt zr72 sz72 (fun u => by simp only [EN, Nat.reduceEqDiff, reduceIte, Value.cells, hB1.cell]; rfl) ⟨rfl, rfl⟩ (by simp [Value.oneCell']) ?_
        intro h2 B2 hx2 hlt2 hB2
        replace hip := hip.ext hx2
        replace hB1 := hB1.ext hx2
        refine WL.nil ?_
        refine th_norm ?_
        refine hx_region ?_
        refine WL.qq (by simp only [EN, Nat.reduceEqDiff, reduceIte, qv_move, i3_0, hB1.cell, hB2.cell]; rfl) ?_
        refine WL.qq (by simp only [EN, Nat.reduceEqDiff, reduceIte, qv_fieldAddr, fa72_1, Nat.zero_add, Nat.reduceAdd, hB1.cell, hB2.cell]; rfl) ?_
        refine WL.qq (by simp only [EN, Nat.reduceEqDiff, reduceIte, qv_load, ld70, readN, AR, Nat.zero_add, Nat.reduceAdd, hB1.cell, hB2.cell]; rfl) ?_
        refine WL.qq (by simp only [EN, Nat.reduceEqDiff, reduceIte, qv_len, ln70, AR, hB1.cell, hB2.cell]; rfl) ?_
        refine WL.qq (by simp only [EN, Nat.reduceEqDiff, reduceIte, qv_binOp, binv_add, hB1.cell, hB2.cell]; (try simp (disch := omega) only [w64, w8, wu64]); rfl) ?_
        refine WL.qq (by simp only [EN, Nat.reduceEqDiff, reduceIte, qv_assign, hB1.cell, hB2.cell]; rfl) ?_
        refine WL.nil ?_
        refine bl_norm ?_
        refine th_norm ?_
        refine hx_region ?_
        refine WL.qq (by simp only [EN, Nat.reduceEqDiff, reduceIte, qv_binOp, binv_add, i13_0, hB1.cell, hB2.cell]; (try simp (disch := omega) only [w64, w8, wu64]); rfl) ?_
        refine WL.qq (by simp only [EN, Nat.reduceEqDiff, reduceIte, qv_move, hB1.cell, hB2.cell]; rfl) ?_
        refine WL.nil ?_
        refine th_norm ?_
        refine ⟨rfl, ?_, ?_, _, ?_, i + 1, tot + pl.length, rfl, ?_, ?_, ?_, ?_⟩  -- again 0 of loop 0
        · exact hx2
        · (repeat (first | exact Fr.refl _ _ | refine Fr.set rfl ?_ | refine Fr.put rfl ?_ | with_reducible refine Fr.put0 ?_))
        · omega
        · omega
        · omega
        · simp only [EN, Nat.reduceEqDiff, reduceIte, k1_0, k11_0, k12_0, i13_0, i3_0, hB1.cell, hB2.cell] <;> first | rfl | (congr 1; omega)
        · simp only [EN, Nat.reduceEqDiff, reduceIte, k1_0, k11_0, k12_0, i13_0, i3_0, hB1.cell, hB2.cell] <;> first | rfl | (congr 1; omega)
      ·
        try simp only [BD] at hct14
        refine hx_exit ?_
        refine th_exit ?_
        refine th_exit ?_
        refine bl_hit ?_
        refine th_norm ?_
        refine hx_seq ?_
        refine hx_seq ?_
        refine hx_region ?_
        refine WL.qq (by simp only [EN, Nat.reduceEqDiff, reduceIte, qv_fieldAddr, fa55_2, Nat.zero_add, Nat.reduceAdd, k1_0, hB1.cell]; rfl) ?_
        refine WL.qq (by simp only [EN, Nat.reduceEqDiff, reduceIte, qv_load, ld53, readN, AR, Nat.zero_add, Nat.reduceAdd, hB1.cell]; rfl) ?_
        refine WL.qq (by simp only [EN, Nat.reduceEqDiff, reduceIte, qv_len, ln53, AR, hB1.cell]; rfl) ?_
        refine WL.qq (by simp only [EN, Nat.reduceEqDiff, reduceIte, qv_binOp, binv_gtr, hB1.cell]; rfl) ?_
        refine WL.qq (by simp only [EN, Nat.reduceEqDiff, reduceIte, qv_move, hB1.cell]; rfl) ?_
        refine WL.cq (gd_at (t := 27) rfl (by simp only [EN, Nat.reduceEqDiff, reduceIte, i3_0, hB1.cell] <;> rfl)) (fun hg9_5 => by simp only [EN, Nat.reduceEqDiff, reduceIte, qv_move, i3_0, hB1.cell, hg9_5, GR]; rfl) ?_
        refine WL.cq (gd_at (t := 27) rfl (by simp only [EN, Nat.reduceEqDiff, reduceIte, hB1.cell] <;> rfl)) (fun hg9_6 => by simp only [EN, Nat.reduceEqDiff, reduceIte, qv_binOp, binv_gtr, hB1.cell, hg9_6, GR]; rfl) ?_
        refine WL.qq (by simp only [EN, Nat.reduceEqDiff, reduceIte, qv_pick, pk_and, pk_or, GR, hB1.cell]; rfl) ?_
        refine WL.nil ?_
        refine th_norm ?_
        refine hx_cond (by simp only [EN, Nat.reduceEqDiff, reduceIte, hB1.cell]; rfl) (fun hct30 => ?_) (fun hct30 => ?_)
        ·
          simp at hct30; omega
        ·
          try simp only [BD] at hct30
          refine hx_skip ?_
          refine th_norm ?_
          refine hx_seq ?_
          refine hx_region ?_
          refine WL.qq (by simp only [EN, Nat.reduceEqDiff, reduceIte, qv_assign, hB1.cell]; rfl) ?_
          refine WL.nil ?_
          refine th_norm ?_
          refine hx_ret ?_
          refine fin_ret [.tmp 2] rfl rfl (by simp only [EN, Nat.reduceEqDiff, reduceIte, resv, k1_0, k11_0, k12_0, i13_0, i3_0, hB1.cell]; rfl) ?_  -- ret 1 r11
          exact ⟨by simp only; rw [if_neg h9]; rfl, ((hx1).trans (hX0))⟩
/-! The sums by asset of a part. -/
theorem ktS : KT Try.prog 9 Value.string := kt_plain Try.underlying9 (fun a => trivial) (fun h => by cases h; rfl)
def accA (l : List PO) : List (ByteArray × Int) := l.foldl (fun m x => mset m x.c.a (lk m x.c.a + x.d)) []
theorem accA_step {l : List PO} {i : Nat} {x : PO} (h : l[i]? = some x) : accA (l.take (i + 1)) = mset (accA (l.take i)) x.c.a (lk (accA (l.take i)) x.c.a + x.d) := by
  rw [List.take_add_one, h, accA, List.foldl_append]; rfl
theorem accA_snoc (l : List PO) (x : PO) : accA (l ++ [x]) = mset (accA l) x.c.a (lk (accA l) x.c.a + x.d) := by
  rw [accA, List.foldl_append]; rfl
theorem accA_lk (q : ByteArray) : ∀ l : List PO, lk (accA l) q = aS q l := by
  have h : ∀ (k : Nat) (l : List PO), l.length = k → lk (accA l) q = aS q l := by
    intro k
    induction k with
    | zero => intro l hl; rw [List.length_eq_zero_iff.1 hl]; rfl
    | succ k ih =>
      intro l hl
      obtain ⟨m, x, rfl⟩ : ∃ m x, l = m ++ [x] := ⟨l.dropLast, l.getLast (by intro hh; rw [hh] at hl; cases hl), (List.dropLast_concat_getLast _).symm⟩
      have hm := ih m (by simpa using hl)
      rw [accA_snoc, lk_mset, aS_app, aS_one]
      by_cases hq : x.c.a = q
      · subst hq
        rw [if_pos rfl, if_pos rfl, hm]
      · rw [if_neg hq, if_neg hq, hm, Int.add_zero]
  exact fun l => h _ l rfl
theorem accA_keys (q : ByteArray) (l : List PO) : q ∈ (accA l).map Prod.fst ↔ ∃ x ∈ l, x.c.a = q := by
  have h : ∀ (l : List PO) (m : List (ByteArray × Int)), q ∈ (l.foldl (fun m x => mset m x.c.a (lk m x.c.a + x.d)) m).map Prod.fst ↔ (∃ x ∈ l, x.c.a = q) ∨ q ∈ m.map Prod.fst := by
    intro l
    induction l with
    | nil => intro m; simp
    | cons y l ih =>
      intro m
      rw [List.foldl_cons, ih, mset_keys]
      simp only [List.mem_cons, exists_eq_or_imp]
      constructor
      · rintro (h | rfl | h)
        · exact .inl (.inr h)
        · exact .inl (.inl rfl)
        · exact .inr h
      · rintro ((h | h) | h)
        · exact .inr (.inl h.symm)
        · exact .inl h
        · exact .inr (.inr h)
  rw [accA, h]
  simp
theorem accA_nd (l : List PO) : ((accA l).map Prod.fst).Nodup := by
  have h : ∀ (l : List PO) (m : List (ByteArray × Int)), (m.map Prod.fst).Nodup → ((l.foldl (fun m x => mset m x.c.a (lk m x.c.a + x.d)) m).map Prod.fst).Nodup := by
    intro l
    induction l with
    | nil => exact fun m hm => hm
    | cons y l ih => exact fun m hm => ih _ (mset_nodup hm)
  exact h l [] List.nodup_nil
theorem accA_bal {l : List PO} (h : ∀ y ∈ accA l, y.2 = 0) : bal l := by
  intro x hx
  obtain ⟨y, hy, h1⟩ := List.mem_map.1 ((accA_keys x.c.a l).2 ⟨x, hx, rfl⟩)
  have h2 : lk (accA l) x.c.a = y.2 := lk_mem (accA_nd l) (by rw [← h1]; exact hy)
  rw [← accA_lk, h2, h y hy]
theorem accA_not {l : List PO} {y : ByteArray × Int} (hy : y ∈ accA l) (h0 : y.2 ≠ 0) : ¬ bal l := by
  intro hb
  obtain ⟨x, hx, h1⟩ := (accA_keys y.1 l).1 (List.mem_map.2 ⟨y, hy, rfl⟩)
  have h2 := hb x hx
  rw [h1, ← accA_lk, lk_mem (accA_nd l) (show (y.1, y.2) ∈ accA l from hy)] at h2
  exact h0 h2
theorem w_zero : wV 0 = .agg #[iV 0, iV 0] := rfl
theorem lkW {h : Heap} {b : Nat} {l : List (ByteArray × Int)} (hm : MapT Value.string wV h b l) (q : ByteArray) : GL.lookv Try.prog 138 (.map (some b)) (.string q) false h = some (wV (lk l q)) := by
  rw [hm.lookv (z := 0) ktS Try.underlying138 zr95 q false]; rfl
set_option maxHeartbeats 2000000 in
theorem c_ptck (x : PX) (h12 : x.ps.length ≤ 12) {h : Heap} (hin : PXin h x) : HCalls Try.prog 75 #[.agg (ptL x).toArray] h (Grow (iV (ptE x.pt)) h) := by
  obtain ⟨pr, pa, pl, pc⟩ := x
  simp only at h12
  have kip : SlG 4 poL h pa pl := hin
  refine hcalls2 Try.func75 rfl (by decide +kernel) (by simp only [Try.ntmps75]; exact of_decide_eq_true rfl) ?_
  intro e hin
  have e0 := hin 0 _ rfl
  refine hx_seq ?_
  refine hx_region ?_
  refine WL.box2 (by simp only [EN, Nat.reduceEqDiff, reduceIte, Value.cells, e0]; rfl) ?_
  intro h1 B1 hx1 hlt1 hB1
  refine WL.qq (by simp only [EN, Nat.reduceEqDiff, reduceIte, qv_assign, hB1.cell]; rfl) ?_
  refine WL.nil ?_
  refine th_norm ?_
  refine hx_seq ?_
  refine hx_block ?_
  refine hx_seq ?_
  refine hx_region ?_
  refine WL.qq (by simp only [EN, Nat.reduceEqDiff, reduceIte, qv_fieldAddr, fa72_0, Nat.zero_add, Nat.reduceAdd, hB1.cell]; rfl) ?_
  refine WL.qq (by simp only [EN, Nat.reduceEqDiff, reduceIte, qv_load, ld9, readN, AR, Nat.zero_add, Nat.reduceAdd, hB1.cell]; rfl) ?_
  refine WL.qq (by simp only [EN, Nat.reduceEqDiff, reduceIte, qv_len, ln9, AR, hB1.cell]; rfl) ?_
  refine WL.qq (by simp only [EN, Nat.reduceEqDiff, reduceIte, qv_binOp, binv_gtr, hB1.cell]; rfl) ?_
  refine WL.qq (by simp only [EN, Nat.reduceEqDiff, reduceIte, qv_assign, hB1.cell]; rfl) ?_
  refine WL.nil ?_
  refine th_norm ?_
  refine hx_cond (by simp only [EN, Nat.reduceEqDiff, reduceIte, hB1.cell]; rfl) (fun hct8 => ?_) (fun hct8 => ?_)
  ·
    try simp only [BD] at hct8
    refine hx_seq ?_
    refine hx_region ?_
    refine WL.qq (by simp only [EN, Nat.reduceEqDiff, reduceIte, qv_assign, hB1.cell]; rfl) ?_
    refine WL.nil ?_
    refine th_norm ?_
    refine hx_ret ?_
    refine bl_ret ?_
    refine th_ret ?_
    refine fin_ret [.tmp 2] rfl rfl (by simp only [EN, Nat.reduceEqDiff, reduceIte, resv, e0, hB1.cell]; rfl) ?_  -- ret 0 r2
    exact ⟨(congrArg iV (show ptE ⟨pr, pl⟩ = 5 from if_pos (show 64 < pr.size by omega))).symm, (hx1)⟩
  ·
    try simp only [BD] at hct8
    refine hx_seq ?_
    refine hx_region ?_
    refine WL.qq (by simp only [EN, Nat.reduceEqDiff, reduceIte, qv_fieldAddr, fa72_1, Nat.zero_add, Nat.reduceAdd, hB1.cell]; rfl) ?_
    refine WL.qq (by simp only [EN, Nat.reduceEqDiff, reduceIte, qv_load, ld70, readN, AR, Nat.zero_add, Nat.reduceAdd, hB1.cell]; rfl) ?_
    refine WL.qq (by simp only [EN, Nat.reduceEqDiff, reduceIte, qv_len, ln70, AR, hB1.cell]; rfl) ?_
    refine WL.qq (by simp only [EN, Nat.reduceEqDiff, reduceIte, qv_binOp, binv_eql, eq3, Option.map_some, hB1.cell]; rfl) ?_
    refine WL.qq (by simp only [EN, Nat.reduceEqDiff, reduceIte, qv_assign, hB1.cell]; rfl) ?_
    refine WL.nil ?_
    refine th_norm ?_
    refine hx_cond (by simp only [EN, Nat.reduceEqDiff, reduceIte, hB1.cell]; rfl) (fun hct13 => ?_) (fun hct13 => ?_)
    ·
      try simp only [BD] at hct13
      refine hx_seq ?_
      refine hx_region ?_
      refine WL.qq (by simp only [EN, Nat.reduceEqDiff, reduceIte, qv_assign, hB1.cell]; rfl) ?_
      refine WL.nil ?_
      refine th_norm ?_
      refine hx_ret ?_
      refine bl_ret ?_
      refine th_ret ?_
      refine fin_ret [.tmp 2] rfl rfl (by simp only [EN, Nat.reduceEqDiff, reduceIte, resv, e0, hB1.cell]; rfl) ?_  -- ret 1 r4
      have h9 : pl = [] := List.length_eq_zero_iff.1 (by omega)
      exact ⟨(congrArg iV (show ptE ⟨pr, pl⟩ = 1 from (if_neg (show ¬ 64 < pr.size by omega)).trans (if_pos h9))).symm, (hx1)⟩
    ·
      try simp only [BD] at hct13
      refine hx_skip ?_
      refine bl_norm ?_
      refine th_norm ?_
      refine hx_seq ?_
      refine hx_region ?_
      have kz1 := Ext.size (hx1); have hne : pl ≠ [] := (fun hh => by rw [hh] at hct13; simp at hct13)
      refine WL.makeMap2 ?_
      intro h2 B2 hx2 hlt2 hB2
      replace hB1 := hB1.ext hx2
      refine WL.qq (by simp only [EN, Nat.reduceEqDiff, reduceIte, qv_assign, hB1.cell]; rfl) ?_
      refine WL.nil ?_
      refine th_norm ?_
      refine hx_seq ?_
      refine hx_seq ?_
      refine hx_region ?_
      refine WL.qq (by simp only [EN, Nat.reduceEqDiff, reduceIte, qv_fieldAddr, fa72_1, Nat.zero_add, Nat.reduceAdd, hB1.cell]; rfl) ?_
      refine WL.qq (by simp only [EN, Nat.reduceEqDiff, reduceIte, qv_load, ld70, readN, AR, Nat.zero_add, Nat.reduceAdd, hB1.cell]; rfl) ?_
      refine WL.qq (by simp only [EN, Nat.reduceEqDiff, reduceIte, qv_len, ln70, AR, hB1.cell]; rfl) ?_
      refine WL.qq (by simp only [EN, Nat.reduceEqDiff, reduceIte, qv_move, hB1.cell]; rfl) ?_
      refine WL.nil ?_
      refine th_norm ?_
      refine hx_block ?_
      refine hx_loopG [2, 5, 22, 23, 24, 25, 26, 27, 28, 29, 30, 31, 32, 33, 34, 35, 36, 37, 38, 39, 40, 41, 42, 43, 44, 45, 46] (fun k e hL0 => ∃ (i : Nat), pl.length - i = k ∧ (i ≤ pl.length) ∧ (Ext h hL0) ∧ (MapT Value.string wV hL0 B2 (accA (pl.take i))) ∧ ((∀ y ∈ pl.take i, inR y.d)) ∧ e 22 = .int .i64 i) _ ⟨0, rfl, ?_, ?_, ?_, ?_, ?_⟩ ?_
      · omega
      · exact ((hx1).trans (hx2))
      · exact MapT.new hB2
      · intro y hy; simp at hy
      · simp only [EN, Nat.reduceEqDiff, reduceIte, e0, hB1.cell] <;> rfl
      ·
        rintro k e0L hL0 hfr0 ⟨i, rfl, hi, hx, hm, hok, i22_0⟩
        have k3_0 := hfr0 3 rfl; try simp only [EN, Nat.reduceEqDiff, reduceIte, hB1.cell] at k3_0
        have k20_0 := hfr0 20 rfl; try simp only [EN, Nat.reduceEqDiff, reduceIte, hB1.cell] at k20_0
        have k21_0 := hfr0 21 rfl; try simp only [EN, Nat.reduceEqDiff, reduceIte, hB1.cell] at k21_0
        refine hx_seq ?_
        refine hx_region ?_
        refine WL.qq (by simp only [EN, Nat.reduceEqDiff, reduceIte, qv_binOp, binv_lss, k21_0, i22_0, hB1.cell]; rfl) ?_
        refine WL.nil ?_
        refine th_norm ?_
        refine hx_seq ?_
        refine hx_cond (by simp only [EN, Nat.reduceEqDiff, reduceIte, hB1.cell]; rfl) (fun hct23 => ?_) (fun hct23 => ?_)
        ·
          try simp only [BD] at hct23
          obtain ⟨y, hy⟩ := atG (l := pl) (i := i) (by omega)
          obtain ⟨b1, o1, rfl, hr4, _⟩ := po_rd (kip.ext hx) hy
          refine hx_skip ?_
          refine th_norm ?_
          refine hx_seq ?_
          refine hx_block ?_
          refine hx_seq ?_
          refine hx_region ?_
          refine WL.qq (by simp only [EN, Nat.reduceEqDiff, reduceIte, qv_indexAddr, k20_0, i22_0, hB1.cell]; (try simp (disch := omega) only [ix70, Int.toNat_natCast]); rfl) ?_
          refine WL.qq (by simp only [EN, Nat.reduceEqDiff, reduceIte, k3_0, k20_0, k21_0, i22_0, hB1.cell, qv_load, ld74, Int.toNat_natCast, hr4]; rfl) ?_
          refine WL.allocSt zr74 sz74 (fun u => by simp only [EN, Nat.reduceEqDiff, reduceIte, Value.cells, hB1.cell]; rfl) ⟨rfl, rfl⟩ (by simp [Value.oneCell']) ?_
          intro h3 B3 hx3 hlt3 hB3
          replace hm := hm.ext hx3
          refine WL.nil ?_
          refine th_norm ?_
          refine hx_seq ?_
          refine hx_seq ?_
          refine hx_region ?_
          refine WL.qq (by simp only [EN, Nat.reduceEqDiff, reduceIte, qv_fieldAddr, fa74_1, Nat.zero_add, Nat.reduceAdd, hB1.cell, hB3.cell]; rfl) ?_
          refine WL.qq (by simp only [EN, Nat.reduceEqDiff, reduceIte, qv_load, ld2, readN, AR, Nat.zero_add, Nat.reduceAdd, hB1.cell, hB3.cell]; rfl) ?_
          refine WL.qq (by simp only [EN, Nat.reduceEqDiff, reduceIte, qv_binOp, binv_lss, hB1.cell, hB3.cell]; rfl) ?_
          refine WL.qq (by simp only [EN, Nat.reduceEqDiff, reduceIte, qv_move, hB1.cell, hB3.cell]; rfl) ?_
          refine WL.cq (gd_at (t := 29) rfl (by simp only [EN, Nat.reduceEqDiff, reduceIte, hB1.cell, hB3.cell] <;> rfl)) (fun hg9_4 => by simp only [EN, Nat.reduceEqDiff, reduceIte, qv_fieldAddr, fa74_1, Nat.zero_add, Nat.reduceAdd, hB1.cell, hB3.cell, hg9_4, GR]; rfl) ?_
          refine WL.cq (gd_at (t := 29) rfl (by simp only [EN, Nat.reduceEqDiff, reduceIte, hB1.cell, hB3.cell] <;> rfl)) (fun hg9_5 => by simp only [EN, Nat.reduceEqDiff, reduceIte, qv_load, ld2, readN, AR, Nat.zero_add, Nat.reduceAdd, hB1.cell, hB3.cell, hg9_5, GR]; rfl) ?_
          refine WL.cq (gd_at (t := 29) rfl (by simp only [EN, Nat.reduceEqDiff, reduceIte, hB1.cell, hB3.cell] <;> rfl)) (fun hg9_6 => by simp only [EN, Nat.reduceEqDiff, reduceIte, qv_binOp, binv_gtr, hB1.cell, hB3.cell, hg9_6, GR]; rfl) ?_
          refine WL.qq (by simp only [EN, Nat.reduceEqDiff, reduceIte, qv_pick, pk_and, pk_or, GR, hB1.cell, hB3.cell]; rfl) ?_
          refine WL.nil ?_
          refine th_norm ?_
          refine hx_cond (by simp only [EN, Nat.reduceEqDiff, reduceIte, hB1.cell, hB3.cell]; rfl) (fun hct33 => ?_) (fun hct33 => ?_)
          ·
            try simp only [BD] at hct33
            refine hx_seq ?_
            refine hx_region ?_
            refine WL.qq (by simp only [EN, Nat.reduceEqDiff, reduceIte, qv_assign, hB1.cell, hB3.cell]; rfl) ?_
            refine WL.nil ?_
            refine th_norm ?_
            refine hx_ret ?_
            refine th_ret ?_
            refine bl_ret ?_
            refine th_ret ?_
            refine th_ret ?_
            refine bl_ret ?_
            refine th_ret ?_
            refine fin_ret [.tmp 2] rfl rfl (by simp only [EN, Nat.reduceEqDiff, reduceIte, resv, k3_0, k20_0, k21_0, i22_0, hB1.cell, hB3.cell]; rfl) ?_  -- ret 2 r10
            have h9 : ¬ ∀ z ∈ pl, inR z.d := (fun hh => by have := hh y (List.mem_of_getElem? hy); simp only [inR, MA] at this; omega)
            exact ⟨(congrArg iV (show ptE ⟨pr, pl⟩ = 2 from (if_neg (show ¬ 64 < pr.size by omega)).trans ((if_neg hne).trans (if_pos h9)))).symm, hx.trans (hx3)⟩
          ·
            try simp only [BD] at hct33
            have hyd : inR y.d := (by simp only [inR, MA]; omega)
            have hbd := aS_bd y.c.a hok; rw [← accA_lk, List.length_take] at hbd; simp only [MA] at hbd
            refine hx_skip ?_
            refine th_norm ?_
            apply hx_draw2 Rel.grows [12] [11] [(11, Spec.is _)] rfl (by decide +kernel) rfl
            refine LD.qq rfl rfl (by simp only [EN, Nat.reduceEqDiff, reduceIte, qv_move, k3_0, hB1.cell, hB3.cell]; rfl) ?_
            refine LD.qq rfl rfl (by simp only [EN, Nat.reduceEqDiff, reduceIte, qv_fieldAddr, fa74_0, Nat.zero_add, Nat.reduceAdd, hB1.cell, hB3.cell]; rfl) ?_
            refine LD.qq rfl rfl (by simp only [EN, Nat.reduceEqDiff, reduceIte, qv_fieldAddr, fa35_2, Nat.zero_add, Nat.reduceAdd, hB1.cell, hB3.cell]; rfl) ?_
            refine LD.qq rfl rfl (by simp only [EN, Nat.reduceEqDiff, reduceIte, qv_load, ld9, readN, AR, Nat.zero_add, Nat.reduceAdd, hB1.cell, hB3.cell]; rfl) ?_
            refine LD.qq rfl rfl (by simp only [EN, Nat.reduceEqDiff, reduceIte, qv_move, k3_0, hB1.cell, hB3.cell]; rfl) ?_
            refine LD.qq rfl rfl (by simp only [EN, Nat.reduceEqDiff, reduceIte, qv_fieldAddr, fa74_0, Nat.zero_add, Nat.reduceAdd, hB1.cell, hB3.cell]; rfl) ?_
            refine LD.qq rfl rfl (by simp only [EN, Nat.reduceEqDiff, reduceIte, qv_fieldAddr, fa35_2, Nat.zero_add, Nat.reduceAdd, hB1.cell, hB3.cell]; rfl) ?_
            refine LD.qq rfl rfl (by simp only [EN, Nat.reduceEqDiff, reduceIte, qv_load, ld9, readN, AR, Nat.zero_add, Nat.reduceAdd, hB1.cell, hB3.cell]; rfl) ?_
            refine LD.qq rfl rfl (by simp only [EN, Nat.reduceEqDiff, reduceIte, k3_0, k20_0, k21_0, i22_0, hB1.cell, hB3.cell, qv_lookup, lkW hm]; rfl) ?_
            refine LD.qq rfl rfl (by simp only [EN, Nat.reduceEqDiff, reduceIte, qv_fieldAddr, fa74_1, Nat.zero_add, Nat.reduceAdd, hB1.cell, hB3.cell]; rfl) ?_
            refine LD.qq rfl rfl (by simp only [EN, Nat.reduceEqDiff, reduceIte, qv_load, ld2, readN, AR, Nat.zero_add, Nat.reduceAdd, hB1.cell, hB3.cell]; rfl) ?_
            refine LD.ck rfl rfl Try.call66 (by intro hD hr; have hx : Ext _ _ := hr; have hm := hm.ext hx; have hB3 := hB3.ext hx; simp only [EN, Nat.reduceEqDiff, reduceIte, AR, hB1.cell, hB3.cell]; exact c_plus _ y.d (by omega) hyd _) ?_
            refine LD.skip rfl ?_
            refine LD.nil ?_
            rintro h4 hx4 hF11
            replace hx4 : Ext _ _ := hx4
            replace hm := hm.ext hx4
            replace hB3 := hB3.ext hx4
            refine WL.ef _ (e_mapUpdate (x := y.c.a) (v := lk (accA (pl.take i)) y.c.a + y.d) ktS Try.underlying138 hm (by simp only [EN, Nat.reduceEqDiff, reduceIte, k3_0, k20_0, k21_0, i22_0, hB1.cell, hB3.cell]) (by simp only [EN, Nat.reduceEqDiff, reduceIte, k3_0, k20_0, k21_0, i22_0, hB1.cell, hB3.cell] <;> rfl) (by simp only [EN, Nat.reduceEqDiff, reduceIte, k3_0, k20_0, k21_0, i22_0, hB1.cell, hB3.cell] <;> rfl)) ?_
            rintro _ h40 ⟨⟨o40, hw40⟩, hm40⟩
            simp only [put_none]
            have hx40 := hw40.ext (hx.trans ((hx3).trans (hx4))) (by omega)
            refine WL.nil ?_
            refine bl_norm ?_
            refine th_norm ?_
            refine hx_region ?_
            refine WL.qq (by simp only [EN, Nat.reduceEqDiff, reduceIte, qv_binOp, binv_add, i22_0, hB1.cell, hB3.cell]; (try simp (disch := omega) only [w64, w8, wu64]); rfl) ?_
            refine WL.qq (by simp only [EN, Nat.reduceEqDiff, reduceIte, qv_move, hB1.cell, hB3.cell]; rfl) ?_
            refine WL.nil ?_
            refine th_norm ?_
            refine ⟨rfl, ?_, _, ?_, i + 1, rfl, ?_, ?_, ?_, ?_, ?_⟩  -- again 0 of loop 0
            · (repeat (first | exact Fr.refl _ _ | refine Fr.set rfl ?_ | refine Fr.put rfl ?_ | with_reducible refine Fr.put0 ?_))
            · omega
            · omega
            · exact hx40
            · rw [accA_step hy]; exact hm40
            · exact all_take hok hy hyd
            · simp only [EN, Nat.reduceEqDiff, reduceIte, k3_0, k20_0, k21_0, i22_0, hB1.cell, hB3.cell] <;> first | rfl | (congr 1; omega)
        ·
          try simp only [BD] at hct23
          obtain rfl : i = pl.length := (by omega)
          rw [List.take_length] at hm hok
          refine hx_exit ?_
          refine th_exit ?_
          refine th_exit ?_
          refine bl_hit ?_
          refine th_norm ?_
          refine hx_seq ?_
          refine hx_seq ?_
          refine hx_region ?_
          refine WL.qq (by simp only [EN, Nat.reduceEqDiff, reduceIte, qv_move, k3_0, hB1.cell]; rfl) ?_
          refine WL.ef _ (e_range Try.underlying138 hm (by simp only [EN, Nat.reduceEqDiff, reduceIte, k3_0, k20_0, k21_0, i22_0, hB1.cell])) ?_
          rintro _ h50 ⟨it, rfl, hit, hx50, hsz50, hI⟩
          simp only [put_some]
          have kit : h.size ≤ it := (by have := hx.size; omega)
          refine WL.nil ?_
          refine th_norm ?_
          refine hx_block ?_
          refine hx_loopG [2, 7, 49, 50, 51, 52, 53, 54, 55] (fun k e hL1 => ∃ (left : List (ByteArray × Int)), left.length = k ∧ (Ext h hL1) ∧ (IterT Value.string wV hL1 it B2 (accA pl) left) ∧ ((∀ y ∈ left, y ∈ accA pl)) ∧ ((∀ y ∈ accA pl, y ∈ left ∨ y.2 = 0))) _ ⟨accA pl, rfl, ?_, ?_, ?_, ?_⟩ ?_
          · exact hx.trans hx50
          · exact hI
          · exact fun y hy => hy
          · exact fun y hy => .inl hy
          ·
            rintro k e1L hL1 hfr1 ⟨left, rfl, hx, hI, hsub, hz⟩
            have k48_1 := hfr1 48 rfl; try simp only [EN, Nat.reduceEqDiff, reduceIte, hB1.cell] at k48_1
            refine hx_seq ?_
            refine hx_region ?_
            refine WL.ef _ (e_next2 ktS hI (by simp only [EN, Nat.reduceEqDiff, reduceIte, k48_1, hB1.cell])) ?_
            rintro _ h51 ⟨bb1, vs1, rfl, hv1, hst1, hT1, hF1⟩
            simp only [put_some]
            have hx51 : Ext h h51 := (by rcases hst1 with rfl | ⟨o, hw⟩; exact hx; exact hw.ext hx (by omega))
            refine WL.qq (by simp only [EN, Nat.reduceEqDiff, reduceIte, k48_1, hB1.cell, qv_extract, hv1]; rfl) ?_
            refine WL.nil ?_
            refine th_norm ?_
            refine hx_seq ?_
            refine hx_cond (by simp only [EN, Nat.reduceEqDiff, reduceIte, hB1.cell]; rfl) (fun hct50 => ?_) (fun hct50 => ?_)
            ·
              try simp only [BD] at hct50
              obtain ⟨q1, left', hp1, hS⟩ := hT1 hct50; have hlen1 := hp1.length_eq; rw [List.length_cons] at hlen1; have hql := hsub q1 (hp1.mem_iff.2 (by simp))
              refine hx_skip ?_
              refine th_norm ?_
              refine hx_block ?_
              refine hx_seq ?_
              refine hx_region ?_
              refine WL.ef _ (e_entry hS (by simp only [EN, Nat.reduceEqDiff, reduceIte, k48_1, hB1.cell])) ?_
              rintro _ hX2 ⟨rfl, hq1x⟩
              obtain rfl : h51 = hX2 := hq1x.symm
              simp only [put_some]
              refine WL.qq (by simp only [EN, Nat.reduceEqDiff, reduceIte, qv_extract, AR, hB1.cell]; rfl) ?_
              refine WL.allocSt zr95 sz95 (fun u => by simp only [EN, Nat.reduceEqDiff, reduceIte, Value.cells, hB1.cell]; rfl) ⟨rfl, rfl⟩ (by simp [Value.oneCell']) ?_
              intro h5 B5 hx5 hlt5 hB5
              replace hS := hS.ext hx5
              refine WL.nil ?_
              refine th_norm ?_
              refine hx_seq ?_
              refine hx_region ?_
              refine WL.qq (by simp only [EN, Nat.reduceEqDiff, reduceIte, qv_load, ld95, readN, AR, Nat.zero_add, Nat.reduceAdd, hB1.cell, hB5.cell]; rfl) ?_
              refine WL.qq (by refine qv_bld (by simp only [EN, Nat.reduceEqDiff, reduceIte, AR, hB1.cell, hB5.cell] <;> rfl) (by rw [bl95]; simp [Instr.fill, Value.cells]; rfl)) ?_
              refine WL.qq (by simp only [EN, Nat.reduceEqDiff, reduceIte, qv_binOp, binv_neq, eqs95, Option.map_some, hB1.cell, hB5.cell]; rfl) ?_
              refine WL.nil ?_
              refine th_norm ?_
              refine hx_cond (by simp only [EN, Nat.reduceEqDiff, reduceIte, hB1.cell, hB5.cell]; rfl) (fun hct55 => ?_) (fun hct55 => ?_)
              ·
                try simp only [BD] at hct55
                refine hx_seq ?_
                refine hx_region ?_
                refine WL.qq (by simp only [EN, Nat.reduceEqDiff, reduceIte, qv_assign, hB1.cell, hB5.cell]; rfl) ?_
                refine WL.nil ?_
                refine th_norm ?_
                refine hx_ret ?_
                refine bl_ret ?_
                refine th_ret ?_
                refine bl_ret ?_
                refine th_ret ?_
                refine fin_ret [.tmp 2] rfl rfl (by simp only [EN, Nat.reduceEqDiff, reduceIte, resv, k48_1, hB1.cell, hB5.cell]; rfl) ?_  -- ret 3 r17
                have h9 : q1.2 ≠ 0 := (fun hh => by rw [hh] at hct55; simp at hct55)
                exact ⟨(congrArg iV (show ptE ⟨pr, pl⟩ = 14 from (if_neg (show ¬ 64 < pr.size by omega)).trans ((if_neg hne).trans ((if_neg (fun hh => hh hok)).trans (if_pos (accA_not hql h9)))))).symm, hx51.trans (hx5)⟩
              ·
                try simp only [BD] at hct55
                have h9 : q1.2 = 0 := (by simp at hct55; omega)
                refine hx_skip ?_
                refine bl_norm ?_
                refine th_norm ?_
                refine ⟨rfl, ?_, _, ?_, left', rfl, ?_, ?_, ?_, ?_⟩  -- again 0 of loop 1
                · (repeat (first | exact Fr.refl _ _ | refine Fr.set rfl ?_ | refine Fr.put rfl ?_ | with_reducible refine Fr.put0 ?_))
                · omega
                · exact hx51.trans (hx5)
                · exact hS.iter
                · exact fun y hy => hsub y (hp1.mem_iff.2 (by simp [hy]))
                · exact perm_sub (P := fun y => y.2 = 0) hp1 hz h9
            ·
              try simp only [BD] at hct50
              obtain ⟨hl0, hmm⟩ := hF1 hct50; subst hl0
              refine hx_exit ?_
              refine th_exit ?_
              refine th_exit ?_
              refine bl_hit ?_
              refine th_norm ?_
              refine hx_seq ?_
              refine hx_region ?_
              refine WL.qq (by simp only [EN, Nat.reduceEqDiff, reduceIte, qv_assign, hB1.cell]; rfl) ?_
              refine WL.nil ?_
              refine th_norm ?_
              refine hx_ret ?_
              refine fin_ret [.tmp 2] rfl rfl (by simp only [EN, Nat.reduceEqDiff, reduceIte, resv, k48_1, hB1.cell]; rfl) ?_  -- ret 4 r18
              have h9 : bal pl := accA_bal (fun y hy => (hz y hy).resolve_left (by simp))
              exact ⟨(congrArg iV (show ptE ⟨pr, pl⟩ = 0 from (if_neg (show ¬ 64 < pr.size by omega)).trans ((if_neg hne).trans ((if_neg (fun hh => hh hok)).trans (if_neg (fun hh => hh h9)))))).symm, hx51⟩
end GL


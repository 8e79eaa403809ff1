/- Limits: one operation on both tables. -/
import Derived.Test.YtenjmnpefmjdfaaLimO
import Derived.Test.YtenjmnpefmjdfaaLimJ
set_option linter.unusedSimpArgs false
set_option linter.unusedVariables false
set_option linter.unnecessarySimpa false
namespace GL
open Go Go.Proofs
set_option maxRecDepth 8000
theorem Turn.new {p B : Nat} {a b c : Heap} {o : Obj} (h : Turn p a b) (hw : Wr b c B o) (hB : a.size ≤ B) : Turn p a c := ⟨Nat.le_trans h.1 (Nat.le_of_eq hw.size.symm), fun x cur T f hx q => by
  have h1 := (Array.getElem?_eq_some_iff.1 q).1
  rw [hw.same x (by omega)]
  exact h.2 x cur T f hx q⟩
theorem RT.tr {a b : Heap} {w : Value} {Ls F : List L2} (hr : RT a w Ls F) (ht : ∀ al L, SlG 3 limL a al L → SlG 3 limL b al L) : RT b w Ls F := by
  obtain ⟨al, cl, af, cf, h1, h2, h3⟩ := hr.ex
  exact ⟨al, cl, af, cf, h1, ht _ _ h2, ht _ _ h3⟩
set_option maxHeartbeats 2000000 in
theorem c_do {hb h : Heap} {p : Nat} {ls ns Ls F : List L2} {w : Value} (o : LOp) (hk : 0 ≤ o.k ∧ o.k ≤ 255) (ht : TB hb h p ls ns) (hw : RT h w Ls F) (hfl : SlG 3 limL h o.x.a o.x.L) (h12 : o.x.L.length ≤ 12) (b1 : ls.length ≤ 1000) (b2 : ns.length ≤ 10000) (b3 : Ls.length ≤ 1000) (b4 : F.length ≤ 9000) :
    HCalls Try.prog 18 #[.pointer (some ⟨p, 0, none⟩), w, .agg (opL o).toArray] h fun v h' => ∃ w', v = .tuple #[w', iV (eS o ls ns), iV (eR o Ls F)] ∧ TB hb h' p (lS o ls ns) (nS o ls ns) ∧ RT h' w' (lR o Ls F) (fR o Ls F) ∧ Turn p h h' := by
  have hc1 : ∀ q a, cntM (setL ls q a) ns ≤ 9223372036854775807 := fun q a => by have := cnt_len (setL ls q a) ns; have := setL_len ls q a; omega
  have hc2 : cntM ls (aftS ns o.x.L) ≤ 9223372036854775807 := by have := cnt_len ls (aftS ns o.x.L); have := aft_len ns o.x.L; omega
  obtain ⟨al, cl, af, cf, rfl, hs1, hs2⟩ := hw.ex
  refine hcalls2 Try.func18 rfl (by decide +kernel) (by simp only [Try.ntmps18]; exact of_decide_eq_true rfl) ?_
  intro e hin
  have e0 := hin 0 _ rfl
  have e1 := hin 1 _ rfl
  have e2 := hin 2 _ rfl
  have kt := ht
  refine hx_seq ?_
  refine hx_region ?_
  refine WL.box2 (by simp only [EN, Nat.reduceEqDiff, reduceIte, Value.cells, e1]; rfl) ?_
  intro h1 B1 hx1 hlt1 hB1
  replace ht := ht.ext hx1
  replace hs1 := hs1.ext hx1
  replace hs2 := hs2.ext hx1
  replace hfl := hfl.ext hx1
  refine WL.box2 (by simp only [EN, Nat.reduceEqDiff, reduceIte, Value.cells, e2, hB1.cell]; rfl) ?_
  intro h2 B2 hx2 hlt2 hB2
  replace ht := ht.ext hx2
  replace hs1 := hs1.ext hx2
  replace hs2 := hs2.ext hx2
  replace hfl := hfl.ext hx2
  replace hB1 := hB1.ext hx2
  refine WL.alloc2 zr41 ?_
  intro h3 B3 hx3 hlt3 hB3
  replace ht := ht.ext hx3
  replace hs1 := hs1.ext hx3
  replace hs2 := hs2.ext hx3
  replace hfl := hfl.ext hx3
  replace hB1 := hB1.ext hx3
  replace hB2 := hB2.ext hx3
  simp only [Value.cells] at hB3
  refine WL.qq (by simp only [EN, Nat.reduceEqDiff, reduceIte, qv_assign, hB1.cell, hB2.cell, hB3.cell]; rfl) ?_
  refine WL.qq (by simp only [EN, Nat.reduceEqDiff, reduceIte, qv_assign, hB1.cell, hB2.cell, hB3.cell]; rfl) ?_
  refine WL.nil ?_
  refine th_norm ?_
  refine hx_seq ?_
  refine hx_seq ?_
  refine hx_region ?_
  have hz0 := ht.E.size; have hz1 := hx1.size; have hz2 := hx2.size; have hbB3 : hb.size ≤ B3 := (by have := Nat.le_trans (Nat.le_trans hz1 hz2) hlt3; have := kt.E.size; omega); have hhB3 : h.size ≤ B3 := Nat.le_trans (Nat.le_trans hz1 hz2) hlt3
  refine WL.qq (by simp only [EN, Nat.reduceEqDiff, reduceIte, qv_fieldAddr, fa45_0, Nat.zero_add, Nat.reduceAdd, hB1.cell, hB2.cell, hB3.cell]; rfl) ?_
  refine WL.qq (by simp only [EN, Nat.reduceEqDiff, reduceIte, qv_load, ld5, readN, AR, Nat.zero_add, Nat.reduceAdd, hB1.cell, hB2.cell, hB3.cell]; rfl) ?_
  refine WL.nil ?_
  refine th_norm ?_
  refine hx_block ?_
  refine hx_seq ?_
  refine hx_region ?_
  refine WL.qq (by simp only [EN, Nat.reduceEqDiff, reduceIte, qv_binOp, binv_eql, eq5, Option.map_some, hB1.cell, hB2.cell, hB3.cell]; rfl) ?_
  refine WL.qq (by simp only [EN, Nat.reduceEqDiff, reduceIte, qv_assign, hB1.cell, hB2.cell, hB3.cell]; rfl) ?_
  refine WL.nil ?_
  refine th_norm ?_
  refine hx_cond (by simp only [EN, Nat.reduceEqDiff, reduceIte, hB1.cell, hB2.cell, hB3.cell]; rfl) (fun hct19 => ?_) (fun hct19 => ?_)
  ·
    try simp only [BD] at hct19
    have h0 : o.k = 0 := (by simpa using hct19)
    have eE : eS o ls ns = setBE ls ns o.q o.n := if_pos h0
    have eF : eR o Ls F = rsetE Ls F o.q.f o.q.t o.n false := if_pos h0
    have eL : lS o ls ns = if eS o ls ns = 0 then setL ls o.q o.n else ls := if_pos h0
    have eN : nS o ls ns = ns := if_pos (.inl h0)
    have fL : lR o Ls F = if eR o Ls F = 0 then insR o.q o.n (decide (o.n < 0)) Ls else Ls := if_pos h0
    have fF : fR o Ls F = F := if_pos (.inl h0)
    refine hx_seq ?_
    refine hx_region ?_
    refine WL.qq (by simp only [EN, Nat.reduceEqDiff, reduceIte, qv_load, ld41, readN, AR, Nat.zero_add, Nat.reduceAdd, hB1.cell, hB2.cell, hB3.cell]; rfl) ?_
    refine WL.qq (by simp only [EN, Nat.reduceEqDiff, reduceIte, qv_fieldAddr, fa45_1, Nat.zero_add, Nat.reduceAdd, hB1.cell, hB2.cell, hB3.cell]; rfl) ?_
    refine WL.qq (by simp only [EN, Nat.reduceEqDiff, reduceIte, qv_load, ld9, readN, AR, Nat.zero_add, Nat.reduceAdd, hB1.cell, hB2.cell, hB3.cell]; rfl) ?_
    refine WL.qq (by simp only [EN, Nat.reduceEqDiff, reduceIte, qv_fieldAddr, fa45_2, Nat.zero_add, Nat.reduceAdd, hB1.cell, hB2.cell, hB3.cell]; rfl) ?_
    refine WL.qq (by simp only [EN, Nat.reduceEqDiff, reduceIte, qv_load, ld9, readN, AR, Nat.zero_add, Nat.reduceAdd, hB1.cell, hB2.cell, hB3.cell]; rfl) ?_
    refine WL.qq (by simp only [EN, Nat.reduceEqDiff, reduceIte, qv_fieldAddr, fa45_3, Nat.zero_add, Nat.reduceAdd, hB1.cell, hB2.cell, hB3.cell]; rfl) ?_
    refine WL.qq (by simp only [EN, Nat.reduceEqDiff, reduceIte, qv_load, ld2, readN, AR, Nat.zero_add, Nat.reduceAdd, hB1.cell, hB2.cell, hB3.cell]; rfl) ?_
    refine WL.ce Try.call36 (by simp only [EN, Nat.reduceEqDiff, reduceIte, AR, hB1.cell, hB2.cell, hB3.cell]; exact c_rSet al Ls cl af F cf o.q.f o.q.t o.n false (by omega) (by omega) hs1 hs2 eF.symm) ?_
    rintro _ h4 ⟨hx4, w1, rfl, hR1⟩
    replace ht := ht.ext hx4
    replace hs1 := hs1.ext hx4
    replace hs2 := hs2.ext hx4
    replace hfl := hfl.ext hx4
    replace hB1 := hB1.ext hx4
    replace hB2 := hB2.ext hx4
    replace hB3 := hB3.ext hx4
    simp only [put_some]
    replace hR1 : RT _ w1 (lR o Ls F) (fR o Ls F) := (by rw [fL, fF]; exact hR1)
    obtain ⟨al1, cl1, af1, cf1, rfl, _, _⟩ := hR1.ex
    refine WL.qq (by simp only [EN, Nat.reduceEqDiff, reduceIte, qv_move, hB1.cell, hB2.cell, hB3.cell]; rfl) ?_
    refine WL.qq (by simp only [EN, Nat.reduceEqDiff, reduceIte, qv_extract, AR, hB1.cell, hB2.cell, hB3.cell]; rfl) ?_
    refine WL.qq (by simp only [EN, Nat.reduceEqDiff, reduceIte, qv_extract, AR, hB1.cell, hB2.cell, hB3.cell]; rfl) ?_
    refine WL.allocSt zr41 sz41 (fun u => by simp only [EN, Nat.reduceEqDiff, reduceIte, Value.cells, hB1.cell, hB2.cell, hB3.cell]; rfl) ⟨rfl, rfl⟩ (by simp [Value.oneCell']) ?_
    intro h5 B5 hx5 hlt5 hB5
    replace ht := ht.ext hx5
    replace hs1 := hs1.ext hx5
    replace hs2 := hs2.ext hx5
    replace hfl := hfl.ext hx5
    replace hB1 := hB1.ext hx5
    replace hB2 := hB2.ext hx5
    replace hB3 := hB3.ext hx5
    replace hR1 := hR1.ext hx5
    refine WL.qq (by simp only [EN, Nat.reduceEqDiff, reduceIte, qv_assign, hB1.cell, hB2.cell, hB3.cell, hB5.cell]; rfl) ?_
    refine WL.nil ?_
    refine th_norm ?_
    refine hx_seq ?_
    apply hx_draw2M (Rel.tb 8 hb p ls ns (lS o ls ns) (nS o ls ns)) [10, 11, 12] [8] [(8, Spec.tb (eS o ls ns) hb p (lS o ls ns) (nS o ls ns))] rfl (by decide +kernel) rfl tbs1 (fun _ _ => ht)
    have hp1 : B1 ≠ p := ht.ne hB1 (by decide); have hp2 : B2 ≠ p := ht.ne hB2 (by decide); have hp3 : B3 ≠ p := ht.ne hB3 (by decide); have hp4 : B5 ≠ p := ht.ne hB5 (by decide)
    refine LD.qr rfl rfl (fun hD hr => by have hB1 := hB1.turn hr.1 hp1; have hB2 := hB2.turn hr.1 hp2; have hB5 := hB5.turn hr.1 hp4; simp only [EN, Nat.reduceEqDiff, reduceIte, qv_load, ld41, readN, AR, Nat.zero_add, Nat.reduceAdd, hB1.cell, hB2.cell, hB3.cell, hB5.cell]; rfl) ?_
    refine LD.qr rfl rfl (fun hD hr => by have hB1 := hB1.turn hr.1 hp1; have hB2 := hB2.turn hr.1 hp2; have hB5 := hB5.turn hr.1 hp4; simp only [EN, Nat.reduceEqDiff, reduceIte, qv_move, e0, hB1.cell, hB2.cell, hB3.cell, hB5.cell]; rfl) ?_
    refine LD.qr rfl rfl (fun hD hr => by have hB1 := hB1.turn hr.1 hp1; have hB2 := hB2.turn hr.1 hp2; have hB5 := hB5.turn hr.1 hp4; simp only [EN, Nat.reduceEqDiff, reduceIte, qv_fieldAddr, fa45_1, Nat.zero_add, Nat.reduceAdd, hB1.cell, hB2.cell, hB3.cell, hB5.cell]; rfl) ?_
    refine LD.qr rfl rfl (fun hD hr => by have hB1 := hB1.turn hr.1 hp1; have hB2 := hB2.turn hr.1 hp2; have hB5 := hB5.turn hr.1 hp4; simp only [EN, Nat.reduceEqDiff, reduceIte, qv_load, ld9, readN, AR, Nat.zero_add, Nat.reduceAdd, hB1.cell, hB2.cell, hB3.cell, hB5.cell]; rfl) ?_
    refine LD.qr rfl rfl (fun hD hr => by have hB1 := hB1.turn hr.1 hp1; have hB2 := hB2.turn hr.1 hp2; have hB5 := hB5.turn hr.1 hp4; simp only [EN, Nat.reduceEqDiff, reduceIte, qv_fieldAddr, fa45_2, Nat.zero_add, Nat.reduceAdd, hB1.cell, hB2.cell, hB3.cell, hB5.cell]; rfl) ?_
    refine LD.qr rfl rfl (fun hD hr => by have hB1 := hB1.turn hr.1 hp1; have hB2 := hB2.turn hr.1 hp2; have hB5 := hB5.turn hr.1 hp4; simp only [EN, Nat.reduceEqDiff, reduceIte, qv_load, ld9, readN, AR, Nat.zero_add, Nat.reduceAdd, hB1.cell, hB2.cell, hB3.cell, hB5.cell]; rfl) ?_
    refine LD.qr rfl rfl (fun hD hr => by have hB1 := hB1.turn hr.1 hp1; have hB2 := hB2.turn hr.1 hp2; have hB5 := hB5.turn hr.1 hp4; simp only [EN, Nat.reduceEqDiff, reduceIte, qv_fieldAddr, fa45_3, Nat.zero_add, Nat.reduceAdd, hB1.cell, hB2.cell, hB3.cell, hB5.cell]; rfl) ?_
    refine LD.qr rfl rfl (fun hD hr => by have hB1 := hB1.turn hr.1 hp1; have hB2 := hB2.turn hr.1 hp2; have hB5 := hB5.turn hr.1 hp4; simp only [EN, Nat.reduceEqDiff, reduceIte, qv_load, ld2, readN, AR, Nat.zero_add, Nat.reduceAdd, hB1.cell, hB2.cell, hB3.cell, hB5.cell]; rfl) ?_
    refine LD.en rfl rfl (by intro hD hr hng hf; have hB1 := hB1.turn hr.1 hp1; have hB2 := hB2.turn hr.1 hp2; have hB5 := hB5.turn hr.1 hp4; exact EOp.mono (e_call Try.call27 (by simp only [EN, Nat.reduceEqDiff, reduceIte, e0, e1, e2, hB1.cell, hB2.cell, hB3.cell, hB5.cell, List.map_toArray, List.map_cons, List.map_nil]; exact tt_setB o.q o.n (hng rfl) (hc1 _ _) eE.symm)) (fun v h' hh => by obtain ⟨rfl, h1, h2⟩ := hh; have h3 : TB hb h' p (lS o ls ns) (nS o ls ns) := (by rw [eL, eN]; exact h1); exact ⟨⟨h2, fun _ => h3, fun _ _ q => slG_turn q h2 (hng rfl).no⟩, rfl, h3, fun k' h4 _ _ h5 => absurd h5 h4⟩)) ?_
    intro u4_8 w4_8
    obtain rfl : u4_8 = iV (eS o ls ns) := w4_8
    refine LD.qr rfl rfl (fun hD hr => by have hB1 := hB1.turn hr.1 hp1; have hB2 := hB2.turn hr.1 hp2; have hB5 := hB5.turn hr.1 hp4; simp only [EN, Nat.reduceEqDiff, reduceIte, qv_move, hB1.cell, hB2.cell, hB3.cell, hB5.cell]; rfl) ?_
    refine LD.skip rfl ?_
    refine LD.skip rfl ?_
    refine LD.skip rfl ?_
    refine LD.nil ?_
    rintro h6 hr4 hF4
    have hT : TB hb h6 p (lS o ls ns) (nS o ls ns) := hF4 (8, iV (eS o ls ns)) (by simp) _ rfl
    replace hB3 := hB3.turn hr4.1 hp3
    replace hR1 := hR1.tr hr4.2.2
    have hTu0 : Turn p h h6 := (Turn.ext ((hx1).trans ((hx2).trans ((hx3).trans ((hx4).trans (hx5)))))).trans hr4.1
    refine WL.store (by simp only [EN, Nat.reduceEqDiff, reduceIte, e0, e1, e2, hB1.cell, hB2.cell, hB3.cell, hB5.cell] <;> rfl) sz41 (by simp only [EN, Nat.reduceEqDiff, reduceIte, e0, e1, e2, hB1.cell, hB2.cell, hB3.cell, hB5.cell, Value.cells]; rfl) rfl hB3 (by simp) (by intro u hu; simp at hu; rcases hu with rfl | rfl <;> rfl) ?_
    intro h60 hw60
    have hT6 := hT.wr hB3 (by decide) hw60 hbB3
    have hR6 := hR1.turn (Turn.wr hw60) (two_no hB3 (fun s hh => by cases hh) (fun s hh => by cases hh))
    have hTu := hTu0.new hw60 hhB3
    replace hB3 := hw60.at_
    refine WL.qq (by simp only [EN, Nat.reduceEqDiff, reduceIte, qv_assign, hB1.cell, hB2.cell, hB3.cell, hB5.cell]; rfl) ?_
    refine WL.qq (by simp only [EN, Nat.reduceEqDiff, reduceIte, qv_assign, hB1.cell, hB2.cell, hB3.cell, hB5.cell]; rfl) ?_
    refine WL.nil ?_
    refine th_norm ?_
    refine hx_ret ?_
    refine bl_ret ?_
    refine th_ret ?_
    refine fin_ret [.cell 6 41, .tmp 7, .tmp 8] rfl rfl (by simp only [EN, Nat.reduceEqDiff, reduceIte, resv, ld41, readN, AR, Nat.zero_add, Nat.reduceAdd, e0, e1, e2, hB1.cell, hB2.cell, hB3.cell, hB5.cell]; rfl) ?_  -- ret 0 r4
    exact ⟨_, rfl, hT6, hR6, hTu⟩
  ·
    try simp only [BD] at hct19
    have h0 : ¬ o.k = 0 := (by simpa using hct19)
    refine hx_seq ?_
    refine hx_region ?_
    refine WL.qq (by simp only [EN, Nat.reduceEqDiff, reduceIte, qv_binOp, binv_eql, eq5, Option.map_some, hB1.cell, hB2.cell, hB3.cell]; rfl) ?_
    refine WL.qq (by simp only [EN, Nat.reduceEqDiff, reduceIte, qv_assign, hB1.cell, hB2.cell, hB3.cell]; rfl) ?_
    refine WL.nil ?_
    refine th_norm ?_
    refine hx_cond (by simp only [EN, Nat.reduceEqDiff, reduceIte, hB1.cell, hB2.cell, hB3.cell]; rfl) (fun hct42 => ?_) (fun hct42 => ?_)
    ·
      try simp only [BD] at hct42
      have h1 : o.k = 1 := (by simpa using hct42)
      have eE : eS o ls ns = setME ls ns o.q.f o.n := (if_neg h0).trans (if_pos h1)
      have eF : eR o Ls F = rsetE Ls F o.q.f em o.n true := (if_neg h0).trans (if_pos h1)
      have eL : lS o ls ns = if eS o ls ns = 0 then setL ls ⟨o.q.f, em⟩ o.n else ls := (if_neg h0).trans (if_pos h1)
      have eN : nS o ls ns = ns := if_pos (.inr (.inl h1))
      have fL : lR o Ls F = if eR o Ls F = 0 then insR ⟨o.q.f, em⟩ o.n (decide (o.n < 0)) Ls else Ls := (if_neg h0).trans (if_pos h1)
      have fF : fR o Ls F = F := if_pos (.inr (.inl h1))
      refine hx_seq ?_
      refine hx_region ?_
      refine WL.qq (by simp only [EN, Nat.reduceEqDiff, reduceIte, qv_load, ld41, readN, AR, Nat.zero_add, Nat.reduceAdd, hB1.cell, hB2.cell, hB3.cell]; rfl) ?_
      refine WL.qq (by simp only [EN, Nat.reduceEqDiff, reduceIte, qv_fieldAddr, fa45_1, Nat.zero_add, Nat.reduceAdd, hB1.cell, hB2.cell, hB3.cell]; rfl) ?_
      refine WL.qq (by simp only [EN, Nat.reduceEqDiff, reduceIte, qv_load, ld9, readN, AR, Nat.zero_add, Nat.reduceAdd, hB1.cell, hB2.cell, hB3.cell]; rfl) ?_
      refine WL.qq (by simp only [EN, Nat.reduceEqDiff, reduceIte, qv_fieldAddr, fa45_3, Nat.zero_add, Nat.reduceAdd, hB1.cell, hB2.cell, hB3.cell]; rfl) ?_
      refine WL.qq (by simp only [EN, Nat.reduceEqDiff, reduceIte, qv_load, ld2, readN, AR, Nat.zero_add, Nat.reduceAdd, hB1.cell, hB2.cell, hB3.cell]; rfl) ?_
      refine WL.ce Try.call36 (by simp only [EN, Nat.reduceEqDiff, reduceIte, AR, hB1.cell, hB2.cell, hB3.cell]; exact c_rSet al Ls cl af F cf o.q.f em o.n true (by omega) (by omega) hs1 hs2 eF.symm) ?_
      rintro _ h7 ⟨hx7, w1, rfl, hR1⟩
      replace ht := ht.ext hx7
      replace hs1 := hs1.ext hx7
      replace hs2 := hs2.ext hx7
      replace hfl := hfl.ext hx7
      replace hB1 := hB1.ext hx7
      replace hB2 := hB2.ext hx7
      replace hB3 := hB3.ext hx7
      simp only [put_some]
      replace hR1 : RT _ w1 (lR o Ls F) (fR o Ls F) := (by rw [fL, fF]; exact hR1)
      obtain ⟨al1, cl1, af1, cf1, rfl, _, _⟩ := hR1.ex
      refine WL.qq (by simp only [EN, Nat.reduceEqDiff, reduceIte, qv_move, hB1.cell, hB2.cell, hB3.cell]; rfl) ?_
      refine WL.qq (by simp only [EN, Nat.reduceEqDiff, reduceIte, qv_extract, AR, hB1.cell, hB2.cell, hB3.cell]; rfl) ?_
      refine WL.qq (by simp only [EN, Nat.reduceEqDiff, reduceIte, qv_extract, AR, hB1.cell, hB2.cell, hB3.cell]; rfl) ?_
      refine WL.allocSt zr41 sz41 (fun u => by simp only [EN, Nat.reduceEqDiff, reduceIte, Value.cells, hB1.cell, hB2.cell, hB3.cell]; rfl) ⟨rfl, rfl⟩ (by simp [Value.oneCell']) ?_
      intro h8 B8 hx8 hlt8 hB8
      replace ht := ht.ext hx8
      replace hs1 := hs1.ext hx8
      replace hs2 := hs2.ext hx8
      replace hfl := hfl.ext hx8
      replace hB1 := hB1.ext hx8
      replace hB2 := hB2.ext hx8
      replace hB3 := hB3.ext hx8
      replace hR1 := hR1.ext hx8
      refine WL.qq (by simp only [EN, Nat.reduceEqDiff, reduceIte, qv_assign, hB1.cell, hB2.cell, hB3.cell, hB8.cell]; rfl) ?_
      refine WL.nil ?_
      refine th_norm ?_
      refine hx_seq ?_
      apply hx_draw2M (Rel.tb 6 hb p ls ns (lS o ls ns) (nS o ls ns)) [8, 9, 10] [6] [(6, Spec.tb (eS o ls ns) hb p (lS o ls ns) (nS o ls ns))] rfl (by decide +kernel) rfl tbs1 (fun _ _ => ht)
      have hp1 : B1 ≠ p := ht.ne hB1 (by decide); have hp2 : B2 ≠ p := ht.ne hB2 (by decide); have hp3 : B3 ≠ p := ht.ne hB3 (by decide); have hp4 : B8 ≠ p := ht.ne hB8 (by decide)
      refine LD.qr rfl rfl (fun hD hr => by have hB1 := hB1.turn hr.1 hp1; have hB2 := hB2.turn hr.1 hp2; have hB8 := hB8.turn hr.1 hp4; simp only [EN, Nat.reduceEqDiff, reduceIte, qv_load, ld41, readN, AR, Nat.zero_add, Nat.reduceAdd, hB1.cell, hB2.cell, hB3.cell, hB8.cell]; rfl) ?_
      refine LD.qr rfl rfl (fun hD hr => by have hB1 := hB1.turn hr.1 hp1; have hB2 := hB2.turn hr.1 hp2; have hB8 := hB8.turn hr.1 hp4; simp only [EN, Nat.reduceEqDiff, reduceIte, qv_move, e0, hB1.cell, hB2.cell, hB3.cell, hB8.cell]; rfl) ?_
      refine LD.qr rfl rfl (fun hD hr => by have hB1 := hB1.turn hr.1 hp1; have hB2 := hB2.turn hr.1 hp2; have hB8 := hB8.turn hr.1 hp4; simp only [EN, Nat.reduceEqDiff, reduceIte, qv_fieldAddr, fa45_1, Nat.zero_add, Nat.reduceAdd, hB1.cell, hB2.cell, hB3.cell, hB8.cell]; rfl) ?_
      refine LD.qr rfl rfl (fun hD hr => by have hB1 := hB1.turn hr.1 hp1; have hB2 := hB2.turn hr.1 hp2; have hB8 := hB8.turn hr.1 hp4; simp only [EN, Nat.reduceEqDiff, reduceIte, qv_load, ld9, readN, AR, Nat.zero_add, Nat.reduceAdd, hB1.cell, hB2.cell, hB3.cell, hB8.cell]; rfl) ?_
      refine LD.qr rfl rfl (fun hD hr => by have hB1 := hB1.turn hr.1 hp1; have hB2 := hB2.turn hr.1 hp2; have hB8 := hB8.turn hr.1 hp4; simp only [EN, Nat.reduceEqDiff, reduceIte, qv_fieldAddr, fa45_3, Nat.zero_add, Nat.reduceAdd, hB1.cell, hB2.cell, hB3.cell, hB8.cell]; rfl) ?_
      refine LD.qr rfl rfl (fun hD hr => by have hB1 := hB1.turn hr.1 hp1; have hB2 := hB2.turn hr.1 hp2; have hB8 := hB8.turn hr.1 hp4; simp only [EN, Nat.reduceEqDiff, reduceIte, qv_load, ld2, readN, AR, Nat.zero_add, Nat.reduceAdd, hB1.cell, hB2.cell, hB3.cell, hB8.cell]; rfl) ?_
      refine LD.en rfl rfl (by intro hD hr hng hf; have hB1 := hB1.turn hr.1 hp1; have hB2 := hB2.turn hr.1 hp2; have hB8 := hB8.turn hr.1 hp4; exact EOp.mono (e_call Try.call13 (by simp only [EN, Nat.reduceEqDiff, reduceIte, e0, e1, e2, hB1.cell, hB2.cell, hB3.cell, hB8.cell, List.map_toArray, List.map_cons, List.map_nil]; exact tt_setM o.q.f o.n (hng rfl) (hc1 _ _) eE.symm)) (fun v h' hh => by obtain ⟨rfl, h1, h2⟩ := hh; have h3 : TB hb h' p (lS o ls ns) (nS o ls ns) := (by rw [eL, eN]; exact h1); exact ⟨⟨h2, fun _ => h3, fun _ _ q => slG_turn q h2 (hng rfl).no⟩, rfl, h3, fun k' h4 _ _ h5 => absurd h5 h4⟩)) ?_
      intro u7_6 w7_6
      obtain rfl : u7_6 = iV (eS o ls ns) := w7_6
      refine LD.qr rfl rfl (fun hD hr => by have hB1 := hB1.turn hr.1 hp1; have hB2 := hB2.turn hr.1 hp2; have hB8 := hB8.turn hr.1 hp4; simp only [EN, Nat.reduceEqDiff, reduceIte, qv_move, hB1.cell, hB2.cell, hB3.cell, hB8.cell]; rfl) ?_
      refine LD.skip rfl ?_
      refine LD.skip rfl ?_
      refine LD.skip rfl ?_
      refine LD.nil ?_
      rintro h9 hr7 hF7
      have hT : TB hb h9 p (lS o ls ns) (nS o ls ns) := hF7 (6, iV (eS o ls ns)) (by simp) _ rfl
      replace hB3 := hB3.turn hr7.1 hp3
      replace hR1 := hR1.tr hr7.2.2
      have hTu0 : Turn p h h9 := (Turn.ext ((hx1).trans ((hx2).trans ((hx3).trans ((hx7).trans (hx8)))))).trans hr7.1
      refine WL.store (by simp only [EN, Nat.reduceEqDiff, reduceIte, e0, e1, e2, hB1.cell, hB2.cell, hB3.cell, hB8.cell] <;> rfl) sz41 (by simp only [EN, Nat.reduceEqDiff, reduceIte, e0, e1, e2, hB1.cell, hB2.cell, hB3.cell, hB8.cell, Value.cells]; rfl) rfl hB3 (by simp) (by intro u hu; simp at hu; rcases hu with rfl | rfl <;> rfl) ?_
      intro h61 hw61
      have hT6 := hT.wr hB3 (by decide) hw61 hbB3
      have hR6 := hR1.turn (Turn.wr hw61) (two_no hB3 (fun s hh => by cases hh) (fun s hh => by cases hh))
      have hTu := hTu0.new hw61 hhB3
      replace hB3 := hw61.at_
      refine WL.qq (by simp only [EN, Nat.reduceEqDiff, reduceIte, qv_assign, hB1.cell, hB2.cell, hB3.cell, hB8.cell]; rfl) ?_
      refine WL.qq (by simp only [EN, Nat.reduceEqDiff, reduceIte, qv_assign, hB1.cell, hB2.cell, hB3.cell, hB8.cell]; rfl) ?_
      refine WL.nil ?_
      refine th_norm ?_
      refine hx_ret ?_
      refine bl_ret ?_
      refine th_ret ?_
      refine fin_ret [.cell 6 41, .tmp 7, .tmp 8] rfl rfl (by simp only [EN, Nat.reduceEqDiff, reduceIte, resv, ld41, readN, AR, Nat.zero_add, Nat.reduceAdd, e0, e1, e2, hB1.cell, hB2.cell, hB3.cell, hB8.cell]; rfl) ?_  -- ret 1 r7
      exact ⟨_, rfl, hT6, hR6, hTu⟩
    ·
      try simp only [BD] at hct42
      have h1 : ¬ o.k = 1 := (by simpa using hct42)
      refine hx_seq ?_
      refine hx_region ?_
      refine WL.qq (by simp only [EN, Nat.reduceEqDiff, reduceIte, qv_binOp, binv_eql, eq5, Option.map_some, hB1.cell, hB2.cell, hB3.cell]; rfl) ?_
      refine WL.qq (by simp only [EN, Nat.reduceEqDiff, reduceIte, qv_assign, hB1.cell, hB2.cell, hB3.cell]; rfl) ?_
      refine WL.nil ?_
      refine th_norm ?_
      refine hx_cond (by simp only [EN, Nat.reduceEqDiff, reduceIte, hB1.cell, hB2.cell, hB3.cell]; rfl) (fun hct61 => ?_) (fun hct61 => ?_)
      ·
        try simp only [BD] at hct61
        have h2 : o.k = 2 := (by simpa using hct61)
        have hn : ¬ (o.k = 0 ∨ o.k = 1 ∨ o.k = 3) := (by omega)
        have eE : eS o ls ns = chkS ls ns o.x.L := (if_neg h0).trans ((if_neg h1).trans (if_pos (.inl h2)))
        have eF : eR o Ls F = chkR Ls F o.x.L := (if_neg h0).trans ((if_neg h1).trans (if_pos (.inl h2)))
        have eL : lS o ls ns = ls := (if_neg h0).trans (if_neg h1)
        have eN : nS o ls ns = if eS o ls ns = 0 then aftS ns o.x.L else ns := (if_neg hn).trans (if_pos h2)
        have fL : lR o Ls F = Ls := (if_neg h0).trans (if_neg h1)
        have fF : fR o Ls F = if eR o Ls F = 0 then F ++ o.x.L else F := (if_neg hn).trans (if_pos h2)
        refine hx_seq ?_
        refine hx_region ?_
        refine WL.qq (by simp only [EN, Nat.reduceEqDiff, reduceIte, qv_load, ld41, readN, AR, Nat.zero_add, Nat.reduceAdd, hB1.cell, hB2.cell, hB3.cell]; rfl) ?_
        refine WL.qq (by simp only [EN, Nat.reduceEqDiff, reduceIte, qv_fieldAddr, fa45_4, Nat.zero_add, Nat.reduceAdd, hB1.cell, hB2.cell, hB3.cell]; rfl) ?_
        refine WL.qq (by simp only [EN, Nat.reduceEqDiff, reduceIte, qv_load, ld39, readN, AR, Nat.zero_add, Nat.reduceAdd, hB1.cell, hB2.cell, hB3.cell]; rfl) ?_
        refine WL.ce Try.call37 (by simp only [EN, Nat.reduceEqDiff, reduceIte, AR, hB1.cell, hB2.cell, hB3.cell]; exact c_rRecord al Ls cl af F cf o.x.a o.x.L o.x.c (by omega) (by omega) (by omega) hs1 hs2 hfl eF.symm) ?_
        rintro _ h10 ⟨hx10, w1, rfl, hR1⟩
        replace ht := ht.ext hx10
        replace hs1 := hs1.ext hx10
        replace hs2 := hs2.ext hx10
        replace hfl := hfl.ext hx10
        replace hB1 := hB1.ext hx10
        replace hB2 := hB2.ext hx10
        replace hB3 := hB3.ext hx10
        simp only [put_some]
        replace hR1 : RT _ w1 (lR o Ls F) (fR o Ls F) := (by rw [fL, fF]; exact hR1)
        obtain ⟨al1, cl1, af1, cf1, rfl, _, _⟩ := hR1.ex
        refine WL.qq (by simp only [EN, Nat.reduceEqDiff, reduceIte, qv_move, hB1.cell, hB2.cell, hB3.cell]; rfl) ?_
        refine WL.qq (by simp only [EN, Nat.reduceEqDiff, reduceIte, qv_extract, AR, hB1.cell, hB2.cell, hB3.cell]; rfl) ?_
        refine WL.qq (by simp only [EN, Nat.reduceEqDiff, reduceIte, qv_extract, AR, hB1.cell, hB2.cell, hB3.cell]; rfl) ?_
        refine WL.allocSt zr41 sz41 (fun u => by simp only [EN, Nat.reduceEqDiff, reduceIte, Value.cells, hB1.cell, hB2.cell, hB3.cell]; rfl) ⟨rfl, rfl⟩ (by simp [Value.oneCell']) ?_
        intro h11 B11 hx11 hlt11 hB11
        replace ht := ht.ext hx11
        replace hs1 := hs1.ext hx11
        replace hs2 := hs2.ext hx11
        replace hfl := hfl.ext hx11
        replace hB1 := hB1.ext hx11
        replace hB2 := hB2.ext hx11
        replace hB3 := hB3.ext hx11
        replace hR1 := hR1.ext hx11
        refine WL.qq (by simp only [EN, Nat.reduceEqDiff, reduceIte, qv_assign, hB1.cell, hB2.cell, hB3.cell, hB11.cell]; rfl) ?_
        refine WL.nil ?_
        refine th_norm ?_
        refine hx_seq ?_
        apply hx_draw2M (Rel.tb 5 hb p ls ns (lS o ls ns) (nS o ls ns)) [7, 8, 9] [4, 5] [(4, Spec.fl o.x.L), (5, Spec.tb (eS o ls ns) hb p (lS o ls ns) (nS o ls ns))] rfl (by decide +kernel) rfl tbs2 (fun _ _ => ht)
        have hp1 : B1 ≠ p := ht.ne hB1 (by decide); have hp2 : B2 ≠ p := ht.ne hB2 (by decide); have hp3 : B3 ≠ p := ht.ne hB3 (by decide); have hp4 : B11 ≠ p := ht.ne hB11 (by decide)
        refine LD.qr rfl rfl (fun hD hr => by have hB1 := hB1.turn hr.1 hp1; have hB2 := hB2.turn hr.1 hp2; have hB11 := hB11.turn hr.1 hp4; simp only [EN, Nat.reduceEqDiff, reduceIte, qv_load, ld41, readN, AR, Nat.zero_add, Nat.reduceAdd, hB1.cell, hB2.cell, hB3.cell, hB11.cell]; rfl) ?_
        refine LD.qr rfl rfl (fun hD hr => by have hB1 := hB1.turn hr.1 hp1; have hB2 := hB2.turn hr.1 hp2; have hB11 := hB11.turn hr.1 hp4; simp only [EN, Nat.reduceEqDiff, reduceIte, qv_move, e0, hB1.cell, hB2.cell, hB3.cell, hB11.cell]; rfl) ?_
        refine LD.qr rfl rfl (fun hD hr => by have hB1 := hB1.turn hr.1 hp1; have hB2 := hB2.turn hr.1 hp2; have hB11 := hB11.turn hr.1 hp4; simp only [EN, Nat.reduceEqDiff, reduceIte, qv_fieldAddr, fa45_4, Nat.zero_add, Nat.reduceAdd, hB1.cell, hB2.cell, hB3.cell, hB11.cell]; rfl) ?_
        refine LD.qr rfl rfl (fun hD hr => by have hB1 := hB1.turn hr.1 hp1; have hB2 := hB2.turn hr.1 hp2; have hB11 := hB11.turn hr.1 hp4; simp only [EN, Nat.reduceEqDiff, reduceIte, qv_load, ld39, readN, AR, Nat.zero_add, Nat.reduceAdd, hB1.cell, hB2.cell, hB3.cell, hB11.cell]; rfl) ?_
        refine LD.en rfl rfl (by intro hD hr hng hf; have hB1 := hB1.turn hr.1 hp1; have hB2 := hB2.turn hr.1 hp2; have hB11 := hB11.turn hr.1 hp4; exact EOp.mono (e_call Try.call26 (by simp only [EN, Nat.reduceEqDiff, reduceIte, e0, e1, e2, hB1.cell, hB2.cell, hB3.cell, hB11.cell, List.map_toArray, List.map_cons, List.map_nil]; exact c_flows o.x.a o.x.L o.x.c (by omega) (hr.2.2 _ _ hfl))) (fun v h' hh => by obtain ⟨h1, h2⟩ := hh; obtain ⟨a9, c9, rfl, _, h3, _⟩ := Own.slG (f := limL) (sz := 3) (fun _ => rfl) h2 rfl; exact ⟨⟨Turn.ext h1, fun q => q.ext h1, fun _ _ q => q.ext h1⟩, ⟨a9, c9, rfl⟩, (fun a cap hv => by cases hv; exact h3), fun k' _ _ q e => (q e).ext h1⟩)) ?_
        intro u10_4 w10_4
        obtain ⟨a9, c9, rfl⟩ := w10_4
        refine LD.en rfl rfl (by intro hD hr hng hf; have hB1 := hB1.turn hr.1 hp1; have hB2 := hB2.turn hr.1 hp2; have hB11 := hB11.turn hr.1 hp4; have hf5 := hf (4, .slice a9 o.x.L.length c9) (by simp) (by show tb _ _ 4 = true; decide +kernel) _ rfl a9 c9 rfl; exact EOp.mono (e_call Try.call15 (by simp only [EN, Nat.reduceEqDiff, reduceIte, e0, e1, e2, hB1.cell, hB2.cell, hB3.cell, hB11.cell, List.map_toArray, List.map_cons, List.map_nil]; exact tt_Record a9 o.x.L c9 (by omega) hc2 (hng rfl) hf5 eE.symm)) (fun v h' hh => by obtain ⟨rfl, h1, h2⟩ := hh; have h3 : TB hb h' p (lS o ls ns) (nS o ls ns) := (by rw [eL, eN]; exact h1); exact ⟨⟨h2, fun _ => h3, fun _ _ q => slG_turn q h2 (hng rfl).no⟩, rfl, h3, fun k' h4 _ _ h5 => absurd h5 h4⟩)) ?_
        intro u10_5 w10_5
        obtain rfl : u10_5 = iV (eS o ls ns) := w10_5
        refine LD.qr rfl rfl (fun hD hr => by have hB1 := hB1.turn hr.1 hp1; have hB2 := hB2.turn hr.1 hp2; have hB11 := hB11.turn hr.1 hp4; simp only [EN, Nat.reduceEqDiff, reduceIte, qv_move, hB1.cell, hB2.cell, hB3.cell, hB11.cell]; rfl) ?_
        refine LD.skip rfl ?_
        refine LD.skip rfl ?_
        refine LD.skip rfl ?_
        refine LD.nil ?_
        rintro h12 hr10 hF10
        have hT : TB hb h12 p (lS o ls ns) (nS o ls ns) := hF10 (5, iV (eS o ls ns)) (by simp) _ rfl
        replace hB3 := hB3.turn hr10.1 hp3
        replace hR1 := hR1.tr hr10.2.2
        have hTu0 : Turn p h h12 := (Turn.ext ((hx1).trans ((hx2).trans ((hx3).trans ((hx10).trans (hx11)))))).trans hr10.1
        refine WL.store (by simp only [EN, Nat.reduceEqDiff, reduceIte, e0, e1, e2, hB1.cell, hB2.cell, hB3.cell, hB11.cell] <;> rfl) sz41 (by simp only [EN, Nat.reduceEqDiff, reduceIte, e0, e1, e2, hB1.cell, hB2.cell, hB3.cell, hB11.cell, Value.cells]; rfl) rfl hB3 (by simp) (by intro u hu; simp at hu; rcases hu with rfl | rfl <;> rfl) ?_
        intro h62 hw62
        have hT6 := hT.wr hB3 (by decide) hw62 hbB3
        have hR6 := hR1.turn (Turn.wr hw62) (two_no hB3 (fun s hh => by cases hh) (fun s hh => by cases hh))
        have hTu := hTu0.new hw62 hhB3
        replace hB3 := hw62.at_
        refine WL.qq (by simp only [EN, Nat.reduceEqDiff, reduceIte, qv_assign, hB1.cell, hB2.cell, hB3.cell, hB11.cell]; rfl) ?_
        refine WL.qq (by simp only [EN, Nat.reduceEqDiff, reduceIte, qv_assign, hB1.cell, hB2.cell, hB3.cell, hB11.cell]; rfl) ?_
        refine WL.nil ?_
        refine th_norm ?_
        refine hx_ret ?_
        refine bl_ret ?_
        refine th_ret ?_
        refine fin_ret [.cell 6 41, .tmp 7, .tmp 8] rfl rfl (by simp only [EN, Nat.reduceEqDiff, reduceIte, resv, ld41, readN, AR, Nat.zero_add, Nat.reduceAdd, e0, e1, e2, hB1.cell, hB2.cell, hB3.cell, hB11.cell]; rfl) ?_  -- ret 2 r10
        exact ⟨_, rfl, hT6, hR6, hTu⟩
      ·
        try simp only [BD] at hct61
        have h2 : ¬ o.k = 2 := (by simpa using hct61)
        refine hx_seq ?_
        refine hx_region ?_
        refine WL.qq (by simp only [EN, Nat.reduceEqDiff, reduceIte, qv_binOp, binv_eql, eq5, Option.map_some, hB1.cell, hB2.cell, hB3.cell]; rfl) ?_
        refine WL.qq (by simp only [EN, Nat.reduceEqDiff, reduceIte, qv_assign, hB1.cell, hB2.cell, hB3.cell]; rfl) ?_
        refine WL.nil ?_
        refine th_norm ?_
        refine hx_cond (by simp only [EN, Nat.reduceEqDiff, reduceIte, hB1.cell, hB2.cell, hB3.cell]; rfl) (fun hct77 => ?_) (fun hct77 => ?_)
        ·
          try simp only [BD] at hct77
          have g3 : o.k = 3 := (by simpa using hct77)
          have eE : eS o ls ns = chkS ls ns o.x.L := (if_neg h0).trans ((if_neg h1).trans (if_pos (.inr g3)))
          have eF : eR o Ls F = chkR Ls F o.x.L := (if_neg h0).trans ((if_neg h1).trans (if_pos (.inr g3)))
          have eL : lS o ls ns = ls := (if_neg h0).trans (if_neg h1)
          have eN : nS o ls ns = ns := if_pos (.inr (.inr g3))
          have fL : lR o Ls F = Ls := (if_neg h0).trans (if_neg h1)
          have fF : fR o Ls F = F := if_pos (.inr (.inr g3))
          refine hx_seq ?_
          refine hx_region ?_
          refine WL.qq (by simp only [EN, Nat.reduceEqDiff, reduceIte, qv_load, ld41, readN, AR, Nat.zero_add, Nat.reduceAdd, hB1.cell, hB2.cell, hB3.cell]; rfl) ?_
          refine WL.qq (by simp only [EN, Nat.reduceEqDiff, reduceIte, qv_fieldAddr, fa45_4, Nat.zero_add, Nat.reduceAdd, hB1.cell, hB2.cell, hB3.cell]; rfl) ?_
          refine WL.qq (by simp only [EN, Nat.reduceEqDiff, reduceIte, qv_load, ld39, readN, AR, Nat.zero_add, Nat.reduceAdd, hB1.cell, hB2.cell, hB3.cell]; rfl) ?_
          refine WL.ce Try.call37 (by simp only [EN, Nat.reduceEqDiff, reduceIte, AR, hB1.cell, hB2.cell, hB3.cell]; exact c_rRecord al Ls cl af F cf o.x.a o.x.L o.x.c (by omega) (by omega) (by omega) hs1 hs2 hfl eF.symm) ?_
          rintro _ h13 ⟨hx13, w1, rfl, hR9⟩
          replace ht := ht.ext hx13
          replace hs1 := hs1.ext hx13
          replace hs2 := hs2.ext hx13
          replace hfl := hfl.ext hx13
          replace hB1 := hB1.ext hx13
          replace hB2 := hB2.ext hx13
          replace hB3 := hB3.ext hx13
          simp only [put_some]
          obtain ⟨al1, cl1, af1, cf1, rfl, _, _⟩ := hR9.ex
          refine WL.qq (by simp only [EN, Nat.reduceEqDiff, reduceIte, qv_move, hB1.cell, hB2.cell, hB3.cell]; rfl) ?_
          refine WL.qq (by simp only [EN, Nat.reduceEqDiff, reduceIte, qv_extract, AR, hB1.cell, hB2.cell, hB3.cell]; rfl) ?_
          refine WL.qq (by simp only [EN, Nat.reduceEqDiff, reduceIte, qv_extract, AR, hB1.cell, hB2.cell, hB3.cell]; rfl) ?_
          refine WL.allocSt zr41 sz41 (fun u => by simp only [EN, Nat.reduceEqDiff, reduceIte, Value.cells, hB1.cell, hB2.cell, hB3.cell]; rfl) ⟨rfl, rfl⟩ (by simp [Value.oneCell']) ?_
          intro h14 B14 hx14 hlt14 hB14
          replace ht := ht.ext hx14
          replace hs1 := hs1.ext hx14
          replace hs2 := hs2.ext hx14
          replace hfl := hfl.ext hx14
          replace hB1 := hB1.ext hx14
          replace hB2 := hB2.ext hx14
          replace hB3 := hB3.ext hx14
          refine WL.qq (by simp only [EN, Nat.reduceEqDiff, reduceIte, qv_assign, hB1.cell, hB2.cell, hB3.cell, hB14.cell]; rfl) ?_
          refine WL.nil ?_
          refine th_norm ?_
          refine hx_seq ?_
          apply hx_draw2M (Rel.tb 5 hb p ls ns (lS o ls ns) (nS o ls ns)) [7, 8, 9] [4, 5] [(4, Spec.fl o.x.L), (5, Spec.tb (eS o ls ns) hb p (lS o ls ns) (nS o ls ns))] rfl (by decide +kernel) rfl tbs2 (fun _ _ => ht)
          have hR1 : RT h14 (rfV al Ls.length cl af F.length cf) (lR o Ls F) (fR o Ls F) := (by rw [fL, fF]; exact ⟨al, cl, af, cf, rfl, hs1, hs2⟩)
          have hp1 : B1 ≠ p := ht.ne hB1 (by decide); have hp2 : B2 ≠ p := ht.ne hB2 (by decide); have hp3 : B3 ≠ p := ht.ne hB3 (by decide)
          refine LD.qr rfl rfl (fun hD hr => by have hB1 := hB1.turn hr.1 hp1; have hB2 := hB2.turn hr.1 hp2; simp only [EN, Nat.reduceEqDiff, reduceIte, qv_load, ld41, readN, AR, Nat.zero_add, Nat.reduceAdd, hB1.cell, hB2.cell, hB3.cell, hB14.cell]; rfl) ?_
          refine LD.qr rfl rfl (fun hD hr => by have hB1 := hB1.turn hr.1 hp1; have hB2 := hB2.turn hr.1 hp2; simp only [EN, Nat.reduceEqDiff, reduceIte, qv_move, e0, hB1.cell, hB2.cell, hB3.cell, hB14.cell]; rfl) ?_
          refine LD.qr rfl rfl (fun hD hr => by have hB1 := hB1.turn hr.1 hp1; have hB2 := hB2.turn hr.1 hp2; simp only [EN, Nat.reduceEqDiff, reduceIte, qv_fieldAddr, fa45_4, Nat.zero_add, Nat.reduceAdd, hB1.cell, hB2.cell, hB3.cell, hB14.cell]; rfl) ?_
          refine LD.qr rfl rfl (fun hD hr => by have hB1 := hB1.turn hr.1 hp1; have hB2 := hB2.turn hr.1 hp2; simp only [EN, Nat.reduceEqDiff, reduceIte, qv_load, ld39, readN, AR, Nat.zero_add, Nat.reduceAdd, hB1.cell, hB2.cell, hB3.cell, hB14.cell]; rfl) ?_
          refine LD.en rfl rfl (by intro hD hr hng hf; have hB1 := hB1.turn hr.1 hp1; have hB2 := hB2.turn hr.1 hp2; exact EOp.mono (e_call Try.call26 (by simp only [EN, Nat.reduceEqDiff, reduceIte, e0, e1, e2, hB1.cell, hB2.cell, hB3.cell, hB14.cell, List.map_toArray, List.map_cons, List.map_nil]; exact c_flows o.x.a o.x.L o.x.c (by omega) (hr.2.2 _ _ hfl))) (fun v h' hh => by obtain ⟨h1, h2⟩ := hh; obtain ⟨a9, c9, rfl, _, h3, _⟩ := Own.slG (f := limL) (sz := 3) (fun _ => rfl) h2 rfl; exact ⟨⟨Turn.ext h1, fun q => q.ext h1, fun _ _ q => q.ext h1⟩, ⟨a9, c9, rfl⟩, (fun a cap hv => by cases hv; exact h3), fun k' _ _ q e => (q e).ext h1⟩)) ?_
          intro u13_4 w13_4
          obtain ⟨a9, c9, rfl⟩ := w13_4
          refine LD.en rfl rfl (by intro hD hr hng hf; have hB1 := hB1.turn hr.1 hp1; have hB2 := hB2.turn hr.1 hp2; have hf5 := hf (4, .slice a9 o.x.L.length c9) (by simp) (by show tb _ _ 4 = true; decide +kernel) _ rfl a9 c9 rfl; exact EOp.mono (e_call Try.call25 (by simp only [EN, Nat.reduceEqDiff, reduceIte, e0, e1, e2, hB1.cell, hB2.cell, hB3.cell, hB14.cell, List.map_toArray, List.map_cons, List.map_nil]; exact tb_Check a9 o.x.L c9 (by omega) hc2 (hng rfl) hf5)) (fun v h' hh => by obtain ⟨rfl, h2⟩ := hh; have h3 : TB hb h' p (lS o ls ns) (nS o ls ns) := (by rw [eL, eN]; exact (hng rfl).ext h2); exact ⟨⟨Turn.ext h2, fun _ => h3, fun _ _ q => q.ext h2⟩, eE ▸ rfl, h3, fun k' h4 _ _ h5 => absurd h5 h4⟩)) ?_
          intro u13_5 w13_5
          obtain rfl : u13_5 = iV (eS o ls ns) := w13_5
          refine LD.qr rfl rfl (fun hD hr => by have hB1 := hB1.turn hr.1 hp1; have hB2 := hB2.turn hr.1 hp2; simp only [EN, Nat.reduceEqDiff, reduceIte, qv_move, hB1.cell, hB2.cell, hB3.cell, hB14.cell]; rfl) ?_
          refine LD.skip rfl ?_
          refine LD.skip rfl ?_
          refine LD.skip rfl ?_
          refine LD.nil ?_
          rintro h15 hr13 hF13
          have hT : TB hb h15 p (lS o ls ns) (nS o ls ns) := hF13 (5, iV (eS o ls ns)) (by simp) _ rfl
          replace hB3 := hB3.turn hr13.1 hp3
          replace hR1 := hR1.tr hr13.2.2
          have hTu0 : Turn p h h15 := (Turn.ext ((hx1).trans ((hx2).trans ((hx3).trans ((hx13).trans (hx14)))))).trans hr13.1
          refine WL.store (by simp only [EN, Nat.reduceEqDiff, reduceIte, e0, e1, e2, hB1.cell, hB2.cell, hB3.cell, hB14.cell] <;> rfl) sz41 (by simp only [EN, Nat.reduceEqDiff, reduceIte, e0, e1, e2, hB1.cell, hB2.cell, hB3.cell, hB14.cell, Value.cells]; rfl) rfl hB3 (by simp) (by intro u hu; simp at hu; rcases hu with rfl | rfl <;> rfl) ?_
          intro h63 hw63
          have hT6 := hT.wr hB3 (by decide) hw63 hbB3
          have hR6 := hR1.turn (Turn.wr hw63) (two_no hB3 (fun s hh => by cases hh) (fun s hh => by cases hh))
          have hTu := hTu0.new hw63 hhB3
          replace hB3 := hw63.at_
          refine WL.qq (by simp only [EN, Nat.reduceEqDiff, reduceIte, qv_assign, hB1.cell, hB2.cell, hB3.cell, hB14.cell]; rfl) ?_
          refine WL.qq (by simp only [EN, Nat.reduceEqDiff, reduceIte, qv_assign, hB1.cell, hB2.cell, hB3.cell, hB14.cell]; rfl) ?_
          refine WL.nil ?_
          refine th_norm ?_
          refine hx_ret ?_
          refine bl_ret ?_
          refine th_ret ?_
          refine fin_ret [.cell 6 41, .tmp 7, .tmp 8] rfl rfl (by simp only [EN, Nat.reduceEqDiff, reduceIte, resv, ld41, readN, AR, Nat.zero_add, Nat.reduceAdd, e0, e1, e2, hB1.cell, hB2.cell, hB3.cell, hB14.cell]; rfl) ?_  -- ret 3 r13
          exact ⟨_, rfl, hT6, hR6, hTu⟩
        ·
          try simp only [BD] at hct77
          have g3 : ¬ o.k = 3 := (by simpa using hct77)
          have hn : ¬ (o.k = 0 ∨ o.k = 1 ∨ o.k = 3) := (by omega)
          have hm : ¬ (o.k = 2 ∨ o.k = 3) := (by omega)
          have eE : eS o ls ns = 0 := (if_neg h0).trans ((if_neg h1).trans (if_neg hm))
          have eF : eR o Ls F = 0 := (if_neg h0).trans ((if_neg h1).trans (if_neg hm))
          have eL : lS o ls ns = ls := (if_neg h0).trans (if_neg h1)
          have eN : nS o ls ns = [] := (if_neg hn).trans (if_neg h2)
          have fL : lR o Ls F = Ls := (if_neg h0).trans (if_neg h1)
          have fF : fR o Ls F = [] := (if_neg hn).trans (if_neg h2)
          refine hx_skip ?_
          refine bl_norm ?_
          refine th_norm ?_
          refine hx_seq ?_
          apply hx_draw2M (Rel.tb 4 hb p ls ns (lS o ls ns) (nS o ls ns)) [5, 6, 7] [4] [(4, Spec.tb (eS o ls ns) hb p (lS o ls ns) (nS o ls ns))] rfl (by decide +kernel) rfl tbs1 (fun _ _ => ht)
          have hR1 : RT h3 (rfV al Ls.length cl none ([] : List L2).length 0) (lR o Ls F) (fR o Ls F) := (by rw [fL, fF]; exact ⟨al, cl, none, 0, rfl, hs1, (fun i x hx => by simp at hx)⟩)
          have hp1 : B1 ≠ p := ht.ne hB1 (by decide); have hp2 : B2 ≠ p := ht.ne hB2 (by decide); have hp3 : B3 ≠ p := ht.ne hB3 (by decide)
          refine LD.qr rfl rfl (fun hD hr => by have hB1 := hB1.turn hr.1 hp1; have hB2 := hB2.turn hr.1 hp2; simp only [EN, Nat.reduceEqDiff, reduceIte, qv_fieldAddr, fa41_0, Nat.zero_add, Nat.reduceAdd, hB1.cell, hB2.cell, hB3.cell]; rfl) ?_
          refine LD.qr rfl rfl (fun hD hr => by have hB1 := hB1.turn hr.1 hp1; have hB2 := hB2.turn hr.1 hp2; simp only [EN, Nat.reduceEqDiff, reduceIte, qv_load, ld38, readN, AR, Nat.zero_add, Nat.reduceAdd, hB1.cell, hB2.cell, hB3.cell]; rfl) ?_
          refine LD.qr rfl rfl (fun hD hr => by have hB1 := hB1.turn hr.1 hp1; have hB2 := hB2.turn hr.1 hp2; refine qv_bld (by simp only [EN, Nat.reduceEqDiff, reduceIte, AR, hB1.cell, hB2.cell, hB3.cell] <;> rfl) (by rw [bl41]; simp [Instr.fill, Value.cells]; rfl)) ?_
          refine LD.qr rfl rfl (fun hD hr => by have hB1 := hB1.turn hr.1 hp1; have hB2 := hB2.turn hr.1 hp2; simp only [EN, Nat.reduceEqDiff, reduceIte, qv_move, e0, hB1.cell, hB2.cell, hB3.cell]; rfl) ?_
          refine LD.en rfl rfl (by intro hD hr hng hf; have hB1 := hB1.turn hr.1 hp1; have hB2 := hB2.turn hr.1 hp2; exact EOp.mono (e_call Try.call32 (by simp only [EN, Nat.reduceEqDiff, reduceIte, e0, e1, e2, hB1.cell, hB2.cell, hB3.cell, List.map_toArray, List.map_cons, List.map_nil]; exact tt_Reset (hng rfl))) (fun v h' hh => by obtain ⟨rfl, h1, h2⟩ := hh; have h3 : TB hb h' p (lS o ls ns) (nS o ls ns) := (by rw [eL, eN]; exact h1); exact ⟨⟨h2, fun _ => h3, fun _ _ q => slG_turn q h2 (hng rfl).no⟩, eE ▸ rfl, h3, fun k' h4 _ _ h5 => absurd h5 h4⟩)) ?_
          intro u14_4 w14_4
          obtain rfl : u14_4 = iV (eS o ls ns) := w14_4
          refine LD.skip rfl ?_
          refine LD.skip rfl ?_
          refine LD.skip rfl ?_
          refine LD.nil ?_
          rintro h16 hr14 hF14
          have hT : TB hb h16 p (lS o ls ns) (nS o ls ns) := hF14 (4, iV (eS o ls ns)) (by simp) _ rfl
          replace hB3 := hB3.turn hr14.1 hp3
          replace hR1 := hR1.tr hr14.2.2
          have hTu0 : Turn p h h16 := (Turn.ext ((hx1).trans ((hx2).trans (hx3)))).trans hr14.1
          refine WL.store (by simp only [EN, Nat.reduceEqDiff, reduceIte, e0, e1, e2, hB1.cell, hB2.cell, hB3.cell] <;> rfl) sz41 (by simp only [EN, Nat.reduceEqDiff, reduceIte, e0, e1, e2, hB1.cell, hB2.cell, hB3.cell, Value.cells]; rfl) rfl hB3 (by simp) (by intro u hu; simp at hu; rcases hu with rfl | rfl <;> rfl) ?_
          intro h64 hw64
          have hT6 := hT.wr hB3 (by decide) hw64 hbB3
          have hR6 := hR1.turn (Turn.wr hw64) (two_no hB3 (fun s hh => by cases hh) (fun s hh => by cases hh))
          have hTu := hTu0.new hw64 hhB3
          replace hB3 := hw64.at_
          refine WL.qq (by simp only [EN, Nat.reduceEqDiff, reduceIte, qv_assign, hB1.cell, hB2.cell, hB3.cell]; rfl) ?_
          refine WL.qq (by simp only [EN, Nat.reduceEqDiff, reduceIte, qv_assign, hB1.cell, hB2.cell, hB3.cell]; rfl) ?_
          refine WL.nil ?_
          refine th_norm ?_
          refine hx_ret ?_
          refine fin_ret [.cell 6 41, .tmp 7, .tmp 8] rfl rfl (by simp only [EN, Nat.reduceEqDiff, reduceIte, resv, ld41, readN, AR, Nat.zero_add, Nat.reduceAdd, e0, e1, e2, hB1.cell, hB2.cell, hB3.cell]; rfl) ?_  -- ret 4 r14
          rw [eF]; exact ⟨_, rfl, hT6, hR6, hTu⟩
end GL


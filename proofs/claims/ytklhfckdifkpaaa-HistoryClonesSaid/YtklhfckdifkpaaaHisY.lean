/- History: Clone and Equal. -/
import Derived.Test.YtklhfckdifkpaaaHisX
set_option linter.unusedSimpArgs false
set_option linter.unusedVariables false
set_option linter.unnecessarySimpa false
namespace GL
open Go Go.Proofs
set_option maxRecDepth 8000
set_option maxHeartbeats 4000000 in
theorem c_cloneH {h : Heap} {p : Nat} {l : List HB} (hg : GS l) (hr : HR h p l) : HCalls Try.prog 32 #[ptr p] h fun v h' => Ext h h' ∧ ∃ p2, v = ptr p2 ∧ HI h h' (fun g => h.size ≤ g) p2 l := by
  obtain ⟨av, cap, xs, hp, hsx, hxl, hbx, hcap, hsp⟩ := hr.ex
  have hx12 : xs.length ≤ 12 := by have := hg.n; rw [← hxl] at this; simpa using this
  have ksx := hsx
  have kbx := hbx
  refine hcalls2 Try.func32 rfl (by decide +kernel) (by simp only [Try.ntmps32]; exact of_decide_eq_true rfl) ?_
  intro e hin
  have e0 := hin 0 _ rfl
  refine hx_seq ?_
  refine hx_region ?_
  refine WL.qq (by simp only [EN, Nat.reduceEqDiff, reduceIte, qv_assign, hp.cell]; rfl) ?_
  refine WL.nil ?_
  refine th_norm ?_
  refine hx_seq ?_
  refine hx_seq ?_
  refine hx_region ?_
  refine WL.qq (by simp only [EN, Nat.reduceEqDiff, reduceIte, qv_move, e0, hp.cell]; rfl) ?_
  refine WL.qq (by simp only [EN, Nat.reduceEqDiff, reduceIte, qv_binOp, binv_eql, eqz27, eqn27, eqm27, Option.map_some, hp.cell]; rfl) ?_
  refine WL.nil ?_
  refine th_norm ?_
  refine hx_cond (by simp only [EN, Nat.reduceEqDiff, reduceIte, hp.cell]; rfl) (fun hct7 => ?_) (fun hct7 => ?_)
  ·
    simp at hct7
  ·
    try simp only [BD] at hct7
    refine hx_skip ?_
    refine th_norm ?_
    refine hx_seq ?_
    refine hx_region ?_
    refine WL.qq (by refine qv_bld (by simp only [EN, Nat.reduceEqDiff, reduceIte, AR, hp.cell] <;> rfl) (by rw [bl93]; simp [Instr.fill, Value.cells]; rfl)) ?_
    refine WL.box2 (by simp only [EN, Nat.reduceEqDiff, reduceIte, Value.cells, hp.cell]; rfl) ?_
    intro h1 B1 hx1 hlt1 hB1
    replace hp := hp.ext hx1
    refine WL.qq (by simp only [EN, Nat.reduceEqDiff, reduceIte, qv_assign, hp.cell, hB1.cell]; rfl) ?_
    refine WL.nil ?_
    refine th_norm ?_
    refine hx_seq ?_
    refine hx_seq ?_
    refine hx_region ?_
    have kz1 := hx1.size; have k1 := (Array.getElem?_eq_some_iff.1 hB1).1
    refine WL.qq (by simp only [EN, Nat.reduceEqDiff, reduceIte, qv_move, e0, hp.cell, hB1.cell]; rfl) ?_
    refine WL.qq (by simp only [EN, Nat.reduceEqDiff, reduceIte, qv_nilCheck, hp.cell, hB1.cell]; rfl) ?_
    refine WL.qq (by simp only [EN, Nat.reduceEqDiff, reduceIte, qv_fieldAddr, fa93_0, Nat.zero_add, Nat.reduceAdd, hp.cell, hB1.cell]; rfl) ?_
    refine WL.qq (by simp only [EN, Nat.reduceEqDiff, reduceIte, qv_load, ld91, readN, AR, Nat.zero_add, Nat.reduceAdd, hp.cell, hB1.cell]; rfl) ?_
    refine WL.qq (by simp only [EN, Nat.reduceEqDiff, reduceIte, qv_len, ln91, AR, hp.cell, hB1.cell]; rfl) ?_
    refine WL.qq (by simp only [EN, Nat.reduceEqDiff, reduceIte, qv_move, hp.cell, hB1.cell]; rfl) ?_
    refine WL.nil ?_
    refine th_norm ?_
    refine hx_block ?_
    refine hx_loopG [5, 15, 16, 17, 18, 19, 20, 21, 22, 23, 24, 25, 26, 27, 28, 29, 30] (fun k e hL0 => ∃ (i : Nat) (ys : List BX) (v : Value), xs.length - i = k ∧ (i ≤ xs.length) ∧ (Ext h hL0) ∧ (Has hL0 B1 (.cells #[v] tyH)) ∧ (Own hL0 h.size tyB 4 v ys.length (ys.flatMap bdL)) ∧ (ys.map BX.bd = l.take i) ∧ (BRs (fun g => h.size ≤ g) hL0 ys) ∧ (ys.length = i) ∧ e 15 = .int .i64 i) _ ⟨0, [], .slice none 0 0, rfl, ?_, ?_, ?_, ?_, ?_, ?_, ?_, ?_⟩ ?_
    · omega
    · exact (hx1)
    · exact hB1
    · exact Own.nil
    · rfl
    · intro x hx; cases hx
    · rfl
    · simp only [EN, Nat.reduceEqDiff, reduceIte, e0, hp.cell, hB1.cell] <;> rfl
    ·
      rintro k e0L hL0 hfr0 ⟨i, ys, v, rfl, hi, hX, hP, ho, hyl, hyr, hyi, i15_0⟩
      have k3_0 := hfr0 3 rfl; try simp only [EN, Nat.reduceEqDiff, reduceIte, hp.cell, hB1.cell] at k3_0
      have k13_0 := hfr0 13 rfl; try simp only [EN, Nat.reduceEqDiff, reduceIte, hp.cell, hB1.cell] at k13_0
      have k14_0 := hfr0 14 rfl; try simp only [EN, Nat.reduceEqDiff, reduceIte, hp.cell, hB1.cell] at k14_0
      refine hx_seq ?_
      refine hx_region ?_
      refine WL.qq (by simp only [EN, Nat.reduceEqDiff, reduceIte, qv_binOp, binv_lss, k14_0, i15_0, hp.cell, hB1.cell, hP.cell]; rfl) ?_
      refine WL.nil ?_
      refine th_norm ?_
      refine hx_seq ?_
      refine hx_cond (by simp only [EN, Nat.reduceEqDiff, reduceIte, hp.cell, hB1.cell, hP.cell]; rfl) (fun hct16 => ?_) (fun hct16 => ?_)
      ·
        try simp only [BD] at hct16
        obtain ⟨x, hxi⟩ := atG (l := xs) (i := i) (by omega)
        obtain ⟨b1, o1, hae, hr4, _⟩ := bd_rd (ksx.ext hX) hxi
        have hxb : l[i]? = some x.bd := (by rw [← hxl]; exact bd_at hxi)
        have hxm : x.bd ∈ l := List.mem_of_getElem? hxb
        have hlx := (hg.f _ hxm).lens
        obtain ⟨a9, c9, rfl, hle9, _, hsp9⟩ := ho.shape
        refine hx_skip ?_
        refine th_norm ?_
        refine hx_seq ?_
        refine hx_block ?_
        refine hx_seq ?_
        refine hx_region ?_
        refine WL.qq (by simp only [EN, Nat.reduceEqDiff, reduceIte, qv_indexAddr, k13_0, i15_0, hp.cell, hB1.cell, hP.cell, hae]; (try simp (disch := omega) only [ix91, Int.toNat_natCast]); rfl) ?_
        refine WL.qq (by simp only [EN, Nat.reduceEqDiff, reduceIte, k3_0, k13_0, k14_0, i15_0, hp.cell, hB1.cell, hP.cell, qv_load, ld55, Int.toNat_natCast, hr4]; rfl) ?_
        refine WL.allocSt zr55 sz55 (fun u => by simp only [EN, Nat.reduceEqDiff, reduceIte, Value.cells, hp.cell, hB1.cell, hP.cell]; rfl) ⟨rfl, rfl⟩ (by simp [Value.oneCell']) ?_
        intro h2 B2 hx2 hlt2 hB2
        replace hX := hX.ext hx2
        replace hP := hP.ext hx2
        replace ho := ho.ext hx2
        replace hyr := hyr.ext hx2
        refine WL.nil ?_
        refine th_norm ?_
        apply hx_draw2 Rel.grows [8, 9, 10, 11] [6, 7] [(6, (Spec.cl h.size x.bd)), (7, (Spec.lcl h.size x.bd))] rfl (by decide +kernel) rfl
        have hbi := (kbx x (List.mem_of_getElem? hxi)).ext hX; have kz5 := hX.size
        refine LD.qq rfl rfl (by simp only [EN, Nat.reduceEqDiff, reduceIte, qv_move, k3_0, hp.cell, hB1.cell, hP.cell, hB2.cell]; rfl) ?_
        refine LD.qq rfl rfl (by simp only [EN, Nat.reduceEqDiff, reduceIte, qv_move, k3_0, hp.cell, hB1.cell, hP.cell, hB2.cell]; rfl) ?_
        refine LD.qq rfl rfl (by simp only [EN, Nat.reduceEqDiff, reduceIte, qv_nilCheck, hp.cell, hB1.cell, hP.cell, hB2.cell]; rfl) ?_
        refine LD.qq rfl rfl (by simp only [EN, Nat.reduceEqDiff, reduceIte, qv_fieldAddr, fa93_0, Nat.zero_add, Nat.reduceAdd, hp.cell, hB1.cell, hP.cell, hB2.cell]; rfl) ?_
        refine LD.qq rfl rfl (by simp only [EN, Nat.reduceEqDiff, reduceIte, qv_load, ld91, readN, AR, Nat.zero_add, Nat.reduceAdd, hp.cell, hB1.cell, hP.cell, hB2.cell, hP.cell]; rfl) ?_
        refine LD.qq rfl rfl (by simp only [EN, Nat.reduceEqDiff, reduceIte, qv_load, ld55, readN, AR, Nat.zero_add, Nat.reduceAdd, hp.cell, hB1.cell, hP.cell, hB2.cell]; rfl) ?_
        refine LD.es rfl rfl (by intro hD hr hf; have hx : Ext _ _ := hr; have hX := hX.ext hx; have hP := hP.ext hx; have ho := ho.ext hx; have hyr := hyr.ext hx; have hB2 := hB2.ext hx; exact EOp.mono (R := fun v' h' => Ext hD h' ∧ ∃ y : BX, v' = .agg (bdL y).toArray ∧ y.bd = x.bd ∧ BXr (fun g => hD.size ≤ g) h' y) (e_call Try.call49 (by simp only [EN, Nat.reduceEqDiff, reduceIte, k3_0, k13_0, k14_0, i15_0, hp.cell, hB1.cell, hP.cell, hB2.cell, List.map_toArray, List.map_cons, List.map_nil]; exact c_clone x hlx (hbi.ext hx))) (fun v' h' hh => by obtain ⟨h1, y, h2, h3, h4⟩ := hh; have := hx.size; exact ⟨h1, ⟨y, h2, h3⟩, y, h2, h3, h4.mono (fun c hc => by omega)⟩)) ?_
        intro u7_6 w7_6
        obtain ⟨y, rfl, hyb⟩ := w7_6
        refine LD.es rfl rfl (by intro hD hr hf; have hx : Ext _ _ := hr; have hX := hX.ext hx; have hP := hP.ext hx; have ho := ho.ext hx; have hyr := hyr.ext hx; have hB2 := hB2.ext hx; have m6 := hf (6, .agg (bdL y).toArray) (by simp) (by show tb _ _ 6 = true; decide +kernel) _ rfl; obtain ⟨y2, hy2, hyb2, hyr2⟩ := m6; exact (e_lit1 (N := h.size) (c := (bdL y).toArray) (by have := hx.size; omega) Try.underlying91 sz55 zr55 (by decide) (by simp only [EN, Nat.reduceEqDiff, reduceIte, k3_0, k13_0, k14_0, i15_0, hp.cell, hB1.cell, hP.cell, hB2.cell] <;> rfl) rfl).mono (fun v' h' hh => ⟨hh.1, hh.2.1, fun B hB => ⟨y2, by have h9 := hh.2.2 B hB; simp only [Value.agg.injEq] at hy2; rw [← hy2]; exact h9, hyb2, hyr2.ext hh.1⟩⟩)) ?_
        intro u7_7 w7_7
        obtain ⟨B7, hlt7, rfl⟩ := w7_7
        refine LD.skip rfl ?_
        refine LD.skip rfl ?_
        refine LD.skip rfl ?_
        refine LD.skip rfl ?_
        refine LD.nil ?_
        rintro h3 hx3 hF7
        replace hx3 : Ext _ _ := hx3
        replace hX := hX.ext hx3
        replace hP := hP.ext hx3
        replace ho := ho.ext hx3
        replace hyr := hyr.ext hx3
        replace hB2 := hB2.ext hx3
        obtain ⟨y3, hB7, hyb3, hyr3⟩ := hF7 (7, .slice (some ⟨B7, 0, none⟩) 1 1) (by simp) _ rfl B7 rfl
        have hall : BRs (fun g => h.size ≤ g) h3 (ys ++ [y3]) := (by intro m hm; rcases List.mem_append.1 hm with hm | hm; exact hyr m hm; (simp at hm; subst hm; exact hyr3))
        refine WL.appG (f := bdL) (base := h.size) (n := ys.length) (xs := ys.flatMap bdL) (bytes := 48) (sz := 4) (L := [y3]) Try.underlying91 (inf_of Try.type55) rfl rfl rfl rfl (by decide) (fun _ => rfl) (fun x u hu => by simp at hu; rcases hu with rfl | rfl | rfl | rfl <;> rfl) (by simp only [EN, Nat.reduceEqDiff, reduceIte, k3_0, k13_0, k14_0, i15_0, hp.cell, hB1.cell, hP.cell, hB2.cell] <;> rfl) ho (by simp only [EN, Nat.reduceEqDiff, reduceIte, k3_0, k13_0, k14_0, i15_0, hp.cell, hB1.cell, hP.cell, hB2.cell] <;> rfl) rfl (by intro hh; cases hh) (slG_has (f := bdL) (sz := 4) (fun _ => rfl) hB7 rfl) (by simp only [maxLen, List.length_singleton]; omega) (by rw [List.length_singleton]; omega) (hX.size) ?_
        intro h40 v40 ho40 hg40 hpl40 hn40
        have hp40 := hP.gr hg40 (ho.ncell hP (by decide))
        refine WL.qq (by simp only [EN, Nat.reduceEqDiff, reduceIte, qv_nilCheck, hp.cell, hB1.cell, hP.cell, hB2.cell]; rfl) ?_
        refine WL.qq (by simp only [EN, Nat.reduceEqDiff, reduceIte, qv_fieldAddr, fa93_0, Nat.zero_add, Nat.reduceAdd, hp.cell, hB1.cell, hP.cell, hB2.cell]; rfl) ?_
        refine WL.store (by simp only [EN, Nat.reduceEqDiff, reduceIte, k3_0, k13_0, k14_0, i15_0, hp.cell, hB1.cell, hP.cell, hB2.cell] <;> rfl) sz91 (by simp only [EN, Nat.reduceEqDiff, reduceIte, k3_0, k13_0, k14_0, i15_0, hp.cell, hB1.cell, hP.cell, hB2.cell]; exact ho40.cells) rfl hp40 (by simp) (by simp [ho40.one]) ?_
        intro h41 hw41
        have ho41 := ho40.keep (fun c hc => hw41.same c fun hh => by subst hh; exact ho40.ncell hp40 (by decide) hc)
        have hal9 := (hall.gro hg40 ho (by decide) (by decide)).wr hw41 hp40 (by decide) (by decide)
        have hE41 := hw41.ext (hg40.ext hX (fun c hc => (ho.block c hc).1)) hlt1
        have hp41 := hw41.at_
        simp only [splc, List.take_succ_cons, List.take_zero, List.take_nil, List.drop_succ_cons, List.drop_zero, List.drop_nil, List.cons_append, List.nil_append, List.length_cons, List.length_nil, Nat.zero_add, Nat.add_zero, Nat.reduceAdd, List.append_nil] at hp41
        refine WL.nil ?_
        refine bl_norm ?_
        refine th_norm ?_
        refine hx_region ?_
        refine WL.qq (by simp only [EN, Nat.reduceEqDiff, reduceIte, qv_binOp, binv_add, i15_0, hp.cell, hB1.cell, hP.cell, hB2.cell]; (try simp (disch := omega) only [w64, w8, wu64]); rfl) ?_
        refine WL.qq (by simp only [EN, Nat.reduceEqDiff, reduceIte, qv_move, hp.cell, hB1.cell, hP.cell, hB2.cell]; rfl) ?_
        refine WL.nil ?_
        refine th_norm ?_
        refine ⟨rfl, ?_, _, ?_, i + 1, ys ++ [y3], v40, rfl, ?_, ?_, ?_, ?_, ?_, ?_, ?_, ?_⟩  -- again 0 of loop 0
        · (repeat (first | exact Fr.refl _ _ | refine Fr.set rfl ?_ | refine Fr.put rfl ?_ | with_reducible refine Fr.put0 ?_))
        · omega
        · omega
        · exact hE41
        · exact hp41
        · rw [List.length_append, List.flatMap_append]; exact ho41
        · rw [List.map_append, hyl, List.take_add_one, hxb]; simp [hyb3]
        · exact hal9
        · rw [List.length_append, hyi]; rfl
        · simp only [EN, Nat.reduceEqDiff, reduceIte, k3_0, k13_0, k14_0, i15_0, hp.cell, hB1.cell, hP.cell, hB2.cell] <;> first | rfl | (congr 1; omega)
      ·
        try simp only [BD] at hct16
        have hie : l.take i = l := List.take_of_length_le (by rw [← hxl, List.length_map]; omega)
        refine hx_exit ?_
        refine th_exit ?_
        refine th_exit ?_
        refine bl_hit ?_
        refine th_norm ?_
        refine hx_seq ?_
        refine hx_region ?_
        refine WL.qq (by simp only [EN, Nat.reduceEqDiff, reduceIte, qv_move, k3_0, hp.cell, hB1.cell, hP.cell]; rfl) ?_
        refine WL.qq (by simp only [EN, Nat.reduceEqDiff, reduceIte, qv_assign, hp.cell, hB1.cell, hP.cell]; rfl) ?_
        refine WL.nil ?_
        refine th_norm ?_
        refine hx_ret ?_
        refine fin_ret [.tmp 2] rfl rfl (by simp only [EN, Nat.reduceEqDiff, reduceIte, resv, k3_0, k13_0, k14_0, i15_0, hp.cell, hB1.cell, hP.cell]; rfl) ?_  -- ret 0 r9
        exact ⟨hX, B1, rfl, ⟨⟨v, ys, hP, ho, hyl.trans hie, hyr⟩, hX, hlt1⟩⟩
/-! Equal. -/
theorem c_eqPs (a b : Option Addr) (L M : List PO) (ca cb : Nat) (hL : L.length ≤ 1000000) {h : Heap} (hs : SlG 4 poL h a L) (hm : SlG 4 poL h b M) :
    HCalls Try.prog 73 #[.slice a L.length ca, .slice b M.length cb] h (Pure (.bool (decide (L = M))) h) := by
  refine hcalls2 Try.func73 rfl (by decide +kernel) (by simp only [Try.ntmps73]; exact of_decide_eq_true rfl) ?_
  intro e hin
  have e0 := hin 0 _ rfl
  have e1 := hin 1 _ rfl
  refine hx_seq ?_
  refine hx_region ?_
  refine WL.qq (by simp only [EN, Nat.reduceEqDiff, reduceIte, qv_assign, strEq]; rfl) ?_
  refine WL.nil ?_
  refine th_norm ?_
  refine hx_seq ?_
  refine hx_seq ?_
  refine hx_region ?_
  refine WL.qq (by simp only [EN, Nat.reduceEqDiff, reduceIte, qv_move, e0, strEq]; rfl) ?_
  refine WL.qq (by simp only [EN, Nat.reduceEqDiff, reduceIte, qv_len, ln70, AR, strEq]; rfl) ?_
  refine WL.qq (by simp only [EN, Nat.reduceEqDiff, reduceIte, qv_move, e1, strEq]; rfl) ?_
  refine WL.qq (by simp only [EN, Nat.reduceEqDiff, reduceIte, qv_len, ln70, AR, strEq]; rfl) ?_
  refine WL.qq (by simp only [EN, Nat.reduceEqDiff, reduceIte, qv_binOp, binv_neq, eq3, Option.map_some, strEq]; rfl) ?_
  refine WL.nil ?_
  refine th_norm ?_
  refine hx_cond (by simp only [EN, Nat.reduceEqDiff, reduceIte, strEq]; rfl) (fun hct10 => ?_) (fun hct10 => ?_)
  ·
    try simp only [BD] at hct10
    refine hx_seq ?_
    refine hx_region ?_
    refine WL.qq (by simp only [EN, Nat.reduceEqDiff, reduceIte, qv_assign, strEq]; rfl) ?_
    refine WL.nil ?_
    refine th_norm ?_
    refine hx_ret ?_
    refine th_ret ?_
    refine fin_ret [.tmp 4] rfl rfl (by simp only [EN, Nat.reduceEqDiff, reduceIte, resv, e0, e1, strEq]; rfl) ?_  -- ret 0 r2
    have hne : L ≠ M := (fun hh => by subst hh; exact hct10 rfl)
    exact ⟨by simp only [retOf]; congr 1; exact (decide_eq_false hne).symm, rfl⟩
  ·
    try simp only [BD] at hct10
    have hle : L.length = M.length := (by omega)
    refine hx_skip ?_
    refine th_norm ?_
    refine hx_seq ?_
    refine hx_seq ?_
    refine hx_region ?_
    refine WL.qq (by simp only [EN, Nat.reduceEqDiff, reduceIte, qv_move, e0, strEq]; rfl) ?_
    refine WL.qq (by simp only [EN, Nat.reduceEqDiff, reduceIte, qv_len, ln70, AR, strEq]; rfl) ?_
    refine WL.qq (by simp only [EN, Nat.reduceEqDiff, reduceIte, qv_move, strEq]; rfl) ?_
    refine WL.nil ?_
    refine th_norm ?_
    refine hx_block ?_
    refine hx_loopS [4, 5, 13, 14, 15, 16, 17, 18, 19, 20, 21, 22, 23, 24, 25] (fun k e => ∃ (i : Nat), L.length - i = k ∧ (i ≤ L.length) ∧ (L.take i = M.take i) ∧ e 13 = .int .i64 i) _ ⟨0, rfl, ?_, ?_, ?_⟩ ?_
    · omega
    · rfl
    · simp only [EN, Nat.reduceEqDiff, reduceIte, e0, e1, strEq] <;> rfl
    ·
      rintro k e0L hfr0 ⟨i, rfl, hi, hz, i13_0⟩
      have k0_0 := hfr0 0 rfl; try simp only [EN, Nat.reduceEqDiff, reduceIte, e0, strEq] at k0_0
      have k1_0 := hfr0 1 rfl; try simp only [EN, Nat.reduceEqDiff, reduceIte, e1, strEq] at k1_0
      have k12_0 := hfr0 12 rfl; try simp only [EN, Nat.reduceEqDiff, reduceIte, strEq] at k12_0
      refine hx_seq ?_
      refine hx_region ?_
      refine WL.qq (by simp only [EN, Nat.reduceEqDiff, reduceIte, qv_binOp, binv_lss, k12_0, i13_0, strEq]; rfl) ?_
      refine WL.nil ?_
      refine th_norm ?_
      refine hx_seq ?_
      refine hx_cond (by simp only [EN, Nat.reduceEqDiff, reduceIte, strEq]; rfl) (fun hct14 => ?_) (fun hct14 => ?_)
      ·
        try simp only [BD] at hct14
        obtain ⟨x, hx⟩ := atG (l := L) (i := i) (by omega)
        obtain ⟨y, hy⟩ := atG (l := M) (i := i) (by omega)
        obtain ⟨b1, o1, ha1, hr1, _⟩ := po_rd hs hx
        obtain ⟨b2, o2, ha2, hr2, _⟩ := po_rd hm hy
        refine hx_skip ?_
        refine th_norm ?_
        refine hx_seq ?_
        refine hx_block ?_
        refine hx_seq ?_
        refine hx_region ?_
        refine WL.qq (by simp only [EN, Nat.reduceEqDiff, reduceIte, qv_move, i13_0, strEq]; rfl) ?_
        refine WL.qq (by simp only [EN, Nat.reduceEqDiff, reduceIte, qv_assign, strEq]; rfl) ?_
        refine WL.nil ?_
        refine th_norm ?_
        refine hx_seq ?_
        apply hx_draw2 Rel.same [] [] [] rfl (by decide +kernel) rfl
        refine LD.qq rfl rfl (by simp only [EN, Nat.reduceEqDiff, reduceIte, qv_move, k0_0, strEq]; rfl) ?_
        refine LD.qq rfl rfl (by simp only [EN, Nat.reduceEqDiff, reduceIte, qv_move, strEq]; rfl) ?_
        refine LD.qq rfl rfl (by simp only [EN, Nat.reduceEqDiff, reduceIte, qv_indexAddr, strEq, ha1]; (try simp (disch := omega) only [ix70, Int.toNat_natCast]); rfl) ?_
        refine LD.qq rfl rfl (by simp only [EN, Nat.reduceEqDiff, reduceIte, k0_0, k1_0, k12_0, i13_0, strEq, qv_load, ld74, Int.toNat_natCast, hr1]; rfl) ?_
        refine LD.qq rfl rfl (by simp only [EN, Nat.reduceEqDiff, reduceIte, qv_move, k1_0, strEq]; rfl) ?_
        refine LD.qq rfl rfl (by simp only [EN, Nat.reduceEqDiff, reduceIte, qv_move, strEq]; rfl) ?_
        refine LD.qq rfl rfl (by simp only [EN, Nat.reduceEqDiff, reduceIte, qv_indexAddr, strEq, ha2]; (try simp (disch := omega) only [ix70, Int.toNat_natCast]); rfl) ?_
        refine LD.qq rfl rfl (by simp only [EN, Nat.reduceEqDiff, reduceIte, k0_0, k1_0, k12_0, i13_0, strEq, qv_load, ld74, Int.toNat_natCast, hr2]; rfl) ?_
        refine LD.qq rfl rfl (by simp only [EN, Nat.reduceEqDiff, reduceIte, qv_binOp, binv_neq, eqs74, Option.map_some, strEq]; rfl) ?_
        refine LD.nil ?_
        rintro _ rfl -
        refine WL.nil ?_
        refine th_norm ?_
        refine hx_cond (by simp only [EN, Nat.reduceEqDiff, reduceIte, strEq]; rfl) (fun hct24 => ?_) (fun hct24 => ?_)
        ·
          try simp only [BD] at hct24
          refine hx_seq ?_
          refine hx_region ?_
          refine WL.qq (by simp only [EN, Nat.reduceEqDiff, reduceIte, qv_assign, strEq]; rfl) ?_
          refine WL.nil ?_
          refine th_norm ?_
          refine hx_ret ?_
          refine bl_ret ?_
          refine th_ret ?_
          refine th_ret ?_
          refine bl_ret ?_
          refine th_ret ?_
          refine fin_ret [.tmp 4] rfl rfl (by simp only [EN, Nat.reduceEqDiff, reduceIte, resv, k0_0, k1_0, k12_0, i13_0, strEq]; rfl) ?_  -- ret 1 r7
          have hne : x ≠ y := (fun hh => by rw [hh] at hct24; simp at hct24)
          exact ⟨by simp only [retOf]; congr 1; exact (decide_eq_false (ne_tk hx hy hne)).symm, rfl⟩
        ·
          try simp only [BD] at hct24
          have heq : x = y := (by rw [po_iff]; simpa [and_assoc] using hct24)
          subst heq
          refine hx_skip ?_
          refine bl_norm ?_
          refine th_norm ?_
          refine hx_region ?_
          refine WL.qq (by simp only [EN, Nat.reduceEqDiff, reduceIte, qv_binOp, binv_add, i13_0, strEq]; (try simp (disch := omega) only [w64, w8, wu64]); rfl) ?_
          refine WL.qq (by simp only [EN, Nat.reduceEqDiff, reduceIte, qv_move, strEq]; rfl) ?_
          refine WL.nil ?_
          refine th_norm ?_
          refine ⟨rfl, rfl, ?_, _, ?_, i + 1, rfl, ?_, ?_, ?_⟩  -- again 0 of loop 0
          · (repeat (first | exact Fr.refl _ _ | refine Fr.set rfl ?_ | refine Fr.put rfl ?_ | with_reducible refine Fr.put0 ?_))
          · omega
          · omega
          · exact tk_step hx hy hz
          · simp only [EN, Nat.reduceEqDiff, reduceIte, k0_0, k1_0, k12_0, i13_0, strEq] <;> first | rfl | (congr 1; omega)
      ·
        try simp only [BD] at hct14
        have hall : L = M := (by rw [List.take_of_length_le (by omega), List.take_of_length_le (by omega)] at hz; exact hz)
        refine hx_exit ?_
        refine th_exit ?_
        refine th_exit ?_
        refine bl_hit ?_
        refine th_norm ?_
        refine hx_seq ?_
        refine hx_region ?_
        refine WL.qq (by simp only [EN, Nat.reduceEqDiff, reduceIte, qv_assign, strEq]; rfl) ?_
        refine WL.nil ?_
        refine th_norm ?_
        refine hx_ret ?_
        refine fin_ret [.tmp 4] rfl rfl (by simp only [EN, Nat.reduceEqDiff, reduceIte, resv, k0_0, k1_0, k12_0, i13_0, strEq]; rfl) ?_  -- ret 2 r9
        exact ⟨by simp only [retOf]; congr 1; exact (decide_eq_true hall).symm, rfl⟩
theorem c_eqPt (x y : PX) (hL : x.ps.length ≤ 1000000) {h : Heap} (hx : PXin h x) (hy : PXin h y) :
    HCalls Try.prog 72 #[.agg (ptL x).toArray, .agg (ptL y).toArray] h (Grow (.bool (decide (x.pt = y.pt))) h) := by
  refine hcalls2 Try.func72 rfl (by decide +kernel) (by simp only [Try.ntmps72]; exact of_decide_eq_true rfl) ?_
  intro e hin
  have e0 := hin 0 _ rfl
  have e1 := hin 1 _ rfl
  refine hx_seq ?_
  refine hx_region ?_
  refine WL.box2 (by simp only [EN, Nat.reduceEqDiff, reduceIte, Value.cells, e0, strEq]; rfl) ?_
  intro h1 B1 hx1 hlt1 hB1
  replace hx := hx.ext hx1
  replace hy := hy.ext hx1
  refine WL.box2 (by simp only [EN, Nat.reduceEqDiff, reduceIte, Value.cells, e1, strEq, hB1.cell]; rfl) ?_
  intro h2 B2 hx2 hlt2 hB2
  replace hx := hx.ext hx2
  replace hy := hy.ext hx2
  replace hB1 := hB1.ext hx2
  refine WL.qq (by simp only [EN, Nat.reduceEqDiff, reduceIte, qv_assign, strEq, hB1.cell, hB2.cell]; rfl) ?_
  refine WL.nil ?_
  refine th_norm ?_
  refine hx_seq ?_
  refine hx_region ?_
  refine WL.qq (by simp only [EN, Nat.reduceEqDiff, reduceIte, qv_fieldAddr, fa72_0, Nat.zero_add, Nat.reduceAdd, strEq, hB1.cell, hB2.cell]; rfl) ?_
  refine WL.qq (by simp only [EN, Nat.reduceEqDiff, reduceIte, qv_load, ld9, readN, AR, Nat.zero_add, Nat.reduceAdd, strEq, hB1.cell, hB2.cell]; rfl) ?_
  refine WL.qq (by simp only [EN, Nat.reduceEqDiff, reduceIte, qv_fieldAddr, fa72_0, Nat.zero_add, Nat.reduceAdd, strEq, hB1.cell, hB2.cell]; rfl) ?_
  refine WL.qq (by simp only [EN, Nat.reduceEqDiff, reduceIte, qv_load, ld9, readN, AR, Nat.zero_add, Nat.reduceAdd, strEq, hB1.cell, hB2.cell]; rfl) ?_
  refine WL.qq (by simp only [EN, Nat.reduceEqDiff, reduceIte, qv_binOp, binv_eql, eq9, Option.map_some, strEq, hB1.cell, hB2.cell]; rfl) ?_
  refine WL.qq (by simp only [EN, Nat.reduceEqDiff, reduceIte, qv_move, strEq, hB1.cell, hB2.cell]; rfl) ?_
  refine WL.cq (gd_at (t := 10) rfl (by simp only [EN, Nat.reduceEqDiff, reduceIte, strEq, hB1.cell, hB2.cell] <;> rfl)) (fun hg1_6 => by simp only [EN, Nat.reduceEqDiff, reduceIte, qv_fieldAddr, fa72_1, Nat.zero_add, Nat.reduceAdd, strEq, hB1.cell, hB2.cell, hg1_6, GR]; rfl) ?_
  refine WL.cq (gd_at (t := 10) rfl (by simp only [EN, Nat.reduceEqDiff, reduceIte, strEq, hB1.cell, hB2.cell] <;> rfl)) (fun hg1_7 => by simp only [EN, Nat.reduceEqDiff, reduceIte, qv_load, ld70, readN, AR, Nat.zero_add, Nat.reduceAdd, strEq, hB1.cell, hB2.cell, hg1_7, GR]; rfl) ?_
  refine WL.cq (gd_at (t := 10) rfl (by simp only [EN, Nat.reduceEqDiff, reduceIte, strEq, hB1.cell, hB2.cell] <;> rfl)) (fun hg1_8 => by simp only [EN, Nat.reduceEqDiff, reduceIte, qv_fieldAddr, fa72_1, Nat.zero_add, Nat.reduceAdd, strEq, hB1.cell, hB2.cell, hg1_8, GR]; rfl) ?_
  refine WL.cq (gd_at (t := 10) rfl (by simp only [EN, Nat.reduceEqDiff, reduceIte, strEq, hB1.cell, hB2.cell] <;> rfl)) (fun hg1_9 => by simp only [EN, Nat.reduceEqDiff, reduceIte, qv_load, ld70, readN, AR, Nat.zero_add, Nat.reduceAdd, strEq, hB1.cell, hB2.cell, hg1_9, GR]; rfl) ?_
  refine WL.cck (gd_at (t := 10) rfl (by simp only [EN, Nat.reduceEqDiff, reduceIte, strEq, hB1.cell, hB2.cell] <;> rfl)) Try.call73 (fun hg1_10 => by simp only [EN, Nat.reduceEqDiff, reduceIte, AR, strEq, hB1.cell, hB2.cell, hg1_10, GR]; exact c_eqPs x.a y.a x.ps y.ps x.c y.c hL hx hy) ?_
  refine WL.qq (by simp only [EN, Nat.reduceEqDiff, reduceIte, qv_pick, pk_and, pk_or, GR, strEq, hB1.cell, hB2.cell]; rfl) ?_
  refine WL.qq (by simp only [EN, Nat.reduceEqDiff, reduceIte, qv_assign, strEq, hB1.cell, hB2.cell]; rfl) ?_
  refine WL.nil ?_
  refine th_norm ?_
  refine hx_ret ?_
  refine fin_ret [.tmp 4] rfl rfl (by simp only [EN, Nat.reduceEqDiff, reduceIte, resv, e0, e1, strEq, hB1.cell, hB2.cell]; rfl) ?_  -- ret 0 r1
  refine ⟨?_, ((hx1).trans (hx2))⟩
  simp only [retOf]
  congr 1
  rw [Bool.eq_iff_iff]
  simp only [Bool.and_eq_true, decide_eq_true_eq, PX.pt, PT.mk.injEq]
theorem c_eqParts (a b : Option Addr) (L M : List PX) (ca cb : Nat) (hL : L.length ≤ 1000000 ∧ ∀ p ∈ L, p.ps.length ≤ 1000000) {h : Heap} (hs : SlG 2 ptL h a L) (hm : SlG 2 ptL h b M) (hsi : ∀ p ∈ L, PXin h p) (hmi : ∀ p ∈ M, PXin h p) :
    HCalls Try.prog 71 #[.slice a L.length ca, .slice b M.length cb, .func (.func 72) #[] #[]] h (Grow (.bool (decide (L.map PX.pt = M.map PX.pt))) h) := by
  have ksi := hsi
  have kmi := hmi
  refine hcalls2 Try.func71 rfl (by decide +kernel) (by simp only [Try.ntmps71]; exact of_decide_eq_true rfl) ?_
  intro e hin
  have e0 := hin 0 _ rfl
  have e1 := hin 1 _ rfl
  have e2 := hin 2 _ rfl
  have hE : Ext h h := Ext.refl h
  refine hx_seq ?_
  refine hx_region ?_
  refine WL.qq (by simp only [EN, Nat.reduceEqDiff, reduceIte, qv_assign]; rfl) ?_
  refine WL.nil ?_
  refine th_norm ?_
  refine hx_seq ?_
  refine hx_seq ?_
  refine hx_region ?_
  refine WL.qq (by simp only [EN, Nat.reduceEqDiff, reduceIte, qv_move, e0]; rfl) ?_
  refine WL.qq (by simp only [EN, Nat.reduceEqDiff, reduceIte, qv_len, ln53, AR]; rfl) ?_
  refine WL.qq (by simp only [EN, Nat.reduceEqDiff, reduceIte, qv_move, e1]; rfl) ?_
  refine WL.qq (by simp only [EN, Nat.reduceEqDiff, reduceIte, qv_len, ln53, AR]; rfl) ?_
  refine WL.qq (by simp only [EN, Nat.reduceEqDiff, reduceIte, qv_binOp, binv_neq, eq3, Option.map_some]; rfl) ?_
  refine WL.nil ?_
  refine th_norm ?_
  refine hx_cond (by simp only [EN, Nat.reduceEqDiff, reduceIte]; rfl) (fun hct14 => ?_) (fun hct14 => ?_)
  ·
    try simp only [BD] at hct14
    refine hx_seq ?_
    refine hx_region ?_
    refine WL.qq (by simp only [EN, Nat.reduceEqDiff, reduceIte, qv_assign]; rfl) ?_
    refine WL.nil ?_
    refine th_norm ?_
    refine hx_ret ?_
    refine th_ret ?_
    refine fin_ret [.tmp 6] rfl rfl (by simp only [EN, Nat.reduceEqDiff, reduceIte, resv, e0, e1, e2]; rfl) ?_  -- ret 0 r2
    have hne : L.map PX.pt ≠ M.map PX.pt := (fun hh => by have h9 := congrArg List.length hh; simp only [List.length_map] at h9; omega)
    exact ⟨by simp only [retOf]; congr 1; exact (decide_eq_false hne).symm, hE⟩
  ·
    try simp only [BD] at hct14
    have hle : L.length = M.length := (by omega)
    refine hx_skip ?_
    refine th_norm ?_
    refine hx_seq ?_
    refine hx_seq ?_
    refine hx_region ?_
    refine WL.qq (by simp only [EN, Nat.reduceEqDiff, reduceIte, qv_move, e0]; rfl) ?_
    refine WL.qq (by simp only [EN, Nat.reduceEqDiff, reduceIte, qv_len, ln53, AR]; rfl) ?_
    refine WL.qq (by simp only [EN, Nat.reduceEqDiff, reduceIte, qv_move]; rfl) ?_
    refine WL.nil ?_
    refine th_norm ?_
    refine hx_block ?_
    refine hx_loopX [6, 7, 8, 9, 17, 18, 19, 20, 21, 22, 23, 24, 25, 26, 27, 28, 29, 30, 31] (fun k e => ∃ (i : Nat), L.length - i = k ∧ (i ≤ L.length) ∧ ((L.map PX.pt).take i = (M.map PX.pt).take i) ∧ e 17 = .int .i64 i) _ ⟨0, rfl, ?_, ?_, ?_⟩ ?_
    · omega
    · rfl
    · simp only [EN, Nat.reduceEqDiff, reduceIte, e0, e1, e2] <;> rfl
    ·
      rintro k e0L hL0 hX0 hfr0 ⟨i, rfl, hi, hz, i17_0⟩
      replace hE := hE.trans hX0
      replace hs := hs.ext hX0
      replace hm := hm.ext hX0
      have hEL0 : Ext hL0 hL0 := Ext.refl _
      have k1_0 := hfr0 1 rfl; try simp only [EN, Nat.reduceEqDiff, reduceIte, e1] at k1_0
      have k2_0 := hfr0 2 rfl; try simp only [EN, Nat.reduceEqDiff, reduceIte, e2] at k2_0
      have k15_0 := hfr0 15 rfl; try simp only [EN, Nat.reduceEqDiff, reduceIte] at k15_0
      have k16_0 := hfr0 16 rfl; try simp only [EN, Nat.reduceEqDiff, reduceIte] at k16_0
      refine hx_seq ?_
      refine hx_region ?_
      refine WL.qq (by simp only [EN, Nat.reduceEqDiff, reduceIte, qv_binOp, binv_lss, k16_0, i17_0]; rfl) ?_
      refine WL.nil ?_
      refine th_norm ?_
      refine hx_seq ?_
      refine hx_cond (by simp only [EN, Nat.reduceEqDiff, reduceIte]; rfl) (fun hct18 => ?_) (fun hct18 => ?_)
      ·
        try simp only [BD] at hct18
        obtain ⟨x, hx⟩ := atG (l := L) (i := i) (by omega)
        obtain ⟨y, hy⟩ := atG (l := M) (i := i) (by omega)
        obtain ⟨b1, o1, ha1, hr1, _⟩ := pt_rd hs hx
        have hxm := List.mem_of_getElem? hx; have hym := List.mem_of_getElem? hy; have hlx := hL.2 x hxm
        refine hx_skip ?_
        refine th_norm ?_
        refine hx_seq ?_
        refine hx_block ?_
        refine hx_seq ?_
        refine hx_region ?_
        refine WL.qq (by simp only [EN, Nat.reduceEqDiff, reduceIte, qv_move, i17_0]; rfl) ?_
        refine WL.qq (by simp only [EN, Nat.reduceEqDiff, reduceIte, qv_indexAddr, k15_0, i17_0, ha1]; (try simp (disch := omega) only [ix53, Int.toNat_natCast]); rfl) ?_
        refine WL.qq (by simp only [EN, Nat.reduceEqDiff, reduceIte, k1_0, k2_0, k15_0, k16_0, i17_0, qv_load, ld72, Int.toNat_natCast, hr1]; rfl) ?_
        refine WL.alloc2 zr72 ?_
        intro h1 B1 hx1 hlt1 hB1
        have hb0_1 := Nat.le_trans hE.size hlt1
        have hbL0_1 := Nat.le_trans hEL0.size hlt1
        have hs_s1 := hs
        have hm_s1 := hm
        replace hE := hE.trans hx1
        replace hEL0 := hEL0.trans hx1
        replace hs := hs.ext hx1
        replace hm := hm.ext hx1
        have hEo1 := hx1
        simp only [Value.cells] at hB1
        refine WL.qq (by simp only [EN, Nat.reduceEqDiff, reduceIte, qv_assign, hB1.cell]; rfl) ?_
        refine WL.store (by simp only [EN, Nat.reduceEqDiff, reduceIte, hB1.cell] <;> rfl) sz72 (by simp only [EN, Nat.reduceEqDiff, reduceIte, Value.cells, hB1.cell] <;> rfl) rfl hB1 (by first | decide | (simp; done) | (simp; omega)) (by simp [Value.oneCell']) ?_
        intro h2 hw2
        replace hE := hw2.ext hE hb0_1
        replace hEL0 := hw2.ext hEL0 hbL0_1
        replace hEo1 := hw2.ext hEo1 hlt1
        replace hs := hs_s1.ext hEo1
        replace hm := hm_s1.ext hEo1
        replace hB1 := hw2.at_
        try simp only [splc, List.take_succ_cons, List.take_zero, List.take_nil, List.drop_succ_cons, List.drop_zero, List.drop_nil, List.cons_append, List.nil_append, List.length_cons, List.length_nil, Nat.zero_add, Nat.add_zero, Nat.reduceAdd, List.append_nil] at hB1
        refine WL.nil ?_
        refine th_norm ?_
        refine hx_seq ?_
        refine hx_region ?_
        obtain ⟨b2, o2, ha2, hr2, _⟩ := pt_rd hm hy
        refine WL.qq (by simp only [EN, Nat.reduceEqDiff, reduceIte, qv_move, k1_0, hB1.cell]; rfl) ?_
        refine WL.qq (by simp only [EN, Nat.reduceEqDiff, reduceIte, qv_move, hB1.cell]; rfl) ?_
        refine WL.qq (by simp only [EN, Nat.reduceEqDiff, reduceIte, qv_indexAddr, hB1.cell, ha2]; (try simp (disch := omega) only [ix53, Int.toNat_natCast]); rfl) ?_
        refine WL.qq (by simp only [EN, Nat.reduceEqDiff, reduceIte, k1_0, k2_0, k15_0, k16_0, i17_0, hB1.cell, qv_load, ld72, Int.toNat_natCast, hr2]; rfl) ?_
        refine WL.allocSt zr72 sz72 (fun u => by simp only [EN, Nat.reduceEqDiff, reduceIte, Value.cells, hB1.cell]; rfl) ⟨rfl, rfl⟩ (by simp [Value.oneCell']) ?_
        intro h3 B3 hx3 hlt3 hB3
        have hne1_3 : B3 ≠ B1 := by have := (Array.getElem?_eq_some_iff.1 hB1).1; omega
        replace hE := hE.trans hx3
        replace hEL0 := hEL0.trans hx3
        replace hEo1 := hEo1.trans hx3
        replace hs := hs.ext hx3
        replace hm := hm.ext hx3
        replace hB1 := hB1.ext hx3
        refine WL.nil ?_
        refine th_norm ?_
        refine hx_seq ?_
        refine hx_region ?_
        refine WL.qq (by simp only [EN, Nat.reduceEqDiff, reduceIte, qv_move, k2_0, hB1.cell, hB3.cell]; rfl) ?_
        refine WL.qq (by simp only [EN, Nat.reduceEqDiff, reduceIte, qv_load, ld72, readN, AR, Nat.zero_add, Nat.reduceAdd, hB1.cell, hB3.cell]; rfl) ?_
        refine WL.qq (by simp only [EN, Nat.reduceEqDiff, reduceIte, qv_load, ld72, readN, AR, Nat.zero_add, Nat.reduceAdd, hB1.cell, hB3.cell]; rfl) ?_
        refine WL.cf (f := 72) (first := #[]) (cap := #[]) (by simp only [EN, Nat.reduceEqDiff, reduceIte, k1_0, k2_0, k15_0, k16_0, i17_0, hB1.cell, hB3.cell]) Try.call72 (by simp only [EN, Nat.reduceEqDiff, reduceIte, k1_0, k2_0, k15_0, k16_0, i17_0, hB1.cell, hB3.cell, List.map_toArray, List.map_cons, List.map_nil]; exact c_eqPt x y hlx ((ksi x hxm).ext hE) ((kmi y hym).ext hE)) ?_
        rintro _ h4 ⟨rfl, hx4⟩
        simp only [put_some]
        replace hE := hE.trans hx4
        replace hEL0 := hEL0.trans hx4
        replace hEo1 := hEo1.trans hx4
        replace hs := hs.ext hx4
        replace hm := hm.ext hx4
        replace hB1 := hB1.ext hx4
        replace hB3 := hB3.ext hx4
        refine WL.qq (by simp only [EN, Nat.reduceEqDiff, reduceIte, qv_unOp, unv_not, hB1.cell, hB3.cell]; rfl) ?_
        refine WL.nil ?_
        refine th_norm ?_
        refine hx_cond (by simp only [EN, Nat.reduceEqDiff, reduceIte, hB1.cell, hB3.cell]; rfl) (fun hct30 => ?_) (fun hct30 => ?_)
        ·
          try simp only [BD] at hct30
          refine hx_seq ?_
          refine hx_region ?_
          refine WL.qq (by simp only [EN, Nat.reduceEqDiff, reduceIte, qv_assign, hB1.cell, hB3.cell]; rfl) ?_
          refine WL.nil ?_
          refine th_norm ?_
          refine hx_ret ?_
          refine bl_ret ?_
          refine th_ret ?_
          refine th_ret ?_
          refine bl_ret ?_
          refine th_ret ?_
          refine fin_ret [.tmp 6] rfl rfl (by simp only [EN, Nat.reduceEqDiff, reduceIte, resv, k1_0, k2_0, k15_0, k16_0, i17_0, hB1.cell, hB3.cell]; rfl) ?_  -- ret 1 r8
          have hne : x.pt ≠ y.pt := (by simpa using hct30)
          have hne2 : L.map PX.pt ≠ M.map PX.pt := ne_tk (x := x.pt) (y := y.pt) (by rw [List.getElem?_map, hx]; rfl) (by rw [List.getElem?_map, hy]; rfl) hne
          exact ⟨by simp only [retOf]; congr 1; exact (decide_eq_false hne2).symm, hE⟩
        ·
          try simp only [BD] at hct30
          have heq : x.pt = y.pt := (by simpa using hct30)
          refine hx_skip ?_
          refine bl_norm ?_
          refine th_norm ?_
          refine hx_region ?_
          refine WL.qq (by simp only [EN, Nat.reduceEqDiff, reduceIte, qv_binOp, binv_add, i17_0, hB1.cell, hB3.cell]; (try simp (disch := omega) only [w64, w8, wu64]); rfl) ?_
          refine WL.qq (by simp only [EN, Nat.reduceEqDiff, reduceIte, qv_move, hB1.cell, hB3.cell]; rfl) ?_
          refine WL.nil ?_
          refine th_norm ?_
          refine ⟨rfl, ?_, ?_, _, ?_, i + 1, rfl, ?_, ?_, ?_⟩  -- again 0 of loop 0
          · exact hEL0
          · (repeat (first | exact Fr.refl _ _ | refine Fr.set rfl ?_ | refine Fr.put rfl ?_ | with_reducible refine Fr.put0 ?_))
          · omega
          · omega
          · exact tk_step (x := x.pt) (by rw [List.getElem?_map, hx]; rfl) (by rw [List.getElem?_map, hy, heq]; rfl) hz
          · simp only [EN, Nat.reduceEqDiff, reduceIte, k1_0, k2_0, k15_0, k16_0, i17_0, hB1.cell, hB3.cell] <;> first | rfl | (congr 1; omega)
      ·
        try simp only [BD] at hct18
        have hall : L.map PX.pt = M.map PX.pt := (by rw [List.take_of_length_le (by rw [List.length_map]; omega), List.take_of_length_le (by rw [List.length_map]; omega)] at hz; exact hz)
        refine hx_exit ?_
        refine th_exit ?_
        refine th_exit ?_
        refine bl_hit ?_
        refine th_norm ?_
        refine hx_seq ?_
        refine hx_region ?_
        refine WL.qq (by simp only [EN, Nat.reduceEqDiff, reduceIte, qv_assign]; rfl) ?_
        refine WL.nil ?_
        refine th_norm ?_
        refine hx_ret ?_
        refine fin_ret [.tmp 6] rfl rfl (by simp only [EN, Nat.reduceEqDiff, reduceIte, resv, k1_0, k2_0, k15_0, k16_0, i17_0]; rfl) ?_  -- ret 2 r10
        exact ⟨by simp only [retOf]; congr 1; exact (decide_eq_true hall).symm, hE⟩
theorem c_beq (x y : BX) (hlx : x.ps.length ≤ 1000000 ∧ ∀ p ∈ x.ps, p.ps.length ≤ 1000000) {h : Heap} (hbx : BXin h x) (hby : BXin h y) :
    HCalls Try.prog 57 #[.agg (bdL x).toArray, .agg (bdL y).toArray] h (Grow (.bool (decide (x.bd = y.bd))) h) := by
  refine hcalls2 Try.func57 rfl (by decide +kernel) (by simp only [Try.ntmps57]; exact of_decide_eq_true rfl) ?_
  intro e hin
  have e0 := hin 0 _ rfl
  have e1 := hin 1 _ rfl
  refine hx_seq ?_
  refine hx_region ?_
  refine WL.box2 (by simp only [EN, Nat.reduceEqDiff, reduceIte, Value.cells, e0]; rfl) ?_
  intro h1 B1 hx1 hlt1 hB1
  replace hbx := hbx.ext hx1
  replace hby := hby.ext hx1
  refine WL.box2 (by simp only [EN, Nat.reduceEqDiff, reduceIte, Value.cells, e1, hB1.cell]; rfl) ?_
  intro h2 B2 hx2 hlt2 hB2
  replace hbx := hbx.ext hx2
  replace hby := hby.ext hx2
  replace hB1 := hB1.ext hx2
  refine WL.qq (by simp only [EN, Nat.reduceEqDiff, reduceIte, qv_assign, hB1.cell, hB2.cell]; rfl) ?_
  refine WL.nil ?_
  refine th_norm ?_
  refine hx_seq ?_
  refine hx_region ?_
  refine WL.qq (by simp only [EN, Nat.reduceEqDiff, reduceIte, qv_fieldAddr, fa55_0, Nat.zero_add, Nat.reduceAdd, hB1.cell, hB2.cell]; rfl) ?_
  refine WL.qq (by simp only [EN, Nat.reduceEqDiff, reduceIte, qv_load, ld3, readN, AR, Nat.zero_add, Nat.reduceAdd, hB1.cell, hB2.cell]; rfl) ?_
  refine WL.qq (by simp only [EN, Nat.reduceEqDiff, reduceIte, qv_fieldAddr, fa55_0, Nat.zero_add, Nat.reduceAdd, hB1.cell, hB2.cell]; rfl) ?_
  refine WL.qq (by simp only [EN, Nat.reduceEqDiff, reduceIte, qv_load, ld3, readN, AR, Nat.zero_add, Nat.reduceAdd, hB1.cell, hB2.cell]; rfl) ?_
  refine WL.qq (by simp only [EN, Nat.reduceEqDiff, reduceIte, qv_binOp, binv_eql, eq3, Option.map_some, hB1.cell, hB2.cell]; rfl) ?_
  refine WL.qq (by simp only [EN, Nat.reduceEqDiff, reduceIte, qv_move, hB1.cell, hB2.cell]; rfl) ?_
  refine WL.cq (gd_at (t := 10) rfl (by simp only [EN, Nat.reduceEqDiff, reduceIte, hB1.cell, hB2.cell] <;> rfl)) (fun hg1_6 => by simp only [EN, Nat.reduceEqDiff, reduceIte, qv_fieldAddr, fa55_1, Nat.zero_add, Nat.reduceAdd, hB1.cell, hB2.cell, hg1_6, GR]; rfl) ?_
  refine WL.cq (gd_at (t := 10) rfl (by simp only [EN, Nat.reduceEqDiff, reduceIte, hB1.cell, hB2.cell] <;> rfl)) (fun hg1_7 => by simp only [EN, Nat.reduceEqDiff, reduceIte, qv_load, ld41, readN, AR, Nat.zero_add, Nat.reduceAdd, hB1.cell, hB2.cell, hg1_7, GR]; rfl) ?_
  refine WL.cq (gd_at (t := 10) rfl (by simp only [EN, Nat.reduceEqDiff, reduceIte, hB1.cell, hB2.cell] <;> rfl)) (fun hg1_8 => by simp only [EN, Nat.reduceEqDiff, reduceIte, qv_fieldAddr, fa55_1, Nat.zero_add, Nat.reduceAdd, hB1.cell, hB2.cell, hg1_8, GR]; rfl) ?_
  refine WL.cq (gd_at (t := 10) rfl (by simp only [EN, Nat.reduceEqDiff, reduceIte, hB1.cell, hB2.cell] <;> rfl)) (fun hg1_9 => by simp only [EN, Nat.reduceEqDiff, reduceIte, qv_load, ld41, readN, AR, Nat.zero_add, Nat.reduceAdd, hB1.cell, hB2.cell, hg1_9, GR]; rfl) ?_
  refine WL.cq (gd_at (t := 10) rfl (by simp only [EN, Nat.reduceEqDiff, reduceIte, hB1.cell, hB2.cell] <;> rfl)) (fun hg1_10 => by simp only [EN, Nat.reduceEqDiff, reduceIte, qv_binOp, binv_eql, eqs41, Option.map_some, hB1.cell, hB2.cell, hg1_10, GR]; rfl) ?_
  refine WL.qq (by simp only [EN, Nat.reduceEqDiff, reduceIte, qv_pick, pk_and, pk_or, GR, hB1.cell, hB2.cell]; rfl) ?_
  refine WL.qq (by simp only [EN, Nat.reduceEqDiff, reduceIte, qv_move, hB1.cell, hB2.cell]; rfl) ?_
  refine WL.cq (gd_at (t := 17) rfl (by simp only [EN, Nat.reduceEqDiff, reduceIte, hB1.cell, hB2.cell] <;> rfl)) (fun hg1_13 => by simp only [EN, Nat.reduceEqDiff, reduceIte, qv_fieldAddr, fa55_2, Nat.zero_add, Nat.reduceAdd, hB1.cell, hB2.cell, hg1_13, GR]; rfl) ?_
  refine WL.cq (gd_at (t := 17) rfl (by simp only [EN, Nat.reduceEqDiff, reduceIte, hB1.cell, hB2.cell] <;> rfl)) (fun hg1_14 => by simp only [EN, Nat.reduceEqDiff, reduceIte, qv_load, ld53, readN, AR, Nat.zero_add, Nat.reduceAdd, hB1.cell, hB2.cell, hg1_14, GR]; rfl) ?_
  refine WL.cq (gd_at (t := 17) rfl (by simp only [EN, Nat.reduceEqDiff, reduceIte, hB1.cell, hB2.cell] <;> rfl)) (fun hg1_15 => by simp only [EN, Nat.reduceEqDiff, reduceIte, qv_fieldAddr, fa55_2, Nat.zero_add, Nat.reduceAdd, hB1.cell, hB2.cell, hg1_15, GR]; rfl) ?_
  refine WL.cq (gd_at (t := 17) rfl (by simp only [EN, Nat.reduceEqDiff, reduceIte, hB1.cell, hB2.cell] <;> rfl)) (fun hg1_16 => by simp only [EN, Nat.reduceEqDiff, reduceIte, qv_load, ld53, readN, AR, Nat.zero_add, Nat.reduceAdd, hB1.cell, hB2.cell, hg1_16, GR]; rfl) ?_
  refine WL.ccg (gd_at (t := 17) rfl (by simp only [EN, Nat.reduceEqDiff, reduceIte, hB1.cell, hB2.cell] <;> rfl)) Try.call71 (fun hg1_17 => by simp only [EN, Nat.reduceEqDiff, reduceIte, AR, hB1.cell, hB2.cell, hg1_17, GR]; exact c_eqParts x.a y.a x.ps y.ps x.c y.c hlx hbx.1 hby.1 hbx.2 hby.2) ?_
  intro h3 hx3
  replace hbx := hbx.ext hx3
  replace hby := hby.ext hx3
  replace hB1 := hB1.ext hx3
  replace hB2 := hB2.ext hx3
  refine WL.qq (by simp only [EN, Nat.reduceEqDiff, reduceIte, qv_pick, pk_and, pk_or, GR, hB1.cell, hB2.cell]; rfl) ?_
  refine WL.qq (by simp only [EN, Nat.reduceEqDiff, reduceIte, qv_assign, hB1.cell, hB2.cell]; rfl) ?_
  refine WL.nil ?_
  refine th_norm ?_
  refine hx_ret ?_
  refine fin_ret [.tmp 4] rfl rfl (by simp only [EN, Nat.reduceEqDiff, reduceIte, resv, e0, e1, hB1.cell, hB2.cell]; rfl) ?_  -- ret 0 r1
  refine ⟨?_, ((hx1).trans ((hx2).trans (hx3)))⟩
  simp only [retOf]
  congr 1
  rw [Bool.eq_iff_iff]
  simp only [Bool.and_eq_true, decide_eq_true_eq, Bool.and_true, and_true]
  rw [bd_iff, and_assoc, and_assoc]
theorem c_eqBs (a b : Option Addr) (L M : List BX) (ca cb : Nat) (hL : L.length ≤ 1000000) (hf : ∀ x ∈ L, FB x.bd) {h : Heap} (hs : SlG 4 bdL h a L) (hm : SlG 4 bdL h b M) (hsi : BXs h L) (hmi : BXs h M) :
    HCalls Try.prog 56 #[.slice a L.length ca, .slice b M.length cb, .func (.func 57) #[] #[]] h (Grow (.bool (decide (L.map BX.bd = M.map BX.bd))) h) := by
  refine hcalls2 Try.func56 rfl (by decide +kernel) (by simp only [Try.ntmps56]; exact of_decide_eq_true rfl) ?_
  intro e hin
  have e0 := hin 0 _ rfl
  have e1 := hin 1 _ rfl
  have e2 := hin 2 _ rfl
  have hE : Ext h h := Ext.refl h
  refine hx_seq ?_
  refine hx_region ?_
  refine WL.qq (by simp only [EN, Nat.reduceEqDiff, reduceIte, qv_assign]; rfl) ?_
  refine WL.nil ?_
  refine th_norm ?_
  refine hx_seq ?_
  refine hx_seq ?_
  refine hx_region ?_
  refine WL.qq (by simp only [EN, Nat.reduceEqDiff, reduceIte, qv_move, e0]; rfl) ?_
  refine WL.qq (by simp only [EN, Nat.reduceEqDiff, reduceIte, qv_len, ln91, AR]; rfl) ?_
  refine WL.qq (by simp only [EN, Nat.reduceEqDiff, reduceIte, qv_move, e1]; rfl) ?_
  refine WL.qq (by simp only [EN, Nat.reduceEqDiff, reduceIte, qv_len, ln91, AR]; rfl) ?_
  refine WL.qq (by simp only [EN, Nat.reduceEqDiff, reduceIte, qv_binOp, binv_neq, eq3, Option.map_some]; rfl) ?_
  refine WL.nil ?_
  refine th_norm ?_
  refine hx_cond (by simp only [EN, Nat.reduceEqDiff, reduceIte]; rfl) (fun hct14 => ?_) (fun hct14 => ?_)
  ·
    try simp only [BD] at hct14
    refine hx_seq ?_
    refine hx_region ?_
    refine WL.qq (by simp only [EN, Nat.reduceEqDiff, reduceIte, qv_assign]; rfl) ?_
    refine WL.nil ?_
    refine th_norm ?_
    refine hx_ret ?_
    refine th_ret ?_
    refine fin_ret [.tmp 6] rfl rfl (by simp only [EN, Nat.reduceEqDiff, reduceIte, resv, e0, e1, e2]; rfl) ?_  -- ret 0 r2
    have hne : L.map BX.bd ≠ M.map BX.bd := (fun hh => by have h9 := congrArg List.length hh; simp only [List.length_map] at h9; omega)
    exact ⟨by simp only [retOf]; congr 1; exact (decide_eq_false hne).symm, hE⟩
  ·
    try simp only [BD] at hct14
    have hle : L.length = M.length := (by omega)
    refine hx_skip ?_
    refine th_norm ?_
    refine hx_seq ?_
    refine hx_seq ?_
    refine hx_region ?_
    refine WL.qq (by simp only [EN, Nat.reduceEqDiff, reduceIte, qv_move, e0]; rfl) ?_
    refine WL.qq (by simp only [EN, Nat.reduceEqDiff, reduceIte, qv_len, ln91, AR]; rfl) ?_
    refine WL.qq (by simp only [EN, Nat.reduceEqDiff, reduceIte, qv_move]; rfl) ?_
    refine WL.nil ?_
    refine th_norm ?_
    refine hx_block ?_
    refine hx_loopX [6, 7, 8, 9, 17, 18, 19, 20, 21, 22, 23, 24, 25, 26, 27, 28, 29, 30, 31] (fun k e => ∃ (i : Nat), L.length - i = k ∧ (i ≤ L.length) ∧ ((L.map BX.bd).take i = (M.map BX.bd).take i) ∧ e 17 = .int .i64 i) _ ⟨0, rfl, ?_, ?_, ?_⟩ ?_
    · omega
    · rfl
    · simp only [EN, Nat.reduceEqDiff, reduceIte, e0, e1, e2] <;> rfl
    ·
      rintro k e0L hL0 hX0 hfr0 ⟨i, rfl, hi, hz, i17_0⟩
      replace hE := hE.trans hX0
      replace hs := hs.ext hX0
      replace hm := hm.ext hX0
      replace hsi := hsi.ext hX0
      replace hmi := hmi.ext hX0
      have hEL0 : Ext hL0 hL0 := Ext.refl _
      have k1_0 := hfr0 1 rfl; try simp only [EN, Nat.reduceEqDiff, reduceIte, e1] at k1_0
      have k2_0 := hfr0 2 rfl; try simp only [EN, Nat.reduceEqDiff, reduceIte, e2] at k2_0
      have k15_0 := hfr0 15 rfl; try simp only [EN, Nat.reduceEqDiff, reduceIte] at k15_0
      have k16_0 := hfr0 16 rfl; try simp only [EN, Nat.reduceEqDiff, reduceIte] at k16_0
      refine hx_seq ?_
      refine hx_region ?_
      refine WL.qq (by simp only [EN, Nat.reduceEqDiff, reduceIte, qv_binOp, binv_lss, k16_0, i17_0]; rfl) ?_
      refine WL.nil ?_
      refine th_norm ?_
      refine hx_seq ?_
      refine hx_cond (by simp only [EN, Nat.reduceEqDiff, reduceIte]; rfl) (fun hct18 => ?_) (fun hct18 => ?_)
      ·
        try simp only [BD] at hct18
        obtain ⟨x, hx⟩ := atG (l := L) (i := i) (by omega)
        obtain ⟨y, hy⟩ := atG (l := M) (i := i) (by omega)
        obtain ⟨b1, o1, ha1, hr1, _⟩ := bd_rd hs hx
        have hxm := List.mem_of_getElem? hx; have hym := List.mem_of_getElem? hy; have hlx := (hf x hxm).lens
        refine hx_skip ?_
        refine th_norm ?_
        refine hx_seq ?_
        refine hx_block ?_
        refine hx_seq ?_
        refine hx_region ?_
        refine WL.qq (by simp only [EN, Nat.reduceEqDiff, reduceIte, qv_move, i17_0]; rfl) ?_
        refine WL.qq (by simp only [EN, Nat.reduceEqDiff, reduceIte, qv_indexAddr, k15_0, i17_0, ha1]; (try simp (disch := omega) only [ix91, Int.toNat_natCast]); rfl) ?_
        refine WL.qq (by simp only [EN, Nat.reduceEqDiff, reduceIte, k1_0, k2_0, k15_0, k16_0, i17_0, qv_load, ld55, Int.toNat_natCast, hr1]; rfl) ?_
        refine WL.alloc2 zr55 ?_
        intro h1 B1 hx1 hlt1 hB1
        have hb0_1 := Nat.le_trans hE.size hlt1
        have hbL0_1 := Nat.le_trans hEL0.size hlt1
        have hs_s1 := hs
        have hm_s1 := hm
        have hsi_s1 := hsi
        have hmi_s1 := hmi
        replace hE := hE.trans hx1
        replace hEL0 := hEL0.trans hx1
        replace hs := hs.ext hx1
        replace hm := hm.ext hx1
        replace hsi := hsi.ext hx1
        replace hmi := hmi.ext hx1
        have hEo1 := hx1
        simp only [Value.cells] at hB1
        refine WL.qq (by simp only [EN, Nat.reduceEqDiff, reduceIte, qv_assign, hB1.cell]; rfl) ?_
        refine WL.store (by simp only [EN, Nat.reduceEqDiff, reduceIte, hB1.cell] <;> rfl) sz55 (by simp only [EN, Nat.reduceEqDiff, reduceIte, Value.cells, hB1.cell] <;> rfl) rfl hB1 (by first | decide | (simp; done) | (simp; omega)) (by simp [Value.oneCell']) ?_
        intro h2 hw2
        replace hE := hw2.ext hE hb0_1
        replace hEL0 := hw2.ext hEL0 hbL0_1
        replace hEo1 := hw2.ext hEo1 hlt1
        replace hs := hs_s1.ext hEo1
        replace hm := hm_s1.ext hEo1
        replace hsi := hsi_s1.ext hEo1
        replace hmi := hmi_s1.ext hEo1
        replace hB1 := hw2.at_
        try simp only [splc, List.take_succ_cons, List.take_zero, List.take_nil, List.drop_succ_cons, List.drop_zero, List.drop_nil, List.cons_append, List.nil_append, List.length_cons, List.length_nil, Nat.zero_add, Nat.add_zero, Nat.reduceAdd, List.append_nil] at hB1
        refine WL.nil ?_
        refine th_norm ?_
        refine hx_seq ?_
        refine hx_region ?_
        obtain ⟨b2, o2, ha2, hr2, _⟩ := bd_rd hm hy
        refine WL.qq (by simp only [EN, Nat.reduceEqDiff, reduceIte, qv_move, k1_0, hB1.cell]; rfl) ?_
        refine WL.qq (by simp only [EN, Nat.reduceEqDiff, reduceIte, qv_move, hB1.cell]; rfl) ?_
        refine WL.qq (by simp only [EN, Nat.reduceEqDiff, reduceIte, qv_indexAddr, hB1.cell, ha2]; (try simp (disch := omega) only [ix91, Int.toNat_natCast]); rfl) ?_
        refine WL.qq (by simp only [EN, Nat.reduceEqDiff, reduceIte, k1_0, k2_0, k15_0, k16_0, i17_0, hB1.cell, qv_load, ld55, Int.toNat_natCast, hr2]; rfl) ?_
        refine WL.allocSt zr55 sz55 (fun u => by simp only [EN, Nat.reduceEqDiff, reduceIte, Value.cells, hB1.cell]; rfl) ⟨rfl, rfl⟩ (by simp [Value.oneCell']) ?_
        intro h3 B3 hx3 hlt3 hB3
        have hne1_3 : B3 ≠ B1 := by have := (Array.getElem?_eq_some_iff.1 hB1).1; omega
        replace hE := hE.trans hx3
        replace hEL0 := hEL0.trans hx3
        replace hEo1 := hEo1.trans hx3
        replace hs := hs.ext hx3
        replace hm := hm.ext hx3
        replace hsi := hsi.ext hx3
        replace hmi := hmi.ext hx3
        replace hB1 := hB1.ext hx3
        refine WL.nil ?_
        refine th_norm ?_
        refine hx_seq ?_
        refine hx_region ?_
        refine WL.qq (by simp only [EN, Nat.reduceEqDiff, reduceIte, qv_move, k2_0, hB1.cell, hB3.cell]; rfl) ?_
        refine WL.qq (by simp only [EN, Nat.reduceEqDiff, reduceIte, qv_load, ld55, readN, AR, Nat.zero_add, Nat.reduceAdd, hB1.cell, hB3.cell]; rfl) ?_
        refine WL.qq (by simp only [EN, Nat.reduceEqDiff, reduceIte, qv_load, ld55, readN, AR, Nat.zero_add, Nat.reduceAdd, hB1.cell, hB3.cell]; rfl) ?_
        refine WL.cf (f := 57) (first := #[]) (cap := #[]) (by simp only [EN, Nat.reduceEqDiff, reduceIte, k1_0, k2_0, k15_0, k16_0, i17_0, hB1.cell, hB3.cell]) Try.call57 (by simp only [EN, Nat.reduceEqDiff, reduceIte, k1_0, k2_0, k15_0, k16_0, i17_0, hB1.cell, hB3.cell, List.map_toArray, List.map_cons, List.map_nil]; exact c_beq x y hlx (hsi x hxm) (hmi y hym)) ?_
        rintro _ h4 ⟨rfl, hx4⟩
        simp only [put_some]
        replace hE := hE.trans hx4
        replace hEL0 := hEL0.trans hx4
        replace hEo1 := hEo1.trans hx4
        replace hs := hs.ext hx4
        replace hm := hm.ext hx4
        replace hsi := hsi.ext hx4
        replace hmi := hmi.ext hx4
        replace hB1 := hB1.ext hx4
        replace hB3 := hB3.ext hx4
        refine WL.qq (by simp only [EN, Nat.reduceEqDiff, reduceIte, qv_unOp, unv_not, hB1.cell, hB3.cell]; rfl) ?_
        refine WL.nil ?_
        refine th_norm ?_
        refine hx_cond (by simp only [EN, Nat.reduceEqDiff, reduceIte, hB1.cell, hB3.cell]; rfl) (fun hct30 => ?_) (fun hct30 => ?_)
        ·
          try simp only [BD] at hct30
          refine hx_seq ?_
          refine hx_region ?_
          refine WL.qq (by simp only [EN, Nat.reduceEqDiff, reduceIte, qv_assign, hB1.cell, hB3.cell]; rfl) ?_
          refine WL.nil ?_
          refine th_norm ?_
          refine hx_ret ?_
          refine bl_ret ?_
          refine th_ret ?_
          refine th_ret ?_
          refine bl_ret ?_
          refine th_ret ?_
          refine fin_ret [.tmp 6] rfl rfl (by simp only [EN, Nat.reduceEqDiff, reduceIte, resv, k1_0, k2_0, k15_0, k16_0, i17_0, hB1.cell, hB3.cell]; rfl) ?_  -- ret 1 r8
          have hne : x.bd ≠ y.bd := (by simpa using hct30)
          have hne2 : L.map BX.bd ≠ M.map BX.bd := ne_tk (x := x.bd) (y := y.bd) (bd_at hx) (bd_at hy) hne
          exact ⟨by simp only [retOf]; congr 1; exact (decide_eq_false hne2).symm, hE⟩
        ·
          try simp only [BD] at hct30
          have heq : x.bd = y.bd := (by simpa using hct30)
          refine hx_skip ?_
          refine bl_norm ?_
          refine th_norm ?_
          refine hx_region ?_
          refine WL.qq (by simp only [EN, Nat.reduceEqDiff, reduceIte, qv_binOp, binv_add, i17_0, hB1.cell, hB3.cell]; (try simp (disch := omega) only [w64, w8, wu64]); rfl) ?_
          refine WL.qq (by simp only [EN, Nat.reduceEqDiff, reduceIte, qv_move, hB1.cell, hB3.cell]; rfl) ?_
          refine WL.nil ?_
          refine th_norm ?_
          refine ⟨rfl, ?_, ?_, _, ?_, i + 1, rfl, ?_, ?_, ?_⟩  -- again 0 of loop 0
          · exact hEL0
          · (repeat (first | exact Fr.refl _ _ | refine Fr.set rfl ?_ | refine Fr.put rfl ?_ | with_reducible refine Fr.put0 ?_))
          · omega
          · omega
          · exact tk_step (x := x.bd) (bd_at hx) (by rw [bd_at hy, heq]) hz
          · simp only [EN, Nat.reduceEqDiff, reduceIte, k1_0, k2_0, k15_0, k16_0, i17_0, hB1.cell, hB3.cell] <;> first | rfl | (congr 1; omega)
      ·
        try simp only [BD] at hct18
        have hall : L.map BX.bd = M.map BX.bd := (by rw [List.take_of_length_le (by rw [List.length_map]; omega), List.take_of_length_le (by rw [List.length_map]; omega)] at hz; exact hz)
        refine hx_exit ?_
        refine th_exit ?_
        refine th_exit ?_
        refine bl_hit ?_
        refine th_norm ?_
        refine hx_seq ?_
        refine hx_region ?_
        refine WL.qq (by simp only [EN, Nat.reduceEqDiff, reduceIte, qv_assign]; rfl) ?_
        refine WL.nil ?_
        refine th_norm ?_
        refine hx_ret ?_
        refine fin_ret [.tmp 6] rfl rfl (by simp only [EN, Nat.reduceEqDiff, reduceIte, resv, k1_0, k2_0, k15_0, k16_0, i17_0]; rfl) ?_  -- ret 2 r10
        exact ⟨by simp only [retOf]; congr 1; exact (decide_eq_true hall).symm, hE⟩
theorem c_equalH {h : Heap} {p q : Nat} {l m : List HB} (hn : l.length ≤ 1000) (hf : ∀ b ∈ l, FB b) (hr : HR h p l) (hq : HR h q m) : HCalls Try.prog 33 #[ptr p, ptr q] h (Grow (.bool (decide (l = m))) h) := by
  obtain ⟨av, cap, xs, hp, hsx, hxl, hbx, hcap, hsp⟩ := hr.ex
  obtain ⟨aw, cw, ys, hp2, hsy, hyl, hby, hcw, hsw⟩ := hq.ex
  subst hxl hyl
  refine hcalls2 Try.func33 rfl (by decide +kernel) (by simp only [Try.ntmps33]; exact of_decide_eq_true rfl) ?_
  intro e hin
  have e0 := hin 0 _ rfl
  have e1 := hin 1 _ rfl
  refine hx_seq ?_
  refine hx_region ?_
  refine WL.qq (by simp only [EN, Nat.reduceEqDiff, reduceIte, qv_assign, hp.cell, hp2.cell]; rfl) ?_
  refine WL.nil ?_
  refine th_norm ?_
  refine hx_seq ?_
  refine hx_seq ?_
  refine hx_region ?_
  refine WL.qq (by simp only [EN, Nat.reduceEqDiff, reduceIte, qv_move, e0, hp.cell, hp2.cell]; rfl) ?_
  refine WL.qq (by simp only [EN, Nat.reduceEqDiff, reduceIte, qv_binOp, binv_eql, eqz27, eqn27, eqm27, Option.map_some, hp.cell, hp2.cell]; rfl) ?_
  refine WL.qq (by simp only [EN, Nat.reduceEqDiff, reduceIte, qv_move, hp.cell, hp2.cell]; rfl) ?_
  refine WL.cq (gd_at (t := 7) rfl (by simp only [EN, Nat.reduceEqDiff, reduceIte, e1, hp.cell, hp2.cell] <;> rfl)) (fun hg1_3 => by simp only [EN, Nat.reduceEqDiff, reduceIte, qv_move, e1, hp.cell, hp2.cell, hg1_3, GR]; rfl) ?_
  refine WL.cq (gd_at (t := 7) rfl (by simp only [EN, Nat.reduceEqDiff, reduceIte, hp.cell, hp2.cell] <;> rfl)) (fun hg1_4 => by simp only [EN, Nat.reduceEqDiff, reduceIte, qv_binOp, binv_eql, eqz27, eqn27, eqm27, Option.map_some, hp.cell, hp2.cell, hg1_4, GR]; rfl) ?_
  refine WL.qq (by simp only [EN, Nat.reduceEqDiff, reduceIte, qv_pick, pk_and, pk_or, GR, hp.cell, hp2.cell]; rfl) ?_
  refine WL.nil ?_
  refine th_norm ?_
  refine hx_cond (by simp only [EN, Nat.reduceEqDiff, reduceIte, hp.cell, hp2.cell]; rfl) (fun hct10 => ?_) (fun hct10 => ?_)
  ·
    simp at hct10
  ·
    try simp only [BD] at hct10
    refine hx_skip ?_
    refine th_norm ?_
    refine hx_seq ?_
    apply hx_draw2 Rel.grows [] [8] [(8, Spec.is _)] rfl (by decide +kernel) rfl
    refine LD.qq rfl rfl (by simp only [EN, Nat.reduceEqDiff, reduceIte, qv_move, e0, hp.cell, hp2.cell]; rfl) ?_
    refine LD.qq rfl rfl (by simp only [EN, Nat.reduceEqDiff, reduceIte, qv_nilCheck, hp.cell, hp2.cell]; rfl) ?_
    refine LD.qq rfl rfl (by simp only [EN, Nat.reduceEqDiff, reduceIte, qv_fieldAddr, fa93_0, Nat.zero_add, Nat.reduceAdd, hp.cell, hp2.cell]; rfl) ?_
    refine LD.qq rfl rfl (by simp only [EN, Nat.reduceEqDiff, reduceIte, qv_load, ld91, readN, AR, Nat.zero_add, Nat.reduceAdd, hp.cell, hp2.cell]; rfl) ?_
    refine LD.qq rfl rfl (by simp only [EN, Nat.reduceEqDiff, reduceIte, qv_move, e1, hp.cell, hp2.cell]; rfl) ?_
    refine LD.qq rfl rfl (by simp only [EN, Nat.reduceEqDiff, reduceIte, qv_nilCheck, hp.cell, hp2.cell]; rfl) ?_
    refine LD.qq rfl rfl (by simp only [EN, Nat.reduceEqDiff, reduceIte, qv_fieldAddr, fa93_0, Nat.zero_add, Nat.reduceAdd, hp.cell, hp2.cell]; rfl) ?_
    refine LD.qq rfl rfl (by simp only [EN, Nat.reduceEqDiff, reduceIte, qv_load, ld91, readN, AR, Nat.zero_add, Nat.reduceAdd, hp.cell, hp2.cell]; rfl) ?_
    refine LD.ck rfl rfl Try.call56 (by intro hD hr; have hx : Ext _ _ := hr; have hp := hp.ext hx; have hp2 := hp2.ext hx; have hsx := hsx.ext hx; have hsy := hsy.ext hx; have hbx := hbx.ext hx; have hby := hby.ext hx; simp only [EN, Nat.reduceEqDiff, reduceIte, AR, hp.cell, hp2.cell]; exact c_eqBs av aw xs ys cap cw (by simpa using Nat.le_trans hn (by decide)) (fun x hx => hf _ (List.mem_map.2 ⟨x, hx, rfl⟩)) hsx hsy hbx hby) ?_
    refine LD.qq rfl rfl (by simp only [EN, Nat.reduceEqDiff, reduceIte, qv_assign, hp.cell, hp2.cell]; rfl) ?_
    refine LD.nil ?_
    rintro h1 hx1 hF3
    replace hx1 : Ext _ _ := hx1
    replace hp := hp.ext hx1
    replace hp2 := hp2.ext hx1
    replace hsx := hsx.ext hx1
    replace hsy := hsy.ext hx1
    replace hbx := hbx.ext hx1
    replace hby := hby.ext hx1
    refine WL.nil ?_
    refine th_norm ?_
    refine hx_ret ?_
    refine fin_ret [.tmp 4] rfl rfl (by simp only [EN, Nat.reduceEqDiff, reduceIte, resv, e0, e1, hp.cell, hp2.cell]; rfl) ?_  -- ret 0 r3
    exact ⟨rfl, (hx1)⟩
theorem c_eqPN {h : Heap} (p : Nat) : HCalls Try.prog 33 #[ptr p, .pointer none] h (Grow (.bool false) h) := by
  refine hcalls2 Try.func33 rfl (by decide +kernel) (by simp only [Try.ntmps33]; exact of_decide_eq_true rfl) ?_
  intro e hin
  have e0 := hin 0 _ rfl
  have e1 := hin 1 _ rfl
  refine hx_seq ?_
  refine hx_region ?_
  refine WL.qq (by simp only [EN, Nat.reduceEqDiff, reduceIte, qv_assign]; rfl) ?_
  refine WL.nil ?_
  refine th_norm ?_
  refine hx_seq ?_
  refine hx_seq ?_
  refine hx_region ?_
  refine WL.qq (by simp only [EN, Nat.reduceEqDiff, reduceIte, qv_move, e0]; rfl) ?_
  refine WL.qq (by simp only [EN, Nat.reduceEqDiff, reduceIte, qv_binOp, binv_eql, eqz27, eqn27, eqm27, Option.map_some]; rfl) ?_
  refine WL.qq (by simp only [EN, Nat.reduceEqDiff, reduceIte, qv_move]; rfl) ?_
  refine WL.cq (gd_at (t := 7) rfl (by simp only [EN, Nat.reduceEqDiff, reduceIte, e1] <;> rfl)) (fun hg1_3 => by simp only [EN, Nat.reduceEqDiff, reduceIte, qv_move, e1, hg1_3, GR]; rfl) ?_
  refine WL.cq (gd_at (t := 7) rfl (by simp only [EN, Nat.reduceEqDiff, reduceIte] <;> rfl)) (fun hg1_4 => by simp only [EN, Nat.reduceEqDiff, reduceIte, qv_binOp, binv_eql, eqz27, eqn27, eqm27, Option.map_some, hg1_4, GR]; rfl) ?_
  refine WL.qq (by simp only [EN, Nat.reduceEqDiff, reduceIte, qv_pick, pk_and, pk_or, GR]; rfl) ?_
  refine WL.nil ?_
  refine th_norm ?_
  refine hx_cond (by simp only [EN, Nat.reduceEqDiff, reduceIte]; rfl) (fun hct10 => ?_) (fun hct10 => ?_)
  ·
    try simp only [BD] at hct10
    refine hx_seq ?_
    refine hx_region ?_
    refine WL.qq (by simp only [EN, Nat.reduceEqDiff, reduceIte, qv_move, e0]; rfl) ?_
    refine WL.qq (by simp only [EN, Nat.reduceEqDiff, reduceIte, qv_binOp, binv_eql, eqz27, eqn27, eqm27, Option.map_some]; rfl) ?_
    refine WL.qq (by simp only [EN, Nat.reduceEqDiff, reduceIte, qv_move]; rfl) ?_
    refine WL.cq (gd_at (t := 13) rfl (by simp only [EN, Nat.reduceEqDiff, reduceIte, e1] <;> rfl)) (fun hg2_3 => by simp only [EN, Nat.reduceEqDiff, reduceIte, qv_move, e1, hg2_3, GR]; rfl) ?_
    refine WL.cq (gd_at (t := 13) rfl (by simp only [EN, Nat.reduceEqDiff, reduceIte] <;> rfl)) (fun hg2_4 => by simp only [EN, Nat.reduceEqDiff, reduceIte, qv_binOp, binv_eql, eqz27, eqn27, eqm27, Option.map_some, hg2_4, GR]; rfl) ?_
    refine WL.qq (by simp only [EN, Nat.reduceEqDiff, reduceIte, qv_pick, pk_and, pk_or, GR]; rfl) ?_
    refine WL.qq (by simp only [EN, Nat.reduceEqDiff, reduceIte, qv_assign]; rfl) ?_
    refine WL.nil ?_
    refine th_norm ?_
    refine hx_ret ?_
    refine th_ret ?_
    refine fin_ret [.tmp 4] rfl rfl (by simp only [EN, Nat.reduceEqDiff, reduceIte, resv, e0, e1]; rfl) ?_  -- ret 0 r2
    exact ⟨rfl, (Ext.refl _)⟩
  ·
    simp at hct10
end GL


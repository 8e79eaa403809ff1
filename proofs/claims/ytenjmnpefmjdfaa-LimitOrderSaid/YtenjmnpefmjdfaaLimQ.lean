/- Limits: a sequence of operations on both tables. -/
import Derived.Test.YtenjmnpefmjdfaaLimP
set_option linter.unusedSimpArgs false
set_option linter.unusedVariables false
set_option linter.unnecessarySimpa false
namespace GL
open Go Go.Proofs
set_option maxRecDepth 8000
def rS (l : List LOp) : List L2 × List L2 := l.foldl (fun s o => (lS o s.1 s.2, nS o s.1 s.2)) ([], [])
def rR (l : List LOp) : List L2 × List L2 := l.foldl (fun s o => (lR o s.1 s.2, fR o s.1 s.2)) ([], [])
theorem rS_step {l : List LOp} {i : Nat} {o : LOp} (ho : l[i]? = some o) : rS (l.take (i + 1)) = (lS o (rS (l.take i)).1 (rS (l.take i)).2, nS o (rS (l.take i)).1 (rS (l.take i)).2) := by
  unfold rS
  rw [List.take_add_one, ho, List.foldl_append]; rfl
theorem rR_step {l : List LOp} {i : Nat} {o : LOp} (ho : l[i]? = some o) : rR (l.take (i + 1)) = (lR o (rR (l.take i)).1 (rR (l.take i)).2, fR o (rR (l.take i)).1 (rR (l.take i)).2) := by
  unfold rR
  rw [List.take_add_one, ho, List.foldl_append]; rfl
theorem small_ok {l : List LOp} (h : smallB l = true) : l.length ≤ 40 ∧ ∀ o ∈ l, o.x.L.length ≤ 12 := by
  unfold smallB at h
  rw [Bool.and_eq_true, decide_eq_true_eq, List.all_eq_true] at h
  exact ⟨h.1, fun o ho => by simpa using h.2 o ho⟩
theorem TB.base {h0 h1 h : Heap} {p : Nat} {ls ns : List L2} (ht : TB h1 h p ls ns) (hx : Ext h0 h1) : TB h0 h p ls ns := by
  obtain ⟨⟨bl, bn, h2, h3, h4⟩, hE, hp⟩ := ht
  have := hx.size
  exact ⟨⟨bl, bn, h2, by omega, by omega⟩, hx.trans hE, by omega⟩
def Spec.al (N p : Nat) (c : Array Value) (t : TypeId) : Spec := ⟨fun v => ∃ B, N ≤ B ∧ v = .pointer (some ⟨B, 0, none⟩), fun v h => ∀ B, v = .pointer (some ⟨B, 0, none⟩) → Has h B (.cells c t) ∧ B ≠ p,
  ⟨.pointer (some ⟨N, 0, none⟩), N, Nat.le_refl _, rfl⟩, fun v h h' hx hm B hv => ⟨(hm B hv).1.ext hx, (hm B hv).2⟩⟩
def Spec.dn (e e' : Int) (h0 : Heap) (p : Nat) (ls ns Ls F : List L2) : Spec := ⟨fun v => ∃ w, v = .tuple #[w, iV e, iV e'], fun v h => ∀ w, v = .tuple #[w, iV e, iV e'] → TB h0 h p ls ns ∧ RT h w Ls F,
  ⟨.tuple #[undef, iV e, iV e'], undef, rfl⟩, fun v h h' hx hm w hv => ⟨(hm w hv).1.ext hx, (hm w hv).2.ext hx⟩⟩
theorem tbs3 {j i1 i2 N : Nat} {e e' : Int} {c : Array Value} {T : TypeId} {h0 : Heap} {p : Nat} {ls ns ls' ns' Ls F : List L2} : Stable (Rel.tb j h0 p ls ns ls' ns') (specOf [(i1, Spec.dn e e' h0 p ls' ns' Ls F), (i2, Spec.al N p c T)]) := by
  intro i s hi u a b hr hm
  simp only [specOf, List.lookup] at hi
  repeat' split at hi
  all_goals cases hi
  · exact fun w hv => ⟨hr.2.1 (hm w hv).1, (hm w hv).2.tr hr.2.2⟩
  · exact fun B hv => ⟨(hm B hv).1.turn hr.1 (hm B hv).2, (hm B hv).2⟩
theorem rd_turn {q b off n : Nat} {h h' : Heap} {l : List Value} (hr : GL.readN h b off n = some l) (h0 : 0 < l.length) (ht : Turn q h h') (hb : b ≠ q) : GL.readN h' b off n = some l := by
  obtain ⟨u, hu⟩ : ∃ u, l[0]? = some u := ⟨l[0], by simp [h0]⟩
  have hc := readN_cell hr 0 u hu
  have hs : h'[b]? = h[b]? := by
    unfold GL.cell at hc
    cases hb' : h[b]? with
    | none => rw [hb'] at hc; cases hc
    | some o =>
      rw [hb'] at hc
      cases o with
      | cells cur T f => exact ht.2 b cur T f hb hb'
      | _ => cases hc
  rw [readN_same hs]; exact hr
theorem cell_lt {h : Heap} {b off : Nat} {u : Value} (hc : GL.cell h b off = some u) : b < h.size := by
  unfold GL.cell at hc
  cases hb' : h[b]? with
  | none => rw [hb'] at hc; cases hc
  | some o => exact (Array.getElem?_eq_some_iff.1 hb').1
set_option maxHeartbeats 2000000 in
theorem c_run (al : Option Addr) (l : List LOp) (cl : Nat) (hsm : smallB l = true) {h : Heap} (hl : SlG 5 opL h al l) (hok : ∀ o ∈ l, LOk h o) :
    HCalls Try.prog 22 #[.slice al l.length cl] h fun v h' => ∃ p w, v = .tuple #[.pointer (some ⟨p, 0, none⟩), w, .bool true] ∧ TB h h' p (rS l).1 (rS l).2 ∧ RT h' w (rR l).1 (rR l).2 ∧ EQ (rS l).1 (rS l).2 (rR l).1 (rR l).2 l.length := by
  obtain ⟨hl40, hl12⟩ := small_ok hsm
  refine hcalls2 Try.func22 rfl (by decide +kernel) (by simp only [Try.ntmps22]; exact of_decide_eq_true rfl) ?_
  intro e hin
  have e0 := hin 0 _ rfl
  have kl := hl
  refine hx_seq ?_
  refine hx_region ?_
  refine WL.qq (by simp only [EN, Nat.reduceEqDiff, reduceIte, qv_assign]; rfl) ?_
  refine WL.alloc2 zr41 ?_
  intro h1 B1 hx1 hlt1 hB1
  simp only [Value.cells] at hB1
  refine WL.qq (by simp only [EN, Nat.reduceEqDiff, reduceIte, qv_assign, hB1.cell]; rfl) ?_
  refine WL.nil ?_
  refine th_norm ?_
  refine hx_seq ?_
  refine hx_region ?_
  refine WL.ce Try.call12 (by simp only [EN, Nat.reduceEqDiff, reduceIte, AR, hB1.cell]; exact tb_new _) ?_
  rintro _ h20 ⟨p, rfl, hT0⟩
  simp only [put_some]
  have hB1 := hB1.ext hT0.E
  have hT0 := hT0.base hx1
  have hb1 := Nat.le_trans (Nat.le_refl h.size) hlt1
  refine WL.qq (by simp only [EN, Nat.reduceEqDiff, reduceIte, qv_assign, hB1.cell]; rfl) ?_
  refine WL.nil ?_
  refine th_norm ?_
  refine hx_seq ?_
  refine hx_seq ?_
  refine hx_region ?_
  refine WL.qq (by simp only [EN, Nat.reduceEqDiff, reduceIte, qv_assign, hB1.cell]; rfl) ?_
  refine WL.nil ?_
  refine th_norm ?_
  refine hx_block ?_
  refine hx_loopG [2, 4, 5, 6, 7, 8, 10, 11, 12, 13, 14, 15, 16, 17, 18, 19, 20, 21, 22, 23, 24, 25, 26, 27, 28, 29, 30, 31, 32] (fun k e hL0 => ∃ (i : Nat) (ls : List L2) (ns : List L2) (Ls : List L2) (F : List L2) (a1 : Option Addr) (c1 : Nat) (a2 : Option Addr) (c2 : Nat), l.length - i = k ∧ (i ≤ l.length) ∧ (rS (l.take i) = (ls, ns)) ∧ (rR (l.take i) = (Ls, F)) ∧ (EQ ls ns Ls F i) ∧ (TB h hL0 p ls ns) ∧ (RT hL0 (rfV a1 Ls.length c1 a2 F.length c2) Ls F) ∧ (Has hL0 B1 (.cells #[.slice a1 Ls.length c1, .slice a2 F.length c2] 41)) ∧ e 5 = .int .i64 i ∧ e 2 = .pointer (some ⟨p, 0, none⟩)) _ ⟨0, [], [], [], [], none, 0, none, 0, rfl, ?_, ?_, ?_, ?_, ?_, ?_, ?_, ?_, ?_⟩ ?_
  · omega
  · rfl
  · rfl
  · exact EQ.new
  · exact hT0
  · exact ⟨none, 0, none, 0, rfl, (fun i x hx => by simp at hx), (fun i x hx => by simp at hx)⟩
  · exact hB1
  · simp only [EN, Nat.reduceEqDiff, reduceIte, e0, hB1.cell] <;> rfl
  · simp only [EN, Nat.reduceEqDiff, reduceIte, e0, hB1.cell] <;> rfl
  ·
    rintro k e0L hL0 hfr0 ⟨i, ls, ns, Ls, F, a1, c1, a2, c2, rfl, hi, hS, hR, hQ, ht, hw, hB1, i5_0, i2_0⟩
    have k0_0 := hfr0 0 rfl; try simp only [EN, Nat.reduceEqDiff, reduceIte, e0, hB1.cell] at k0_0
    have k3_0 := hfr0 3 rfl; try simp only [EN, Nat.reduceEqDiff, reduceIte, hB1.cell] at k3_0
    refine hx_seq ?_
    refine hx_seq ?_
    refine hx_region ?_
    refine WL.qq (by simp only [EN, Nat.reduceEqDiff, reduceIte, qv_move, i5_0, hB1.cell, hB1.cell]; rfl) ?_
    refine WL.qq (by simp only [EN, Nat.reduceEqDiff, reduceIte, qv_move, k0_0, hB1.cell, hB1.cell]; rfl) ?_
    refine WL.qq (by simp only [EN, Nat.reduceEqDiff, reduceIte, qv_len, ln35, AR, hB1.cell, hB1.cell]; rfl) ?_
    refine WL.qq (by simp only [EN, Nat.reduceEqDiff, reduceIte, qv_binOp, binv_lss, hB1.cell, hB1.cell]; rfl) ?_
    refine WL.nil ?_
    refine th_norm ?_
    refine hx_cond (by simp only [EN, Nat.reduceEqDiff, reduceIte, hB1.cell, hB1.cell]; rfl) (fun hct13 => ?_) (fun hct13 => ?_)
    ·
      try simp only [BD] at hct13
      obtain ⟨o, ho⟩ := atG (l := l) (i := i) (by omega)
      have hom := List.mem_of_getElem? ho; have h12 := hl12 o hom; have hoo := hok o hom
      obtain ⟨b, off, rfl, hr5, hc4⟩ := op_rd kl ho
      have hbp : b ≠ p := (by have h1 := cell_lt hc4; have h2 := ht.hp; omega)
      have hrL := hoo.x.rd.ext ht.E
      have hst := hQ.step o h12; have q1 := hQ.ll; have q2 := hQ.ln; have q3 := hQ.lF; have q4 := hQ.pm.length_eq
      have hr6 := ht.E.readN hr5
      have hp1 : B1 ≠ p := ht.ne hB1 (by decide)
      have hpz := ht.lt; have hbz := (Array.getElem?_eq_some_iff.1 hB1).1; have hEz := ht.E.size
      refine hx_skip ?_
      refine th_norm ?_
      refine hx_seq ?_
      refine hx_block ?_
      refine hx_seq ?_
      apply hx_draw2M (Rel.tb 6 h p ls ns (lS o ls ns) (nS o ls ns)) [12, 13, 14] [6, 11] [(6, Spec.dn (eS o ls ns) (eR o Ls F) h p (lS o ls ns) (nS o ls ns) (lR o Ls F) (fR o Ls F)), (11, Spec.al (Array.size hL0) p #[.slice none 0 0, .slice none 0 0] 41)] rfl (by decide +kernel) rfl tbs3 (fun _ _ => ht)
      refine LD.qr rfl rfl (fun hD hr => by have hB1 := hB1.turn hr.1 hp1; have hrd := rd_turn hr6 (by simp) hr.1 hbp; simp only [EN, Nat.reduceEqDiff, reduceIte, qv_move, i2_0, hB1.cell, hB1.cell]; rfl) ?_
      refine LD.qr rfl rfl (fun hD hr => by have hB1 := hB1.turn hr.1 hp1; have hrd := rd_turn hr6 (by simp) hr.1 hbp; simp only [EN, Nat.reduceEqDiff, reduceIte, qv_load, ld41, readN, AR, Nat.zero_add, Nat.reduceAdd, k3_0, hB1.cell, hB1.cell]; rfl) ?_
      refine LD.qr rfl rfl (fun hD hr => by have hB1 := hB1.turn hr.1 hp1; have hrd := rd_turn hr6 (by simp) hr.1 hbp; simp only [EN, Nat.reduceEqDiff, reduceIte, qv_move, k0_0, hB1.cell, hB1.cell]; rfl) ?_
      refine LD.qr rfl rfl (fun hD hr => by have hB1 := hB1.turn hr.1 hp1; have hrd := rd_turn hr6 (by simp) hr.1 hbp; simp only [EN, Nat.reduceEqDiff, reduceIte, qv_move, i5_0, hB1.cell, hB1.cell]; rfl) ?_
      refine LD.qr rfl rfl (fun hD hr => by have hB1 := hB1.turn hr.1 hp1; have hrd := rd_turn hr6 (by simp) hr.1 hbp; simp only [EN, Nat.reduceEqDiff, reduceIte, qv_indexAddr, hB1.cell, hB1.cell]; (try simp (disch := omega) only [ix35, Int.toNat_natCast]); rfl) ?_
      refine LD.qr rfl rfl (fun hD hr => by have hB1 := hB1.turn hr.1 hp1; have hrd := rd_turn hr6 (by simp) hr.1 hbp; simp only [EN, Nat.reduceEqDiff, reduceIte, k0_0, k3_0, i5_0, i2_0, hB1.cell, hB1.cell, qv_load, ld45, Int.toNat_natCast, hrd]; rfl) ?_
      refine LD.en rfl rfl (by intro hD hr hng hf; have hB1 := hB1.turn hr.1 hp1; have hrd := rd_turn hr6 (by simp) hr.1 hbp; exact EOp.mono (e_call Try.call18 (by simp only [EN, Nat.reduceEqDiff, reduceIte, k0_0, k3_0, i5_0, i2_0, hB1.cell, hB1.cell, List.map_toArray, List.map_cons, List.map_nil]; exact c_do o hoo.k (hng rfl) (hw.tr hr.2.2) (hr.2.2 _ _ hrL) h12 (by omega) (by omega) (by omega) (by omega))) (fun v h' hh => by obtain ⟨w', rfl, h1, h2, h3⟩ := hh; exact ⟨⟨h3, fun _ => h1, fun _ _ q => slG_turn q h3 (hng rfl).no⟩, ⟨w', rfl⟩, (fun w9 hv => by cases hv; exact ⟨h1, h2⟩), fun k' h4 _ _ h5 => absurd h5 h4⟩)) ?_
      intro u5_6 w5_6
      obtain ⟨w6, rfl⟩ := w5_6
      refine LD.qr rfl rfl (fun hD hr => by have hB1 := hB1.turn hr.1 hp1; have hrd := rd_turn hr6 (by simp) hr.1 hbp; simp only [EN, Nat.reduceEqDiff, reduceIte, qv_move, hB1.cell, hB1.cell]; rfl) ?_
      refine LD.qr rfl rfl (fun hD hr => by have hB1 := hB1.turn hr.1 hp1; have hrd := rd_turn hr6 (by simp) hr.1 hbp; simp only [EN, Nat.reduceEqDiff, reduceIte, qv_extract, AR, hB1.cell, hB1.cell]; rfl) ?_
      refine LD.qr rfl rfl (fun hD hr => by have hB1 := hB1.turn hr.1 hp1; have hrd := rd_turn hr6 (by simp) hr.1 hbp; simp only [EN, Nat.reduceEqDiff, reduceIte, qv_extract, AR, hB1.cell, hB1.cell]; rfl) ?_
      refine LD.qr rfl rfl (fun hD hr => by have hB1 := hB1.turn hr.1 hp1; have hrd := rd_turn hr6 (by simp) hr.1 hbp; simp only [EN, Nat.reduceEqDiff, reduceIte, qv_extract, AR, hB1.cell, hB1.cell]; rfl) ?_
      refine LD.en rfl rfl (by intro hD hr hng hf; have hB1 := hB1.turn hr.1 hp1; have hrd := rd_turn hr6 (by simp) hr.1 hbp; exact (e_alloc zr41).mono (fun _ h' hh => by obtain ⟨B, rfl, hn⟩ := hh; have h9 := hn.fresh; have h8 := hr.1.1; exact ⟨⟨Turn.ext hn.ext, fun q => q.ext hn.ext, fun _ _ q => q.ext hn.ext⟩, ⟨B, by omega, rfl⟩, (fun B' hB' => by cases hB'; exact ⟨hn.at_, by omega⟩), fun k' _ _ q e => (q e).ext hn.ext⟩)) ?_
      intro u5_11 w5_11
      obtain ⟨B6, hlt6, rfl⟩ := w5_11
      refine LD.skip rfl ?_
      refine LD.skip rfl ?_
      refine LD.skip rfl ?_
      refine LD.nil ?_
      rintro h2 hr5 hF5
      obtain ⟨hT, hRr⟩ := hF5 (6, .tuple #[w6, iV (eS o ls ns), iV (eR o Ls F)]) (by simp) _ rfl w6 rfl
      have hB6 : Has h2 B6 (.cells #[.slice none 0 0, .slice none 0 0] 41) := (hF5 (11, .pointer (some ⟨B6, 0, none⟩)) (by simp) _ rfl B6 rfl).1
      replace hB1 := hB1.turn hr5.1 hp1
      obtain ⟨a3, c3, a4, c4, rfl, _, _⟩ := hRr.ex
      refine WL.store (by simp only [EN, Nat.reduceEqDiff, reduceIte, k0_0, k3_0, i5_0, i2_0, hB1.cell, hB1.cell] <;> rfl) sz41 (by simp only [EN, Nat.reduceEqDiff, reduceIte, k0_0, k3_0, i5_0, i2_0, hB1.cell, hB1.cell, Value.cells]; rfl) rfl hB6 (by simp) (by intro u hu; simp at hu; rcases hu with rfl | rfl <;> rfl) ?_
      intro h60 hw60
      replace hT := hT.wr hB6 (by decide) hw60 (by omega)
      replace hRr := hRr.turn (Turn.wr hw60) (two_no hB6 (fun s hh => by cases hh) (fun s hh => by cases hh))
      replace hB1 := hB1.wr hw60 (by omega)
      replace hB6 := hw60.at_
      refine WL.qq (by simp only [EN, Nat.reduceEqDiff, reduceIte, qv_assign, hB1.cell, hB1.cell]; rfl) ?_
      refine WL.qq (by simp only [EN, Nat.reduceEqDiff, reduceIte, qv_assign, hB1.cell, hB1.cell]; rfl) ?_
      refine WL.nil ?_
      refine th_norm ?_
      refine hx_seq ?_
      refine hx_seq ?_
      refine hx_region ?_
      refine WL.qq (by simp only [EN, Nat.reduceEqDiff, reduceIte, qv_move, hB1.cell, hB1.cell]; rfl) ?_
      refine WL.qq (by simp only [EN, Nat.reduceEqDiff, reduceIte, qv_move, hB1.cell, hB1.cell]; rfl) ?_
      refine WL.qq (by simp only [EN, Nat.reduceEqDiff, reduceIte, qv_binOp, binv_neq, eq3, Option.map_some, hB1.cell, hB1.cell]; rfl) ?_
      refine WL.nil ?_
      refine th_norm ?_
      refine hx_cond (by simp only [EN, Nat.reduceEqDiff, reduceIte, hB1.cell, hB1.cell]; rfl) (fun hct29 => ?_) (fun hct29 => ?_)
      ·
        simp at hct29; exact absurd hst.1 hct29
      ·
        try simp only [BD] at hct29
        refine hx_skip ?_
        refine th_norm ?_
        refine hx_region ?_
        refine WL.qq (by simp only [EN, Nat.reduceEqDiff, reduceIte, k0_0, k3_0, i5_0, i2_0, hB1.cell, hB1.cell, qv_load, ld41, readN, hB6.cell, splc, AR, Nat.zero_add, Nat.reduceAdd]; rfl) ?_
        refine WL.store (by simp only [EN, Nat.reduceEqDiff, reduceIte, k0_0, k3_0, i5_0, i2_0, hB1.cell, hB1.cell] <;> rfl) sz41 (by simp only [EN, Nat.reduceEqDiff, reduceIte, k0_0, k3_0, i5_0, i2_0, hB1.cell, hB1.cell, Value.cells]; rfl) rfl hB1 (by simp) (by intro u hu; simp at hu; rcases hu with rfl | rfl <;> rfl) ?_
        intro h61 hw61
        replace hT := hT.wr hB1 (by decide) hw61 (by omega)
        replace hRr := hRr.turn (Turn.wr hw61) (two_no hB1 (fun s hh => by cases hh) (fun s hh => by cases hh))
        replace hB1 := hw61.at_
        refine WL.nil ?_
        refine bl_norm ?_
        refine th_norm ?_
        refine hx_region ?_
        refine WL.qq (by simp only [EN, Nat.reduceEqDiff, reduceIte, qv_move, i5_0, hB1.cell, hB1.cell]; rfl) ?_
        refine WL.qq (by simp only [EN, Nat.reduceEqDiff, reduceIte, qv_binOp, binv_add, hB1.cell, hB1.cell]; (try simp (disch := omega) only [w64, w8, wu64]); rfl) ?_
        refine WL.qq (by simp only [EN, Nat.reduceEqDiff, reduceIte, qv_assign, hB1.cell, hB1.cell]; rfl) ?_
        refine WL.nil ?_
        refine th_norm ?_
        refine ⟨rfl, ?_, _, ?_, i + 1, lS o ls ns, nS o ls ns, lR o Ls F, fR o Ls F, a3, c3, a4, c4, rfl, ?_, ?_, ?_, ?_, ?_, ?_, ?_, ?_, ?_⟩  -- again 0 of loop 0
        · (repeat (first | exact Fr.refl _ _ | refine Fr.set rfl ?_ | refine Fr.put rfl ?_ | with_reducible refine Fr.put0 ?_))
        · omega
        · omega
        · rw [rS_step ho, hS]
        · rw [rR_step ho, hR]
        · exact hst.2
        · exact hT
        · exact hRr
        · exact hB1
        · simp only [EN, Nat.reduceEqDiff, reduceIte, k0_0, k3_0, i5_0, i2_0, hB1.cell, hB1.cell] <;> first | rfl | (congr 1; omega)
        · simp only [EN, Nat.reduceEqDiff, reduceIte, k0_0, k3_0, i5_0, i2_0, hB1.cell, hB1.cell] <;> first | rfl | (congr 1; omega)
    ·
      try simp only [BD] at hct13
      have hil : i = l.length := (by omega)
      subst hil
      rw [List.take_length] at hS hR
      refine hx_exit ?_
      refine th_exit ?_
      refine th_exit ?_
      refine bl_hit ?_
      refine th_norm ?_
      refine hx_seq ?_
      apply hx_draw2 Rel.same [3, 4] [] [] rfl (by decide +kernel) rfl
      refine LD.qq rfl rfl (by simp only [EN, Nat.reduceEqDiff, reduceIte, qv_move, i2_0, hB1.cell, hB1.cell]; rfl) ?_
      refine LD.qq rfl rfl (by simp only [EN, Nat.reduceEqDiff, reduceIte, qv_load, ld41, readN, AR, Nat.zero_add, Nat.reduceAdd, k3_0, hB1.cell, hB1.cell]; rfl) ?_
      refine LD.qq rfl rfl (by simp only [EN, Nat.reduceEqDiff, reduceIte, qv_assign, hB1.cell, hB1.cell]; rfl) ?_
      refine LD.skip rfl ?_
      refine LD.skip rfl ?_
      refine LD.nil ?_
      rintro _ rfl -
      refine WL.store (by simp only [EN, Nat.reduceEqDiff, reduceIte, k0_0, k3_0, i5_0, i2_0, hB1.cell, hB1.cell] <;> rfl) sz41 (by simp only [EN, Nat.reduceEqDiff, reduceIte, k0_0, k3_0, i5_0, i2_0, hB1.cell, hB1.cell, Value.cells]; rfl) rfl hB1 (by simp) (by intro u hu; simp at hu; rcases hu with rfl | rfl <;> rfl) ?_
      intro h62 hw62
      replace ht := ht.wr hB1 (by decide) hw62 (by omega)
      replace hw := hw.turn (Turn.wr hw62) (two_no hB1 (fun s hh => by cases hh) (fun s hh => by cases hh))
      replace hB1 := hw62.at_
      refine WL.qq (by simp only [EN, Nat.reduceEqDiff, reduceIte, qv_assign, hB1.cell, hB1.cell]; rfl) ?_
      refine WL.nil ?_
      refine th_norm ?_
      refine hx_ret ?_
      refine fin_ret [.tmp 2, .cell 3 41, .tmp 4] rfl rfl (by simp only [EN, Nat.reduceEqDiff, reduceIte, resv, ld41, readN, AR, Nat.zero_add, Nat.reduceAdd, k0_0, k3_0, i5_0, i2_0, hB1.cell, hB1.cell]; rfl) ?_  -- ret 0 r9
      exact ⟨p, _, rfl, by rw [hS]; exact ht, by rw [hR]; exact hw, by rw [hS, hR]; exact hQ⟩
end GL


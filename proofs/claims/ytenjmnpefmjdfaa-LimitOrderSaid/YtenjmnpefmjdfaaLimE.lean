/- Limits: what turns a table, and what is read of it. -/
import Derived.Test.YtenjmnpefmjdfaaLimD
import Derived.Test.YtenjmnpefmjdfaaGl30
import Derived.Test.YtenjmnpefmjdfaaShelf
set_option linter.unusedSimpArgs false
set_option linter.unusedVariables false
set_option linter.unnecessarySimpa false
namespace GL
open Go Go.Proofs
set_option maxRecDepth 8000
section
variable {h h' : Heap} {p bl bn : Nat} {ls ns : List L2}
theorem IsTb.gs {S : List Nat} (hb : IsTb h p bl bn ls ns) (hg : Gs h h' S) (h1 : p ∉ S) (h2 : bl ∉ S) (h3 : bn ∉ S) : IsTb h' p bl bn ls ns := ⟨hb.blk.gs hg h1, hb.lim.gs hg h2, hb.net.gs hg h3, hb.ne⟩
theorem IsTb.lts (hb : IsTb h p bl bn ls ns) : p < h.size ∧ bl < h.size ∧ bn < h.size := ⟨(Array.getElem?_eq_some_iff.1 hb.blk).1, hb.lim.lt, hb.net.lt⟩
theorem IsTb.setN {b : Nat} {l : List L2} {c : Array Value} (hb : IsTb h p bl bn ls ns) (hw : Wr h h' p (.cells c 73)) (hc : c = #[.map (some bl), .map (some b)]) (hm : MapT pV iV h b l) (hne : bl ≠ b) : IsTb h' p bl b ls l := by
  subst hc
  exact ⟨hw.at_, hb.lim.wr hw (Ne.symm (hb.blk.nmap hb.lim)), hm.wr hw (Ne.symm (hb.blk.nmap hm)), hne⟩
theorem IsTb.setL {b : Nat} {l : List L2} {c : Array Value} (hb : IsTb h p bl bn ls ns) (hw : Wr h h' p (.cells c 73)) (hc : c = #[.map (some b), .map (some bn)]) (hm : MapT pV iV h b l) (hne : b ≠ bn) : IsTb h' p b bn l ns := by
  subst hc
  exact ⟨hw.at_, hm.wr hw (Ne.symm (hb.blk.nmap hm)), hb.net.wr hw (Ne.symm (hb.blk.nmap hb.net)), hne⟩
theorem c_Check (al : Option Addr) (F : List L2) (cl : Nat) (ll : F.length ≤ 9223372036854775807) (hcm : cntM ls (aftS ns F) ≤ 9223372036854775807) (hb : IsTb h p bl bn ls ns) (hl : SlG 3 limL h al F) :
    HCalls Try.prog 25 #[.pointer (some ⟨p, 0, none⟩), .slice al F.length cl] h (Grow (iV (chkS ls ns F)) h) := by
  refine hcalls2 Try.func25 rfl (by decide +kernel) (by simp only [Try.ntmps25]; exact of_decide_eq_true rfl) ?_
  intro e hin
  have e0 := hin 0 _ rfl
  have e1 := hin 1 _ rfl
  refine hx_seq ?_
  refine hx_region ?_
  refine WL.qq (by simp only [EN, Nat.reduceEqDiff, reduceIte, qv_assign]; rfl) ?_
  refine WL.nil ?_
  refine th_norm ?_
  refine hx_seq ?_
  refine hx_seq ?_
  refine hx_region ?_
  refine WL.qq (by simp only [EN, Nat.reduceEqDiff, reduceIte, qv_move, e0]; rfl) ?_
  refine WL.qq (by simp only [EN, Nat.reduceEqDiff, reduceIte, qv_binOp, binv_eql, eqz24, eqn24, eqm24, Option.map_some]; rfl) ?_
  refine WL.nil ?_
  refine th_norm ?_
  refine hx_cond (by simp only [EN, Nat.reduceEqDiff, reduceIte]; rfl) (fun hct8 => ?_) (fun hct8 => ?_)
  ·
    simp at hct8
  ·
    try simp only [BD] at hct8
    refine hx_skip ?_
    refine th_norm ?_
    refine hx_seq ?_
    refine hx_region ?_
    refine WL.qq (by simp only [EN, Nat.reduceEqDiff, reduceIte, qv_move, e0]; rfl) ?_
    refine WL.qq (by simp only [EN, Nat.reduceEqDiff, reduceIte, qv_move, e1]; rfl) ?_
    refine WL.ce Try.call35 (by simp only [EN, Nat.reduceEqDiff, reduceIte, AR]; exact c_check16 al F cl ll hcm hb hl rfl) ?_
    rintro _ h1 ⟨hx1, m, rfl, -⟩
    simp only [put_some]
    refine WL.qq (by simp only [EN, Nat.reduceEqDiff, reduceIte, qv_move]; rfl) ?_
    refine WL.qq (by simp only [EN, Nat.reduceEqDiff, reduceIte, qv_extract, AR]; rfl) ?_
    refine WL.qq (by simp only [EN, Nat.reduceEqDiff, reduceIte, qv_extract, AR]; rfl) ?_
    refine WL.qq (by simp only [EN, Nat.reduceEqDiff, reduceIte, qv_assign]; rfl) ?_
    refine WL.qq (by simp only [EN, Nat.reduceEqDiff, reduceIte, qv_assign]; rfl) ?_
    refine WL.nil ?_
    refine th_norm ?_
    refine hx_seq ?_
    refine hx_region ?_
    refine WL.qq (by simp only [EN, Nat.reduceEqDiff, reduceIte, qv_move]; rfl) ?_
    refine WL.qq (by simp only [EN, Nat.reduceEqDiff, reduceIte, qv_assign]; rfl) ?_
    refine WL.nil ?_
    refine th_norm ?_
    refine hx_ret ?_
    refine fin_ret [.tmp 4] rfl rfl (by simp only [EN, Nat.reduceEqDiff, reduceIte, resv, e0, e1]; rfl) ?_  -- ret 0 r4
    exact ⟨rfl, (hx1)⟩
theorem c_Record (al : Option Addr) (F : List L2) (cl : Nat) (ll : F.length ≤ 9223372036854775807) (hcm : cntM ls (aftS ns F) ≤ 9223372036854775807) (hb : IsTb h p bl bn ls ns) (hl : SlG 3 limL h al F) {r : Int} (hr : chkS ls ns F = r) :
    HCalls Try.prog 15 #[.pointer (some ⟨p, 0, none⟩), .slice al F.length cl] h fun v h' => v = iV r ∧ Gs h h' [p] ∧ (r ≠ 0 → Ext h h') ∧ ∃ bn', IsTb h' p bl bn' ls (if r = 0 then aftS ns F else ns) ∧ (bn' = bn ∨ h.size ≤ bn') := by
  refine hcalls2 Try.func15 rfl (by decide +kernel) (by simp only [Try.ntmps15]; exact of_decide_eq_true rfl) ?_
  intro e hin
  have e0 := hin 0 _ rfl
  have e1 := hin 1 _ rfl
  have hlt := hb.lts
  refine hx_seq ?_
  refine hx_region ?_
  refine WL.qq (by simp only [EN, Nat.reduceEqDiff, reduceIte, qv_assign]; rfl) ?_
  refine WL.nil ?_
  refine th_norm ?_
  refine hx_seq ?_
  refine hx_seq ?_
  refine hx_region ?_
  refine WL.qq (by simp only [EN, Nat.reduceEqDiff, reduceIte, qv_move, e0]; rfl) ?_
  refine WL.qq (by simp only [EN, Nat.reduceEqDiff, reduceIte, qv_binOp, binv_eql, eqz24, eqn24, eqm24, Option.map_some]; rfl) ?_
  refine WL.nil ?_
  refine th_norm ?_
  refine hx_cond (by simp only [EN, Nat.reduceEqDiff, reduceIte]; rfl) (fun hct8 => ?_) (fun hct8 => ?_)
  ·
    simp at hct8
  ·
    try simp only [BD] at hct8
    refine hx_skip ?_
    refine th_norm ?_
    refine hx_seq ?_
    refine hx_region ?_
    refine WL.qq (by simp only [EN, Nat.reduceEqDiff, reduceIte, qv_move, e0]; rfl) ?_
    refine WL.qq (by simp only [EN, Nat.reduceEqDiff, reduceIte, qv_move, e1]; rfl) ?_
    refine WL.ce Try.call35 (by simp only [EN, Nat.reduceEqDiff, reduceIte, AR]; exact c_check16 al F cl ll hcm hb hl hr) ?_
    rintro _ h1 ⟨hx1, m, rfl, hm0⟩
    replace hb := hb.ext hx1
    simp only [put_some]
    refine WL.qq (by simp only [EN, Nat.reduceEqDiff, reduceIte, qv_move]; rfl) ?_
    refine WL.qq (by simp only [EN, Nat.reduceEqDiff, reduceIte, qv_extract, AR]; rfl) ?_
    refine WL.qq (by simp only [EN, Nat.reduceEqDiff, reduceIte, qv_extract, AR]; rfl) ?_
    refine WL.qq (by simp only [EN, Nat.reduceEqDiff, reduceIte, qv_assign]; rfl) ?_
    refine WL.qq (by simp only [EN, Nat.reduceEqDiff, reduceIte, qv_assign]; rfl) ?_
    refine WL.nil ?_
    refine th_norm ?_
    refine hx_seq ?_
    refine hx_seq ?_
    refine hx_region ?_
    refine WL.qq (by simp only [EN, Nat.reduceEqDiff, reduceIte, qv_move]; rfl) ?_
    refine WL.qq (by simp only [EN, Nat.reduceEqDiff, reduceIte, qv_binOp, binv_eql, eq26, Option.map_some]; rfl) ?_
    refine WL.nil ?_
    refine th_norm ?_
    refine hx_cond (by simp only [EN, Nat.reduceEqDiff, reduceIte]; rfl) (fun hct16 => ?_) (fun hct16 => ?_)
    ·
      try simp only [BD] at hct16
      have h0 : r = 0 := (by simpa using hct16)
      obtain ⟨b, rfl, hbs, hm⟩ := hm0 h0
      refine hx_region ?_
      refine WL.qq (by simp only [EN, Nat.reduceEqDiff, reduceIte, qv_move, e0]; rfl) ?_
      refine WL.qq (by simp only [EN, Nat.reduceEqDiff, reduceIte, qv_move]; rfl) ?_
      refine WL.qq (by simp only [EN, Nat.reduceEqDiff, reduceIte, qv_nilCheck]; rfl) ?_
      refine WL.qq (by simp only [EN, Nat.reduceEqDiff, reduceIte, qv_fieldAddr, fa73_1, Nat.zero_add, Nat.reduceAdd]; rfl) ?_
      refine WL.store (by simp only [EN, Nat.reduceEqDiff, reduceIte] <;> rfl) sz71 (by simp only [EN, Nat.reduceEqDiff, reduceIte, Value.cells] <;> rfl) rfl hb.blk (by first | (simp [true_and]; done) | (simp [true_and]; omega) | omega) (by simp [Value.oneCell']) ?_
      intro h2 hw2
      have hT : IsTb _ p bl b ls (aftS ns F) := hb.setN hw2 rfl hm (by omega)
      have hg : Gs h _ [p] := (Gs.ofExt (hx1)).stp (.inr ⟨_, hw2⟩) (.inl (by simp))
      refine WL.nil ?_
      refine th_norm ?_
      refine hx_seq ?_
      refine hx_region ?_
      refine WL.qq (by simp only [EN, Nat.reduceEqDiff, reduceIte, qv_move]; rfl) ?_
      refine WL.qq (by simp only [EN, Nat.reduceEqDiff, reduceIte, qv_assign]; rfl) ?_
      refine WL.nil ?_
      refine th_norm ?_
      refine hx_ret ?_
      refine fin_ret [.tmp 4] rfl rfl (by simp only [EN, Nat.reduceEqDiff, reduceIte, resv, e0, e1]; rfl) ?_  -- ret 0 r6
      exact ⟨rfl, hg, fun hh => absurd h0 hh, b, by rw [if_pos h0]; exact hT, .inr hbs⟩
    ·
      try simp only [BD] at hct16
      refine hx_skip ?_
      refine th_norm ?_
      refine hx_seq ?_
      refine hx_region ?_
      refine WL.qq (by simp only [EN, Nat.reduceEqDiff, reduceIte, qv_move]; rfl) ?_
      refine WL.qq (by simp only [EN, Nat.reduceEqDiff, reduceIte, qv_assign]; rfl) ?_
      refine WL.nil ?_
      refine th_norm ?_
      refine hx_ret ?_
      refine fin_ret [.tmp 4] rfl rfl (by simp only [EN, Nat.reduceEqDiff, reduceIte, resv, e0, e1]; rfl) ?_  -- ret 1 r6
      have h0 : r ≠ 0 := (by simpa using hct16)
      exact ⟨rfl, Gs.ofExt (hx1), fun _ => (hx1), bn, by rw [if_neg h0]; exact hb, .inl rfl⟩
/-! Limits are set. -/
def setL (ls : List L2) (k : PK) (a : Int) : List L2 := if a < 0 then mdel ls k else mset ls k a
def setE (ls ns : List L2) (k : PK) (a : Int) : Int := if 1000000000000000 < a then 2 else if 256 < cntM (setL ls k a) ns then 8 else 0
theorem c_set (k : PK) (a : Int) (hcm : cntM (setL ls k a) ns ≤ 9223372036854775807) (hb : IsTb h p bl bn ls ns) {r : Int} (hr : setE ls ns k a = r) :
    HCalls Try.prog 34 #[.pointer (some ⟨p, 0, none⟩), pV k, iV a] h fun v h' => v = iV r ∧ Gs h h' [p] ∧ (r ≠ 0 → Ext h h') ∧ ∃ bl', IsTb h' p bl' bn (if r = 0 then setL ls k a else ls) ns ∧ (bl' = bl ∨ h.size ≤ bl') := by
  refine hcalls2 Try.func34 rfl (by decide +kernel) (by simp only [Try.ntmps34]; exact of_decide_eq_true rfl) ?_
  intro e hin
  have e0 := hin 0 _ rfl
  have e1 := hin 1 _ rfl
  have e2 := hin 2 _ rfl
  have hlt := hb.lts
  refine hx_seq ?_
  refine hx_region ?_
  refine WL.box2 (by simp only [EN, Nat.reduceEqDiff, reduceIte, Value.cells, e1, hb.blk.cell]; rfl) ?_
  intro h1 B1 hx1 hlt1 hB1
  replace hb := hb.ext hx1
  refine WL.qq (by simp only [EN, Nat.reduceEqDiff, reduceIte, qv_assign, hb.blk.cell, hB1.cell]; rfl) ?_
  refine WL.nil ?_
  refine th_norm ?_
  refine hx_seq ?_
  refine hx_seq ?_
  refine hx_region ?_
  refine WL.qq (by simp only [EN, Nat.reduceEqDiff, reduceIte, qv_move, e2, hb.blk.cell, hB1.cell]; rfl) ?_
  refine WL.qq (by simp only [EN, Nat.reduceEqDiff, reduceIte, qv_binOp, binv_gtr, hb.blk.cell, hB1.cell]; rfl) ?_
  refine WL.nil ?_
  refine th_norm ?_
  refine hx_cond (by simp only [EN, Nat.reduceEqDiff, reduceIte, hb.blk.cell, hB1.cell]; rfl) (fun hct9 => ?_) (fun hct9 => ?_)
  ·
    try simp only [BD] at hct9
    refine hx_seq ?_
    refine hx_region ?_
    refine WL.qq (by simp only [EN, Nat.reduceEqDiff, reduceIte, qv_assign, hb.blk.cell, hB1.cell]; rfl) ?_
    refine WL.nil ?_
    refine th_norm ?_
    refine hx_ret ?_
    refine th_ret ?_
    refine fin_ret [.tmp 6] rfl rfl (by simp only [EN, Nat.reduceEqDiff, reduceIte, resv, e0, e1, e2, hb.blk.cell, hB1.cell]; rfl) ?_  -- ret 0 r2
    rw [setE, if_pos (by omega)] at hr
    subst hr
    exact ⟨rfl, Gs.ofExt (hx1), fun _ => (hx1), bl, by rw [if_neg (by decide)]; exact hb, .inl rfl⟩
  ·
    try simp only [BD] at hct9
    rw [setE, if_neg (by omega)] at hr
    refine hx_skip ?_
    refine th_norm ?_
    refine hx_seq ?_
    refine hx_region ?_
    have hs1 := hx1.size
    refine WL.qq (by simp only [EN, Nat.reduceEqDiff, reduceIte, qv_move, e0, hb.blk.cell, hB1.cell]; rfl) ?_
    refine WL.qq (by simp only [EN, Nat.reduceEqDiff, reduceIte, qv_nilCheck, hb.blk.cell, hB1.cell]; rfl) ?_
    refine WL.qq (by simp only [EN, Nat.reduceEqDiff, reduceIte, qv_fieldAddr, fa73_0, Nat.zero_add, Nat.reduceAdd, hb.blk.cell, hB1.cell]; rfl) ?_
    refine WL.qq (by simp only [EN, Nat.reduceEqDiff, reduceIte, qv_load, ld71, readN, AR, Nat.zero_add, Nat.reduceAdd, hb.blk.cell, hB1.cell]; rfl) ?_
    refine WL.ce Try.call39 (by simp only [EN, Nat.reduceEqDiff, reduceIte, AR, hb.blk.cell, hB1.cell]; exact c_mapsClone hb.lim) ?_
    rintro _ h2 ⟨rfl, hx2, hm⟩
    simp only [put_some]
    have hE2 : Ext h h2 := hx1.trans hx2
    replace hb := hb.ext hx2
    replace hB1 := hB1.ext hx2
    refine WL.qq (by simp only [EN, Nat.reduceEqDiff, reduceIte, qv_assign, hb.blk.cell, hB1.cell]; rfl) ?_
    refine WL.nil ?_
    refine th_norm ?_
    refine hx_cutG [15, 16, 17, 18, 19, 20, 21] (fun e hC4 => (Ext h hC4) ∧ (IsTb hC4 p bl bn ls ns) ∧ (MapT pV iV hC4 h1.size (setL ls k a))) ?_ ?_
    ·
      refine hx_seq ?_
      refine hx_region ?_
      refine WL.qq (by simp only [EN, Nat.reduceEqDiff, reduceIte, qv_move, e2, hb.blk.cell, hB1.cell]; rfl) ?_
      refine WL.qq (by simp only [EN, Nat.reduceEqDiff, reduceIte, qv_binOp, binv_lss, hb.blk.cell, hB1.cell]; rfl) ?_
      refine WL.nil ?_
      refine th_norm ?_
      refine hx_cond (by simp only [EN, Nat.reduceEqDiff, reduceIte, hb.blk.cell, hB1.cell]; rfl) (fun hct16 => ?_) (fun hct16 => ?_)
      ·
        try simp only [BD] at hct16
        refine hx_region ?_
        refine WL.qq (by simp only [EN, Nat.reduceEqDiff, reduceIte, qv_move, hb.blk.cell, hB1.cell]; rfl) ?_
        refine WL.qq (by simp only [EN, Nat.reduceEqDiff, reduceIte, qv_load, ld76, readN, AR, Nat.zero_add, Nat.reduceAdd, hb.blk.cell, hB1.cell]; rfl) ?_
        refine WL.ef _ (e_delete (t := 71) (x := k) ktP Try.underlying71 rfl hm (by simp only [EN, Nat.reduceEqDiff, reduceIte, e0, e1, e2, hb.blk.cell, hB1.cell]) (by simp only [EN, Nat.reduceEqDiff, reduceIte, e0, e1, e2, hb.blk.cell, hB1.cell] <;> rfl)) ?_
        rintro _ h3 ⟨⟨o3, hw3⟩, hm3⟩
        simp only [put_none]
        have hE3 := hw3.ext hE2 (by omega)
        have hb3 : IsTb h3 p bl bn ls ns := hb.gs (Gs.ofWr hw3 (S := [h1.size]) (by simp)) (by simp; omega) (by simp; omega) (by simp; omega)
        refine WL.nil ?_
        refine th_norm ?_
        refine ⟨rfl, ?_, ?_, ?_, ?_⟩  -- meet 0 of cut 4
        · (repeat (first | exact Fr.refl _ _ | refine Fr.set rfl ?_ | refine Fr.put rfl ?_ | with_reducible refine Fr.put0 ?_))
        · exact hE3
        · exact hb3
        · unfold setL; rw [if_pos (by omega)]; exact hm3
      ·
        try simp only [BD] at hct16
        refine hx_region ?_
        refine WL.qq (by simp only [EN, Nat.reduceEqDiff, reduceIte, qv_move, hb.blk.cell, hB1.cell]; rfl) ?_
        refine WL.qq (by simp only [EN, Nat.reduceEqDiff, reduceIte, qv_load, ld76, readN, AR, Nat.zero_add, Nat.reduceAdd, hb.blk.cell, hB1.cell]; rfl) ?_
        refine WL.qq (by simp only [EN, Nat.reduceEqDiff, reduceIte, qv_move, e2, hb.blk.cell, hB1.cell]; rfl) ?_
        refine WL.ef _ (e_mapUpdate (x := k) (v := a) ktP Try.underlying71 hm (by simp only [EN, Nat.reduceEqDiff, reduceIte, e0, e1, e2, hb.blk.cell, hB1.cell]) (by simp only [EN, Nat.reduceEqDiff, reduceIte, e0, e1, e2, hb.blk.cell, hB1.cell] <;> rfl) (by simp only [EN, Nat.reduceEqDiff, reduceIte, e0, e1, e2, hb.blk.cell, hB1.cell] <;> rfl)) ?_
        rintro _ h3 ⟨⟨o3, hw3⟩, hm3⟩
        simp only [put_none]
        have hE3 := hw3.ext hE2 (by omega)
        have hb3 : IsTb h3 p bl bn ls ns := hb.gs (Gs.ofWr hw3 (S := [h1.size]) (by simp)) (by simp; omega) (by simp; omega) (by simp; omega)
        refine WL.nil ?_
        refine th_norm ?_
        refine ⟨rfl, ?_, ?_, ?_, ?_⟩  -- meet 1 of cut 4
        · (repeat (first | exact Fr.refl _ _ | refine Fr.set rfl ?_ | refine Fr.put rfl ?_ | with_reducible refine Fr.put0 ?_))
        · exact hE3
        · exact hb3
        · unfold setL; rw [if_neg (by omega)]; exact hm3
    ·
      rintro ec4 hC4 hfc4 ⟨hE, hb, hm⟩
      have k0_c4 := hfc4 0 rfl; try simp only [EN, Nat.reduceEqDiff, reduceIte, e0, hb.blk.cell, hB1.cell] at k0_c4
      have k7_c4 := hfc4 7 rfl; try simp only [EN, Nat.reduceEqDiff, reduceIte, hb.blk.cell, hB1.cell] at k7_c4
      refine hx_seq ?_
      refine hx_seq ?_
      refine hx_region ?_
      refine WL.qq (by simp only [EN, Nat.reduceEqDiff, reduceIte, qv_move, k7_c4, hb.blk.cell, hB1.cell, hb.blk.cell]; rfl) ?_
      refine WL.qq (by simp only [EN, Nat.reduceEqDiff, reduceIte, qv_move, k0_c4, hb.blk.cell, hB1.cell, hb.blk.cell]; rfl) ?_
      refine WL.qq (by simp only [EN, Nat.reduceEqDiff, reduceIte, qv_nilCheck, hb.blk.cell, hB1.cell, hb.blk.cell]; rfl) ?_
      refine WL.qq (by simp only [EN, Nat.reduceEqDiff, reduceIte, qv_fieldAddr, fa73_1, Nat.zero_add, Nat.reduceAdd, hb.blk.cell, hB1.cell, hb.blk.cell]; rfl) ?_
      refine WL.qq (by simp only [EN, Nat.reduceEqDiff, reduceIte, qv_load, ld71, readN, AR, Nat.zero_add, Nat.reduceAdd, hb.blk.cell, hB1.cell, hb.blk.cell]; rfl) ?_
      refine WL.cg Try.call51 (by simp only [EN, Nat.reduceEqDiff, reduceIte, AR, hb.blk.cell, hB1.cell, hb.blk.cell]; exact c_mentioned hm hb.net) ?_
      intro h2 hx2
      replace hE := hE.ext hx2
      replace hb := hb.ext hx2
      replace hm := hm.ext hx2
      refine WL.qq (by simp only [EN, Nat.reduceEqDiff, reduceIte, qv_binOp, binv_gtr, hb.blk.cell, hB1.cell, hb.blk.cell]; rfl) ?_
      refine WL.nil ?_
      refine th_norm ?_
      refine hx_cond (by simp only [EN, Nat.reduceEqDiff, reduceIte, hb.blk.cell, hB1.cell, hb.blk.cell]; rfl) (fun hct28 => ?_) (fun hct28 => ?_)
      ·
        try simp only [BD] at hct28
        refine hx_seq ?_
        refine hx_region ?_
        refine WL.qq (by simp only [EN, Nat.reduceEqDiff, reduceIte, qv_assign, hb.blk.cell, hB1.cell, hb.blk.cell]; rfl) ?_
        refine WL.nil ?_
        refine th_norm ?_
        refine hx_ret ?_
        refine th_ret ?_
        refine fin_ret [.tmp 6] rfl rfl (by simp only [EN, Nat.reduceEqDiff, reduceIte, resv, k0_c4, k7_c4, hb.blk.cell, hB1.cell, hb.blk.cell]; rfl) ?_  -- ret 1 r8
        rw [if_pos (by omega)] at hr
        subst hr
        exact ⟨rfl, Gs.ofExt hE, fun _ => hE, bl, by rw [if_neg (by decide)]; exact hb, .inl rfl⟩
      ·
        try simp only [BD] at hct28
        rw [if_neg (by omega)] at hr
        refine hx_skip ?_
        refine th_norm ?_
        refine hx_seq ?_
        refine hx_region ?_
        refine WL.qq (by simp only [EN, Nat.reduceEqDiff, reduceIte, qv_move, k0_c4, hb.blk.cell, hB1.cell, hb.blk.cell]; rfl) ?_
        refine WL.qq (by simp only [EN, Nat.reduceEqDiff, reduceIte, qv_move, k7_c4, hb.blk.cell, hB1.cell, hb.blk.cell]; rfl) ?_
        refine WL.qq (by simp only [EN, Nat.reduceEqDiff, reduceIte, qv_nilCheck, hb.blk.cell, hB1.cell, hb.blk.cell]; rfl) ?_
        refine WL.qq (by simp only [EN, Nat.reduceEqDiff, reduceIte, qv_fieldAddr, fa73_0, Nat.zero_add, Nat.reduceAdd, hb.blk.cell, hB1.cell, hb.blk.cell]; rfl) ?_
        refine WL.store (by simp only [EN, Nat.reduceEqDiff, reduceIte, hb.blk.cell, hB1.cell, hb.blk.cell] <;> rfl) sz71 (by simp only [EN, Nat.reduceEqDiff, reduceIte, Value.cells, hb.blk.cell, hB1.cell, hb.blk.cell] <;> rfl) rfl hb.blk (by first | (simp [true_and]; done) | (simp [true_and]; omega) | omega) (by simp [Value.oneCell']) ?_
        intro h3 hw3
        have hT : IsTb _ p h1.size bn (setL ls k a) ns := hb.setL hw3 rfl hm (by omega)
        have hg : Gs h _ [p] := (Gs.ofExt hE).stp (.inr ⟨_, hw3⟩) (.inl (by simp))
        refine WL.nil ?_
        refine th_norm ?_
        refine hx_seq ?_
        refine hx_region ?_
        refine WL.qq (by simp only [EN, Nat.reduceEqDiff, reduceIte, qv_assign, hb.blk.cell, hB1.cell, hb.blk.cell]; rfl) ?_
        refine WL.nil ?_
        refine th_norm ?_
        refine hx_ret ?_
        refine fin_ret [.tmp 6] rfl rfl (by simp only [EN, Nat.reduceEqDiff, reduceIte, resv, k0_c4, k7_c4, hb.blk.cell, hB1.cell, hb.blk.cell]; rfl) ?_  -- ret 2 r10
        subst hr
        exact ⟨rfl, hg, fun hh => absurd rfl hh, h1.size, by rw [if_pos rfl]; exact hT, .inr hs1⟩
def setBE (ls ns : List L2) (k : PK) (a : Int) : Int := if k.f = em ∨ k.t = em then 6 else if k.f = k.t then 7 else setE ls ns k a
def setME (ls ns : List L2) (f : ByteArray) (a : Int) : Int := if f = em then 6 else setE ls ns ⟨f, em⟩ a
theorem c_setB (k : PK) (a : Int) (hcm : cntM (setL ls k a) ns ≤ 9223372036854775807) (hb : IsTb h p bl bn ls ns) {r : Int} (hr : setBE ls ns k a = r) :
    HCalls Try.prog 27 #[.pointer (some ⟨p, 0, none⟩), .string k.f, .string k.t, iV a] h fun v h' => v = iV r ∧ Gs h h' [p] ∧ (r ≠ 0 → Ext h h') ∧ ∃ bl', IsTb h' p bl' bn (if r = 0 then setL ls k a else ls) ns ∧ (bl' = bl ∨ h.size ≤ bl') := by
  refine hcalls2 Try.func27 rfl (by decide +kernel) (by simp only [Try.ntmps27]; exact of_decide_eq_true rfl) ?_
  intro e hin
  have e0 := hin 0 _ rfl
  have e1 := hin 1 _ rfl
  have e2 := hin 2 _ rfl
  have e3 := hin 3 _ rfl
  refine hx_seq ?_
  refine hx_region ?_
  refine WL.qq (by simp only [EN, Nat.reduceEqDiff, reduceIte, qv_assign, strEq]; rfl) ?_
  refine WL.nil ?_
  refine th_norm ?_
  refine hx_seq ?_
  refine hx_block ?_
  refine hx_seq ?_
  refine hx_region ?_
  refine WL.qq (by simp only [EN, Nat.reduceEqDiff, reduceIte, qv_move, e0, strEq]; rfl) ?_
  refine WL.qq (by simp only [EN, Nat.reduceEqDiff, reduceIte, qv_binOp, binv_eql, eqz24, eqn24, eqm24, Option.map_some, strEq]; rfl) ?_
  refine WL.qq (by simp only [EN, Nat.reduceEqDiff, reduceIte, qv_assign, strEq]; rfl) ?_
  refine WL.nil ?_
  refine th_norm ?_
  refine hx_cond (by simp only [EN, Nat.reduceEqDiff, reduceIte, strEq]; rfl) (fun hct9 => ?_) (fun hct9 => ?_)
  ·
    simp at hct9
  ·
    try simp only [BD] at hct9
    refine hx_seq ?_
    refine hx_region ?_
    refine WL.qq (by simp only [EN, Nat.reduceEqDiff, reduceIte, qv_move, e1, strEq]; rfl) ?_
    refine WL.qq (by simp only [EN, Nat.reduceEqDiff, reduceIte, qv_binOp, binv_eql, eq9, Option.map_some, strEq]; rfl) ?_
    refine WL.qq (by simp only [EN, Nat.reduceEqDiff, reduceIte, qv_move, strEq]; rfl) ?_
    refine WL.cq (gd_at (t := 15) rfl (by simp only [EN, Nat.reduceEqDiff, reduceIte, e2, strEq] <;> rfl)) (fun hg3_3 => by simp only [EN, Nat.reduceEqDiff, reduceIte, qv_move, e2, strEq, hg3_3, GR]; rfl) ?_
    refine WL.cq (gd_at (t := 15) rfl (by simp only [EN, Nat.reduceEqDiff, reduceIte, strEq] <;> rfl)) (fun hg3_4 => by simp only [EN, Nat.reduceEqDiff, reduceIte, qv_binOp, binv_eql, eq9, Option.map_some, strEq, hg3_4, GR]; rfl) ?_
    refine WL.qq (by simp only [EN, Nat.reduceEqDiff, reduceIte, qv_pick, pk_and, pk_or, GR, strEq]; rfl) ?_
    refine WL.qq (by simp only [EN, Nat.reduceEqDiff, reduceIte, qv_assign, strEq]; rfl) ?_
    refine WL.nil ?_
    refine th_norm ?_
    refine hx_cond (by simp only [EN, Nat.reduceEqDiff, reduceIte, strEq]; rfl) (fun hct12 => ?_) (fun hct12 => ?_)
    ·
      try simp only [BD] at hct12
      refine hx_seq ?_
      refine hx_region ?_
      refine WL.qq (by simp only [EN, Nat.reduceEqDiff, reduceIte, qv_assign, strEq]; rfl) ?_
      refine WL.nil ?_
      refine th_norm ?_
      refine hx_ret ?_
      refine bl_ret ?_
      refine th_ret ?_
      refine fin_ret [.tmp 8] rfl rfl (by simp only [EN, Nat.reduceEqDiff, reduceIte, resv, e0, e1, e2, e3, strEq]; rfl) ?_  -- ret 0 r4
      rw [setBE, if_pos (by simpa using hct12)] at hr
      subst hr
      exact ⟨rfl, Gs.ofExt (Ext.refl _), fun _ => (Ext.refl _), bl, by rw [if_neg (by decide)]; exact hb, .inl rfl⟩
    ·
      try simp only [BD] at hct12
      refine hx_seq ?_
      refine hx_region ?_
      refine WL.qq (by simp only [EN, Nat.reduceEqDiff, reduceIte, qv_move, e1, strEq]; rfl) ?_
      refine WL.qq (by simp only [EN, Nat.reduceEqDiff, reduceIte, qv_move, e2, strEq]; rfl) ?_
      refine WL.qq (by simp only [EN, Nat.reduceEqDiff, reduceIte, qv_binOp, binv_eql, eq9, Option.map_some, strEq]; rfl) ?_
      refine WL.qq (by simp only [EN, Nat.reduceEqDiff, reduceIte, qv_assign, strEq]; rfl) ?_
      refine WL.nil ?_
      refine th_norm ?_
      refine hx_cond (by simp only [EN, Nat.reduceEqDiff, reduceIte, strEq]; rfl) (fun hct19 => ?_) (fun hct19 => ?_)
      ·
        try simp only [BD] at hct19
        refine hx_seq ?_
        refine hx_region ?_
        refine WL.qq (by simp only [EN, Nat.reduceEqDiff, reduceIte, qv_assign, strEq]; rfl) ?_
        refine WL.nil ?_
        refine th_norm ?_
        refine hx_ret ?_
        refine bl_ret ?_
        refine th_ret ?_
        refine fin_ret [.tmp 8] rfl rfl (by simp only [EN, Nat.reduceEqDiff, reduceIte, resv, e0, e1, e2, e3, strEq]; rfl) ?_  -- ret 1 r6
        rw [setBE, if_neg (by simpa using hct12), if_pos (by simpa using hct19)] at hr
        subst hr
        exact ⟨rfl, Gs.ofExt (Ext.refl _), fun _ => (Ext.refl _), bl, by rw [if_neg (by decide)]; exact hb, .inl rfl⟩
      ·
        try simp only [BD] at hct19
        rw [setBE, if_neg (by simpa using hct12), if_neg (by simpa using hct19)] at hr
        refine hx_skip ?_
        refine bl_norm ?_
        refine th_norm ?_
        refine hx_seq ?_
        refine hx_region ?_
        refine WL.qq (by simp only [EN, Nat.reduceEqDiff, reduceIte, qv_move, e0, strEq]; rfl) ?_
        refine WL.qq (by simp only [EN, Nat.reduceEqDiff, reduceIte, qv_move, e1, strEq]; rfl) ?_
        refine WL.qq (by simp only [EN, Nat.reduceEqDiff, reduceIte, qv_move, e2, strEq]; rfl) ?_
        refine WL.qq (by refine qv_bld (by simp only [EN, Nat.reduceEqDiff, reduceIte, AR, strEq] <;> rfl) (by rw [bl76]; simp [Instr.fill, Value.cells]; rfl)) ?_
        refine WL.qq (by simp only [EN, Nat.reduceEqDiff, reduceIte, qv_move, e3, strEq]; rfl) ?_
        refine WL.ce Try.call34 (by simp only [EN, Nat.reduceEqDiff, reduceIte, AR, strEq]; exact c_set k a hcm hb hr) ?_
        rintro _ h2 ⟨rfl, hpost⟩
        simp only [put_some]
        refine WL.qq (by simp only [EN, Nat.reduceEqDiff, reduceIte, qv_assign, strEq]; rfl) ?_
        refine WL.nil ?_
        refine th_norm ?_
        refine hx_ret ?_
        refine fin_ret [.tmp 8] rfl rfl (by simp only [EN, Nat.reduceEqDiff, reduceIte, resv, e0, e1, e2, e3, strEq]; rfl) ?_  -- ret 2 r7
        exact ⟨rfl, hpost⟩
theorem c_setM (f : ByteArray) (a : Int) (hcm : cntM (setL ls ⟨f, em⟩ a) ns ≤ 9223372036854775807) (hb : IsTb h p bl bn ls ns) {r : Int} (hr : setME ls ns f a = r) :
    HCalls Try.prog 13 #[.pointer (some ⟨p, 0, none⟩), .string f, iV a] h fun v h' => v = iV r ∧ Gs h h' [p] ∧ (r ≠ 0 → Ext h h') ∧ ∃ bl', IsTb h' p bl' bn (if r = 0 then setL ls ⟨f, em⟩ a else ls) ns ∧ (bl' = bl ∨ h.size ≤ bl') := by
  refine hcalls2 Try.func13 rfl (by decide +kernel) (by simp only [Try.ntmps13]; exact of_decide_eq_true rfl) ?_
  intro e hin
  have e0 := hin 0 _ rfl
  have e1 := hin 1 _ rfl
  have e2 := hin 2 _ rfl
  refine hx_seq ?_
  refine hx_region ?_
  refine WL.qq (by simp only [EN, Nat.reduceEqDiff, reduceIte, qv_assign, strEq]; rfl) ?_
  refine WL.nil ?_
  refine th_norm ?_
  refine hx_seq ?_
  refine hx_block ?_
  refine hx_seq ?_
  refine hx_region ?_
  refine WL.qq (by simp only [EN, Nat.reduceEqDiff, reduceIte, qv_move, e0, strEq]; rfl) ?_
  refine WL.qq (by simp only [EN, Nat.reduceEqDiff, reduceIte, qv_binOp, binv_eql, eqz24, eqn24, eqm24, Option.map_some, strEq]; rfl) ?_
  refine WL.qq (by simp only [EN, Nat.reduceEqDiff, reduceIte, qv_assign, strEq]; rfl) ?_
  refine WL.nil ?_
  refine th_norm ?_
  refine hx_cond (by simp only [EN, Nat.reduceEqDiff, reduceIte, strEq]; rfl) (fun hct7 => ?_) (fun hct7 => ?_)
  ·
    simp at hct7
  ·
    try simp only [BD] at hct7
    refine hx_seq ?_
    refine hx_region ?_
    refine WL.qq (by simp only [EN, Nat.reduceEqDiff, reduceIte, qv_move, e1, strEq]; rfl) ?_
    refine WL.qq (by simp only [EN, Nat.reduceEqDiff, reduceIte, qv_binOp, binv_eql, eq9, Option.map_some, strEq]; rfl) ?_
    refine WL.qq (by simp only [EN, Nat.reduceEqDiff, reduceIte, qv_assign, strEq]; rfl) ?_
    refine WL.nil ?_
    refine th_norm ?_
    refine hx_cond (by simp only [EN, Nat.reduceEqDiff, reduceIte, strEq]; rfl) (fun hct10 => ?_) (fun hct10 => ?_)
    ·
      try simp only [BD] at hct10
      refine hx_seq ?_
      refine hx_region ?_
      refine WL.qq (by simp only [EN, Nat.reduceEqDiff, reduceIte, qv_assign, strEq]; rfl) ?_
      refine WL.nil ?_
      refine th_norm ?_
      refine hx_ret ?_
      refine bl_ret ?_
      refine th_ret ?_
      refine fin_ret [.tmp 6] rfl rfl (by simp only [EN, Nat.reduceEqDiff, reduceIte, resv, e0, e1, e2, strEq]; rfl) ?_  -- ret 0 r4
      rw [setME, if_pos (by simpa using hct10)] at hr
      subst hr
      exact ⟨rfl, Gs.ofExt (Ext.refl _), fun _ => (Ext.refl _), bl, by rw [if_neg (by decide)]; exact hb, .inl rfl⟩
    ·
      try simp only [BD] at hct10
      rw [setME, if_neg (by simpa using hct10)] at hr
      refine hx_skip ?_
      refine bl_norm ?_
      refine th_norm ?_
      refine hx_seq ?_
      refine hx_region ?_
      refine WL.qq (by simp only [EN, Nat.reduceEqDiff, reduceIte, qv_move, e0, strEq]; rfl) ?_
      refine WL.qq (by simp only [EN, Nat.reduceEqDiff, reduceIte, qv_move, e1, strEq]; rfl) ?_
      refine WL.qq (by refine qv_bld (by simp only [EN, Nat.reduceEqDiff, reduceIte, AR, strEq] <;> rfl) (by rw [bl76]; simp [Instr.fill, Value.cells]; rfl)) ?_
      refine WL.qq (by simp only [EN, Nat.reduceEqDiff, reduceIte, qv_move, e2, strEq]; rfl) ?_
      refine WL.ce Try.call34 (by simp only [EN, Nat.reduceEqDiff, reduceIte, AR, strEq]; exact c_set ⟨f, em⟩ a hcm hb hr) ?_
      rintro _ h2 ⟨rfl, hpost⟩
      simp only [put_some]
      refine WL.qq (by simp only [EN, Nat.reduceEqDiff, reduceIte, qv_assign, strEq]; rfl) ?_
      refine WL.nil ?_
      refine th_norm ?_
      refine hx_ret ?_
      refine fin_ret [.tmp 6] rfl rfl (by simp only [EN, Nat.reduceEqDiff, reduceIte, resv, e0, e1, e2, strEq]; rfl) ?_  -- ret 1 r5
      exact ⟨rfl, hpost⟩
theorem c_Reset (hb : IsTb h p bl bn ls ns) : HCalls Try.prog 32 #[.pointer (some ⟨p, 0, none⟩)] h fun v h' => v = iV 0 ∧ Gs h h' [bn] ∧ IsTb h' p bl bn ls [] := by
  refine hcalls2 Try.func32 rfl (by decide +kernel) (by simp only [Try.ntmps32]; exact of_decide_eq_true rfl) ?_
  intro e hin
  have e0 := hin 0 _ rfl
  refine hx_seq ?_
  refine hx_region ?_
  refine WL.qq (by simp only [EN, Nat.reduceEqDiff, reduceIte, qv_assign, hb.blk.cell]; rfl) ?_
  refine WL.nil ?_
  refine th_norm ?_
  refine hx_seq ?_
  refine hx_seq ?_
  refine hx_region ?_
  refine WL.qq (by simp only [EN, Nat.reduceEqDiff, reduceIte, qv_move, e0, hb.blk.cell]; rfl) ?_
  refine WL.qq (by simp only [EN, Nat.reduceEqDiff, reduceIte, qv_binOp, binv_eql, eqz24, eqn24, eqm24, Option.map_some, hb.blk.cell]; rfl) ?_
  refine WL.nil ?_
  refine th_norm ?_
  refine hx_cond (by simp only [EN, Nat.reduceEqDiff, reduceIte, hb.blk.cell]; rfl) (fun hct4 => ?_) (fun hct4 => ?_)
  ·
    simp at hct4
  ·
    try simp only [BD] at hct4
    refine hx_skip ?_
    refine th_norm ?_
    refine hx_seq ?_
    refine hx_region ?_
    refine WL.qq (by simp only [EN, Nat.reduceEqDiff, reduceIte, qv_move, e0, hb.blk.cell]; rfl) ?_
    refine WL.qq (by simp only [EN, Nat.reduceEqDiff, reduceIte, qv_nilCheck, hb.blk.cell]; rfl) ?_
    refine WL.qq (by simp only [EN, Nat.reduceEqDiff, reduceIte, qv_fieldAddr, fa73_1, Nat.zero_add, Nat.reduceAdd, hb.blk.cell]; rfl) ?_
    refine WL.qq (by simp only [EN, Nat.reduceEqDiff, reduceIte, qv_load, ld71, readN, AR, Nat.zero_add, Nat.reduceAdd, hb.blk.cell]; rfl) ?_
    refine WL.ef _ (e_clear (t := 71) Try.underlying71 rfl hb.net (by simp only [EN, Nat.reduceEqDiff, reduceIte, e0, hb.blk.cell])) ?_
    rintro _ h2 ⟨⟨o2, hw2⟩, hm2⟩
    simp only [put_none]
    have hg := Gs.ofWr hw2 (S := [bn]) (by simp)
    refine WL.nil ?_
    refine th_norm ?_
    refine hx_seq ?_
    refine hx_region ?_
    refine WL.qq (by simp only [EN, Nat.reduceEqDiff, reduceIte, qv_assign, hb.blk.cell]; rfl) ?_
    refine WL.nil ?_
    refine th_norm ?_
    refine hx_ret ?_
    refine fin_ret [.tmp 2] rfl rfl (by simp only [EN, Nat.reduceEqDiff, reduceIte, resv, e0, hb.blk.cell]; rfl) ?_  -- ret 0 r4
    exact ⟨rfl, hg, ⟨hb.blk.wr hw2 (hb.blk.nmap hb.net), hb.lim.wr hw2 hb.ne, hm2, hb.ne⟩⟩
theorem c_Clone (hb : IsTb h p bl bn ls ns) : HCalls Try.prog 23 #[.pointer (some ⟨p, 0, none⟩)] h fun v h' => Ext h h' ∧ ∃ p' bl' bn', v = .pointer (some ⟨p', 0, none⟩) ∧ IsTb h' p' bl' bn' ls ns ∧ h.size ≤ p' ∧ h.size ≤ bl' ∧ h.size ≤ bn' := by
  refine hcalls2 Try.func23 rfl (by decide +kernel) (by simp only [Try.ntmps23]; exact of_decide_eq_true rfl) ?_
  intro e hin
  have e0 := hin 0 _ rfl
  refine hx_seq ?_
  refine hx_region ?_
  refine WL.qq (by simp only [EN, Nat.reduceEqDiff, reduceIte, qv_assign, hb.blk.cell]; rfl) ?_
  refine WL.nil ?_
  refine th_norm ?_
  refine hx_seq ?_
  refine hx_seq ?_
  refine hx_region ?_
  refine WL.qq (by simp only [EN, Nat.reduceEqDiff, reduceIte, qv_move, e0, hb.blk.cell]; rfl) ?_
  refine WL.qq (by simp only [EN, Nat.reduceEqDiff, reduceIte, qv_binOp, binv_eql, eqz24, eqn24, eqm24, Option.map_some, hb.blk.cell]; rfl) ?_
  refine WL.nil ?_
  refine th_norm ?_
  refine hx_cond (by simp only [EN, Nat.reduceEqDiff, reduceIte, hb.blk.cell]; rfl) (fun hct4 => ?_) (fun hct4 => ?_)
  ·
    simp at hct4
  ·
    try simp only [BD] at hct4
    refine hx_skip ?_
    refine th_norm ?_
    refine hx_seq ?_
    apply hx_draw2N (Rel.first 4 h) [11, 12] [4, 9] [(4, Spec.m1 pV iV h.size ls), (9, Spec.m2 pV iV h.size ns)] rfl (by decide +kernel) rfl (fun _ _ => rfl)
    refine LD.qq rfl rfl (by simp only [EN, Nat.reduceEqDiff, reduceIte, qv_move, e0, hb.blk.cell]; rfl) ?_
    refine LD.qq rfl rfl (by simp only [EN, Nat.reduceEqDiff, reduceIte, qv_nilCheck, hb.blk.cell]; rfl) ?_
    refine LD.qq rfl rfl (by simp only [EN, Nat.reduceEqDiff, reduceIte, qv_fieldAddr, fa73_0, Nat.zero_add, Nat.reduceAdd, hb.blk.cell]; rfl) ?_
    refine LD.qq rfl rfl (by simp only [EN, Nat.reduceEqDiff, reduceIte, qv_load, ld71, readN, AR, Nat.zero_add, Nat.reduceAdd, hb.blk.cell]; rfl) ?_
    refine LD.en rfl rfl (by intro hD hr hng hf; have hx : Ext _ _ := hr; have hb := hb.ext hx; exact EOp.mono (e_call Try.call39 (by simp only [EN, Nat.reduceEqDiff, reduceIte, e0, hb.blk.cell, List.map_toArray, List.map_cons, List.map_nil]; exact c_mapsClone hb.lim)) (fun v h' hh => by obtain ⟨rfl, h1, h2⟩ := hh; obtain rfl := hng rfl; exact ⟨h1, rfl, h2, fun k' h3 _ _ h4 => absurd h4 h3⟩)) ?_
    intro u3_4 w3_4
    obtain rfl : u3_4 = .map (some h.size) := w3_4
    refine LD.qq rfl rfl (by simp only [EN, Nat.reduceEqDiff, reduceIte, qv_move, e0, hb.blk.cell]; rfl) ?_
    refine LD.qq rfl rfl (by simp only [EN, Nat.reduceEqDiff, reduceIte, qv_nilCheck, hb.blk.cell]; rfl) ?_
    refine LD.qq rfl rfl (by simp only [EN, Nat.reduceEqDiff, reduceIte, qv_fieldAddr, fa73_1, Nat.zero_add, Nat.reduceAdd, hb.blk.cell]; rfl) ?_
    refine LD.qq rfl rfl (by simp only [EN, Nat.reduceEqDiff, reduceIte, qv_load, ld71, readN, AR, Nat.zero_add, Nat.reduceAdd, hb.blk.cell]; rfl) ?_
    refine LD.en rfl rfl (by intro hD hr hng hf; have hx : Ext _ _ := hr; have hb := hb.ext hx; exact EOp.mono (e_call Try.call39 (by simp only [EN, Nat.reduceEqDiff, reduceIte, e0, hb.blk.cell, List.map_toArray, List.map_cons, List.map_nil]; exact c_mapsClone hb.net)) (fun v h' hh => by obtain ⟨rfl, h1, h2⟩ := hh; have h5 : MapT pV iV hD h.size ls := hf (4, .map (some h.size)) (by simp) (by show tb _ _ 4 = true; decide +kernel) _ rfl; exact ⟨h1, ⟨_, h5.lt, rfl⟩, fun B hB => by cases hB; exact h2, fun k' h3 h4 _ h6 => by subst h6; exact absurd h4 (by decide +kernel)⟩)) ?_
    intro u3_9 w3_9
    obtain ⟨B9, hlt9, rfl⟩ := w3_9
    refine LD.qq rfl rfl (by refine qv_bld (by simp only [EN, Nat.reduceEqDiff, reduceIte, AR, hb.blk.cell] <;> rfl) (by rw [bl73]; simp [Instr.fill, Value.cells]; rfl)) ?_
    refine LD.skip rfl ?_
    refine LD.skip rfl ?_
    refine LD.nil ?_
    rintro h1 hx1 hF3
    replace hx1 : Ext _ _ := hx1
    replace hb := hb.ext hx1
    have hm4 : MapT pV iV h1 h.size ls := hF3 (4, .map (some h.size)) (by simp) _ rfl
    have hm9 : MapT pV iV h1 B9 ns := hF3 (9, .map (some B9)) (by simp) _ rfl B9 rfl
    have hs1 := hx1.size
    refine WL.box2 (by simp only [EN, Nat.reduceEqDiff, reduceIte, Value.cells, hb.blk.cell]; rfl) ?_
    intro h2 B2 hx2 hlt2 hB2
    replace hb := hb.ext hx2
    refine WL.qq (by simp only [EN, Nat.reduceEqDiff, reduceIte, qv_assign, hb.blk.cell, hB2.cell]; rfl) ?_
    refine WL.nil ?_
    refine th_norm ?_
    refine hx_ret ?_
    refine fin_ret [.tmp 2] rfl rfl (by simp only [EN, Nat.reduceEqDiff, reduceIte, resv, e0, hb.blk.cell, hB2.cell]; rfl) ?_  -- ret 0 r3
    exact ⟨((hx1).trans (hx2)), _, _, _, rfl, ⟨hB2, hm4.ext hx2, hm9.ext hx2, by omega⟩, by omega, Nat.le_refl _, by omega⟩
theorem c_Equal {p' bl' bn' : Nat} {ls' ns' : List L2} (hb : IsTb h p bl bn ls ns) (hb' : IsTb h p' bl' bn' ls' ns') :
    HCalls Try.prog 24 #[.pointer (some ⟨p, 0, none⟩), .pointer (some ⟨p', 0, none⟩)] h (Grow (.bool (decide (mapEq ls ls') && decide (mapEq ns ns'))) h) := by
  refine hcalls2 Try.func24 rfl (by decide +kernel) (by simp only [Try.ntmps24]; exact of_decide_eq_true rfl) ?_
  intro e hin
  have e0 := hin 0 _ rfl
  have e1 := hin 1 _ rfl
  refine hx_seq ?_
  refine hx_region ?_
  refine WL.qq (by simp only [EN, Nat.reduceEqDiff, reduceIte, qv_assign, hb.blk.cell, hb'.blk.cell]; rfl) ?_
  refine WL.nil ?_
  refine th_norm ?_
  refine hx_seq ?_
  refine hx_seq ?_
  refine hx_region ?_
  refine WL.qq (by simp only [EN, Nat.reduceEqDiff, reduceIte, qv_move, e0, hb.blk.cell, hb'.blk.cell]; rfl) ?_
  refine WL.qq (by simp only [EN, Nat.reduceEqDiff, reduceIte, qv_binOp, binv_eql, eqz24, eqn24, eqm24, Option.map_some, hb.blk.cell, hb'.blk.cell]; rfl) ?_
  refine WL.qq (by simp only [EN, Nat.reduceEqDiff, reduceIte, qv_move, hb.blk.cell, hb'.blk.cell]; rfl) ?_
  refine WL.cq (gd_at (t := 7) rfl (by simp only [EN, Nat.reduceEqDiff, reduceIte, e1, hb.blk.cell, hb'.blk.cell] <;> rfl)) (fun hg1_3 => by simp only [EN, Nat.reduceEqDiff, reduceIte, qv_move, e1, hb.blk.cell, hb'.blk.cell, hg1_3, GR]; rfl) ?_
  refine WL.cq (gd_at (t := 7) rfl (by simp only [EN, Nat.reduceEqDiff, reduceIte, hb.blk.cell, hb'.blk.cell] <;> rfl)) (fun hg1_4 => by simp only [EN, Nat.reduceEqDiff, reduceIte, qv_binOp, binv_eql, eqz24, eqn24, eqm24, Option.map_some, hb.blk.cell, hb'.blk.cell, hg1_4, GR]; rfl) ?_
  refine WL.qq (by simp only [EN, Nat.reduceEqDiff, reduceIte, qv_pick, pk_and, pk_or, GR, hb.blk.cell, hb'.blk.cell]; rfl) ?_
  refine WL.nil ?_
  refine th_norm ?_
  refine hx_cond (by simp only [EN, Nat.reduceEqDiff, reduceIte, hb.blk.cell, hb'.blk.cell]; rfl) (fun hct10 => ?_) (fun hct10 => ?_)
  ·
    simp at hct10
  ·
    try simp only [BD] at hct10
    refine hx_skip ?_
    refine th_norm ?_
    refine hx_seq ?_
    apply hx_draw2 Rel.grows [] [8, 18] [(8, Spec.is _), (18, Spec.is _)] rfl (by decide +kernel) rfl
    refine LD.qq rfl rfl (by simp only [EN, Nat.reduceEqDiff, reduceIte, qv_move, e0, hb.blk.cell, hb'.blk.cell]; rfl) ?_
    refine LD.qq rfl rfl (by simp only [EN, Nat.reduceEqDiff, reduceIte, qv_nilCheck, hb.blk.cell, hb'.blk.cell]; rfl) ?_
    refine LD.qq rfl rfl (by simp only [EN, Nat.reduceEqDiff, reduceIte, qv_fieldAddr, fa73_0, Nat.zero_add, Nat.reduceAdd, hb.blk.cell, hb'.blk.cell]; rfl) ?_
    refine LD.qq rfl rfl (by simp only [EN, Nat.reduceEqDiff, reduceIte, qv_load, ld71, readN, AR, Nat.zero_add, Nat.reduceAdd, hb.blk.cell, hb'.blk.cell]; rfl) ?_
    refine LD.qq rfl rfl (by simp only [EN, Nat.reduceEqDiff, reduceIte, qv_move, e1, hb.blk.cell, hb'.blk.cell]; rfl) ?_
    refine LD.qq rfl rfl (by simp only [EN, Nat.reduceEqDiff, reduceIte, qv_nilCheck, hb.blk.cell, hb'.blk.cell]; rfl) ?_
    refine LD.qq rfl rfl (by simp only [EN, Nat.reduceEqDiff, reduceIte, qv_fieldAddr, fa73_0, Nat.zero_add, Nat.reduceAdd, hb.blk.cell, hb'.blk.cell]; rfl) ?_
    refine LD.qq rfl rfl (by simp only [EN, Nat.reduceEqDiff, reduceIte, qv_load, ld71, readN, AR, Nat.zero_add, Nat.reduceAdd, hb.blk.cell, hb'.blk.cell]; rfl) ?_
    refine LD.ck rfl rfl Try.call40 (by intro hD hr; have hx : Ext _ _ := hr; have hb := hb.ext hx; have hb' := hb'.ext hx; simp only [EN, Nat.reduceEqDiff, reduceIte, AR, hb.blk.cell, hb'.blk.cell]; exact c_mapsEqual hb.lim hb'.lim) ?_
    refine LD.qq rfl rfl (by simp only [EN, Nat.reduceEqDiff, reduceIte, qv_move, hb.blk.cell, hb'.blk.cell]; rfl) ?_
    refine LD.cq rfl rfl (gd_at (t := 23) rfl (by simp only [EN, Nat.reduceEqDiff, reduceIte, e0, hb.blk.cell, hb'.blk.cell] <;> rfl)) (fun hg3_10 => by simp only [EN, Nat.reduceEqDiff, reduceIte, qv_move, e0, hb.blk.cell, hb'.blk.cell, hg3_10, GR]; rfl) ?_
    refine LD.cq rfl rfl (gd_at (t := 23) rfl (by simp only [EN, Nat.reduceEqDiff, reduceIte, hb.blk.cell, hb'.blk.cell] <;> rfl)) (fun hg3_11 => by simp only [EN, Nat.reduceEqDiff, reduceIte, qv_nilCheck, hb.blk.cell, hb'.blk.cell, hg3_11, GR]; rfl) ?_
    refine LD.cq rfl rfl (gd_at (t := 23) rfl (by simp only [EN, Nat.reduceEqDiff, reduceIte, hb.blk.cell, hb'.blk.cell] <;> rfl)) (fun hg3_12 => by simp only [EN, Nat.reduceEqDiff, reduceIte, qv_fieldAddr, fa73_1, Nat.zero_add, Nat.reduceAdd, hb.blk.cell, hb'.blk.cell, hg3_12, GR]; rfl) ?_
    refine LD.cq rfl rfl (gd_at (t := 23) rfl (by simp only [EN, Nat.reduceEqDiff, reduceIte, hb.blk.cell, hb'.blk.cell] <;> rfl)) (fun hg3_13 => by simp only [EN, Nat.reduceEqDiff, reduceIte, qv_load, ld71, readN, AR, Nat.zero_add, Nat.reduceAdd, hb.blk.cell, hb'.blk.cell, hg3_13, GR]; rfl) ?_
    refine LD.cq rfl rfl (gd_at (t := 23) rfl (by simp only [EN, Nat.reduceEqDiff, reduceIte, e1, hb.blk.cell, hb'.blk.cell] <;> rfl)) (fun hg3_14 => by simp only [EN, Nat.reduceEqDiff, reduceIte, qv_move, e1, hb.blk.cell, hb'.blk.cell, hg3_14, GR]; rfl) ?_
    refine LD.cq rfl rfl (gd_at (t := 23) rfl (by simp only [EN, Nat.reduceEqDiff, reduceIte, hb.blk.cell, hb'.blk.cell] <;> rfl)) (fun hg3_15 => by simp only [EN, Nat.reduceEqDiff, reduceIte, qv_nilCheck, hb.blk.cell, hb'.blk.cell, hg3_15, GR]; rfl) ?_
    refine LD.cq rfl rfl (gd_at (t := 23) rfl (by simp only [EN, Nat.reduceEqDiff, reduceIte, hb.blk.cell, hb'.blk.cell] <;> rfl)) (fun hg3_16 => by simp only [EN, Nat.reduceEqDiff, reduceIte, qv_fieldAddr, fa73_1, Nat.zero_add, Nat.reduceAdd, hb.blk.cell, hb'.blk.cell, hg3_16, GR]; rfl) ?_
    refine LD.cq rfl rfl (gd_at (t := 23) rfl (by simp only [EN, Nat.reduceEqDiff, reduceIte, hb.blk.cell, hb'.blk.cell] <;> rfl)) (fun hg3_17 => by simp only [EN, Nat.reduceEqDiff, reduceIte, qv_load, ld71, readN, AR, Nat.zero_add, Nat.reduceAdd, hb.blk.cell, hb'.blk.cell, hg3_17, GR]; rfl) ?_
    refine LD.cck rfl rfl (gd_at (t := 23) rfl (by simp only [EN, Nat.reduceEqDiff, reduceIte, hb.blk.cell, hb'.blk.cell] <;> rfl)) Try.call40 (fun hg3_18 => by intro hD hr; have hx : Ext _ _ := hr; have hb := hb.ext hx; have hb' := hb'.ext hx; simp only [EN, Nat.reduceEqDiff, reduceIte, AR, hb.blk.cell, hb'.blk.cell, hg3_18, GR]; exact c_mapsEqual hb.net hb'.net) ?_
    refine LD.qq rfl rfl (by simp only [EN, Nat.reduceEqDiff, reduceIte, qv_pick, pk_and, pk_or, GR, hb.blk.cell, hb'.blk.cell]; rfl) ?_
    refine LD.qq rfl rfl (by simp only [EN, Nat.reduceEqDiff, reduceIte, qv_assign, hb.blk.cell, hb'.blk.cell]; rfl) ?_
    refine LD.nil ?_
    rintro h1 hx1 hF3
    replace hx1 : Ext _ _ := hx1
    replace hb := hb.ext hx1
    replace hb' := hb'.ext hx1
    refine WL.nil ?_
    refine th_norm ?_
    refine hx_ret ?_
    refine fin_ret [.tmp 4] rfl rfl (by simp only [EN, Nat.reduceEqDiff, reduceIte, resv, e0, e1, hb.blk.cell, hb'.blk.cell]; rfl) ?_  -- ret 0 r3
    exact ⟨rfl, (hx1)⟩
end
end GL


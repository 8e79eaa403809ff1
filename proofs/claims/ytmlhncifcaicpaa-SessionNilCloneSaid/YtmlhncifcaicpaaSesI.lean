/- Session: receivers of a statement's own; the example; both sides of one message. -/
import Derived.Test.YtmlhncifcaicpaaSesH
set_option linter.unusedSimpArgs false
set_option linter.unusedVariables false
set_option linter.unnecessarySimpa false
namespace GL
open Go Go.Proofs
set_option maxRecDepth 8000
/-- A receiver that was made behind h0. -/
structure TR (h0 h : Heap) (p : Nat) (w n : Int) (bf : List M2) : Prop where
  ex : ∃ b, IsRc h p b w n bf ∧ h0.size ≤ b
  E : Ext h0 h
  hp : h0.size ≤ p
section
variable {h0 h h' : Heap} {p : Nat} {w n : Int} {bf : List M2}
theorem TR.ext (ht : TR h0 h p w n bf) (hx : Ext h h') : TR h0 h' p w n bf := by
  obtain ⟨⟨b, h1, h2⟩, hE, hp⟩ := ht
  exact ⟨⟨b, h1.ext hx, h2⟩, hE.trans hx, hp⟩
theorem TR.base {h1 : Heap} (ht : TR h1 h p w n bf) (hx : Ext h0 h1) : TR h0 h p w n bf := by
  obtain ⟨⟨b, q1, q2⟩, hE, hp⟩ := ht
  have := hx.size
  exact ⟨⟨b, q1, by omega⟩, hx.trans hE, by omega⟩
theorem TR.blk (ht : TR h0 h p w n bf) : ∃ cur, Has h p (.cells cur 83) := by
  obtain ⟨⟨b, h1, h2⟩, hE, hp⟩ := ht
  exact ⟨_, h1.blk⟩
theorem TR.ne {B : Nat} {cur : Array Value} {T : TypeId} (ht : TR h0 h p w n bf) (hb : Has h B (.cells cur T)) (hT : T ≠ 83) : B ≠ p := by
  obtain ⟨c, hc⟩ := ht.blk
  intro hh
  subst hh
  exact hc.noty (Ne.symm hT) hb
theorem TR.slR {α : Type} {el sz : Nat} {f : α → List Value} {a : Option Addr} {L : List α} (ht : TR h0 h p w n bf) (hs : SlR el sz f h a L) (hf : ∀ x, 0 < (f x).length) (hT : 83 ≠ el) (hr : Turn p h h') : SlR el sz f h' a L := by
  obtain ⟨c, hc⟩ := ht.blk
  exact hs.turn hf hr hc hT
theorem TR.lt (ht : TR h0 h p w n bf) : p < h.size := by
  obtain ⟨c, hc⟩ := ht.blk
  exact (Array.getElem?_eq_some_iff.1 hc).1
theorem TR.wr {B : Nat} {cur : Array Value} {T : TypeId} {o : Obj} (ht : TR h0 h p w n bf) (hb : Has h B (.cells cur T)) (hT : T ≠ 83) (hw : Wr h h' B o) (h0B : h0.size ≤ B) : TR h0 h' p w n bf := by
  have hne := ht.ne hb hT
  obtain ⟨⟨b, h1, h2⟩, hE, hp⟩ := ht
  exact ⟨⟨b, ⟨h1.blk.wr hw (Ne.symm hne), h1.buf.wr hw (fun hh => by subst hh; exact hb.nmap h1.buf rfl)⟩, h2⟩, hw.ext hE h0B, hp⟩
theorem tr_new (w : Int) (hw : 1 ≤ w ∧ w ≤ 256) (h : Heap) : HCalls Try.prog 15 #[iV w] h fun v h' => Ext h h' ∧ ∃ p, v = .tuple #[.pointer (some ⟨p, 0, none⟩), iV 0] ∧ TR h h' p w 1 [] :=
  (c_newR w hw h).mono fun v h' ⟨hx, p, b, hv, hb, h1, h2⟩ => ⟨hx, p, hv, ⟨b, hb, h2⟩, hx, h1⟩
theorem rg_new (w : Int) (hw : 1 ≤ w ∧ w ≤ 256) : RG w 1 [] := ⟨hw.1, hw.2, by omega, by omega, List.nodup_nil, (fun x hx => by cases hx), (fun x hx => by cases hx), (fun x hx => by cases hx)⟩
theorem tr_Accept (m : M2) (hG : RG w n bf) (ht : TR h0 h p w n bf) :
    HCalls Try.prog 16 #[.pointer (some ⟨p, 0, none⟩), .agg (msgL m).toArray] h fun v h' => ∃ a cap, v = .tuple #[.slice a (accO w n bf m).length cap, iV (accE w n bf m)] ∧ SlR 9 1 strL h' a (accO w n bf m) ∧ TR h0 h' p w (accN w n bf m) (accB w n bf m) ∧ Turn p h h' := by
  obtain ⟨⟨b, h1, h2⟩, hE, hp⟩ := ht
  refine (c_Accept m hG h1).mono ?_
  rintro v h' ⟨a, cap, hv, hs, hb, hg, _⟩
  refine ⟨a, cap, hv, hs, ⟨⟨b, hb, h2⟩, hg.toExt hE (fun x hx => by simp at hx; rcases hx with rfl | rfl <;> assumption), hp⟩, hg.size, fun c cur T f hc q => ?_⟩
  have hcb : c ≠ b := fun hh => by
    subst hh
    obtain ⟨es, cl, hm⟩ := h1.buf.has
    have h9 : some (Obj.map es cl) = some (.cells cur T f) := hm.symm.trans q
    cases h9
  rw [hg.same c (Array.getElem?_eq_some_iff.1 q).1 (by simp; exact ⟨hc, hcb⟩)]; exact q
theorem tr_Next (ht : TR h0 h p w n bf) : HCalls Try.prog 17 #[.pointer (some ⟨p, 0, none⟩)] h (Pure (iV n) h) := by
  obtain ⟨⟨b, h1, h2⟩, hE, hp⟩ := ht
  exact c_NextR h1
theorem tr_Buf (ht : TR h0 h p w n bf) : HCalls Try.prog 30 #[.pointer (some ⟨p, 0, none⟩)] h (Pure (iV bf.length) h) := by
  obtain ⟨⟨b, h1, h2⟩, hE, hp⟩ := ht
  exact c_Buffered h1
theorem tr_Miss (hG : RG w n bf) (ht : TR h0 h p w n bf) : HCalls Try.prog 29 #[.pointer (some ⟨p, 0, none⟩)] h fun v h' => Ext h h' ∧ ∃ a cap, v = .slice a (gapsK n (srt (bf.map Prod.fst))).length cap ∧ SlR 70 2 gapL h' a (gapsK n (srt (bf.map Prod.fst))) := by
  obtain ⟨⟨b, h1, h2⟩, hE, hp⟩ := ht
  exact c_Missing hG h1
theorem tr_Clone (ht : TR h0 h p w n bf) : HCalls Try.prog 18 #[.pointer (some ⟨p, 0, none⟩)] h fun v h' => Ext h h' ∧ ∃ p', v = .pointer (some ⟨p', 0, none⟩) ∧ TR h h' p' w n bf := by
  obtain ⟨⟨b, h1, h2⟩, hE, hp⟩ := ht
  exact (c_CloneR h1).mono fun v h' ⟨hx, p', b', hv, hb, q1, q2⟩ => ⟨hx, p', hv, ⟨b', hb, q2⟩, hx, q1⟩
theorem tr_Equal {h1 : Heap} {p' : Nat} {w' n' : Int} {bf' : List M2} (ht : TR h0 h p w n bf) (ht' : TR h1 h p' w' n' bf') :
    HCalls Try.prog 19 #[.pointer (some ⟨p, 0, none⟩), .pointer (some ⟨p', 0, none⟩)] h (Grow (.bool (decide (eqR w n bf w' n' bf'))) h) := by
  obtain ⟨⟨b, q1, q2⟩, hE, hp⟩ := ht
  obtain ⟨⟨b', q1', q2'⟩, hE', hp'⟩ := ht'
  exact c_EqualR q1 q1'
theorem c_equalS (a : Option Addr) (l : List ByteArray) (cl : Nat) (b : Option Addr) (m : List ByteArray) (cm : Nat) (hl : l.length ≤ 1000000) (hs : SlG 1 strL h a l) (hs' : SlG 1 strL h b m) :
    HCalls Try.prog 34 #[.slice a l.length cl, .slice b m.length cm] h (Pure (.bool (decide (l = m))) h) := by
  refine hcalls2 Try.func34 rfl (by decide +kernel) (by simp only [Try.ntmps34]; exact of_decide_eq_true rfl) ?_
  intro e hin
  have e0 := hin 0 _ rfl
  have e1 := hin 1 _ rfl
  refine hx_seq ?_
  refine hx_region ?_
  refine WL.qq (by simp only [EN, Nat.reduceEqDiff, reduceIte, qv_assign, strEq]; rfl) ?_
  refine WL.nil ?_
  refine th_norm ?_
  refine hx_seq ?_
  refine hx_seq ?_
  refine hx_region ?_
  refine WL.qq (by simp only [EN, Nat.reduceEqDiff, reduceIte, qv_move, e0, strEq]; rfl) ?_
  refine WL.qq (by simp only [EN, Nat.reduceEqDiff, reduceIte, qv_len, ln31, AR, strEq]; rfl) ?_
  refine WL.qq (by simp only [EN, Nat.reduceEqDiff, reduceIte, qv_move, e1, strEq]; rfl) ?_
  refine WL.qq (by simp only [EN, Nat.reduceEqDiff, reduceIte, qv_len, ln31, AR, strEq]; rfl) ?_
  refine WL.qq (by simp only [EN, Nat.reduceEqDiff, reduceIte, qv_binOp, binv_neq, eq3, Option.map_some, strEq]; rfl) ?_
  refine WL.nil ?_
  refine th_norm ?_
  refine hx_cond (by simp only [EN, Nat.reduceEqDiff, reduceIte, strEq]; rfl) (fun hct10 => ?_) (fun hct10 => ?_)
  ·
    try simp only [BD] at hct10
    refine hx_seq ?_
    refine hx_region ?_
    refine WL.qq (by simp only [EN, Nat.reduceEqDiff, reduceIte, qv_assign, strEq]; rfl) ?_
    refine WL.nil ?_
    refine th_norm ?_
    refine hx_ret ?_
    refine th_ret ?_
    refine fin_ret [.tmp 4] rfl rfl (by simp only [EN, Nat.reduceEqDiff, reduceIte, resv, e0, e1, strEq]; rfl) ?_  -- ret 0 r2
    exact ⟨by have hne : ¬ l = m := fun hh => hct10 (by rw [hh]); simp [retOf, hne], rfl⟩
  ·
    try simp only [BD] at hct10
    have hll : l.length = m.length := (by omega)
    refine hx_skip ?_
    refine th_norm ?_
    refine hx_seq ?_
    refine hx_seq ?_
    refine hx_region ?_
    refine WL.qq (by simp only [EN, Nat.reduceEqDiff, reduceIte, qv_assign, strEq]; rfl) ?_
    refine WL.nil ?_
    refine th_norm ?_
    refine hx_block ?_
    refine hx_loopS [4, 5, 11, 12, 13, 14, 15, 16, 17, 18, 19, 20, 21, 22, 23, 24, 25] (fun k e => ∃ (i : Nat), l.length - i = k ∧ (i ≤ l.length) ∧ (l.take i = m.take i) ∧ e 5 = .int .i64 i) _ ⟨0, rfl, ?_, ?_, ?_⟩ ?_
    · omega
    · rfl
    · simp only [EN, Nat.reduceEqDiff, reduceIte, e0, e1, strEq] <;> rfl
    ·
      rintro k e0L hfr0 ⟨i, rfl, hi, hsm, i5_0⟩
      have k0_0 := hfr0 0 rfl; try simp only [EN, Nat.reduceEqDiff, reduceIte, e0, strEq] at k0_0
      have k1_0 := hfr0 1 rfl; try simp only [EN, Nat.reduceEqDiff, reduceIte, e1, strEq] at k1_0
      refine hx_seq ?_
      refine hx_seq ?_
      refine hx_region ?_
      refine WL.qq (by simp only [EN, Nat.reduceEqDiff, reduceIte, qv_move, i5_0, strEq]; rfl) ?_
      refine WL.qq (by simp only [EN, Nat.reduceEqDiff, reduceIte, qv_move, k0_0, strEq]; rfl) ?_
      refine WL.qq (by simp only [EN, Nat.reduceEqDiff, reduceIte, qv_len, ln31, AR, strEq]; rfl) ?_
      refine WL.qq (by simp only [EN, Nat.reduceEqDiff, reduceIte, qv_binOp, binv_lss, strEq]; rfl) ?_
      refine WL.nil ?_
      refine th_norm ?_
      refine hx_cond (by simp only [EN, Nat.reduceEqDiff, reduceIte, strEq]; rfl) (fun hct14 => ?_) (fun hct14 => ?_)
      ·
        try simp only [BD] at hct14
        obtain ⟨x, hx⟩ := atG (l := l) (i := i) (by omega)
        obtain ⟨y, hy⟩ := atG (l := m) (i := i) (by omega)
        obtain ⟨b1, o1, rfl, hr1⟩ := hs i x hx
        obtain ⟨b2, o2, rfl, hr2⟩ := hs' i y hy
        have hc1 := readN_cell hr1 0 _ rfl; rw [Nat.add_zero, Nat.mul_one] at hc1
        have hc2 := readN_cell hr2 0 _ rfl; rw [Nat.add_zero, Nat.mul_one] at hc2
        refine hx_skip ?_
        refine th_norm ?_
        refine hx_seq ?_
        refine hx_block ?_
        refine hx_seq ?_
        apply hx_draw2 Rel.same [] [] [] rfl (by decide +kernel) rfl
        refine LD.qq rfl rfl (by simp only [EN, Nat.reduceEqDiff, reduceIte, qv_move, k0_0, strEq]; rfl) ?_
        refine LD.qq rfl rfl (by simp only [EN, Nat.reduceEqDiff, reduceIte, qv_move, i5_0, strEq]; rfl) ?_
        refine LD.qq rfl rfl (by simp only [EN, Nat.reduceEqDiff, reduceIte, qv_indexAddr, strEq]; (try simp (disch := omega) only [ix31, Int.toNat_natCast]); rfl) ?_
        refine LD.qq rfl rfl (by simp only [EN, Nat.reduceEqDiff, reduceIte, k0_0, k1_0, i5_0, strEq, qv_load, ld9, Int.toNat_natCast, hc1]; rfl) ?_
        refine LD.qq rfl rfl (by simp only [EN, Nat.reduceEqDiff, reduceIte, qv_move, k1_0, strEq]; rfl) ?_
        refine LD.qq rfl rfl (by simp only [EN, Nat.reduceEqDiff, reduceIte, qv_move, i5_0, strEq]; rfl) ?_
        refine LD.qq rfl rfl (by simp only [EN, Nat.reduceEqDiff, reduceIte, qv_indexAddr, strEq]; (try simp (disch := omega) only [ix31, Int.toNat_natCast]); rfl) ?_
        refine LD.qq rfl rfl (by simp only [EN, Nat.reduceEqDiff, reduceIte, k0_0, k1_0, i5_0, strEq, qv_load, ld9, Int.toNat_natCast, hc2]; rfl) ?_
        refine LD.qq rfl rfl (by simp only [EN, Nat.reduceEqDiff, reduceIte, qv_binOp, binv_neq, eq9, Option.map_some, strEq]; rfl) ?_
        refine LD.nil ?_
        rintro _ rfl -
        refine WL.nil ?_
        refine th_norm ?_
        refine hx_cond (by simp only [EN, Nat.reduceEqDiff, reduceIte, strEq]; rfl) (fun hct25 => ?_) (fun hct25 => ?_)
        ·
          try simp only [BD] at hct25
          refine hx_seq ?_
          refine hx_region ?_
          refine WL.qq (by simp only [EN, Nat.reduceEqDiff, reduceIte, qv_assign, strEq]; rfl) ?_
          refine WL.nil ?_
          refine th_norm ?_
          refine hx_ret ?_
          refine bl_ret ?_
          refine th_ret ?_
          refine th_ret ?_
          refine bl_ret ?_
          refine th_ret ?_
          refine fin_ret [.tmp 4] rfl rfl (by simp only [EN, Nat.reduceEqDiff, reduceIte, resv, k0_0, k1_0, i5_0, strEq]; rfl) ?_  -- ret 1 r7
          exact ⟨by have hne : ¬ l = m := (fun hh => by rw [hh, hy] at hx; cases hx; simp at hct25); simp [retOf, hne], rfl⟩
        ·
          try simp only [BD] at hct25
          refine hx_skip ?_
          refine bl_norm ?_
          refine th_norm ?_
          refine hx_region ?_
          refine WL.qq (by simp only [EN, Nat.reduceEqDiff, reduceIte, qv_move, i5_0, strEq]; rfl) ?_
          refine WL.qq (by simp only [EN, Nat.reduceEqDiff, reduceIte, qv_binOp, binv_add, strEq]; (try simp (disch := omega) only [w64, w8, wu64]); rfl) ?_
          refine WL.qq (by simp only [EN, Nat.reduceEqDiff, reduceIte, qv_assign, strEq]; rfl) ?_
          refine WL.nil ?_
          refine th_norm ?_
          refine ⟨rfl, rfl, ?_, _, ?_, i + 1, rfl, ?_, ?_, ?_⟩  -- again 0 of loop 0
          · (repeat (first | exact Fr.refl _ _ | refine Fr.set rfl ?_ | refine Fr.put rfl ?_ | with_reducible refine Fr.put0 ?_))
          · omega
          · omega
          · have hxy : x = y := (by simpa using hct25); rw [List.take_add_one, List.take_add_one, hsm, hx, hy, hxy]
          · simp only [EN, Nat.reduceEqDiff, reduceIte, k0_0, k1_0, i5_0, strEq] <;> first | rfl | (congr 1; omega)
      ·
        try simp only [BD] at hct14
        refine hx_exit ?_
        refine th_exit ?_
        refine th_exit ?_
        refine bl_hit ?_
        refine th_norm ?_
        refine hx_seq ?_
        refine hx_region ?_
        refine WL.qq (by simp only [EN, Nat.reduceEqDiff, reduceIte, qv_assign, strEq]; rfl) ?_
        refine WL.nil ?_
        refine th_norm ?_
        refine hx_ret ?_
        refine fin_ret [.tmp 4] rfl rfl (by simp only [EN, Nat.reduceEqDiff, reduceIte, resv, k0_0, k1_0, i5_0, strEq]; rfl) ?_  -- ret 2 r8
        have hlm : l = m := (by have h9 := hsm; rwa [List.take_of_length_le (by omega), List.take_of_length_le (by omega)] at h9)
        exact ⟨by simp [retOf, hlm], rfl⟩
def fewB (l : List M2) : Bool := (l.all fun x => decide (x.2.size ≤ 5000)) && decide (l.length ≤ 60)
theorem c_few (a : Option Addr) (l : List M2) (cl : Nat) (ll : l.length ≤ 9223372036854775807) (hs : SlG 2 msgL h a l) : HCalls Try.prog 11 #[.slice a l.length cl] h (Pure (.bool (fewB l)) h) := by
  refine hcalls2 Try.func11 rfl (by decide +kernel) (by simp only [Try.ntmps11]; exact of_decide_eq_true rfl) ?_
  intro e hin
  have e0 := hin 0 _ rfl
  refine hx_seq ?_
  refine hx_region ?_
  refine WL.qq (by simp only [EN, Nat.reduceEqDiff, reduceIte, qv_assign]; rfl) ?_
  refine WL.nil ?_
  refine th_norm ?_
  refine hx_seq ?_
  refine hx_seq ?_
  refine hx_region ?_
  refine WL.qq (by simp only [EN, Nat.reduceEqDiff, reduceIte, qv_assign]; rfl) ?_
  refine WL.nil ?_
  refine th_norm ?_
  refine hx_block ?_
  refine hx_loopS [2, 3, 4, 5, 6, 7, 8, 9, 10, 11, 12, 13, 14, 15, 16] (fun k e => ∃ (i : Nat), l.length - i = k ∧ (i ≤ l.length) ∧ (∀ y ∈ l.take i, y.2.size ≤ 5000) ∧ e 3 = .int .i64 i) _ ⟨0, rfl, ?_, ?_, ?_⟩ ?_
  · omega
  · simp
  · simp only [EN, Nat.reduceEqDiff, reduceIte, e0] <;> rfl
  ·
    rintro k e0L hfr0 ⟨i, rfl, hi, hno, i3_0⟩
    have k0_0 := hfr0 0 rfl; try simp only [EN, Nat.reduceEqDiff, reduceIte, e0] at k0_0
    refine hx_seq ?_
    refine hx_seq ?_
    refine hx_region ?_
    refine WL.qq (by simp only [EN, Nat.reduceEqDiff, reduceIte, qv_move, i3_0]; rfl) ?_
    refine WL.qq (by simp only [EN, Nat.reduceEqDiff, reduceIte, qv_move, k0_0]; rfl) ?_
    refine WL.qq (by simp only [EN, Nat.reduceEqDiff, reduceIte, qv_len, ln22, AR]; rfl) ?_
    refine WL.qq (by simp only [EN, Nat.reduceEqDiff, reduceIte, qv_binOp, binv_lss]; rfl) ?_
    refine WL.nil ?_
    refine th_norm ?_
    refine hx_cond (by simp only [EN, Nat.reduceEqDiff, reduceIte]; rfl) (fun hct7 => ?_) (fun hct7 => ?_)
    ·
      try simp only [BD] at hct7
      obtain ⟨x, hx⟩ := atG (l := l) (i := i) (by omega)
      obtain ⟨b, off, rfl, hr2, hc0, hc1⟩ := msg_rd hs hx
      refine hx_skip ?_
      refine th_norm ?_
      refine hx_seq ?_
      refine hx_block ?_
      refine hx_seq ?_
      refine hx_region ?_
      refine WL.qq (by simp only [EN, Nat.reduceEqDiff, reduceIte, qv_move, k0_0]; rfl) ?_
      refine WL.qq (by simp only [EN, Nat.reduceEqDiff, reduceIte, qv_move, i3_0]; rfl) ?_
      refine WL.qq (by simp only [EN, Nat.reduceEqDiff, reduceIte, qv_indexAddr]; (try simp (disch := omega) only [ix22, Int.toNat_natCast]); rfl) ?_
      refine WL.qq (by simp only [EN, Nat.reduceEqDiff, reduceIte, qv_fieldAddr, fa46_1, Nat.zero_add, Nat.reduceAdd]; rfl) ?_
      refine WL.qq (by simp only [EN, Nat.reduceEqDiff, reduceIte, k0_0, i3_0, qv_load, ld9, Int.toNat_natCast, hc1]; rfl) ?_
      refine WL.qq (by simp only [EN, Nat.reduceEqDiff, reduceIte, qv_len, ln9, AR]; rfl) ?_
      refine WL.qq (by simp only [EN, Nat.reduceEqDiff, reduceIte, qv_binOp, binv_gtr]; rfl) ?_
      refine WL.nil ?_
      refine th_norm ?_
      refine hx_cond (by simp only [EN, Nat.reduceEqDiff, reduceIte]; rfl) (fun hct16 => ?_) (fun hct16 => ?_)
      ·
        try simp only [BD] at hct16
        refine hx_seq ?_
        refine hx_region ?_
        refine WL.qq (by simp only [EN, Nat.reduceEqDiff, reduceIte, qv_assign]; rfl) ?_
        refine WL.nil ?_
        refine th_norm ?_
        refine hx_ret ?_
        refine bl_ret ?_
        refine th_ret ?_
        refine th_ret ?_
        refine bl_ret ?_
        refine th_ret ?_
        refine fin_ret [.tmp 2] rfl rfl (by simp only [EN, Nat.reduceEqDiff, reduceIte, resv, k0_0, i3_0]; rfl) ?_  -- ret 0 r5
        exact ⟨by have hx2 : l.all (fun x => decide (x.2.size ≤ 5000)) = false := (List.all_eq_false.2 ⟨x, List.mem_of_getElem? hx, by simp; omega⟩); unfold fewB; rw [hx2, Bool.false_and]; rfl, rfl⟩
      ·
        try simp only [BD] at hct16
        refine hx_skip ?_
        refine bl_norm ?_
        refine th_norm ?_
        refine hx_region ?_
        refine WL.qq (by simp only [EN, Nat.reduceEqDiff, reduceIte, qv_move, i3_0]; rfl) ?_
        refine WL.qq (by simp only [EN, Nat.reduceEqDiff, reduceIte, qv_binOp, binv_add]; (try simp (disch := omega) only [w64, w8, wu64]); rfl) ?_
        refine WL.qq (by simp only [EN, Nat.reduceEqDiff, reduceIte, qv_assign]; rfl) ?_
        refine WL.nil ?_
        refine th_norm ?_
        refine ⟨rfl, rfl, ?_, _, ?_, i + 1, rfl, ?_, ?_, ?_⟩  -- again 0 of loop 0
        · (repeat (first | exact Fr.refl _ _ | refine Fr.set rfl ?_ | refine Fr.put rfl ?_ | with_reducible refine Fr.put0 ?_))
        · omega
        · omega
        · exact all_take (p := fun y : M2 => y.2.size ≤ 5000) hno hx (by omega)
        · simp only [EN, Nat.reduceEqDiff, reduceIte, k0_0, i3_0] <;> first | rfl | (congr 1; omega)
    ·
      try simp only [BD] at hct7
      refine hx_exit ?_
      refine th_exit ?_
      refine th_exit ?_
      refine bl_hit ?_
      refine th_norm ?_
      refine hx_seq ?_
      refine hx_region ?_
      refine WL.qq (by simp only [EN, Nat.reduceEqDiff, reduceIte, qv_move, k0_0]; rfl) ?_
      refine WL.qq (by simp only [EN, Nat.reduceEqDiff, reduceIte, qv_len, ln22, AR]; rfl) ?_
      refine WL.qq (by simp only [EN, Nat.reduceEqDiff, reduceIte, qv_binOp, binv_leq]; rfl) ?_
      refine WL.qq (by simp only [EN, Nat.reduceEqDiff, reduceIte, qv_assign]; rfl) ?_
      refine WL.nil ?_
      refine th_norm ?_
      refine hx_ret ?_
      refine fin_ret [.tmp 2] rfl rfl (by simp only [EN, Nat.reduceEqDiff, reduceIte, resv, k0_0, i3_0]; rfl) ?_  -- ret 1 r6
      exact ⟨by have hx2 : l.all (fun x => decide (x.2.size ≤ 5000)) = true := (List.all_eq_true.2 fun x hx => by simpa using all_end (p := fun y : M2 => y.2.size ≤ 5000) hno (by omega) x hx); unfold fewB; rw [hx2, Bool.true_and]; simp [retOf]; omega, rfl⟩
theorem c_received {v : Value} (hG : RG w n bf) (ht : TR h0 h p w n bf) (hr : RT h v w n bf) : HCalls Try.prog 33 #[.pointer (some ⟨p, 0, none⟩), v] h (Grow (.bool true) h) := by
  have hgl := hG.len; have hw2 := hG.w2
  obtain ⟨a, c, rfl, hs, hc⟩ := hr.ex
  have hkl := gapsK_len (srt (bf.map Prod.fst)) n
  have hkl2 : (srt (bf.map Prod.fst)).length = bf.length := by rw [(srt_perm _).length_eq, List.length_map]
  refine hcalls2 Try.func33 rfl (by decide +kernel) (by simp only [Try.ntmps33]; exact of_decide_eq_true rfl) ?_
  intro e hin
  have e0 := hin 0 _ rfl
  have e1 := hin 1 _ rfl
  refine hx_seq ?_
  refine hx_region ?_
  refine WL.box2 (by simp only [EN, Nat.reduceEqDiff, reduceIte, Value.cells, e1, decide_true, Bool.not_true, Bool.not_false, decide_false, eq_self, if_true, if_false, Bool.or_false, Bool.false_or]; rfl) ?_
  intro h1 B1 hx1 hlt1 hB1
  replace ht := ht.ext hx1
  replace hs := hs.ext hx1
  refine WL.qq (by simp only [EN, Nat.reduceEqDiff, reduceIte, qv_assign, decide_true, Bool.not_true, Bool.not_false, decide_false, eq_self, if_true, if_false, Bool.or_false, Bool.false_or, hB1.cell]; rfl) ?_
  refine WL.nil ?_
  refine th_norm ?_
  refine hx_seq ?_
  refine hx_seq ?_
  apply hx_draw2 Rel.same [] [4, 11] [(4, Spec.is _), (11, Spec.is _)] rfl (by decide +kernel) rfl
  refine LD.qq rfl rfl (by simp only [EN, Nat.reduceEqDiff, reduceIte, qv_move, e0, decide_true, Bool.not_true, Bool.not_false, decide_false, eq_self, if_true, if_false, Bool.or_false, Bool.false_or, hB1.cell]; rfl) ?_
  refine LD.qq rfl rfl (by simp only [EN, Nat.reduceEqDiff, reduceIte, qv_binOp, binv_eql, eqz25, eqn25, eqm25, Option.map_some, decide_true, Bool.not_true, Bool.not_false, decide_false, eq_self, if_true, if_false, Bool.or_false, Bool.false_or, hB1.cell]; rfl) ?_
  refine LD.qq rfl rfl (by simp only [EN, Nat.reduceEqDiff, reduceIte, qv_move, decide_true, Bool.not_true, Bool.not_false, decide_false, eq_self, if_true, if_false, Bool.or_false, Bool.false_or, hB1.cell]; rfl) ?_
  refine LD.cq rfl rfl (gd_at (t := 10) rfl (by simp only [EN, Nat.reduceEqDiff, reduceIte, e0, decide_true, Bool.not_true, Bool.not_false, decide_false, eq_self, if_true, if_false, Bool.or_false, Bool.false_or, hB1.cell] <;> rfl)) (fun hg1_3 => by simp only [EN, Nat.reduceEqDiff, reduceIte, qv_move, e0, decide_true, Bool.not_true, Bool.not_false, decide_false, eq_self, if_true, if_false, Bool.or_false, Bool.false_or, hB1.cell, hg1_3, GR]; rfl) ?_
  refine LD.cck rfl rfl (gd_at (t := 10) rfl (by simp only [EN, Nat.reduceEqDiff, reduceIte, decide_true, Bool.not_true, Bool.not_false, decide_false, eq_self, if_true, if_false, Bool.or_false, Bool.false_or, hB1.cell] <;> rfl)) Try.call17 (fun hg1_4 => by intro hD hr; obtain rfl : hD = _ := hr; simp only [EN, Nat.reduceEqDiff, reduceIte, AR, decide_true, Bool.not_true, Bool.not_false, decide_false, eq_self, if_true, if_false, Bool.or_false, Bool.false_or, hB1.cell, hg1_4, GR]; exact tr_Next ht) ?_
  refine LD.cq rfl rfl (gd_at (t := 10) rfl (by simp only [EN, Nat.reduceEqDiff, reduceIte, decide_true, Bool.not_true, Bool.not_false, decide_false, eq_self, if_true, if_false, Bool.or_false, Bool.false_or, hB1.cell] <;> rfl)) (fun hg1_5 => by simp only [EN, Nat.reduceEqDiff, reduceIte, qv_fieldAddr, fa27_1, Nat.zero_add, Nat.reduceAdd, decide_true, Bool.not_true, Bool.not_false, decide_false, eq_self, if_true, if_false, Bool.or_false, Bool.false_or, hB1.cell, hg1_5, GR]; rfl) ?_
  refine LD.cq rfl rfl (gd_at (t := 10) rfl (by simp only [EN, Nat.reduceEqDiff, reduceIte, decide_true, Bool.not_true, Bool.not_false, decide_false, eq_self, if_true, if_false, Bool.or_false, Bool.false_or, hB1.cell] <;> rfl)) (fun hg1_6 => by simp only [EN, Nat.reduceEqDiff, reduceIte, qv_load, ld3, readN, AR, Nat.zero_add, Nat.reduceAdd, decide_true, Bool.not_true, Bool.not_false, decide_false, eq_self, if_true, if_false, Bool.or_false, Bool.false_or, hB1.cell, hg1_6, GR]; rfl) ?_
  refine LD.cq rfl rfl (gd_at (t := 10) rfl (by simp only [EN, Nat.reduceEqDiff, reduceIte, decide_true, Bool.not_true, Bool.not_false, decide_false, eq_self, if_true, if_false, Bool.or_false, Bool.false_or, hB1.cell] <;> rfl)) (fun hg1_7 => by simp only [EN, Nat.reduceEqDiff, reduceIte, qv_binOp, binv_neq, eq3, Option.map_some, decide_true, Bool.not_true, Bool.not_false, decide_false, eq_self, if_true, if_false, Bool.or_false, Bool.false_or, hB1.cell, hg1_7, GR]; rfl) ?_
  refine LD.qq rfl rfl (by simp only [EN, Nat.reduceEqDiff, reduceIte, qv_pick, pk_and, pk_or, GR, decide_true, Bool.not_true, Bool.not_false, decide_false, eq_self, if_true, if_false, Bool.or_false, Bool.false_or, hB1.cell]; rfl) ?_
  refine LD.qq rfl rfl (by simp only [EN, Nat.reduceEqDiff, reduceIte, qv_move, decide_true, Bool.not_true, Bool.not_false, decide_false, eq_self, if_true, if_false, Bool.or_false, Bool.false_or, hB1.cell]; rfl) ?_
  refine LD.cq rfl rfl (gd_at (t := 17) rfl (by simp only [EN, Nat.reduceEqDiff, reduceIte, e0, decide_true, Bool.not_true, Bool.not_false, decide_false, eq_self, if_true, if_false, Bool.or_false, Bool.false_or, hB1.cell] <;> rfl)) (fun hg1_10 => by simp only [EN, Nat.reduceEqDiff, reduceIte, qv_move, e0, decide_true, Bool.not_true, Bool.not_false, decide_false, eq_self, if_true, if_false, Bool.or_false, Bool.false_or, hB1.cell, hg1_10, GR]; rfl) ?_
  refine LD.cck rfl rfl (gd_at (t := 17) rfl (by simp only [EN, Nat.reduceEqDiff, reduceIte, decide_true, Bool.not_true, Bool.not_false, decide_false, eq_self, if_true, if_false, Bool.or_false, Bool.false_or, hB1.cell] <;> rfl)) Try.call30 (fun hg1_11 => by intro hD hr; obtain rfl : hD = _ := hr; simp only [EN, Nat.reduceEqDiff, reduceIte, AR, decide_true, Bool.not_true, Bool.not_false, decide_false, eq_self, if_true, if_false, Bool.or_false, Bool.false_or, hB1.cell, hg1_11, GR]; exact tr_Buf ht) ?_
  refine LD.cq rfl rfl (gd_at (t := 17) rfl (by simp only [EN, Nat.reduceEqDiff, reduceIte, decide_true, Bool.not_true, Bool.not_false, decide_false, eq_self, if_true, if_false, Bool.or_false, Bool.false_or, hB1.cell] <;> rfl)) (fun hg1_12 => by simp only [EN, Nat.reduceEqDiff, reduceIte, qv_fieldAddr, fa27_2, Nat.zero_add, Nat.reduceAdd, decide_true, Bool.not_true, Bool.not_false, decide_false, eq_self, if_true, if_false, Bool.or_false, Bool.false_or, hB1.cell, hg1_12, GR]; rfl) ?_
  refine LD.cq rfl rfl (gd_at (t := 17) rfl (by simp only [EN, Nat.reduceEqDiff, reduceIte, decide_true, Bool.not_true, Bool.not_false, decide_false, eq_self, if_true, if_false, Bool.or_false, Bool.false_or, hB1.cell] <;> rfl)) (fun hg1_13 => by simp only [EN, Nat.reduceEqDiff, reduceIte, qv_load, ld22, readN, AR, Nat.zero_add, Nat.reduceAdd, decide_true, Bool.not_true, Bool.not_false, decide_false, eq_self, if_true, if_false, Bool.or_false, Bool.false_or, hB1.cell, hg1_13, GR]; rfl) ?_
  refine LD.cq rfl rfl (gd_at (t := 17) rfl (by simp only [EN, Nat.reduceEqDiff, reduceIte, decide_true, Bool.not_true, Bool.not_false, decide_false, eq_self, if_true, if_false, Bool.or_false, Bool.false_or, hB1.cell] <;> rfl)) (fun hg1_14 => by simp only [EN, Nat.reduceEqDiff, reduceIte, qv_len, ln22, AR, decide_true, Bool.not_true, Bool.not_false, decide_false, eq_self, if_true, if_false, Bool.or_false, Bool.false_or, hB1.cell, hg1_14, GR]; rfl) ?_
  refine LD.cq rfl rfl (gd_at (t := 17) rfl (by simp only [EN, Nat.reduceEqDiff, reduceIte, decide_true, Bool.not_true, Bool.not_false, decide_false, eq_self, if_true, if_false, Bool.or_false, Bool.false_or, hB1.cell] <;> rfl)) (fun hg1_15 => by simp only [EN, Nat.reduceEqDiff, reduceIte, qv_binOp, binv_neq, eq3, Option.map_some, decide_true, Bool.not_true, Bool.not_false, decide_false, eq_self, if_true, if_false, Bool.or_false, Bool.false_or, hB1.cell, hg1_15, GR]; rfl) ?_
  refine LD.qq rfl rfl (by simp only [EN, Nat.reduceEqDiff, reduceIte, qv_pick, pk_and, pk_or, GR, decide_true, Bool.not_true, Bool.not_false, decide_false, eq_self, if_true, if_false, Bool.or_false, Bool.false_or, hB1.cell]; rfl) ?_
  refine LD.nil ?_
  rintro _ rfl -
  refine WL.nil ?_
  refine th_norm ?_
  refine hx_cond (by simp only [EN, Nat.reduceEqDiff, reduceIte, decide_true, Bool.not_true, Bool.not_false, decide_false, eq_self, if_true, if_false, Bool.or_false, Bool.false_or, hB1.cell]; rfl) (fun hct24 => ?_) (fun hct24 => ?_)
  ·
    simp at hct24
  ·
    try simp only [BD] at hct24
    refine hx_skip ?_
    refine th_norm ?_
    refine hx_seq ?_
    apply hx_draw2 Rel.grows [4, 5] [1, 3] [(1, (Spec.slg 2 gapL (gapsK n (srt (bf.map Prod.fst))))), (3, (Spec.slg 2 gapL (gapsK n (srt (bf.map Prod.fst)))))] rfl (by decide +kernel) rfl
    refine LD.qq rfl rfl (by simp only [EN, Nat.reduceEqDiff, reduceIte, qv_move, e0, decide_true, Bool.not_true, Bool.not_false, decide_false, eq_self, if_true, if_false, Bool.or_false, Bool.false_or, hB1.cell]; rfl) ?_
    refine LD.es rfl rfl (by intro hD hr hf; have hx : Ext _ _ := hr; have ht := ht.ext hx; have hs := hs.ext hx; have hB1 := hB1.ext hx; exact EOp.mono (e_call Try.call29 (by simp only [EN, Nat.reduceEqDiff, reduceIte, e0, e1, decide_true, Bool.not_true, Bool.not_false, decide_false, eq_self, if_true, if_false, Bool.or_false, Bool.false_or, hB1.cell, List.map_toArray, List.map_cons, List.map_nil]; exact tr_Miss hG ht)) (fun v h' hh => by obtain ⟨h1, a9, c9, rfl, h2⟩ := hh; exact ⟨h1, ⟨a9, c9, rfl⟩, fun a n cap hv => by cases hv; exact h2.rd⟩)) ?_
    intro u3_1 w3_1
    obtain ⟨a5, c5, rfl⟩ := w3_1
    refine LD.qq rfl rfl (by simp only [EN, Nat.reduceEqDiff, reduceIte, qv_load, ld27, readN, AR, Nat.zero_add, Nat.reduceAdd, decide_true, Bool.not_true, Bool.not_false, decide_false, eq_self, if_true, if_false, Bool.or_false, Bool.false_or, hB1.cell]; rfl) ?_
    refine LD.es rfl rfl (by intro hD hr hf; have hx : Ext _ _ := hr; have ht := ht.ext hx; have hs := hs.ext hx; have hB1 := hB1.ext hx; exact EOp.mono (e_call Try.call48 (by simp only [EN, Nat.reduceEqDiff, reduceIte, e0, e1, decide_true, Bool.not_true, Bool.not_false, decide_false, eq_self, if_true, if_false, Bool.or_false, Bool.false_or, hB1.cell, List.map_toArray, List.map_cons, List.map_nil]; exact c_rMissing a c hG hs)) (fun v h' hh => by obtain ⟨h1, a9, c9, rfl, h2⟩ := hh; exact ⟨h1, ⟨a9, c9, rfl⟩, fun a n cap hv => by cases hv; exact h2⟩)) ?_
    intro u3_3 w3_3
    obtain ⟨a6, c6, rfl⟩ := w3_3
    refine LD.skip rfl ?_
    refine LD.skip rfl ?_
    refine LD.nil ?_
    rintro h2 hx2 hF3
    replace hx2 : Ext _ _ := hx2
    replace ht := ht.ext hx2
    replace hs := hs.ext hx2
    replace hB1 := hB1.ext hx2
    obtain ⟨K, hK⟩ : ∃ K, gapsK n (srt (bf.map Prod.fst)) = K := ⟨_, rfl⟩
    have hs5 : SlG 2 gapL h2 a5 K := hK ▸ hF3 (1, .slice a5 (gapsK n (srt (bf.map Prod.fst))).length c5) (by simp) _ rfl a5 _ c5 rfl
    have hs6 : SlG 2 gapL h2 a6 K := hK ▸ hF3 (3, .slice a6 (gapsK n (srt (bf.map Prod.fst))).length c6) (by simp) _ rfl a6 _ c6 rfl
    rw [hK] at hkl
    refine WL.qq (by simp only [EN, Nat.reduceEqDiff, reduceIte, e0, e1, decide_true, Bool.not_true, Bool.not_false, decide_false, eq_self, if_true, if_false, Bool.or_false, Bool.false_or, hB1.cell, qv_assign, hK]; rfl) ?_
    refine WL.qq (by simp only [EN, Nat.reduceEqDiff, reduceIte, e0, e1, decide_true, Bool.not_true, Bool.not_false, decide_false, eq_self, if_true, if_false, Bool.or_false, Bool.false_or, hB1.cell, qv_assign, hK]; rfl) ?_
    refine WL.nil ?_
    refine th_norm ?_
    refine hx_seq ?_
    refine hx_seq ?_
    refine hx_region ?_
    refine WL.qq (by simp only [EN, Nat.reduceEqDiff, reduceIte, qv_move, decide_true, Bool.not_true, Bool.not_false, decide_false, eq_self, if_true, if_false, Bool.or_false, Bool.false_or, hB1.cell]; rfl) ?_
    refine WL.qq (by simp only [EN, Nat.reduceEqDiff, reduceIte, qv_len, ln71, AR, decide_true, Bool.not_true, Bool.not_false, decide_false, eq_self, if_true, if_false, Bool.or_false, Bool.false_or, hB1.cell]; rfl) ?_
    refine WL.qq (by simp only [EN, Nat.reduceEqDiff, reduceIte, qv_move, decide_true, Bool.not_true, Bool.not_false, decide_false, eq_self, if_true, if_false, Bool.or_false, Bool.false_or, hB1.cell]; rfl) ?_
    refine WL.qq (by simp only [EN, Nat.reduceEqDiff, reduceIte, qv_len, ln102, AR, decide_true, Bool.not_true, Bool.not_false, decide_false, eq_self, if_true, if_false, Bool.or_false, Bool.false_or, hB1.cell]; rfl) ?_
    refine WL.qq (by simp only [EN, Nat.reduceEqDiff, reduceIte, qv_binOp, binv_neq, eq3, Option.map_some, decide_true, Bool.not_true, Bool.not_false, decide_false, eq_self, if_true, if_false, Bool.or_false, Bool.false_or, hB1.cell]; rfl) ?_
    refine WL.nil ?_
    refine th_norm ?_
    refine hx_cond (by simp only [EN, Nat.reduceEqDiff, reduceIte, decide_true, Bool.not_true, Bool.not_false, decide_false, eq_self, if_true, if_false, Bool.or_false, Bool.false_or, hB1.cell]; rfl) (fun hct33 => ?_) (fun hct33 => ?_)
    ·
      simp at hct33
    ·
      try simp only [BD] at hct33
      refine hx_skip ?_
      refine th_norm ?_
      refine hx_seq ?_
      refine hx_seq ?_
      refine hx_region ?_
      refine WL.qq (by simp only [EN, Nat.reduceEqDiff, reduceIte, qv_assign, decide_true, Bool.not_true, Bool.not_false, decide_false, eq_self, if_true, if_false, Bool.or_false, Bool.false_or, hB1.cell]; rfl) ?_
      refine WL.nil ?_
      refine th_norm ?_
      refine hx_block ?_
      refine hx_loopS [4, 7, 34, 35, 36, 37, 38, 39, 40, 41, 42, 43, 44, 45, 46, 47, 48, 49, 50, 51, 52, 53, 54, 55, 56, 57, 58, 59, 60, 61, 62, 63] (fun k e => ∃ (i : Nat), K.length - i = k ∧ (i ≤ K.length) ∧ e 7 = .int .i64 i) _ ⟨0, rfl, ?_, ?_⟩ ?_
      · omega
      · simp only [EN, Nat.reduceEqDiff, reduceIte, e0, e1, decide_true, Bool.not_true, Bool.not_false, decide_false, eq_self, if_true, if_false, Bool.or_false, Bool.false_or, hB1.cell] <;> rfl
      ·
        rintro k e0L hfr0 ⟨i, rfl, hi, i7_0⟩
        have k5_0 := hfr0 5 rfl; try simp only [EN, Nat.reduceEqDiff, reduceIte, decide_true, Bool.not_true, Bool.not_false, decide_false, eq_self, if_true, if_false, Bool.or_false, Bool.false_or, hB1.cell] at k5_0
        have k6_0 := hfr0 6 rfl; try simp only [EN, Nat.reduceEqDiff, reduceIte, decide_true, Bool.not_true, Bool.not_false, decide_false, eq_self, if_true, if_false, Bool.or_false, Bool.false_or, hB1.cell] at k6_0
        refine hx_seq ?_
        refine hx_seq ?_
        refine hx_region ?_
        refine WL.qq (by simp only [EN, Nat.reduceEqDiff, reduceIte, qv_move, i7_0, decide_true, Bool.not_true, Bool.not_false, decide_false, eq_self, if_true, if_false, Bool.or_false, Bool.false_or, hB1.cell]; rfl) ?_
        refine WL.qq (by simp only [EN, Nat.reduceEqDiff, reduceIte, qv_move, k5_0, decide_true, Bool.not_true, Bool.not_false, decide_false, eq_self, if_true, if_false, Bool.or_false, Bool.false_or, hB1.cell]; rfl) ?_
        refine WL.qq (by simp only [EN, Nat.reduceEqDiff, reduceIte, qv_len, ln71, AR, decide_true, Bool.not_true, Bool.not_false, decide_false, eq_self, if_true, if_false, Bool.or_false, Bool.false_or, hB1.cell]; rfl) ?_
        refine WL.qq (by simp only [EN, Nat.reduceEqDiff, reduceIte, qv_binOp, binv_lss, decide_true, Bool.not_true, Bool.not_false, decide_false, eq_self, if_true, if_false, Bool.or_false, Bool.false_or, hB1.cell]; rfl) ?_
        refine WL.nil ?_
        refine th_norm ?_
        refine hx_cond (by simp only [EN, Nat.reduceEqDiff, reduceIte, decide_true, Bool.not_true, Bool.not_false, decide_false, eq_self, if_true, if_false, Bool.or_false, Bool.false_or, hB1.cell]; rfl) (fun hct37 => ?_) (fun hct37 => ?_)
        ·
          try simp only [BD] at hct37
          obtain ⟨x, hx⟩ := atG (l := K) (i := i) (by omega)
          obtain ⟨b1, o1, rfl, _, hc10, hc11⟩ := gap_rd hs5 hx
          obtain ⟨b2, o2, rfl, _, hc20, hc21⟩ := gap_rd hs6 hx
          refine hx_skip ?_
          refine th_norm ?_
          refine hx_seq ?_
          refine hx_block ?_
          refine hx_seq ?_
          apply hx_draw2 Rel.same [] [] [] rfl (by decide +kernel) rfl
          refine LD.qq rfl rfl (by simp only [EN, Nat.reduceEqDiff, reduceIte, qv_move, k5_0, decide_true, Bool.not_true, Bool.not_false, decide_false, eq_self, if_true, if_false, Bool.or_false, Bool.false_or, hB1.cell]; rfl) ?_
          refine LD.qq rfl rfl (by simp only [EN, Nat.reduceEqDiff, reduceIte, qv_move, i7_0, decide_true, Bool.not_true, Bool.not_false, decide_false, eq_self, if_true, if_false, Bool.or_false, Bool.false_or, hB1.cell]; rfl) ?_
          refine LD.qq rfl rfl (by simp only [EN, Nat.reduceEqDiff, reduceIte, qv_indexAddr, decide_true, Bool.not_true, Bool.not_false, decide_false, eq_self, if_true, if_false, Bool.or_false, Bool.false_or, hB1.cell]; (try simp (disch := omega) only [ix71, Int.toNat_natCast]); rfl) ?_
          refine LD.qq rfl rfl (by simp only [EN, Nat.reduceEqDiff, reduceIte, qv_fieldAddr, fa70_0, Nat.zero_add, Nat.reduceAdd, decide_true, Bool.not_true, Bool.not_false, decide_false, eq_self, if_true, if_false, Bool.or_false, Bool.false_or, hB1.cell]; rfl) ?_
          refine LD.qq rfl rfl (by simp only [EN, Nat.reduceEqDiff, reduceIte, k5_0, k6_0, i7_0, decide_true, Bool.not_true, Bool.not_false, decide_false, eq_self, if_true, if_false, Bool.or_false, Bool.false_or, hB1.cell, qv_load, ld3, Int.toNat_natCast, Nat.add_zero, hc10]; rfl) ?_
          refine LD.qq rfl rfl (by simp only [EN, Nat.reduceEqDiff, reduceIte, qv_move, k6_0, decide_true, Bool.not_true, Bool.not_false, decide_false, eq_self, if_true, if_false, Bool.or_false, Bool.false_or, hB1.cell]; rfl) ?_
          refine LD.qq rfl rfl (by simp only [EN, Nat.reduceEqDiff, reduceIte, qv_move, i7_0, decide_true, Bool.not_true, Bool.not_false, decide_false, eq_self, if_true, if_false, Bool.or_false, Bool.false_or, hB1.cell]; rfl) ?_
          refine LD.qq rfl rfl (by simp only [EN, Nat.reduceEqDiff, reduceIte, qv_indexAddr, decide_true, Bool.not_true, Bool.not_false, decide_false, eq_self, if_true, if_false, Bool.or_false, Bool.false_or, hB1.cell]; (try simp (disch := omega) only [ix102, Int.toNat_natCast]); rfl) ?_
          refine LD.qq rfl rfl (by simp only [EN, Nat.reduceEqDiff, reduceIte, k5_0, k6_0, i7_0, decide_true, Bool.not_true, Bool.not_false, decide_false, eq_self, if_true, if_false, Bool.or_false, Bool.false_or, hB1.cell, qv_indexAddr]; (try simp (disch := omega) only [ix104, Int.toNat_natCast]); rfl) ?_
          refine LD.qq rfl rfl (by simp only [EN, Nat.reduceEqDiff, reduceIte, k5_0, k6_0, i7_0, decide_true, Bool.not_true, Bool.not_false, decide_false, eq_self, if_true, if_false, Bool.or_false, Bool.false_or, hB1.cell, qv_load, ld3, Int.toNat_natCast, Int.toNat_zero, Nat.add_zero, hc20]; rfl) ?_
          refine LD.qq rfl rfl (by simp only [EN, Nat.reduceEqDiff, reduceIte, qv_binOp, binv_neq, eq3, Option.map_some, decide_true, Bool.not_true, Bool.not_false, decide_false, eq_self, if_true, if_false, Bool.or_false, Bool.false_or, hB1.cell]; rfl) ?_
          refine LD.qq rfl rfl (by simp only [EN, Nat.reduceEqDiff, reduceIte, qv_move, decide_true, Bool.not_true, Bool.not_false, decide_false, eq_self, if_true, if_false, Bool.or_false, Bool.false_or, hB1.cell]; rfl) ?_
          refine LD.cq rfl rfl (gd_at (t := 51) rfl (by simp only [EN, Nat.reduceEqDiff, reduceIte, k5_0, decide_true, Bool.not_true, Bool.not_false, decide_false, eq_self, if_true, if_false, Bool.or_false, Bool.false_or, hB1.cell] <;> rfl)) (fun hg9_12 => by simp only [EN, Nat.reduceEqDiff, reduceIte, qv_move, k5_0, decide_true, Bool.not_true, Bool.not_false, decide_false, eq_self, if_true, if_false, Bool.or_false, Bool.false_or, hB1.cell, hg9_12, GR]; rfl) ?_
          refine LD.cq rfl rfl (gd_at (t := 51) rfl (by simp only [EN, Nat.reduceEqDiff, reduceIte, i7_0, decide_true, Bool.not_true, Bool.not_false, decide_false, eq_self, if_true, if_false, Bool.or_false, Bool.false_or, hB1.cell] <;> rfl)) (fun hg9_13 => by simp only [EN, Nat.reduceEqDiff, reduceIte, qv_move, i7_0, decide_true, Bool.not_true, Bool.not_false, decide_false, eq_self, if_true, if_false, Bool.or_false, Bool.false_or, hB1.cell, hg9_13, GR]; rfl) ?_
          refine LD.cq rfl rfl (gd_at (t := 51) rfl (by simp only [EN, Nat.reduceEqDiff, reduceIte, decide_true, Bool.not_true, Bool.not_false, decide_false, eq_self, if_true, if_false, Bool.or_false, Bool.false_or, hB1.cell] <;> rfl)) (fun hg9_14 => by have hq0 := hg9_14; (try simp only [BD] at hq0); simp only [EN, Nat.reduceEqDiff, reduceIte, qv_indexAddr, decide_true, Bool.not_true, Bool.not_false, decide_false, eq_self, if_true, if_false, Bool.or_false, Bool.false_or, hB1.cell, hg9_14, GR]; (try simp (disch := omega) only [ix71, Int.toNat_natCast]); rfl) ?_
          refine LD.cq rfl rfl (gd_at (t := 51) rfl (by simp only [EN, Nat.reduceEqDiff, reduceIte, decide_true, Bool.not_true, Bool.not_false, decide_false, eq_self, if_true, if_false, Bool.or_false, Bool.false_or, hB1.cell] <;> rfl)) (fun hg9_15 => by simp only [EN, Nat.reduceEqDiff, reduceIte, qv_fieldAddr, fa70_1, Nat.zero_add, Nat.reduceAdd, decide_true, Bool.not_true, Bool.not_false, decide_false, eq_self, if_true, if_false, Bool.or_false, Bool.false_or, hB1.cell, hg9_15, GR]; rfl) ?_
          refine LD.cq rfl rfl (gd_at (t := 51) rfl (by simp only [EN, Nat.reduceEqDiff, reduceIte, decide_true, Bool.not_true, Bool.not_false, decide_false, eq_self, if_true, if_false, Bool.or_false, Bool.false_or, hB1.cell] <;> rfl)) (fun hg9_16 => by simp only [EN, Nat.reduceEqDiff, reduceIte, k5_0, k6_0, i7_0, decide_true, Bool.not_true, Bool.not_false, decide_false, eq_self, if_true, if_false, Bool.or_false, Bool.false_or, hB1.cell, GR, hg9_16, qv_load, ld3, Int.toNat_natCast, hc11]; rfl) ?_
          refine LD.cq rfl rfl (gd_at (t := 51) rfl (by simp only [EN, Nat.reduceEqDiff, reduceIte, k6_0, decide_true, Bool.not_true, Bool.not_false, decide_false, eq_self, if_true, if_false, Bool.or_false, Bool.false_or, hB1.cell] <;> rfl)) (fun hg9_17 => by simp only [EN, Nat.reduceEqDiff, reduceIte, qv_move, k6_0, decide_true, Bool.not_true, Bool.not_false, decide_false, eq_self, if_true, if_false, Bool.or_false, Bool.false_or, hB1.cell, hg9_17, GR]; rfl) ?_
          refine LD.cq rfl rfl (gd_at (t := 51) rfl (by simp only [EN, Nat.reduceEqDiff, reduceIte, i7_0, decide_true, Bool.not_true, Bool.not_false, decide_false, eq_self, if_true, if_false, Bool.or_false, Bool.false_or, hB1.cell] <;> rfl)) (fun hg9_18 => by simp only [EN, Nat.reduceEqDiff, reduceIte, qv_move, i7_0, decide_true, Bool.not_true, Bool.not_false, decide_false, eq_self, if_true, if_false, Bool.or_false, Bool.false_or, hB1.cell, hg9_18, GR]; rfl) ?_
          refine LD.cq rfl rfl (gd_at (t := 51) rfl (by simp only [EN, Nat.reduceEqDiff, reduceIte, decide_true, Bool.not_true, Bool.not_false, decide_false, eq_self, if_true, if_false, Bool.or_false, Bool.false_or, hB1.cell] <;> rfl)) (fun hg9_19 => by have hq0 := hg9_19; (try simp only [BD] at hq0); simp only [EN, Nat.reduceEqDiff, reduceIte, qv_indexAddr, decide_true, Bool.not_true, Bool.not_false, decide_false, eq_self, if_true, if_false, Bool.or_false, Bool.false_or, hB1.cell, hg9_19, GR]; (try simp (disch := omega) only [ix102, Int.toNat_natCast]); rfl) ?_
          refine LD.cq rfl rfl (gd_at (t := 51) rfl (by simp only [EN, Nat.reduceEqDiff, reduceIte, decide_true, Bool.not_true, Bool.not_false, decide_false, eq_self, if_true, if_false, Bool.or_false, Bool.false_or, hB1.cell] <;> rfl)) (fun hg9_20 => by have hq0 := hg9_20; (try simp only [BD] at hq0); simp only [EN, Nat.reduceEqDiff, reduceIte, qv_indexAddr, decide_true, Bool.not_true, Bool.not_false, decide_false, eq_self, if_true, if_false, Bool.or_false, Bool.false_or, hB1.cell, hg9_20, GR]; (try simp (disch := omega) only [ix104, Int.toNat_natCast]); rfl) ?_
          refine LD.cq rfl rfl (gd_at (t := 51) rfl (by simp only [EN, Nat.reduceEqDiff, reduceIte, decide_true, Bool.not_true, Bool.not_false, decide_false, eq_self, if_true, if_false, Bool.or_false, Bool.false_or, hB1.cell] <;> rfl)) (fun hg9_21 => by simp only [EN, Nat.reduceEqDiff, reduceIte, k5_0, k6_0, i7_0, decide_true, Bool.not_true, Bool.not_false, decide_false, eq_self, if_true, if_false, Bool.or_false, Bool.false_or, hB1.cell, GR, hg9_21, qv_load, ld3, Int.toNat_natCast, Int.toNat_one, hc21]; rfl) ?_
          refine LD.cq rfl rfl (gd_at (t := 51) rfl (by simp only [EN, Nat.reduceEqDiff, reduceIte, decide_true, Bool.not_true, Bool.not_false, decide_false, eq_self, if_true, if_false, Bool.or_false, Bool.false_or, hB1.cell] <;> rfl)) (fun hg9_22 => by simp only [EN, Nat.reduceEqDiff, reduceIte, qv_binOp, binv_neq, eq3, Option.map_some, decide_true, Bool.not_true, Bool.not_false, decide_false, eq_self, if_true, if_false, Bool.or_false, Bool.false_or, hB1.cell, hg9_22, GR]; rfl) ?_
          refine LD.qq rfl rfl (by simp only [EN, Nat.reduceEqDiff, reduceIte, qv_pick, pk_and, pk_or, GR, decide_true, Bool.not_true, Bool.not_false, decide_false, eq_self, if_true, if_false, Bool.or_false, Bool.false_or, hB1.cell]; rfl) ?_
          refine LD.nil ?_
          rintro _ rfl -
          refine WL.nil ?_
          refine th_norm ?_
          refine hx_cond (by simp only [EN, Nat.reduceEqDiff, reduceIte, decide_true, Bool.not_true, Bool.not_false, decide_false, eq_self, if_true, if_false, Bool.or_false, Bool.false_or, hB1.cell]; rfl) (fun hct63 => ?_) (fun hct63 => ?_)
          ·
            simp at hct63
          ·
            try simp only [BD] at hct63
            refine hx_skip ?_
            refine bl_norm ?_
            refine th_norm ?_
            refine hx_region ?_
            refine WL.qq (by simp only [EN, Nat.reduceEqDiff, reduceIte, qv_move, i7_0, decide_true, Bool.not_true, Bool.not_false, decide_false, eq_self, if_true, if_false, Bool.or_false, Bool.false_or, hB1.cell]; rfl) ?_
            refine WL.qq (by simp only [EN, Nat.reduceEqDiff, reduceIte, qv_binOp, binv_add, decide_true, Bool.not_true, Bool.not_false, decide_false, eq_self, if_true, if_false, Bool.or_false, Bool.false_or, hB1.cell]; (try simp (disch := omega) only [w64, w8, wu64]); rfl) ?_
            refine WL.qq (by simp only [EN, Nat.reduceEqDiff, reduceIte, qv_assign, decide_true, Bool.not_true, Bool.not_false, decide_false, eq_self, if_true, if_false, Bool.or_false, Bool.false_or, hB1.cell]; rfl) ?_
            refine WL.nil ?_
            refine th_norm ?_
            refine ⟨rfl, rfl, ?_, _, ?_, i + 1, rfl, ?_, ?_⟩  -- again 0 of loop 0
            · (repeat (first | exact Fr.refl _ _ | refine Fr.set rfl ?_ | refine Fr.put rfl ?_ | with_reducible refine Fr.put0 ?_))
            · omega
            · omega
            · simp only [EN, Nat.reduceEqDiff, reduceIte, k5_0, k6_0, i7_0, decide_true, Bool.not_true, Bool.not_false, decide_false, eq_self, if_true, if_false, Bool.or_false, Bool.false_or, hB1.cell] <;> first | rfl | (congr 1; omega)
        ·
          try simp only [BD] at hct37
          refine hx_exit ?_
          refine th_exit ?_
          refine th_exit ?_
          refine bl_hit ?_
          refine th_norm ?_
          refine hx_seq ?_
          refine hx_region ?_
          refine WL.qq (by simp only [EN, Nat.reduceEqDiff, reduceIte, qv_assign, decide_true, Bool.not_true, Bool.not_false, decide_false, eq_self, if_true, if_false, Bool.or_false, Bool.false_or, hB1.cell]; rfl) ?_
          refine WL.nil ?_
          refine th_norm ?_
          refine hx_ret ?_
          refine fin_ret [.tmp 4] rfl rfl (by simp only [EN, Nat.reduceEqDiff, reduceIte, resv, k5_0, k6_0, i7_0, decide_true, Bool.not_true, Bool.not_false, decide_false, eq_self, if_true, if_false, Bool.or_false, Bool.false_or, hB1.cell]; rfl) ?_  -- ret 0 r11
          exact ⟨rfl, ((hx1).trans (hx2))⟩
end
end GL


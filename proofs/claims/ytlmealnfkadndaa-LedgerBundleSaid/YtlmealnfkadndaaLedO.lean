/- Ledger: the sequence of keys and balances; the total of a group. -/
import Derived.Test.YtlmealnfkadndaaLedK
import Derived.Test.YtlmealnfkadndaaGl27
set_option linter.unusedSimpArgs false
set_option linter.unusedVariables false
set_option linter.unnecessarySimpa false
namespace GL
open Go Go.Proofs
set_option maxRecDepth 8000
abbrev bkP (p : Nat) : Value := .pointer (some ⟨p, 0, none⟩)
theorem c_all (v : Value) (h1 : v.oneCell' = true) (h : Heap) : HCalls Try.prog 15 #[v] h fun u h' => ∃ B, u = .func (.func 45) #[] #[.pointer (some ⟨B, 0, none⟩)] ∧ Ext h h' ∧ h.size ≤ B ∧ Has h' B (.cells v.cells 25) := by
  refine hcalls2 Try.func15 rfl (by decide +kernel) (by simp only [Try.ntmps15]; exact of_decide_eq_true rfl) ?_
  intro e hin
  have e0 := hin 0 _ rfl
  refine hx_seq ?_
  refine hx_region ?_
  refine WL.box2 (by simp only [EN, Nat.reduceEqDiff, reduceIte, Value.cells, e0]; rfl) ?_
  intro h1 B1 hx1 hlt1 hB1
  refine WL.qq (by simp only [EN, Nat.reduceEqDiff, reduceIte, qv_assign, hB1.cell]; rfl) ?_
  refine WL.nil ?_
  refine th_norm ?_
  refine hx_seq ?_
  refine hx_region ?_
  refine WL.qq (by simp only [EN, Nat.reduceEqDiff, reduceIte, qv_makeFunc, AR, hB1.cell]; rfl) ?_
  refine WL.qq (by simp only [EN, Nat.reduceEqDiff, reduceIte, qv_assign, hB1.cell]; rfl) ?_
  refine WL.nil ?_
  refine th_norm ?_
  refine hx_ret ?_
  refine fin_ret [.tmp 2] rfl rfl (by simp only [EN, Nat.reduceEqDiff, reduceIte, resv, e0, hB1.cell]; rfl) ?_  -- ret 0 r1
  exact ⟨B1, rfl, (hx1), hlt1, hB1⟩
theorem c_allYield {p bm fm : Nat} {vo : Value} {ks fs : List E2} {sq : Int} (B lp : Nat) (J : Nat → Heap → Prop) (S : Heap → Prop) (hlen : ks.length ≤ 1000000)
    (hX : ∀ i h h', J i h → Ext h h' → J i h') (hJ : ∀ i h, J i h → Has h B (.cells #[bkP p] 25) ∧ IsBk h p bm fm vo ks fs sq)
    (hy : ∀ i y h, ks[i]? = some y → J i h → HY Try.prog lp #[kV y.1, iV y.2] h fun v h' => ∃ b : Bool, v = .bool b ∧ (b = true → J (i + 1) h') ∧ (b = false → S h'))
    {h : Heap} (h0 : J 0 h) : HCalls Try.prog 45 #[.func (.yield lp) #[] #[], .pointer (some ⟨B, 0, none⟩)] h fun _ h' => J ks.length h' ∨ S h' := by
  obtain ⟨hB, hbk⟩ := hJ 0 h h0
  obtain ⟨a, cap, hvo, hs0, _⟩ := IsBk.slo hbk
  subst hvo
  refine hcalls2 Try.func45 rfl (by decide +kernel) (by simp only [Try.ntmps45]; exact of_decide_eq_true rfl) ?_
  intro e hin
  have e0 := hin 0 _ rfl
  have e1 := hin 1 _ rfl
  refine hx_seq ?_
  refine hx_seq ?_
  refine hx_region ?_
  refine WL.qq (by simp only [EN, Nat.reduceEqDiff, reduceIte, qv_load, ld25, readN, AR, Nat.zero_add, Nat.reduceAdd, e1, hB.cell, hbk.blk.cell]; rfl) ?_
  refine WL.qq (by simp only [EN, Nat.reduceEqDiff, reduceIte, qv_binOp, binv_eql, eqz25, eqn25, eqm25, Option.map_some, hB.cell, hbk.blk.cell]; rfl) ?_
  refine WL.nil ?_
  refine th_norm ?_
  refine hx_cond (by simp only [EN, Nat.reduceEqDiff, reduceIte, e0, e1, hB.cell, hbk.blk.cell]; rfl) (fun hct6 => ?_) (fun hct6 => ?_)
  ·
    simp at hct6
  ·
    try simp only [BD] at hct6
    refine hx_skip ?_
    refine th_norm ?_
    refine hx_seq ?_
    refine hx_region ?_
    refine WL.qq (by simp only [EN, Nat.reduceEqDiff, reduceIte, qv_load, ld25, readN, AR, Nat.zero_add, Nat.reduceAdd, e1, hB.cell, hbk.blk.cell]; rfl) ?_
    refine WL.qq (by simp only [EN, Nat.reduceEqDiff, reduceIte, qv_nilCheck, hB.cell, hbk.blk.cell]; rfl) ?_
    refine WL.qq (by simp only [EN, Nat.reduceEqDiff, reduceIte, qv_fieldAddr, fa83_3, Nat.zero_add, Nat.reduceAdd, hB.cell, hbk.blk.cell]; rfl) ?_
    refine WL.qq (by simp only [EN, Nat.reduceEqDiff, reduceIte, qv_load, ld81, readN, AR, Nat.zero_add, Nat.reduceAdd, hB.cell, hbk.blk.cell]; rfl) ?_
    refine WL.qq (by simp only [EN, Nat.reduceEqDiff, reduceIte, qv_len, ln81, AR, hB.cell, hbk.blk.cell]; rfl) ?_
    refine WL.qq (by simp only [EN, Nat.reduceEqDiff, reduceIte, qv_move, hB.cell, hbk.blk.cell]; rfl) ?_
    refine WL.nil ?_
    refine th_norm ?_
    refine hx_block ?_
    refine hx_loopG [4, 12, 13, 14, 15, 16, 17, 18, 19, 20, 21, 22, 23, 24, 25, 26] (fun k e hL0 => ∃ (i : Nat), ks.length - i = k ∧ (i ≤ ks.length) ∧ (KJ J hX i hL0) ∧ e 12 = .int .i64 i) _ ⟨0, rfl, ?_, ?_, ?_⟩ ?_
    · omega
    · exact ⟨h0⟩
    · simp only [EN, Nat.reduceEqDiff, reduceIte, e0, e1, hB.cell, hbk.blk.cell] <;> rfl
    ·
      rintro k e0L hL0 hfr0 ⟨i, rfl, hi, hJi, i12_0⟩
      have k0_0 := hfr0 0 rfl; try simp only [EN, Nat.reduceEqDiff, reduceIte, e0, e1, hB.cell, hbk.blk.cell] at k0_0
      have k1_0 := hfr0 1 rfl; try simp only [EN, Nat.reduceEqDiff, reduceIte, e0, e1, hB.cell, hbk.blk.cell] at k1_0
      have k10_0 := hfr0 10 rfl; try simp only [EN, Nat.reduceEqDiff, reduceIte, e0, e1, hB.cell, hbk.blk.cell] at k10_0
      have k11_0 := hfr0 11 rfl; try simp only [EN, Nat.reduceEqDiff, reduceIte, e0, e1, hB.cell, hbk.blk.cell] at k11_0
      obtain ⟨hBL, hbkL⟩ := hJ i _ hJi.j
      obtain ⟨_, _, hso, hsx, _⟩ := IsBk.slo hbkL
      cases hso
      refine hx_seq ?_
      refine hx_region ?_
      refine WL.qq (by simp only [EN, Nat.reduceEqDiff, reduceIte, qv_binOp, binv_lss, k11_0, i12_0, hB.cell, hbk.blk.cell, hBL.cell, hbkL.blk.cell]; rfl) ?_
      refine WL.nil ?_
      refine th_norm ?_
      refine hx_seq ?_
      refine hx_cond (by simp only [EN, Nat.reduceEqDiff, reduceIte, k0_0, k1_0, k10_0, k11_0, i12_0, hB.cell, hbk.blk.cell, hBL.cell, hbkL.blk.cell]; rfl) (fun hct13 => ?_) (fun hct13 => ?_)
      ·
        try simp only [BD] at hct13
        have hi2 : i < (ks.map Prod.fst).length := (by simpa using hct13)
        obtain ⟨y, hy2⟩ := atG (l := ks) (i := i) (by simpa using hi2)
        obtain ⟨b, off, ha, hr2⟩ := key_rd hsx (i := i) (x := y.1) (by rw [List.getElem?_map, hy2]; rfl)
        subst ha
        have hlk : lk ks y.1 = y.2 := lk_mem hbkL.bal.nodup (List.mem_of_getElem? hy2)
        refine hx_skip ?_
        refine th_norm ?_
        refine hx_seq ?_
        refine hx_block ?_
        refine hx_seq ?_
        refine hx_region ?_
        refine WL.qq (by simp only [EN, Nat.reduceEqDiff, reduceIte, qv_indexAddr, k10_0, i12_0, hB.cell, hbk.blk.cell, hBL.cell, hbkL.blk.cell]; (try simp (disch := omega) only [ix81, Int.toNat_natCast]); rfl) ?_
        refine WL.qq (by simp only [EN, Nat.reduceEqDiff, reduceIte, k0_0, k1_0, k10_0, k11_0, i12_0, hB.cell, hbk.blk.cell, hBL.cell, hbkL.blk.cell, qv_load, ld34, Int.toNat_natCast, hr2]; rfl) ?_
        refine WL.allocSt zr34 sz34 (fun u => by simp only [EN, Nat.reduceEqDiff, reduceIte, Value.cells, hB.cell, hbk.blk.cell, hBL.cell, hbkL.blk.cell]; rfl) ⟨rfl, rfl⟩ (by simp [Value.oneCell']) ?_
        intro h1 B1 hx1 hlt1 hB1
        replace hJi := hJi.ext hx1
        replace hBL := hBL.ext hx1
        replace hbkL := hbkL.ext hx1
        replace hsx := hsx.ext hx1
        refine WL.nil ?_
        refine th_norm ?_
        refine hx_seq ?_
        apply hx_draw2 Rel.same [8, 9] [] [] rfl (by decide +kernel) rfl
        refine LD.qq rfl rfl (by simp only [EN, Nat.reduceEqDiff, reduceIte, qv_move, k0_0, hB.cell, hbk.blk.cell, hBL.cell, hbkL.blk.cell, hB1.cell]; rfl) ?_
        refine LD.qq rfl rfl (by simp only [EN, Nat.reduceEqDiff, reduceIte, qv_load, ld34, readN, AR, Nat.zero_add, Nat.reduceAdd, hB.cell, hbk.blk.cell, hBL.cell, hbkL.blk.cell, hB1.cell]; rfl) ?_
        refine LD.qq rfl rfl (by simp only [EN, Nat.reduceEqDiff, reduceIte, qv_load, ld25, readN, AR, Nat.zero_add, Nat.reduceAdd, k1_0, hB.cell, hbk.blk.cell, hBL.cell, hbkL.blk.cell, hB1.cell]; rfl) ?_
        refine LD.qq rfl rfl (by simp only [EN, Nat.reduceEqDiff, reduceIte, qv_nilCheck, hB.cell, hbk.blk.cell, hBL.cell, hbkL.blk.cell, hB1.cell]; rfl) ?_
        refine LD.qq rfl rfl (by simp only [EN, Nat.reduceEqDiff, reduceIte, qv_fieldAddr, fa83_1, Nat.zero_add, Nat.reduceAdd, hB.cell, hbk.blk.cell, hBL.cell, hbkL.blk.cell, hB1.cell]; rfl) ?_
        refine LD.qq rfl rfl (by simp only [EN, Nat.reduceEqDiff, reduceIte, qv_load, ld80, readN, AR, Nat.zero_add, Nat.reduceAdd, hB.cell, hbk.blk.cell, hBL.cell, hbkL.blk.cell, hB1.cell]; rfl) ?_
        refine LD.qq rfl rfl (by simp only [EN, Nat.reduceEqDiff, reduceIte, qv_load, ld34, readN, AR, Nat.zero_add, Nat.reduceAdd, hB.cell, hbk.blk.cell, hBL.cell, hbkL.blk.cell, hB1.cell]; rfl) ?_
        refine LD.qq rfl rfl (by simp only [EN, Nat.reduceEqDiff, reduceIte, k0_0, k1_0, k10_0, k11_0, i12_0, hB.cell, hbk.blk.cell, hBL.cell, hbkL.blk.cell, hB1.cell, qv_lookup, hbkL.lkb, hlk]; rfl) ?_
        refine LD.skip rfl ?_
        refine LD.skip rfl ?_
        refine LD.nil ?_
        rintro _ rfl -
        refine WL.ef _ (e_yield (l := lp) (by simp only [EN, Nat.reduceEqDiff, reduceIte, k0_0, k1_0, k10_0, k11_0, i12_0, hB.cell, hbk.blk.cell, hBL.cell, hbkL.blk.cell, hB1.cell]) (by simp only [EN, Nat.reduceEqDiff, reduceIte, k0_0, k1_0, k10_0, k11_0, i12_0, hB.cell, hbk.blk.cell, hBL.cell, hbkL.blk.cell, hB1.cell, AR]; exact hy i y _ hy2 hJi.j)) ?_
        rintro _ h22 ⟨bb, rfl, hbt, hbf⟩
        simp only [put_some]
        refine WL.qq (by simp only [EN, Nat.reduceEqDiff, reduceIte, qv_unOp, unv_not, hB.cell, hbk.blk.cell, hBL.cell, hbkL.blk.cell, hB1.cell]; rfl) ?_
        refine WL.nil ?_
        refine th_norm ?_
        refine hx_cond (by simp only [EN, Nat.reduceEqDiff, reduceIte, k0_0, k1_0, k10_0, k11_0, i12_0, hB.cell, hbk.blk.cell, hBL.cell, hbkL.blk.cell, hB1.cell]; rfl) (fun hct25 => ?_) (fun hct25 => ?_)
        ·
          try simp only [BD] at hct25
          refine hx_ret ?_
          refine bl_ret ?_
          refine th_ret ?_
          refine th_ret ?_
          refine bl_ret ?_
          refine fin_ret [] rfl rfl (by simp only [EN, Nat.reduceEqDiff, reduceIte, resv, k0_0, k1_0, k10_0, k11_0, i12_0, hB.cell, hbk.blk.cell, hBL.cell, hbkL.blk.cell, hB1.cell]; rfl) ?_  -- ret 0 r4
          exact .inr (hbf (by simpa using hct25))
        ·
          try simp only [BD] at hct25
          refine hx_skip ?_
          refine bl_norm ?_
          refine th_norm ?_
          refine hx_region ?_
          refine WL.qq (by simp only [EN, Nat.reduceEqDiff, reduceIte, qv_binOp, binv_add, i12_0, hB.cell, hbk.blk.cell, hBL.cell, hbkL.blk.cell, hB1.cell]; (try simp (disch := omega) only [w64, w8, wu64]); rfl) ?_
          refine WL.qq (by simp only [EN, Nat.reduceEqDiff, reduceIte, qv_move, hB.cell, hbk.blk.cell, hBL.cell, hbkL.blk.cell, hB1.cell]; rfl) ?_
          refine WL.nil ?_
          refine th_norm ?_
          refine ⟨rfl, ?_, _, ?_, i + 1, rfl, ?_, ?_, ?_⟩  -- again 0 of loop 0
          · (repeat (first | exact Fr.refl _ _ | refine Fr.set rfl ?_ | refine Fr.put rfl ?_ | refine Fr.put0 ?_))
          · simp at hi2; omega
          · (simp at hi2; omega)
          · exact ⟨hbt (by simpa using hct25)⟩
          · simp only [EN, Nat.reduceEqDiff, reduceIte, k0_0, k1_0, k10_0, k11_0, i12_0, hB.cell, hbk.blk.cell, hBL.cell, hbkL.blk.cell, hB1.cell] <;> first | rfl | (congr 1; omega)
      ·
        try simp only [BD] at hct13
        refine hx_exit ?_
        refine th_exit ?_
        refine th_exit ?_
        refine bl_hit ?_
        refine fin_end [] rfl rfl (by simp only [EN, Nat.reduceEqDiff, reduceIte, resv, k0_0, k1_0, k10_0, k11_0, i12_0, hB.cell, hbk.blk.cell, hBL.cell, hbkL.blk.cell]; rfl) ?_  -- ret 1 r5
        have hii : i = ks.length := (by simp at hct13; omega)
        exact .inl (hii ▸ hJi.j)
theorem BkO.offA {h : Heap} {p bm fm : Nat} {vo : Value} {ks fs : List E2} {os : List K2} {sq : Int} {d : Nat} {c : Array Value} {t : TypeId} (hb : BkO h p bm fm vo ks os fs sq) (hd : Has h d (.cells c t)) (h1 : t ≠ 83) (h2 : t ≠ 34) : ∀ x ∈ blks p bm fm vo, x ≠ d := by
  intro x hx hh
  subst hh
  rw [blks_mem] at hx
  rcases hx with rfl | rfl | rfl | hx
  · exact hd.ncell hb.blk h1 rfl
  · exact hd.nmap hb.bal rfl
  · exact hd.nmap hb.flo rfl
  · exact hb.ord.ncell hd h2 hx
/-- The total of a group, as the machine adds. -/
def totM (ks : List E2) (g : ByteArray) : Int := ks.foldl (fun n x => if grpS x.1.a = g then IntKind.i64.wrap (n + x.2) else n) 0
theorem totM_step {ks : List E2} {i : Nat} {x : E2} (g : ByteArray) (hx : ks[i]? = some x) : totM (ks.take (i + 1)) g = if grpS x.1.a = g then IntKind.i64.wrap (totM (ks.take i) g + x.2) else totM (ks.take i) g := by
  rw [List.take_add_one, hx, totM, List.foldl_append]
  rfl
structure TB (h0 h7 : Heap) (B2 B3 B5 : Nat) (rec : Loop) (p : Nat) (g : ByteArray) (n : Int) (hx : Heap) : Prop where
  rx : RX h0 h7 [B5] rec hx
  b5 : Has hx B5 (.cells #[iV n] 2)
set_option maxHeartbeats 1000000 in
theorem c_total {h : Heap} {p bm fm : Nat} {vo : Value} {ks fs : List E2} {sq : Int} (g : ByteArray) (hlen : ks.length ≤ 1000000) (hbk : IsBk h p bm fm vo ks fs sq) :
    HCalls Try.prog 14 #[bkP p, .string g] h (Grow (iV (totM ks g)) h) := by
  refine hcalls2 Try.func14 rfl (by decide +kernel) (by simp only [Try.ntmps14]; exact of_decide_eq_true rfl) ?_
  intro e hin
  have e0 := hin 0 _ rfl
  have e1 := hin 1 _ rfl
  have hE : Ext h h := Ext.refl h
  refine hx_seq ?_
  refine hx_region ?_
  refine WL.box2 (by simp only [EN, Nat.reduceEqDiff, reduceIte, Value.cells, e0]; rfl) ?_
  intro h1 B1 hx1 hlt1 hB1
  replace hE := hE.trans hx1
  replace hbk := hbk.ext hx1
  refine WL.box2 (by simp only [EN, Nat.reduceEqDiff, reduceIte, Value.cells, e1, hB1.cell]; rfl) ?_
  intro h2 B2 hx2 hlt2 hB2
  replace hE := hE.trans hx2
  replace hbk := hbk.ext hx2
  replace hB1 := hB1.ext hx2
  refine WL.qq (by simp only [EN, Nat.reduceEqDiff, reduceIte, qv_assign, hB1.cell, hB2.cell]; rfl) ?_
  refine WL.nil ?_
  refine th_norm ?_
  refine hx_seq ?_
  refine hx_region ?_
  refine WL.alloc2 zr2 ?_
  intro h3 B3 hx3 hlt3 hB3
  have hne1_3 : B3 ≠ B1 := by have := (Array.getElem?_eq_some_iff.1 hB1).1; omega
  have hne2_3 : B3 ≠ B2 := by have := (Array.getElem?_eq_some_iff.1 hB2).1; omega
  have hb0_3 := Nat.le_trans hE.size hlt3
  have hbk_s3 := hbk
  have hB1_s3 := hB1
  have hB2_s3 := hB2
  replace hE := hE.trans hx3
  replace hbk := hbk.ext hx3
  replace hB1 := hB1.ext hx3
  replace hB2 := hB2.ext hx3
  have hEo3 := hx3
  simp only [Value.cells] at hB3
  refine WL.nil ?_
  refine th_norm ?_
  refine hx_seq ?_
  refine hx_seq ?_
  refine hx_region ?_
  refine WL.qq (by simp only [EN, Nat.reduceEqDiff, reduceIte, qv_load, ld25, readN, AR, Nat.zero_add, Nat.reduceAdd, hB1.cell, hB2.cell, hB3.cell]; rfl) ?_
  refine WL.ce Try.call15 (by simp only [EN, Nat.reduceEqDiff, reduceIte, AR, hB1.cell, hB2.cell, hB3.cell]; exact c_all _ rfl _) ?_
  rintro _ h9 ⟨B9, rfl, hx9, hlt9, hB9⟩
  simp only [put_some]
  have hne9 : B9 ≠ B3 := (by have h9 := (Array.getElem?_eq_some_iff.1 hB3).1; omega)
  replace hE := hE.trans hx9
  replace hbk := hbk.ext hx9
  replace hB1 := hB1.ext hx9
  replace hB2 := hB2.ext hx9
  replace hB3 := hB3.ext hx9
  refine WL.nil ?_
  refine th_norm ?_
  refine hx_block ?_
  refine hx_range (by simp only [EN, Nat.reduceEqDiff, reduceIte, e0, e1, hB1.cell, hB2.cell, hB3.cell]; rfl) Try.call45 ?_
  intro fnR0 hR0 hxR0 hsR0 hdR0 hrR0
  have hlt5 : B3 < h9.size := (Array.getElem?_eq_some_iff.1 hB3).1
  have hlt1 : B1 < h9.size := (Array.getElem?_eq_some_iff.1 hB1).1
  have hlt2 : B2 < h9.size := (Array.getElem?_eq_some_iff.1 hB2).1
  have hlt9 : B9 < h9.size := (Array.getElem?_eq_some_iff.1 hB9).1
  generalize hrec : recOf _ _ _ _ _ _ _ = rec at hrR0
  refine (c_allYield (p := p) (bm := bm) (fm := fm) (vo := vo) (ks := ks) (fs := fs) (sq := sq) B9 (h9.size + 1) (fun i hx => TB h h9 B1 B2 B3 rec p g (totM (ks.take i) g) hx) (fun _ => False) hlen ?_ ?_ ?_ ?_).mono ?_
  · rintro i h1 h2 ⟨q1, q2⟩ he; exact ⟨q1.ext he, q2.ext he⟩
  · rintro i hx ⟨q1, q2⟩; exact ⟨hB9.gs q1.gs (by simpa using hne9), hbk.gsA q1.gs (fun x hx => by simp; exact hbk.offA hB3 (by decide) (by decide) x hx)⟩
  rotate_left
  · exact ⟨RX.start hxR0 hsR0 hdR0 hrR0 hE (by simp; omega) (by simp; omega), hB3.ext hxR0⟩
  rotate_left
  ·
    rintro i y hx hyi ⟨hC, hT⟩
    have hsz := hC.size
    subst hrec
    refine hy_body (vs := [kV y.1, iV y.2]) (ps := [10, 11]) hC.rc rfl rfl rfl (by decide) rfl rfl ?_
    simp only [pars, List.zip_cons_cons, List.zip_nil_left, List.foldl_cons, List.foldl_nil]
    have hA1 := hB1.gs hC.gs (by simp; omega)
    have hA2 := hB2.gs hC.gs (by simp; omega)
    have hbx := hbk.gsA hC.gs (fun x hx => by simp; exact hbk.offA hB3 (by decide) (by decide) x hx)
    refine hx_seq ?_
    refine hx_region ?_
    refine WL.allocSt zr34 sz34 (fun u => by simp only [EN, Nat.reduceEqDiff, reduceIte, Value.cells, hB1.cell, hB2.cell, hB3.cell, hT.cell, hA1.cell, hA2.cell, hbx.blk.cell]; rfl) ⟨rfl, rfl⟩ (by simp [Value.oneCell']) ?_
    intro h4 B4 hx4 hlt4 hB4
    replace hC := hC.ext hx4
    replace hT := hT.ext hx4
    replace hA1 := hA1.ext hx4
    replace hA2 := hA2.ext hx4
    replace hbx := hbx.ext hx4
    refine WL.nil ?_
    refine th_norm ?_
    refine hx_region ?_
    refine WL.qq (by simp only [EN, Nat.reduceEqDiff, reduceIte, qv_assign, hB1.cell, hB2.cell, hB3.cell, hT.cell, hA1.cell, hA2.cell, hbx.blk.cell, hB4.cell]; rfl) ?_
    refine WL.nil ?_
    refine th_norm ?_
    refine ⟨_, hC.rc, rfl, ?_⟩
    intro h20 hw20
    replace hC := hC.turn hw20
    replace hT := hT.wr hw20 (by omega)
    replace hB4 := hB4.wr hw20 (by omega)
    replace hA1 := hB1.gs hC.gs (by simp; omega)
    replace hA2 := hB2.gs hC.gs (by simp; omega)
    replace hbx := hbk.gsA hC.gs (fun x hx => by simp; exact hbk.offA hB3 (by decide) (by decide) x hx)
    refine hx_block ?_
    refine hx_seq ?_
    apply hx_draw2 Rel.grows [] [5] [(5, (Spec.is (.string (grpS y.1.a))))] rfl (by decide +kernel) rfl
    refine LD.qq rfl rfl (by simp only [EN, Nat.reduceEqDiff, reduceIte, qv_load, ld25, readN, AR, Nat.zero_add, Nat.reduceAdd, hB1.cell, hB2.cell, hB3.cell, hT.cell, hA1.cell, hA2.cell, hbx.blk.cell, hB4.cell]; rfl) ?_
    refine LD.qq rfl rfl (by simp only [EN, Nat.reduceEqDiff, reduceIte, qv_nilCheck, hB1.cell, hB2.cell, hB3.cell, hT.cell, hA1.cell, hA2.cell, hbx.blk.cell, hB4.cell]; rfl) ?_
    refine LD.qq rfl rfl (by simp only [EN, Nat.reduceEqDiff, reduceIte, qv_fieldAddr, fa83_0, Nat.zero_add, Nat.reduceAdd, hB1.cell, hB2.cell, hB3.cell, hT.cell, hA1.cell, hA2.cell, hbx.blk.cell, hB4.cell]; rfl) ?_
    refine LD.qq rfl rfl (by simp only [EN, Nat.reduceEqDiff, reduceIte, qv_load, ld78, readN, AR, Nat.zero_add, Nat.reduceAdd, hB1.cell, hB2.cell, hB3.cell, hT.cell, hA1.cell, hA2.cell, hbx.blk.cell, hB4.cell]; rfl) ?_
    refine LD.qq rfl rfl (by simp only [EN, Nat.reduceEqDiff, reduceIte, qv_load, ld34, readN, AR, Nat.zero_add, Nat.reduceAdd, hB1.cell, hB2.cell, hB3.cell, hT.cell, hA1.cell, hA2.cell, hbx.blk.cell, hB4.cell]; rfl) ?_
    refine LD.es rfl rfl (by intro hD hr hf; have hx : Ext _ _ := hr; have hC := hC.ext hx; have hT := hT.ext hx; have hA1 := hA1.ext hx; have hA2 := hA2.ext hx; have hbx := hbx.ext hx; have hB4 := hB4.ext hx; exact EOp.mono (R := Grow (.string (grpS y.1.a)) hD) (e_callf Try.call43 (first := #[]) (cap := #[]) (by simp only [EN, Nat.reduceEqDiff, reduceIte, e0, e1, hB1.cell, hB2.cell, hB3.cell, hT.cell, hA1.cell, hA2.cell, hbx.blk.cell, hB4.cell]) (by simp only [EN, Nat.reduceEqDiff, reduceIte, e0, e1, hB1.cell, hB2.cell, hB3.cell, hT.cell, hA1.cell, hA2.cell, hbx.blk.cell, hB4.cell, AR]; exact c_group y.1 _)) (fun _ _ hh => ⟨hh.2, hh.1, trivial⟩)) ?_
    intro u5_5 w5_5
    have hu5 : u5_5 = _ := w5_5
    subst hu5
    refine LD.qq rfl rfl (by simp only [EN, Nat.reduceEqDiff, reduceIte, qv_load, ld9, readN, AR, Nat.zero_add, Nat.reduceAdd, hB1.cell, hB2.cell, hB3.cell, hT.cell, hA1.cell, hA2.cell, hbx.blk.cell, hB4.cell]; rfl) ?_
    refine LD.qq rfl rfl (by simp only [EN, Nat.reduceEqDiff, reduceIte, qv_binOp, binv_eql, eq9, Option.map_some, hB1.cell, hB2.cell, hB3.cell, hT.cell, hA1.cell, hA2.cell, hbx.blk.cell, hB4.cell]; rfl) ?_
    refine LD.nil ?_
    rintro h5 hx5 hF5
    replace hx5 : Ext _ _ := hx5
    replace hC := hC.ext hx5
    replace hT := hT.ext hx5
    replace hA1 := hA1.ext hx5
    replace hA2 := hA2.ext hx5
    replace hbx := hbx.ext hx5
    replace hB4 := hB4.ext hx5
    refine WL.nil ?_
    refine th_norm ?_
    refine hx_cond (by simp only [EN, Nat.reduceEqDiff, reduceIte, e0, e1, hB1.cell, hB2.cell, hB3.cell, hT.cell, hA1.cell, hA2.cell, hbx.blk.cell, hB4.cell]; rfl) (fun hct19 => ?_) (fun hct19 => ?_)
    ·
      try simp only [BD] at hct19
      have hq := (MapKept.bytes_beq _ _).1 hct19
      refine hx_region ?_
      refine WL.qq (by simp only [EN, Nat.reduceEqDiff, reduceIte, qv_load, ld2, readN, AR, Nat.zero_add, Nat.reduceAdd, hB1.cell, hB2.cell, hB3.cell, hT.cell, hA1.cell, hA2.cell, hbx.blk.cell, hB4.cell]; rfl) ?_
      refine WL.qq (by simp only [EN, Nat.reduceEqDiff, reduceIte, qv_move, hB1.cell, hB2.cell, hB3.cell, hT.cell, hA1.cell, hA2.cell, hbx.blk.cell, hB4.cell]; rfl) ?_
      refine WL.qq (by simp only [EN, Nat.reduceEqDiff, reduceIte, e0, e1, hB1.cell, hB2.cell, hB3.cell, hT.cell, hA1.cell, hA2.cell, hbx.blk.cell, hB4.cell, qv_binOp, binv_add]; rfl) ?_
      refine WL.store (by simp only [EN, Nat.reduceEqDiff, reduceIte, hB1.cell, hB2.cell, hB3.cell, hT.cell, hA1.cell, hA2.cell, hbx.blk.cell, hB4.cell] <;> rfl) sz2 (by simp only [EN, Nat.reduceEqDiff, reduceIte, Value.cells, hB1.cell, hB2.cell, hB3.cell, hT.cell, hA1.cell, hA2.cell, hbx.blk.cell, hB4.cell] <;> rfl) rfl hT (by first | (simp [true_and]; done) | (simp [true_and]; omega) | omega) (by simp [Value.oneCell']) ?_
      intro h6 hw6
      replace hC := hC.put hw6 (.inl (by simp))
      replace hT : Has _ B3 (.cells #[iV (totM (ks.take (i + 1)) g)] 2) := (by rw [totM_step g hyi, if_pos hq]; have h9 := hw6.at_; simpa [splc] using h9)
      refine WL.nil ?_
      refine bl_norm ?_
      refine ⟨_, hC.rc, ?_⟩
      intro h30 hw30
      exact ⟨true, rfl, fun _ => ⟨hC.turn hw30, hT.wr hw30 (by omega)⟩, fun hh => by cases hh⟩
    ·
      try simp only [BD] at hct19
      have hq : grpS y.1.a ≠ g := fun hh => (by have := (MapKept.bytes_beq _ _).2 hh; rw [this] at hct19; cases hct19)
      replace hT : Has _ B3 (.cells #[iV (totM (ks.take (i + 1)) g)] 2) := (by rw [totM_step g hyi, if_neg hq]; exact hT)
      refine hx_skip ?_
      refine bl_norm ?_
      refine ⟨_, hC.rc, ?_⟩
      intro h30 hw30
      exact ⟨true, rfl, fun _ => ⟨hC.turn hw30, hT.wr hw30 (by omega)⟩, fun hh => by cases hh⟩
  ·
    rintro v0 h3 (⟨hC, hT⟩ | hf)
    rotate_left
    · exact hf.elim
    refine after_any hC.rc (by subst hrec; rfl) (.inl ⟨by subst hrec; rfl, ?_⟩)
    intro h31 o hw31
    rw [List.take_length] at hT
    replace hT := hT.wr hw31 (by omega)
    have hd31 : h31[h9.size]? = some (.deferred (some [])) := by rw [hw31.same _ (by omega)]; exact hC.df
    have hE31 := (hC.end_ hw31 (by omega)).2
    refine bl_norm ?_
    refine th_norm ?_
    refine hx_seq ?_
    refine hx_region ?_
    refine WL.qq (by simp only [EN, Nat.reduceEqDiff, reduceIte, qv_load, ld2, readN, AR, Nat.zero_add, Nat.reduceAdd, hB1.cell, hB2.cell, hB3.cell, hT.cell]; rfl) ?_
    refine WL.qq (by simp only [EN, Nat.reduceEqDiff, reduceIte, qv_assign, hB1.cell, hB2.cell, hB3.cell, hT.cell]; rfl) ?_
    refine WL.nil ?_
    refine th_norm ?_
    refine hx_ret ?_
    refine fin_mark (.inr rfl) [.tmp 4] rfl rfl hd31 ?_
    intro h5 hw5
    exact ⟨[iV (totM ks g)], by simp only [resv, EN, Nat.reduceEqDiff, reduceIte, e0, e1, hB1.cell, hB2.cell, hB3.cell, hT.cell], rfl, hw5.ext hE31 (by have := hE.size; omega)⟩
end GL


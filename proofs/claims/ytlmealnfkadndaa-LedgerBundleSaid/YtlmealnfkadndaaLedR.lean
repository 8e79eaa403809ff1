/- Ledger: the groups of a book, the assets of the reference. -/
import Derived.Test.YtlmealnfkadndaaLedQ
set_option linter.unusedSimpArgs false
set_option linter.unusedVariables false
set_option linter.unnecessarySimpa false
namespace GL
open Go Go.Proofs
set_option maxRecDepth 8000
abbrev asK (ks : List E2) : List Int := ks.map (fun x => x.1.a)
theorem readN_gw {h h' : Heap} {d b : Nat} {o : Obj} {x : Option (List Deferred)} (hw : Wr h h' d o) (hd : h[d]? = some (.deferred x)) : ∀ {n off : Nat} {l : List Value}, 0 < n → readN h b off n = some l → readN h' b off n = some l := by
  intro n off l hn hr
  have hne : b ≠ d := by
    rintro rfl
    cases n with
    | zero => omega
    | succ n => simp only [readN, GL.cell, hd] at hr; cases hr
  have hc : ∀ k, GL.cell h' b k = GL.cell h b k := fun k => by simp only [GL.cell, hw.same b hne]
  have hg : ∀ n off, readN h' b off n = readN h b off n := by
    intro n
    induction n with
    | zero => intro off; rfl
    | succ n ih => intro off; simp only [readN, hc, ih]
  rw [hg]; exact hr
theorem asK_rng {ks : List E2} (h : okE ks) : ∀ a ∈ asK ks, 0 ≤ a ∧ a ≤ 255 := fun a ha => by
  obtain ⟨x, hx, rfl⟩ := List.mem_map.1 ha
  exact h x hx
def aslN (us : List Int) (n : Nat) : List Int := ((List.range n).filter (fun a : Nat => decide ((a : Int) ∈ us))).map (fun a : Nat => (a : Int))
theorem aslN_succ (us : List Int) (n : Nat) : aslN us (n + 1) = aslN us n ++ if (n : Int) ∈ us then [(n : Int)] else [] := by
  unfold aslN
  rw [List.range_succ, List.filter_append, List.map_append]
  congr 1
  by_cases h : (n : Int) ∈ us
  · rw [if_pos h]; simp [h]
  · rw [if_neg h]; simp [h]
theorem aslN_len (us : List Int) (n : Nat) : (aslN us n).length ≤ n := by
  unfold aslN
  rw [List.length_map]
  exact Nat.le_trans (List.length_filter_le _ _) (by simp)
theorem c_assets (a : Option Addr) (ks : List E2) (cap : Nat) (v2 : Value) (s : Int) (hlen : ks.length ≤ 1000000) (hu : okE ks) {h : Heap} (hs : SlG 3 entL h a ks) (hv2 : v2.oneCell' = true) :
    HCalls Try.prog 53 #[.agg #[.slice a ks.length cap, v2, iV s]] h fun v h' => Ext h h' ∧ Own h' h.size 5 1 v (asl (asK ks)).length ((asl (asK ks)).flatMap fun x => [u8V x]) := by
  refine hcalls2 Try.func53 rfl (by decide +kernel) (by simp only [Try.ntmps53]; exact of_decide_eq_true rfl) ?_
  intro e hin
  have e0 := hin 0 _ rfl
  have kb := hs
  refine hx_seq ?_
  refine hx_region ?_
  refine WL.box2 (by simp only [EN, Nat.reduceEqDiff, reduceIte, Value.cells, e0]; rfl) ?_
  intro h1 B1 hx1 hlt1 hB1
  replace hs := hs.ext hx1
  refine WL.qq (by simp only [EN, Nat.reduceEqDiff, reduceIte, qv_assign, hB1.cell]; rfl) ?_
  refine WL.nil ?_
  refine th_norm ?_
  refine hx_seq ?_
  refine hx_region ?_
  refine WL.qq (by simp only [EN, Nat.reduceEqDiff, reduceIte, qv_assign, hB1.cell]; rfl) ?_
  refine WL.nil ?_
  refine th_norm ?_
  refine hx_seq ?_
  refine hx_seq ?_
  refine hx_region ?_
  refine WL.qq (by simp only [EN, Nat.reduceEqDiff, reduceIte, qv_assign, hB1.cell]; rfl) ?_
  refine WL.nil ?_
  refine th_norm ?_
  refine hx_block ?_
  refine hx_loopG [3, 4, 5, 6, 7, 8, 9, 10, 11, 12, 13, 14, 15, 16, 17, 18, 19, 20, 21, 22, 23, 24, 25, 26, 27, 28, 29, 30, 31] (fun k e hL0 => ∃ (n : Nat) (v : Value), 256 - n = k ∧ (n ≤ 256) ∧ (Ext h hL0) ∧ (Has hL0 B1 (.cells #[.slice a ks.length cap, v2, iV s] 29)) ∧ (Own hL0 h.size 5 1 v (aslN (asK ks) n).length ((aslN (asK ks) n).flatMap fun x => [u8V x])) ∧ e 4 = .int .i64 n ∧ e 3 = v) _ ⟨0, .slice none 0 0, rfl, ?_, ?_, ?_, ?_, ?_, ?_⟩ ?_
  · omega
  · exact (hx1)
  · exact hB1
  · exact Own.nil
  · simp only [EN, Nat.reduceEqDiff, reduceIte, e0, hB1.cell] <;> rfl
  · simp only [EN, Nat.reduceEqDiff, reduceIte, e0, hB1.cell] <;> rfl
  ·
    rintro k e0L hL0 hfr0 ⟨n, v, rfl, hn, hE, hB1, ho, i4_0, i3_0⟩
    have k1_0 := hfr0 1 rfl; try simp only [EN, Nat.reduceEqDiff, reduceIte, e0, hB1.cell] at k1_0
    have k2_0 := hfr0 2 rfl; try simp only [EN, Nat.reduceEqDiff, reduceIte, e0, hB1.cell] at k2_0
    have hs := kb.ext hE
    refine hx_seq ?_
    refine hx_seq ?_
    refine hx_region ?_
    refine WL.qq (by simp only [EN, Nat.reduceEqDiff, reduceIte, qv_move, i4_0, hB1.cell, hB1.cell]; rfl) ?_
    refine WL.qq (by simp only [EN, Nat.reduceEqDiff, reduceIte, qv_binOp, binv_lss, hB1.cell, hB1.cell]; rfl) ?_
    refine WL.nil ?_
    refine th_norm ?_
    refine hx_cond (by simp only [EN, Nat.reduceEqDiff, reduceIte, k1_0, k2_0, i4_0, i3_0, hB1.cell, hB1.cell]; rfl) (fun hct7 => ?_) (fun hct7 => ?_)
    ·
      try simp only [BD] at hct7
      refine hx_skip ?_
      refine th_norm ?_
      refine hx_cutG [3, 5, 10, 11, 12, 13, 14, 15, 16, 17, 18, 19, 20, 21, 22, 23, 24, 25, 26, 27, 28, 29, 30, 31] (fun e hCb1 => ∃ (v3 : Value), (Ext h hCb1) ∧ (Has hCb1 B1 (.cells #[.slice a ks.length cap, v2, iV s] 29)) ∧ (Own hCb1 h.size 5 1 v3 (aslN (asK ks) (n + 1)).length ((aslN (asK ks) (n + 1)).flatMap fun x => [u8V x])) ∧ e 3 = v3) ?_ ?_
      ·
        refine hx_block ?_
        refine hx_seq ?_
        refine hx_region ?_
        refine WL.qq (by simp only [EN, Nat.reduceEqDiff, reduceIte, qv_assign, hB1.cell, hB1.cell]; rfl) ?_
        refine WL.nil ?_
        refine th_norm ?_
        refine hx_block ?_
        refine hx_loopS [3, 5, 10, 11, 12, 13, 14, 15, 16, 17, 18, 19, 20, 21, 22, 23, 24, 25, 26, 27, 28, 29, 30, 31] (fun k e => ∃ (j : Nat), ks.length - j = k ∧ (j ≤ ks.length) ∧ (∀ x ∈ ks.take j, x.1.a ≠ n) ∧ e 5 = .int .i64 j ∧ e 3 = v) _ ⟨0, rfl, ?_, ?_, ?_, ?_⟩ ?_
        · omega
        · simp
        · simp only [EN, Nat.reduceEqDiff, reduceIte, k1_0, k2_0, i4_0, i3_0, hB1.cell, hB1.cell] <;> rfl
        · simp only [EN, Nat.reduceEqDiff, reduceIte, k1_0, k2_0, i4_0, i3_0, hB1.cell, hB1.cell] <;> rfl
        ·
          rintro k e1L hfr1 ⟨j, rfl, hj, hno, i5_1, i3_1⟩
          have k1_1 := hfr1 1 rfl; try simp only [EN, Nat.reduceEqDiff, reduceIte, k1_0, k2_0, i4_0, i3_0, hB1.cell, hB1.cell] at k1_1
          have k2_1 := hfr1 2 rfl; try simp only [EN, Nat.reduceEqDiff, reduceIte, k1_0, k2_0, i4_0, i3_0, hB1.cell, hB1.cell] at k2_1
          have k4_1 := hfr1 4 rfl; try simp only [EN, Nat.reduceEqDiff, reduceIte, k1_0, k2_0, i4_0, i3_0, hB1.cell, hB1.cell] at k4_1
          have k6_1 := hfr1 6 rfl; try simp only [EN, Nat.reduceEqDiff, reduceIte, k1_0, k2_0, i4_0, i3_0, hB1.cell, hB1.cell] at k6_1
          have k7_1 := hfr1 7 rfl; try simp only [EN, Nat.reduceEqDiff, reduceIte, k1_0, k2_0, i4_0, i3_0, hB1.cell, hB1.cell] at k7_1
          refine hx_seq ?_
          refine hx_seq ?_
          refine hx_region ?_
          refine WL.qq (by simp only [EN, Nat.reduceEqDiff, reduceIte, qv_move, i5_1, hB1.cell, hB1.cell]; rfl) ?_
          refine WL.qq (by simp only [EN, Nat.reduceEqDiff, reduceIte, qv_fieldAddr, fa29_0, Nat.zero_add, Nat.reduceAdd, k1_1, hB1.cell, hB1.cell]; rfl) ?_
          refine WL.qq (by simp only [EN, Nat.reduceEqDiff, reduceIte, qv_load, ld26, readN, AR, Nat.zero_add, Nat.reduceAdd, hB1.cell, hB1.cell]; rfl) ?_
          refine WL.qq (by simp only [EN, Nat.reduceEqDiff, reduceIte, qv_len, ln26, AR, hB1.cell, hB1.cell]; rfl) ?_
          refine WL.qq (by simp only [EN, Nat.reduceEqDiff, reduceIte, qv_binOp, binv_lss, hB1.cell, hB1.cell]; rfl) ?_
          refine WL.nil ?_
          refine th_norm ?_
          refine hx_cond (by simp only [EN, Nat.reduceEqDiff, reduceIte, k1_1, k2_1, k4_1, k6_1, k7_1, i5_1, i3_1, hB1.cell, hB1.cell]; rfl) (fun hct14 => ?_) (fun hct14 => ?_)
          ·
            try simp only [BD] at hct14
            obtain ⟨x, hx⟩ := atG (l := ks) (i := j) (by omega)
            obtain ⟨b, off, rfl, hr3, hr2, hc0, hc1, hc2⟩ := ent_rd hs hx
            have hux := hu x (List.mem_of_getElem? hx)
            refine hx_skip ?_
            refine th_norm ?_
            refine hx_seq ?_
            refine hx_block ?_
            refine hx_seq ?_
            refine hx_region ?_
            refine WL.qq (by simp only [EN, Nat.reduceEqDiff, reduceIte, qv_fieldAddr, fa29_0, Nat.zero_add, Nat.reduceAdd, k1_1, hB1.cell, hB1.cell]; rfl) ?_
            refine WL.qq (by simp only [EN, Nat.reduceEqDiff, reduceIte, qv_load, ld26, readN, AR, Nat.zero_add, Nat.reduceAdd, hB1.cell, hB1.cell]; rfl) ?_
            refine WL.qq (by simp only [EN, Nat.reduceEqDiff, reduceIte, qv_move, i5_1, hB1.cell, hB1.cell]; rfl) ?_
            refine WL.qq (by simp only [EN, Nat.reduceEqDiff, reduceIte, qv_indexAddr, hB1.cell, hB1.cell]; (try simp (disch := omega) only [ix26, Int.toNat_natCast]); rfl) ?_
            refine WL.qq (by simp only [EN, Nat.reduceEqDiff, reduceIte, qv_fieldAddr, fa44_0, Nat.zero_add, Nat.reduceAdd, hB1.cell, hB1.cell]; rfl) ?_
            refine WL.qq (by simp only [EN, Nat.reduceEqDiff, reduceIte, qv_fieldAddr, fa34_1, Nat.zero_add, Nat.reduceAdd, hB1.cell, hB1.cell]; rfl) ?_
            refine WL.qq (by simp only [EN, Nat.reduceEqDiff, reduceIte, k1_1, k2_1, k4_1, k6_1, k7_1, i5_1, i3_1, hB1.cell, hB1.cell, qv_load, ld5, Int.toNat_natCast, Nat.add_zero, hc1]; rfl) ?_
            refine WL.qq (by simp only [EN, Nat.reduceEqDiff, reduceIte, qv_convert, convv, Try.underlying5, Try.underlying3, hB1.cell, hB1.cell]; (try simp (disch := omega) only [w64, w8, wu64]); rfl) ?_
            refine WL.qq (by simp only [EN, Nat.reduceEqDiff, reduceIte, qv_move, k4_1, hB1.cell, hB1.cell]; rfl) ?_
            refine WL.qq (by simp only [EN, Nat.reduceEqDiff, reduceIte, qv_binOp, binv_eql, eq3, Option.map_some, hB1.cell, hB1.cell]; rfl) ?_
            refine WL.nil ?_
            refine th_norm ?_
            refine hx_cond (by simp only [EN, Nat.reduceEqDiff, reduceIte, k1_1, k2_1, k4_1, k6_1, k7_1, i5_1, i3_1, hB1.cell, hB1.cell]; rfl) (fun hct26 => ?_) (fun hct26 => ?_)
            ·
              try simp only [BD] at hct26
              refine hx_seq ?_
              refine hx_region ?_
              refine WL.qq (by simp only [EN, Nat.reduceEqDiff, reduceIte, qv_move, i3_1, hB1.cell, hB1.cell]; rfl) ?_
              refine WL.qq (by simp only [EN, Nat.reduceEqDiff, reduceIte, qv_move, k4_1, hB1.cell, hB1.cell]; rfl) ?_
              refine WL.qq (by simp only [EN, Nat.reduceEqDiff, reduceIte, qv_convert, convv, Try.underlying3, Try.underlying5, hB1.cell, hB1.cell]; (try simp (disch := omega) only [w64, w8, wu64]); rfl) ?_
              skip
              have hnl := aslN_len (asK ks) n
              refine WL.push (bytes := 1) Try.underlying35 (inf_of Try.type5) rfl rfl rfl rfl (by decide) (by decide) sz5 zr5 (fun u => by simp only [EN, Nat.reduceEqDiff, reduceIte, k1_1, k2_1, k4_1, k6_1, k7_1, i5_1, i3_1, hB1.cell, hB1.cell]) ho (by simp only [EN, Nat.reduceEqDiff, reduceIte, k1_1, k2_1, k4_1, k6_1, k7_1, i5_1, i3_1, hB1.cell, hB1.cell, Value.cells]; rfl) rfl (by simp [Value.oneCell']) (by simp only [maxLen]; omega) (by omega) hE.size ?_
              intro h40 v40 B40 ho40 hg40 hp40 hn40
              replace hE := hg40.ext hE (fun c hc => (ho.block c hc).1)
              replace hB1 := hB1.gr hg40 (ho.ncell hB1 (by decide))
              have hmem : (n : Int) ∈ asK ks := List.mem_map.2 ⟨x, List.mem_of_getElem? hx, by simpa using hct26⟩
              refine WL.qq (by simp only [EN, Nat.reduceEqDiff, reduceIte, qv_assign, hB1.cell, hB1.cell]; rfl) ?_
              refine WL.nil ?_
              refine th_norm ?_
              refine hx_exit ?_
              refine bl_miss rfl ?_
              refine th_exit ?_
              refine th_exit ?_
              refine bl_hit ?_
              refine bl_norm ?_
              refine th_norm ?_
              refine ⟨rfl, ?_, v40, ?_, ?_, ?_, ?_⟩  -- meet 0 of cut b1
              · (repeat (first | exact Fr.refl _ _ | refine Fr.set rfl ?_ | refine Fr.put rfl ?_ | refine Fr.put0 ?_ | refine Fr.trans ?_ (Fr.of hfr0 rfl) | refine Fr.trans ?_ (Fr.of hfr1 rfl) | refine Fr.trans ?_ (Fr.of hfcb1 rfl)))
              · exact hE
              · exact hB1
              · rw [aslN_succ, if_pos hmem, List.flatMap_append, List.length_append]; exact ho40
              · simp only [EN, Nat.reduceEqDiff, reduceIte, k1_1, k2_1, k4_1, k6_1, k7_1, i5_1, i3_1, hB1.cell, hB1.cell] <;> first | rfl | (congr 1; omega)
            ·
              try simp only [BD] at hct26
              refine hx_skip ?_
              refine bl_norm ?_
              refine th_norm ?_
              refine hx_region ?_
              refine WL.qq (by simp only [EN, Nat.reduceEqDiff, reduceIte, qv_move, i5_1, hB1.cell, hB1.cell]; rfl) ?_
              refine WL.qq (by simp only [EN, Nat.reduceEqDiff, reduceIte, qv_binOp, binv_add, hB1.cell, hB1.cell]; (try simp (disch := omega) only [w64, w8, wu64]); rfl) ?_
              refine WL.qq (by simp only [EN, Nat.reduceEqDiff, reduceIte, qv_assign, hB1.cell, hB1.cell]; rfl) ?_
              refine WL.nil ?_
              refine th_norm ?_
              refine ⟨rfl, rfl, ?_, _, ?_, j + 1, rfl, ?_, ?_, ?_, ?_⟩  -- again 0 of loop 1
              · (repeat (first | exact Fr.refl _ _ | refine Fr.set rfl ?_ | refine Fr.put rfl ?_ | refine Fr.put0 ?_ | refine Fr.trans ?_ (Fr.of hfcb1 rfl)))
              · omega
              · omega
              · intro y hy; rw [List.take_add_one, hx] at hy; rcases List.mem_append.1 hy with hy | hy; (exact hno y hy); (simp at hy; subst hy; simpa using hct26)
              · simp only [EN, Nat.reduceEqDiff, reduceIte, k1_1, k2_1, k4_1, k6_1, k7_1, i5_1, i3_1, hB1.cell, hB1.cell] <;> first | rfl | (congr 1; omega)
              · simp only [EN, Nat.reduceEqDiff, reduceIte, k1_1, k2_1, k4_1, k6_1, k7_1, i5_1, i3_1, hB1.cell, hB1.cell] <;> first | rfl | (congr 1; omega)
          ·
            try simp only [BD] at hct14
            have hnm : ¬ (n : Int) ∈ asK ks := fun hh => (by obtain ⟨y, hy, h9⟩ := List.mem_map.1 hh; exact hno y (by rw [List.take_of_length_le (by omega)]; exact hy) h9)
            refine hx_exit ?_
            refine th_exit ?_
            refine th_exit ?_
            refine bl_hit ?_
            refine bl_norm ?_
            refine th_norm ?_
            refine ⟨rfl, ?_, v, ?_, ?_, ?_, ?_⟩  -- meet 1 of cut b1
            · (repeat (first | exact Fr.refl _ _ | refine Fr.set rfl ?_ | refine Fr.put rfl ?_ | refine Fr.put0 ?_ | refine Fr.trans ?_ (Fr.of hfr0 rfl) | refine Fr.trans ?_ (Fr.of hfr1 rfl) | refine Fr.trans ?_ (Fr.of hfcb1 rfl)))
            · exact hE
            · exact hB1
            · rw [aslN_succ, if_neg hnm, List.append_nil]; exact ho
            · simp only [EN, Nat.reduceEqDiff, reduceIte, k1_1, k2_1, k4_1, k6_1, k7_1, i5_1, i3_1, hB1.cell, hB1.cell] <;> first | rfl | (congr 1; omega)
      ·
        rintro ecb1 hCb1 hfcb1 ⟨v3, hE, hB1, ho, i3_cb1⟩
        have k1_cb1 := hfcb1 1 rfl; try simp only [EN, Nat.reduceEqDiff, reduceIte, k1_0, k2_0, i4_0, i3_0, hB1.cell, hB1.cell] at k1_cb1
        have k2_cb1 := hfcb1 2 rfl; try simp only [EN, Nat.reduceEqDiff, reduceIte, k1_0, k2_0, i4_0, i3_0, hB1.cell, hB1.cell] at k2_cb1
        have k4_cb1 := hfcb1 4 rfl; try simp only [EN, Nat.reduceEqDiff, reduceIte, k1_0, k2_0, i4_0, i3_0, hB1.cell, hB1.cell] at k4_cb1
        have k6_cb1 := hfcb1 6 rfl; try simp only [EN, Nat.reduceEqDiff, reduceIte, k1_0, k2_0, i4_0, i3_0, hB1.cell, hB1.cell] at k6_cb1
        have k7_cb1 := hfcb1 7 rfl; try simp only [EN, Nat.reduceEqDiff, reduceIte, k1_0, k2_0, i4_0, i3_0, hB1.cell, hB1.cell] at k7_cb1
        refine hx_region ?_
        refine WL.qq (by simp only [EN, Nat.reduceEqDiff, reduceIte, qv_move, k4_cb1, hB1.cell, hB1.cell, hB1.cell]; rfl) ?_
        refine WL.qq (by simp only [EN, Nat.reduceEqDiff, reduceIte, qv_binOp, binv_add, hB1.cell, hB1.cell, hB1.cell]; (try simp (disch := omega) only [w64, w8, wu64]); rfl) ?_
        refine WL.qq (by simp only [EN, Nat.reduceEqDiff, reduceIte, qv_assign, hB1.cell, hB1.cell, hB1.cell]; rfl) ?_
        refine WL.nil ?_
        refine th_norm ?_
        refine ⟨rfl, ?_, _, ?_, n + 1, v3, rfl, ?_, ?_, ?_, ?_, ?_, ?_⟩  -- again 0 of loop 0
        · (repeat (first | exact Fr.refl _ _ | refine Fr.set rfl ?_ | refine Fr.put rfl ?_ | refine Fr.put0 ?_ | refine Fr.trans ?_ (Fr.of hfr1 rfl) | refine Fr.trans ?_ (Fr.of hfcb1 rfl)))
        · omega
        · omega
        · exact hE
        · exact hB1
        · exact ho
        · simp only [EN, Nat.reduceEqDiff, reduceIte, k1_cb1, k2_cb1, k4_cb1, k6_cb1, k7_cb1, i3_cb1, hB1.cell, hB1.cell, hB1.cell] <;> first | rfl | (congr 1; omega)
        · simp only [EN, Nat.reduceEqDiff, reduceIte, k1_cb1, k2_cb1, k4_cb1, k6_cb1, k7_cb1, i3_cb1, hB1.cell, hB1.cell, hB1.cell] <;> first | rfl | (congr 1; omega)
    ·
      try simp only [BD] at hct7
      have hn2 : n = 256 := (by omega); subst hn2
      refine hx_exit ?_
      refine th_exit ?_
      refine th_exit ?_
      refine bl_hit ?_
      refine th_norm ?_
      refine hx_seq ?_
      refine hx_region ?_
      refine WL.qq (by simp only [EN, Nat.reduceEqDiff, reduceIte, qv_move, i3_0, hB1.cell, hB1.cell]; rfl) ?_
      refine WL.qq (by simp only [EN, Nat.reduceEqDiff, reduceIte, qv_assign, hB1.cell, hB1.cell]; rfl) ?_
      refine WL.nil ?_
      refine th_norm ?_
      refine hx_ret ?_
      refine fin_ret [.tmp 2] rfl rfl (by simp only [EN, Nat.reduceEqDiff, reduceIte, resv, k1_0, k2_0, i4_0, i3_0, hB1.cell, hB1.cell]; rfl) ?_  -- ret 0 r10
      exact ⟨hE, ho⟩
set_option maxHeartbeats 1000000 in
/-- The list of the groups' names, in memory. -/
theorem c_groups {h : Heap} {p bm fm : Nat} {vo : Value} {ks fs : List E2} {sq : Int} (hlen : ks.length ≤ 1000000) (hu : okE ks) (hbk : IsBk h p bm fm vo ks fs sq) :
    HCalls Try.prog 42 #[bkP p] h fun v h' => Ext h h' ∧ ∃ a cap, v = .slice a (asl (asK ks)).length cap ∧ SlG 1 (fun x => [.string (grpS x)]) h' a (asl (asK ks)) := by
  refine hcalls2 Try.func42 rfl (by decide +kernel) (by simp only [Try.ntmps42]; exact of_decide_eq_true rfl) ?_
  intro e hin
  have e0 := hin 0 _ rfl
  have hE : Ext h h := Ext.refl h
  refine hx_seq ?_
  refine hx_region ?_
  refine WL.box2 (by simp only [EN, Nat.reduceEqDiff, reduceIte, Value.cells, e0]; rfl) ?_
  intro h1 B1 hx1 hlt1 hB1
  replace hE := hE.trans hx1
  replace hbk := hbk.ext hx1
  refine WL.qq (by simp only [EN, Nat.reduceEqDiff, reduceIte, qv_assign, hB1.cell]; rfl) ?_
  refine WL.nil ?_
  refine th_norm ?_
  refine hx_seq ?_
  refine hx_region ?_
  refine WL.alloc2 zr73 ?_
  intro h2 B2 hx2 hlt2 hB2
  have hne1_2 : B2 ≠ B1 := by have := (Array.getElem?_eq_some_iff.1 hB1).1; omega
  have hb0_2 := Nat.le_trans hE.size hlt2
  have hbk_s2 := hbk
  have hB1_s2 := hB1
  replace hE := hE.trans hx2
  replace hbk := hbk.ext hx2
  replace hB1 := hB1.ext hx2
  have hEo2 := hx2
  simp only [Value.cells] at hB2
  refine WL.nil ?_
  refine th_norm ?_
  refine hx_seq ?_
  refine hx_seq ?_
  refine hx_region ?_
  refine WL.qq (by simp only [EN, Nat.reduceEqDiff, reduceIte, qv_load, ld25, readN, AR, Nat.zero_add, Nat.reduceAdd, hB1.cell, hB2.cell]; rfl) ?_
  refine WL.ce Try.call15 (by simp only [EN, Nat.reduceEqDiff, reduceIte, AR, hB1.cell, hB2.cell]; exact c_all _ rfl _) ?_
  rintro _ h9 ⟨B9, rfl, hx9, hlt9, hB9⟩
  simp only [put_some]
  have hne9 : B9 ≠ B2 := (by have h9 := (Array.getElem?_eq_some_iff.1 hB2).1; omega)
  replace hE := hE.trans hx9
  replace hbk := hbk.ext hx9
  replace hB1 := hB1.ext hx9
  replace hB2 := hB2.ext hx9
  refine WL.nil ?_
  refine th_norm ?_
  refine hx_block ?_
  refine hx_range (by simp only [EN, Nat.reduceEqDiff, reduceIte, e0, hB1.cell, hB2.cell]; rfl) Try.call45 ?_
  intro fnR0 hR0 hxR0 hsR0 hdR0 hrR0
  have hlu1 : B1 < h9.size := (Array.getElem?_eq_some_iff.1 hB1).1
  have hlu2 : B2 < h9.size := (Array.getElem?_eq_some_iff.1 hB2).1
  have nbk : ∀ x ∈ blks p bm fm vo, x ∉ [B2] := (fun x hx => by simp; exact hbk.offA hB2 (by decide) (by decide) x hx)
  generalize hrec : recOf _ _ _ _ _ _ _ = rec at hrR0
  refine (c_allYield (p := p) (bm := bm) (fm := fm) (vo := vo) (ks := ks) (fs := fs) (sq := sq) B9 (h9.size + 1) (fun i hx => ∃ v, RC h h9 B2 73 9 1 rec v i ((ks.take i).map fun x => .string (grpS x.1.a)) hx) (fun _ => False) hlen ?_ ?_ ?_ ?_).mono ?_
  · rintro i h1 h2 ⟨v, q1⟩ he; exact ⟨v, q1.ext he⟩
  · rintro i hx ⟨v, q1⟩; exact ⟨hB9.gr q1.gr (by intro hh; cases hh; exact hne9 rfl), hbk.gsA (Gs.ofGr q1.gr (S := [B2]) (by simp)) nbk⟩
  rotate_left
  · exact ⟨.slice none 0 0, RC.start hB2 hxR0 hsR0 hdR0 hrR0 hE hb0_2⟩
  rotate_left
  ·
    rintro i y hx hyi ⟨v, hC⟩
    have hsz := hC.size
    have hil : i < ks.length := (List.getElem?_eq_some_iff.1 hyi).1
    subst hrec
    refine hy_body (vs := [kV y.1, iV y.2]) (ps := [7, 8]) hC.rc rfl rfl rfl (by decide) rfl rfl ?_
    simp only [pars, List.zip_cons_cons, List.zip_nil_left, List.foldl_cons, List.foldl_nil]
    have hA1 := hB1.gr hC.gr (by intro hh; cases hh; exact hne1_2 rfl)
    have hbx := hbk.gsA (Gs.ofGr hC.gr (S := [B2]) (by simp)) nbk
    have hT := hC.out
    refine hx_region ?_
    refine WL.allocSt zr34 sz34 (fun u => by simp only [EN, Nat.reduceEqDiff, reduceIte, Value.cells, hB1.cell, hB2.cell, hT.cell, hA1.cell, hbx.blk.cell]; rfl) ⟨rfl, rfl⟩ (by simp [Value.oneCell']) ?_
    intro h3 B3 hx3 hlt3 hB3
    replace hC := hC.ext hx3
    replace hT := hT.ext hx3
    replace hA1 := hA1.ext hx3
    replace hbx := hbx.ext hx3
    refine WL.nil ?_
    refine th_norm ?_
    refine ⟨_, hC.rc, rfl, ?_⟩
    intro h20 hw20
    replace hC := hC.turn hw20
    replace hT := hC.out
    replace hB3 := hB3.wr hw20 (by omega)
    replace hA1 := hB1.gr hC.gr (by intro hh; cases hh; exact hne1_2 rfl)
    replace hbx := hbk.gsA (Gs.ofGr hC.gr (S := [B2]) (by simp)) nbk
    refine hx_block ?_
    apply hx_draw2 Rel.grows [8, 9] [6, 7] [(6, (Spec.is (.string (grpS y.1.a)))), (7, Spec.ls h9.size _ _ _)] rfl (by decide +kernel) rfl
    refine LD.qq rfl rfl (by simp only [EN, Nat.reduceEqDiff, reduceIte, qv_load, ld73, readN, AR, Nat.zero_add, Nat.reduceAdd, hB1.cell, hB2.cell, hT.cell, hA1.cell, hbx.blk.cell, hB3.cell]; rfl) ?_
    refine LD.qq rfl rfl (by simp only [EN, Nat.reduceEqDiff, reduceIte, qv_load, ld25, readN, AR, Nat.zero_add, Nat.reduceAdd, hB1.cell, hB2.cell, hT.cell, hA1.cell, hbx.blk.cell, hB3.cell]; rfl) ?_
    refine LD.qq rfl rfl (by simp only [EN, Nat.reduceEqDiff, reduceIte, qv_nilCheck, hB1.cell, hB2.cell, hT.cell, hA1.cell, hbx.blk.cell, hB3.cell]; rfl) ?_
    refine LD.qq rfl rfl (by simp only [EN, Nat.reduceEqDiff, reduceIte, qv_fieldAddr, fa83_0, Nat.zero_add, Nat.reduceAdd, hB1.cell, hB2.cell, hT.cell, hA1.cell, hbx.blk.cell, hB3.cell]; rfl) ?_
    refine LD.qq rfl rfl (by simp only [EN, Nat.reduceEqDiff, reduceIte, qv_load, ld78, readN, AR, Nat.zero_add, Nat.reduceAdd, hB1.cell, hB2.cell, hT.cell, hA1.cell, hbx.blk.cell, hB3.cell]; rfl) ?_
    refine LD.qq rfl rfl (by simp only [EN, Nat.reduceEqDiff, reduceIte, qv_load, ld34, readN, AR, Nat.zero_add, Nat.reduceAdd, hB1.cell, hB2.cell, hT.cell, hA1.cell, hbx.blk.cell, hB3.cell]; rfl) ?_
    refine LD.es rfl rfl (by intro hD hr hf; have hx : Ext _ _ := hr; have hC := hC.ext hx; have hT := hT.ext hx; have hA1 := hA1.ext hx; have hbx := hbx.ext hx; have hB3 := hB3.ext hx; exact EOp.mono (R := Grow (.string (grpS y.1.a)) hD) (e_callf Try.call43 (first := #[]) (cap := #[]) (by simp only [EN, Nat.reduceEqDiff, reduceIte, e0, hB1.cell, hB2.cell, hT.cell, hA1.cell, hbx.blk.cell, hB3.cell]) (by simp only [EN, Nat.reduceEqDiff, reduceIte, e0, hB1.cell, hB2.cell, hT.cell, hA1.cell, hbx.blk.cell, hB3.cell, AR]; exact c_group y.1 _)) (fun _ _ hh => ⟨hh.2, hh.1, trivial⟩)) ?_
    intro u4_6 w4_6
    have hu5 : u4_6 = _ := w4_6
    subst hu5
    refine LD.es rfl rfl (by intro hD hr hf; have hx : Ext _ _ := hr; have hC := hC.ext hx; have hT := hT.ext hx; have hA1 := hA1.ext hx; have hbx := hbx.ext hx; have hB3 := hB3.ext hx; exact e_lit1 (Nat.le_trans (by omega) (Nat.le_trans hC.size (Nat.le_refl _))) Try.underlying73 sz9 zr9 (by decide) (by simp only [EN, Nat.reduceEqDiff, reduceIte, e0, hB1.cell, hB2.cell, hT.cell, hA1.cell, hbx.blk.cell, hB3.cell, Value.cells]; rfl) rfl) ?_
    intro u4_7 w4_7
    obtain ⟨B12, hlt12, rfl⟩ := w4_7
    refine LD.skip rfl ?_
    refine LD.skip rfl ?_
    refine LD.nil ?_
    rintro h4 hx4 hF4
    replace hx4 : Ext _ _ := hx4
    replace hC := hC.ext hx4
    replace hT := hT.ext hx4
    replace hA1 := hA1.ext hx4
    replace hbx := hbx.ext hx4
    replace hB3 := hB3.ext hx4
    have hB12 := hF4 (7, .slice (some ⟨B12, 0, none⟩) 1 1) (by simp) _ rfl B12 rfl
    refine WL.app1 (bytes := 16) Try.underlying73 (inf_of Try.type9) rfl rfl rfl rfl (by decide) (by simp only [EN, Nat.reduceEqDiff, reduceIte, e0, hB1.cell, hB2.cell, hT.cell, hA1.cell, hbx.blk.cell, hB3.cell]) hC.own (by simp only [EN, Nat.reduceEqDiff, reduceIte, e0, hB1.cell, hB2.cell, hT.cell, hA1.cell, hbx.blk.cell, hB3.cell]) hB12 rfl (by simp [Value.oneCell']) (by simp only [maxLen]; omega) (by omega) hC.size ?_
    intro h40 v40 ho40 hg40 hp40 hn40
    refine WL.store (by simp only [EN, Nat.reduceEqDiff, reduceIte, e0, hB1.cell, hB2.cell, hT.cell, hA1.cell, hbx.blk.cell, hB3.cell] <;> rfl) sz73 (by simp only [EN, Nat.reduceEqDiff, reduceIte, e0, hB1.cell, hB2.cell, hT.cell, hA1.cell, hbx.blk.cell, hB3.cell]; exact ho40.cells) rfl (hC.out.gr hg40 (hC.own.ncell hC.out (by decide))) (by simp) (by simp [ho40.one]) ?_
    intro h41 hw41
    replace hC := hC.app ho40 hg40 hw41 rfl
    refine WL.nil ?_
    refine bl_norm ?_
    refine ⟨_, hC.rc, ?_⟩
    intro h30 hw30
    have e1 : (ks.take (i + 1)).map (fun x => Value.string (grpS x.1.a)) = (ks.take i).map (fun x => Value.string (grpS x.1.a)) ++ [.string (grpS y.1.a)] := by rw [List.take_add_one, hyi]; simp
    exact ⟨true, rfl, fun _ => ⟨v40, by rw [e1]; exact hC.turn hw30⟩, fun hh => by cases hh⟩
  ·
    rintro v0 h3 (⟨v, hC⟩ | hf)
    rotate_left
    · exact hf.elim
    refine after_any hC.rc (by subst hrec; rfl) (.inl ⟨by subst hrec; rfl, ?_⟩)
    intro h31 o hw31
    have hs9 := hC.base
    have ho31 := (hC.own.keep (h' := h31) (fun c hc => hw31.same c (by have := (hC.own.block c hc).1; omega)))
    have hO := hC.out.wr hw31 (by have := hC.hi; omega)
    have hd31 : h31[h9.size]? = some (.deferred (some [])) := by rw [hw31.same _ (by omega)]; exact hC.df
    have hE31 := hw31.ext hC.ex (by omega)
    have e2 : (ks.take ks.length).map (fun x => Value.string (grpS x.1.a)) = ((asK ks).map sgl).map sV := by rw [List.take_length, List.map_map, List.map_map]; rfl
    rw [e2] at ho31
    refine bl_norm ?_
    refine th_norm ?_
    refine hx_seq ?_
    refine hx_region ?_
    refine WL.qq (by simp only [EN, Nat.reduceEqDiff, reduceIte, qv_load, ld73, readN, AR, Nat.zero_add, Nat.reduceAdd, hB1.cell, hB2.cell, hO.cell]; rfl) ?_
    refine WL.ce Try.call61 (by simp only [EN, Nat.reduceEqDiff, reduceIte, AR, hB1.cell, hB2.cell, hO.cell]; exact c_sortS ho31 (by omega)) ?_
    rintro _ h32 ⟨ho32, hg32⟩
    simp only [put_some]
    have hb31 : ∀ c, v.ownBlock = some c → h9.size + 2 ≤ c := (fun c hc => (ho31.block c hc).1)
    have hO2 := hO.gr hg32 (ho31.ncell hO (by decide))
    have hE32 := hg32.ext hE31 (fun c hc => by have := hb31 c hc; omega)
    have hd32 : h32[h9.size]? = some (.deferred (some [])) := (by rw [hg32.same _ (Array.getElem?_eq_some_iff.1 hd31).1 (fun hh => by have := hb31 _ hh; omega)]; exact hd31)
    refine WL.nil ?_
    refine th_norm ?_
    refine hx_seq ?_
    refine hx_region ?_
    refine WL.qq (by simp only [EN, Nat.reduceEqDiff, reduceIte, e0, hB1.cell, hB2.cell, hO.cell, qv_load, ld73, hO2.cell]; rfl) ?_
    refine WL.ce Try.call62 (by simp only [EN, Nat.reduceEqDiff, reduceIte, AR, hB1.cell, hB2.cell, hO.cell]; exact c_compactS ho32 (by omega)) ?_
    rintro _ h33 ⟨⟨a33, c33, rfl, hs33⟩, hg33⟩
    simp only [put_some]
    have hE33 := hg33.ext hE32 (fun c hc => by have := hb31 c hc; omega)
    have hd33 : h33[h9.size]? = some (.deferred (some [])) := (by rw [hg33.same _ (Array.getElem?_eq_some_iff.1 hd32).1 (fun hh => by have := hb31 _ hh; omega)]; exact hd32)
    refine WL.qq (by simp only [EN, Nat.reduceEqDiff, reduceIte, qv_assign, hB1.cell, hB2.cell, hO.cell]; rfl) ?_
    refine WL.nil ?_
    refine th_norm ?_
    refine hx_ret ?_
    refine fin_mark (.inr rfl) [.tmp 2] rfl rfl hd33 ?_
    intro h5 hw5
    refine ⟨[_], by simp only [resv, EN, Nat.reduceEqDiff, reduceIte, e0, hB1.cell, hB2.cell, hO.cell] <;> rfl, hw5.ext hE33 (by omega), ?_⟩
    rw [groups_eq (asK_rng hu)] at hs33 ⊢
    exact ⟨a33, c33, by simp [retOf], fun i x hi => by obtain ⟨b, off, h8, h9⟩ := hs33 i (sgl x) (by rw [List.getElem?_map, hi]; rfl); exact ⟨b, off, h8, readN_gw hw5 hd33 (by decide) h9⟩⟩
end GL


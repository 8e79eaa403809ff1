/- Ledger: the reference's lookups in a book, its check. -/
import Derived.Test.YtlmealnfkadndaaLedA
set_option linter.unusedSimpArgs false
set_option linter.unusedVariables false
set_option linter.unnecessarySimpa false
namespace GL
open Go Go.Proofs
set_option maxRecDepth 8000
theorem lk_drop {l : List E2} {i : Nat} {x : E2} {q : K2} (hx : l[i]? = some x) : lk (l.drop i) q = if x.1 = q then x.2 else lk (l.drop (i + 1)) q := by
  rw [drop_atG hx, lk_cons]
theorem c_rbal (a : Option Addr) (l : List E2) (cap : Nat) (v2 : Value) (s : Int) (q : K2) (hlen : l.length ≤ 4611686018427387904) {h : Heap} (hs : SlG 3 entL h a l) :
    HCalls Try.prog 37 #[.agg #[.slice a l.length cap, v2, iV s], kV q] h (Grow (iV (lk l q)) h) := by
  refine hcalls2 Try.func37 rfl (by decide +kernel) (by simp only [Try.ntmps37]; exact of_decide_eq_true rfl) ?_
  intro e hin
  have e0 := hin 0 _ rfl
  have e1 := hin 1 _ rfl
  refine hx_seq ?_
  refine hx_region ?_
  refine WL.box2 (by simp only [EN, Nat.reduceEqDiff, reduceIte, Value.cells, e0]; rfl) ?_
  intro h1 B1 hx1 hlt1 hB1
  replace hs := hs.ext hx1
  refine WL.box2 (by simp only [EN, Nat.reduceEqDiff, reduceIte, Value.cells, e1, hB1.cell]; rfl) ?_
  intro h2 B2 hx2 hlt2 hB2
  replace hs := hs.ext hx2
  replace hB1 := hB1.ext hx2
  refine WL.qq (by simp only [EN, Nat.reduceEqDiff, reduceIte, qv_assign, hB1.cell, hB2.cell]; rfl) ?_
  refine WL.nil ?_
  refine th_norm ?_
  refine hx_seq ?_
  refine hx_seq ?_
  refine hx_region ?_
  refine WL.qq (by simp only [EN, Nat.reduceEqDiff, reduceIte, qv_assign, hB1.cell, hB2.cell]; rfl) ?_
  refine WL.nil ?_
  refine th_norm ?_
  refine hx_block ?_
  refine hx_loopS [4, 5, 6, 7, 8, 9, 10, 11, 12, 13, 14, 15, 16, 17, 18, 19, 20, 21, 22, 23, 24, 25, 26] (fun k e => ∃ (i : Nat), l.length - i = k ∧ (i ≤ l.length) ∧ (lk (l.drop i) q = lk l q) ∧ e 5 = .int .i64 i) _ ⟨0, rfl, ?_, ?_, ?_⟩ ?_
  · omega
  · rfl
  · simp only [EN, Nat.reduceEqDiff, reduceIte, e0, e1, hB1.cell, hB2.cell] <;> rfl
  ·
    rintro k e0L hfr0 ⟨i, rfl, hi, hl, i5_0⟩
    have k2_0 := hfr0 2 rfl; try simp only [EN, Nat.reduceEqDiff, reduceIte, e0, e1, hB1.cell, hB2.cell] at k2_0
    have k3_0 := hfr0 3 rfl; try simp only [EN, Nat.reduceEqDiff, reduceIte, e0, e1, hB1.cell, hB2.cell] at k3_0
    refine hx_seq ?_
    refine hx_seq ?_
    refine hx_region ?_
    refine WL.qq (by simp only [EN, Nat.reduceEqDiff, reduceIte, qv_move, i5_0, hB1.cell, hB2.cell]; rfl) ?_
    refine WL.qq (by simp only [EN, Nat.reduceEqDiff, reduceIte, qv_fieldAddr, fa29_0, Nat.zero_add, Nat.reduceAdd, k2_0, hB1.cell, hB2.cell]; rfl) ?_
    refine WL.qq (by simp only [EN, Nat.reduceEqDiff, reduceIte, qv_load, ld26, readN, AR, Nat.zero_add, Nat.reduceAdd, hB1.cell, hB2.cell]; rfl) ?_
    refine WL.qq (by simp only [EN, Nat.reduceEqDiff, reduceIte, qv_len, ln26, AR, hB1.cell, hB2.cell]; rfl) ?_
    refine WL.qq (by simp only [EN, Nat.reduceEqDiff, reduceIte, qv_binOp, binv_lss, hB1.cell, hB2.cell]; rfl) ?_
    refine WL.nil ?_
    refine th_norm ?_
    refine hx_cond (by simp only [EN, Nat.reduceEqDiff, reduceIte, k2_0, k3_0, i5_0, hB1.cell, hB2.cell]; rfl) (fun hct10 => ?_) (fun hct10 => ?_)
    ·
      try simp only [BD] at hct10
      obtain ⟨x, hx⟩ := atG (l := l) (i := i) (by omega)
      obtain ⟨b, off, rfl, hr3, hr2, hc0, hc1, hc2⟩ := ent_rd hs hx
      rw [lk_drop hx] at hl
      refine hx_skip ?_
      refine th_norm ?_
      refine hx_seq ?_
      refine hx_block ?_
      refine hx_seq ?_
      apply hx_draw2 Rel.same [] [] [] rfl (by decide +kernel) rfl
      refine LD.qq rfl rfl (by simp only [EN, Nat.reduceEqDiff, reduceIte, qv_fieldAddr, fa29_0, Nat.zero_add, Nat.reduceAdd, k2_0, hB1.cell, hB2.cell]; rfl) ?_
      refine LD.qq rfl rfl (by simp only [EN, Nat.reduceEqDiff, reduceIte, qv_load, ld26, readN, AR, Nat.zero_add, Nat.reduceAdd, hB1.cell, hB2.cell]; rfl) ?_
      refine LD.qq rfl rfl (by simp only [EN, Nat.reduceEqDiff, reduceIte, qv_move, i5_0, hB1.cell, hB2.cell]; rfl) ?_
      refine LD.qq rfl rfl (by simp only [EN, Nat.reduceEqDiff, reduceIte, qv_indexAddr, hB1.cell, hB2.cell]; (try simp (disch := omega) only [ix26, Int.toNat_natCast]); rfl) ?_
      refine LD.qq rfl rfl (by simp only [EN, Nat.reduceEqDiff, reduceIte, qv_fieldAddr, fa44_0, Nat.zero_add, Nat.reduceAdd, hB1.cell, hB2.cell]; rfl) ?_
      refine LD.qq rfl rfl (by simp only [EN, Nat.reduceEqDiff, reduceIte, k2_0, k3_0, i5_0, hB1.cell, hB2.cell, qv_load, ld34, Int.toNat_natCast, Nat.add_zero, hr2]; rfl) ?_
      refine LD.qq rfl rfl (by simp only [EN, Nat.reduceEqDiff, reduceIte, qv_load, ld34, readN, AR, Nat.zero_add, Nat.reduceAdd, k3_0, hB1.cell, hB2.cell]; rfl) ?_
      refine LD.qq rfl rfl (by simp only [EN, Nat.reduceEqDiff, reduceIte, qv_binOp, binv_eql, eqs34, Option.map_some, hB1.cell, hB2.cell]; rfl) ?_
      refine LD.nil ?_
      rintro _ rfl -
      refine WL.nil ?_
      refine th_norm ?_
      refine hx_cond (by simp only [EN, Nat.reduceEqDiff, reduceIte, k2_0, k3_0, i5_0, hB1.cell, hB2.cell]; rfl) (fun hct20 => ?_) (fun hct20 => ?_)
      ·
        try simp only [BD] at hct20
        refine hx_seq ?_
        refine hx_region ?_
        refine WL.qq (by simp only [EN, Nat.reduceEqDiff, reduceIte, qv_fieldAddr, fa29_0, Nat.zero_add, Nat.reduceAdd, k2_0, hB1.cell, hB2.cell]; rfl) ?_
        refine WL.qq (by simp only [EN, Nat.reduceEqDiff, reduceIte, qv_load, ld26, readN, AR, Nat.zero_add, Nat.reduceAdd, hB1.cell, hB2.cell]; rfl) ?_
        refine WL.qq (by simp only [EN, Nat.reduceEqDiff, reduceIte, qv_move, i5_0, hB1.cell, hB2.cell]; rfl) ?_
        refine WL.qq (by simp only [EN, Nat.reduceEqDiff, reduceIte, qv_indexAddr, hB1.cell, hB2.cell]; (try simp (disch := omega) only [ix26, Int.toNat_natCast]); rfl) ?_
        refine WL.qq (by simp only [EN, Nat.reduceEqDiff, reduceIte, qv_fieldAddr, fa44_1, Nat.zero_add, Nat.reduceAdd, hB1.cell, hB2.cell]; rfl) ?_
        refine WL.qq (by simp only [EN, Nat.reduceEqDiff, reduceIte, k2_0, k3_0, i5_0, hB1.cell, hB2.cell, qv_load, ld2, Int.toNat_natCast, hc2]; rfl) ?_
        refine WL.qq (by simp only [EN, Nat.reduceEqDiff, reduceIte, qv_assign, hB1.cell, hB2.cell]; rfl) ?_
        refine WL.nil ?_
        refine th_norm ?_
        refine hx_ret ?_
        refine bl_ret ?_
        refine th_ret ?_
        refine th_ret ?_
        refine bl_ret ?_
        refine th_ret ?_
        refine fin_ret [.tmp 4] rfl rfl (by simp only [EN, Nat.reduceEqDiff, reduceIte, resv, k2_0, k3_0, i5_0, hB1.cell, hB2.cell]; rfl) ?_  -- ret 0 r5
        rw [if_pos (k2_eq.2 ⟨hct20.1, hct20.2.1⟩)] at hl
        exact ⟨by rw [← hl]; rfl, ((hx1).trans (hx2))⟩
      ·
        try simp only [BD] at hct20
        refine hx_skip ?_
        refine bl_norm ?_
        refine th_norm ?_
        refine hx_region ?_
        refine WL.qq (by simp only [EN, Nat.reduceEqDiff, reduceIte, qv_move, i5_0, hB1.cell, hB2.cell]; rfl) ?_
        refine WL.qq (by simp only [EN, Nat.reduceEqDiff, reduceIte, qv_binOp, binv_add, hB1.cell, hB2.cell]; (try simp (disch := omega) only [w64, w8, wu64]); rfl) ?_
        refine WL.qq (by simp only [EN, Nat.reduceEqDiff, reduceIte, qv_assign, hB1.cell, hB2.cell]; rfl) ?_
        refine WL.nil ?_
        refine th_norm ?_
        refine ⟨rfl, rfl, ?_, _, ?_, i + 1, rfl, ?_, ?_, ?_⟩  -- again 0 of loop 0
        · (repeat (first | exact Fr.refl _ _ | refine Fr.set rfl ?_ | refine Fr.put rfl ?_ | refine Fr.put0 ?_))
        · omega
        · omega
        · rw [if_neg (fun hh => by rw [hh] at hct20; simp at hct20)] at hl; exact hl
        · simp only [EN, Nat.reduceEqDiff, reduceIte, k2_0, k3_0, i5_0, hB1.cell, hB2.cell] <;> first | rfl | (congr 1; omega)
    ·
      try simp only [BD] at hct10
      refine hx_exit ?_
      refine th_exit ?_
      refine th_exit ?_
      refine bl_hit ?_
      refine th_norm ?_
      refine hx_seq ?_
      refine hx_region ?_
      refine WL.qq (by simp only [EN, Nat.reduceEqDiff, reduceIte, qv_assign, hB1.cell, hB2.cell]; rfl) ?_
      refine WL.nil ?_
      refine th_norm ?_
      refine hx_ret ?_
      refine fin_ret [.tmp 4] rfl rfl (by simp only [EN, Nat.reduceEqDiff, reduceIte, resv, k2_0, k3_0, i5_0, hB1.cell, hB2.cell]; rfl) ?_  -- ret 1 r6
      have hil : i = l.length := (by omega)
      subst hil
      rw [List.drop_length, lk_nil] at hl
      exact ⟨by rw [← hl]; rfl, ((hx1).trans (hx2))⟩
theorem c_rfloor (v1 : Value) (a : Option Addr) (l : List E2) (cap : Nat) (s : Int) (q : K2) (hlen : l.length ≤ 4611686018427387904) {h : Heap} (hs : SlG 3 entL h a l) :
    HCalls Try.prog 52 #[.agg #[v1, .slice a l.length cap, iV s], kV q] h (Grow (iV (lk l q)) h) := by
  refine hcalls2 Try.func52 rfl (by decide +kernel) (by simp only [Try.ntmps52]; exact of_decide_eq_true rfl) ?_
  intro e hin
  have e0 := hin 0 _ rfl
  have e1 := hin 1 _ rfl
  refine hx_seq ?_
  refine hx_region ?_
  refine WL.box2 (by simp only [EN, Nat.reduceEqDiff, reduceIte, Value.cells, e0]; rfl) ?_
  intro h1 B1 hx1 hlt1 hB1
  replace hs := hs.ext hx1
  refine WL.box2 (by simp only [EN, Nat.reduceEqDiff, reduceIte, Value.cells, e1, hB1.cell]; rfl) ?_
  intro h2 B2 hx2 hlt2 hB2
  replace hs := hs.ext hx2
  replace hB1 := hB1.ext hx2
  refine WL.qq (by simp only [EN, Nat.reduceEqDiff, reduceIte, qv_assign, hB1.cell, hB2.cell]; rfl) ?_
  refine WL.nil ?_
  refine th_norm ?_
  refine hx_seq ?_
  refine hx_seq ?_
  refine hx_region ?_
  refine WL.qq (by simp only [EN, Nat.reduceEqDiff, reduceIte, qv_assign, hB1.cell, hB2.cell]; rfl) ?_
  refine WL.nil ?_
  refine th_norm ?_
  refine hx_block ?_
  refine hx_loopS [4, 5, 6, 7, 8, 9, 10, 11, 12, 13, 14, 15, 16, 17, 18, 19, 20, 21, 22, 23, 24, 25, 26] (fun k e => ∃ (i : Nat), l.length - i = k ∧ (i ≤ l.length) ∧ (lk (l.drop i) q = lk l q) ∧ e 5 = .int .i64 i) _ ⟨0, rfl, ?_, ?_, ?_⟩ ?_
  · omega
  · rfl
  · simp only [EN, Nat.reduceEqDiff, reduceIte, e0, e1, hB1.cell, hB2.cell] <;> rfl
  ·
    rintro k e0L hfr0 ⟨i, rfl, hi, hl, i5_0⟩
    have k2_0 := hfr0 2 rfl; try simp only [EN, Nat.reduceEqDiff, reduceIte, e0, e1, hB1.cell, hB2.cell] at k2_0
    have k3_0 := hfr0 3 rfl; try simp only [EN, Nat.reduceEqDiff, reduceIte, e0, e1, hB1.cell, hB2.cell] at k3_0
    refine hx_seq ?_
    refine hx_seq ?_
    refine hx_region ?_
    refine WL.qq (by simp only [EN, Nat.reduceEqDiff, reduceIte, qv_move, i5_0, hB1.cell, hB2.cell]; rfl) ?_
    refine WL.qq (by simp only [EN, Nat.reduceEqDiff, reduceIte, qv_fieldAddr, fa29_1, Nat.zero_add, Nat.reduceAdd, k2_0, hB1.cell, hB2.cell]; rfl) ?_
    refine WL.qq (by simp only [EN, Nat.reduceEqDiff, reduceIte, qv_load, ld27, readN, AR, Nat.zero_add, Nat.reduceAdd, hB1.cell, hB2.cell]; rfl) ?_
    refine WL.qq (by simp only [EN, Nat.reduceEqDiff, reduceIte, qv_len, ln27, AR, hB1.cell, hB2.cell]; rfl) ?_
    refine WL.qq (by simp only [EN, Nat.reduceEqDiff, reduceIte, qv_binOp, binv_lss, hB1.cell, hB2.cell]; rfl) ?_
    refine WL.nil ?_
    refine th_norm ?_
    refine hx_cond (by simp only [EN, Nat.reduceEqDiff, reduceIte, k2_0, k3_0, i5_0, hB1.cell, hB2.cell]; rfl) (fun hct10 => ?_) (fun hct10 => ?_)
    ·
      try simp only [BD] at hct10
      obtain ⟨x, hx⟩ := atG (l := l) (i := i) (by omega)
      obtain ⟨b, off, rfl, hr3, hr2, hc0, hc1, hc2⟩ := ent_rd hs hx
      rw [lk_drop hx] at hl
      refine hx_skip ?_
      refine th_norm ?_
      refine hx_seq ?_
      refine hx_block ?_
      refine hx_seq ?_
      apply hx_draw2 Rel.same [] [] [] rfl (by decide +kernel) rfl
      refine LD.qq rfl rfl (by simp only [EN, Nat.reduceEqDiff, reduceIte, qv_fieldAddr, fa29_1, Nat.zero_add, Nat.reduceAdd, k2_0, hB1.cell, hB2.cell]; rfl) ?_
      refine LD.qq rfl rfl (by simp only [EN, Nat.reduceEqDiff, reduceIte, qv_load, ld27, readN, AR, Nat.zero_add, Nat.reduceAdd, hB1.cell, hB2.cell]; rfl) ?_
      refine LD.qq rfl rfl (by simp only [EN, Nat.reduceEqDiff, reduceIte, qv_move, i5_0, hB1.cell, hB2.cell]; rfl) ?_
      refine LD.qq rfl rfl (by simp only [EN, Nat.reduceEqDiff, reduceIte, qv_indexAddr, hB1.cell, hB2.cell]; (try simp (disch := omega) only [ix27, Int.toNat_natCast]); rfl) ?_
      refine LD.qq rfl rfl (by simp only [EN, Nat.reduceEqDiff, reduceIte, qv_fieldAddr, fa94_0, Nat.zero_add, Nat.reduceAdd, hB1.cell, hB2.cell]; rfl) ?_
      refine LD.qq rfl rfl (by simp only [EN, Nat.reduceEqDiff, reduceIte, k2_0, k3_0, i5_0, hB1.cell, hB2.cell, qv_load, ld34, Int.toNat_natCast, Nat.add_zero, hr2]; rfl) ?_
      refine LD.qq rfl rfl (by simp only [EN, Nat.reduceEqDiff, reduceIte, qv_load, ld34, readN, AR, Nat.zero_add, Nat.reduceAdd, k3_0, hB1.cell, hB2.cell]; rfl) ?_
      refine LD.qq rfl rfl (by simp only [EN, Nat.reduceEqDiff, reduceIte, qv_binOp, binv_eql, eqs34, Option.map_some, hB1.cell, hB2.cell]; rfl) ?_
      refine LD.nil ?_
      rintro _ rfl -
      refine WL.nil ?_
      refine th_norm ?_
      refine hx_cond (by simp only [EN, Nat.reduceEqDiff, reduceIte, k2_0, k3_0, i5_0, hB1.cell, hB2.cell]; rfl) (fun hct20 => ?_) (fun hct20 => ?_)
      ·
        try simp only [BD] at hct20
        refine hx_seq ?_
        refine hx_region ?_
        refine WL.qq (by simp only [EN, Nat.reduceEqDiff, reduceIte, qv_fieldAddr, fa29_1, Nat.zero_add, Nat.reduceAdd, k2_0, hB1.cell, hB2.cell]; rfl) ?_
        refine WL.qq (by simp only [EN, Nat.reduceEqDiff, reduceIte, qv_load, ld27, readN, AR, Nat.zero_add, Nat.reduceAdd, hB1.cell, hB2.cell]; rfl) ?_
        refine WL.qq (by simp only [EN, Nat.reduceEqDiff, reduceIte, qv_move, i5_0, hB1.cell, hB2.cell]; rfl) ?_
        refine WL.qq (by simp only [EN, Nat.reduceEqDiff, reduceIte, qv_indexAddr, hB1.cell, hB2.cell]; (try simp (disch := omega) only [ix27, Int.toNat_natCast]); rfl) ?_
        refine WL.qq (by simp only [EN, Nat.reduceEqDiff, reduceIte, qv_fieldAddr, fa94_1, Nat.zero_add, Nat.reduceAdd, hB1.cell, hB2.cell]; rfl) ?_
        refine WL.qq (by simp only [EN, Nat.reduceEqDiff, reduceIte, k2_0, k3_0, i5_0, hB1.cell, hB2.cell, qv_load, ld2, Int.toNat_natCast, hc2]; rfl) ?_
        refine WL.qq (by simp only [EN, Nat.reduceEqDiff, reduceIte, qv_assign, hB1.cell, hB2.cell]; rfl) ?_
        refine WL.nil ?_
        refine th_norm ?_
        refine hx_ret ?_
        refine bl_ret ?_
        refine th_ret ?_
        refine th_ret ?_
        refine bl_ret ?_
        refine th_ret ?_
        refine fin_ret [.tmp 4] rfl rfl (by simp only [EN, Nat.reduceEqDiff, reduceIte, resv, k2_0, k3_0, i5_0, hB1.cell, hB2.cell]; rfl) ?_  -- ret 0 r5
        rw [if_pos (k2_eq.2 ⟨hct20.1, hct20.2.1⟩)] at hl
        exact ⟨by rw [← hl]; rfl, ((hx1).trans (hx2))⟩
      ·
        try simp only [BD] at hct20
        refine hx_skip ?_
        refine bl_norm ?_
        refine th_norm ?_
        refine hx_region ?_
        refine WL.qq (by simp only [EN, Nat.reduceEqDiff, reduceIte, qv_move, i5_0, hB1.cell, hB2.cell]; rfl) ?_
        refine WL.qq (by simp only [EN, Nat.reduceEqDiff, reduceIte, qv_binOp, binv_add, hB1.cell, hB2.cell]; (try simp (disch := omega) only [w64, w8, wu64]); rfl) ?_
        refine WL.qq (by simp only [EN, Nat.reduceEqDiff, reduceIte, qv_assign, hB1.cell, hB2.cell]; rfl) ?_
        refine WL.nil ?_
        refine th_norm ?_
        refine ⟨rfl, rfl, ?_, _, ?_, i + 1, rfl, ?_, ?_, ?_⟩  -- again 0 of loop 0
        · (repeat (first | exact Fr.refl _ _ | refine Fr.set rfl ?_ | refine Fr.put rfl ?_ | refine Fr.put0 ?_))
        · omega
        · omega
        · rw [if_neg (fun hh => by rw [hh] at hct20; simp at hct20)] at hl; exact hl
        · simp only [EN, Nat.reduceEqDiff, reduceIte, k2_0, k3_0, i5_0, hB1.cell, hB2.cell] <;> first | rfl | (congr 1; omega)
    ·
      try simp only [BD] at hct10
      refine hx_exit ?_
      refine th_exit ?_
      refine th_exit ?_
      refine bl_hit ?_
      refine th_norm ?_
      refine hx_seq ?_
      refine hx_region ?_
      refine WL.qq (by simp only [EN, Nat.reduceEqDiff, reduceIte, qv_assign, hB1.cell, hB2.cell]; rfl) ?_
      refine WL.nil ?_
      refine th_norm ?_
      refine hx_ret ?_
      refine fin_ret [.tmp 4] rfl rfl (by simp only [EN, Nat.reduceEqDiff, reduceIte, resv, k2_0, k3_0, i5_0, hB1.cell, hB2.cell]; rfl) ?_  -- ret 1 r6
      have hil : i = l.length := (by omega)
      subst hil
      rw [List.drop_length, lk_nil] at hl
      exact ⟨by rw [← hl]; rfl, ((hx1).trans (hx2))⟩
theorem all_take {p : E2 → Prop} {l : List E2} {i : Nat} {x : E2} (h : ∀ y ∈ l.take i, p y) (hx : l[i]? = some x) (hp : p x) : ∀ y ∈ l.take (i + 1), p y := by
  intro y hy
  rw [List.take_add_one, hx, List.mem_append] at hy
  rcases hy with hy | hy
  · exact h y hy
  · simp at hy; rw [hy]; exact hp
theorem all_end {p : E2 → Prop} {l : List E2} {i : Nat} (h : ∀ y ∈ l.take i, p y) (hi : l.length ≤ i) : ∀ y ∈ l, p y := by
  rwa [List.take_of_length_le hi] at h
theorem c_rcheck (a : Option Addr) (ks : List E2) (cap : Nat) (af : Option Addr) (fs : List E2) (cf : Nat) (s : Int) (al : Option Addr) (l : List E2) (cl : Nat)
    (lk' : ks.length ≤ 4611686018427387904) (lf : fs.length ≤ 4611686018427387904) (ll : l.length ≤ 4611686018427387904) (hbal : ∀ q, vld (lk ks q) = true) {h : Heap} (hs : SlG 3 entL h a ks) (hf : SlG 3 entL h af fs) (hl : SlG 3 entL h al l) :
    HCalls Try.prog 54 #[.agg #[.slice a ks.length cap, .slice af fs.length cf, iV s], .slice al l.length cl] h (Grow (iV (chkE (lk ks) (lk fs) l)) h) := by
  refine hcalls2 Try.func54 rfl (by decide +kernel) (by simp only [Try.ntmps54]; exact of_decide_eq_true rfl) ?_
  intro e hin
  have e0 := hin 0 _ rfl
  have e1 := hin 1 _ rfl
  obtain ⟨r, hr⟩ : ∃ r, chkE (lk ks) (lk fs) l = r := ⟨_, rfl⟩
  rw [hr]
  refine hx_seq ?_
  refine hx_region ?_
  refine WL.box2 (by simp only [EN, Nat.reduceEqDiff, reduceIte, Value.cells, e0]; rfl) ?_
  intro h1 B1 hx1 hlt1 hB1
  replace hs := hs.ext hx1
  replace hf := hf.ext hx1
  replace hl := hl.ext hx1
  refine WL.qq (by simp only [EN, Nat.reduceEqDiff, reduceIte, qv_assign, hB1.cell]; rfl) ?_
  refine WL.nil ?_
  refine th_norm ?_
  refine hx_seq ?_
  refine hx_seq ?_
  refine hx_region ?_
  refine WL.qq (by simp only [EN, Nat.reduceEqDiff, reduceIte, qv_move, e1, hB1.cell]; rfl) ?_
  refine WL.qq (by simp only [EN, Nat.reduceEqDiff, reduceIte, qv_len, ln26, AR, hB1.cell]; rfl) ?_
  refine WL.qq (by simp only [EN, Nat.reduceEqDiff, reduceIte, qv_binOp, binv_eql, eq3, Option.map_some, hB1.cell]; rfl) ?_
  refine WL.nil ?_
  refine th_norm ?_
  refine hx_cond (by simp only [EN, Nat.reduceEqDiff, reduceIte, e0, e1, hB1.cell]; rfl) (fun hct15 => ?_) (fun hct15 => ?_)
  ·
    try simp only [BD] at hct15
    refine hx_seq ?_
    refine hx_region ?_
    refine WL.qq (by simp only [EN, Nat.reduceEqDiff, reduceIte, qv_assign, hB1.cell]; rfl) ?_
    refine WL.nil ?_
    refine th_norm ?_
    refine hx_ret ?_
    refine th_ret ?_
    refine fin_ret [.tmp 4] rfl rfl (by simp only [EN, Nat.reduceEqDiff, reduceIte, resv, e0, e1, hB1.cell]; rfl) ?_  -- ret 0 r2
    rw [chkE, if_pos (by omega)] at hr
    exact ⟨by rw [← hr]; rfl, (hx1)⟩
  ·
    try simp only [BD] at hct15
    rw [chkE, if_neg (by omega)] at hr
    refine hx_skip ?_
    refine th_norm ?_
    refine hx_seq ?_
    refine hx_seq ?_
    refine hx_region ?_
    refine WL.qq (by simp only [EN, Nat.reduceEqDiff, reduceIte, qv_move, e1, hB1.cell]; rfl) ?_
    refine WL.qq (by simp only [EN, Nat.reduceEqDiff, reduceIte, qv_len, ln26, AR, hB1.cell]; rfl) ?_
    refine WL.qq (by simp only [EN, Nat.reduceEqDiff, reduceIte, qv_binOp, binv_gtr, hB1.cell]; rfl) ?_
    refine WL.nil ?_
    refine th_norm ?_
    refine hx_cond (by simp only [EN, Nat.reduceEqDiff, reduceIte, e0, e1, hB1.cell]; rfl) (fun hct18 => ?_) (fun hct18 => ?_)
    ·
      try simp only [BD] at hct18
      refine hx_seq ?_
      refine hx_region ?_
      refine WL.qq (by simp only [EN, Nat.reduceEqDiff, reduceIte, qv_assign, hB1.cell]; rfl) ?_
      refine WL.nil ?_
      refine th_norm ?_
      refine hx_ret ?_
      refine th_ret ?_
      refine fin_ret [.tmp 4] rfl rfl (by simp only [EN, Nat.reduceEqDiff, reduceIte, resv, e0, e1, hB1.cell]; rfl) ?_  -- ret 1 r4
      rw [if_pos (by omega)] at hr
      exact ⟨by rw [← hr]; rfl, (hx1)⟩
    ·
      try simp only [BD] at hct18
      rw [if_neg (by omega)] at hr
      refine hx_skip ?_
      refine th_norm ?_
      refine hx_seq ?_
      refine hx_seq ?_
      refine hx_region ?_
      refine WL.qq (by simp only [EN, Nat.reduceEqDiff, reduceIte, qv_assign, hB1.cell]; rfl) ?_
      refine WL.nil ?_
      refine th_norm ?_
      refine hx_block ?_
      refine hx_loopS [4, 5, 19, 20, 21, 22, 23, 24, 25, 26, 27, 28, 29, 30, 31] (fun k e => ∃ (i : Nat), l.length - i = k ∧ (i ≤ l.length) ∧ (∀ y ∈ l.take i, vld y.2 = true) ∧ e 5 = .int .i64 i) _ ⟨0, rfl, ?_, ?_, ?_⟩ ?_
      · omega
      · simp
      · simp only [EN, Nat.reduceEqDiff, reduceIte, e0, e1, hB1.cell] <;> rfl
      ·
        rintro k e0L hfr0 ⟨i, rfl, hi, hal, i5_0⟩
        have k1_0 := hfr0 1 rfl; try simp only [EN, Nat.reduceEqDiff, reduceIte, e0, e1, hB1.cell] at k1_0
        have k2_0 := hfr0 2 rfl; try simp only [EN, Nat.reduceEqDiff, reduceIte, e0, e1, hB1.cell] at k2_0
        refine hx_seq ?_
        refine hx_seq ?_
        refine hx_region ?_
        refine WL.qq (by simp only [EN, Nat.reduceEqDiff, reduceIte, qv_move, i5_0, hB1.cell]; rfl) ?_
        refine WL.qq (by simp only [EN, Nat.reduceEqDiff, reduceIte, qv_move, k1_0, hB1.cell]; rfl) ?_
        refine WL.qq (by simp only [EN, Nat.reduceEqDiff, reduceIte, qv_len, ln26, AR, hB1.cell]; rfl) ?_
        refine WL.qq (by simp only [EN, Nat.reduceEqDiff, reduceIte, qv_binOp, binv_lss, hB1.cell]; rfl) ?_
        refine WL.nil ?_
        refine th_norm ?_
        refine hx_cond (by simp only [EN, Nat.reduceEqDiff, reduceIte, k1_0, k2_0, i5_0, hB1.cell]; rfl) (fun hct22 => ?_) (fun hct22 => ?_)
        ·
          try simp only [BD] at hct22
          obtain ⟨x, hx⟩ := atG (l := l) (i := i) (by omega)
          obtain ⟨b, off, rfl, hr3, hr2, hc0, hc1, hc2⟩ := ent_rd hl hx
          refine hx_skip ?_
          refine th_norm ?_
          refine hx_seq ?_
          refine hx_block ?_
          refine hx_seq ?_
          refine hx_region ?_
          refine WL.qq (by simp only [EN, Nat.reduceEqDiff, reduceIte, qv_move, k1_0, hB1.cell]; rfl) ?_
          refine WL.qq (by simp only [EN, Nat.reduceEqDiff, reduceIte, qv_move, i5_0, hB1.cell]; rfl) ?_
          refine WL.qq (by simp only [EN, Nat.reduceEqDiff, reduceIte, qv_indexAddr, hB1.cell]; (try simp (disch := omega) only [ix26, Int.toNat_natCast]); rfl) ?_
          refine WL.qq (by simp only [EN, Nat.reduceEqDiff, reduceIte, qv_fieldAddr, fa44_1, Nat.zero_add, Nat.reduceAdd, hB1.cell]; rfl) ?_
          refine WL.qq (by simp only [EN, Nat.reduceEqDiff, reduceIte, k1_0, k2_0, i5_0, hB1.cell, qv_load, ld2, Int.toNat_natCast, hc2]; rfl) ?_
          refine WL.ck Try.call26 (by simp only [EN, Nat.reduceEqDiff, reduceIte, AR, hB1.cell]; exact c_rValid _ _) ?_
          refine WL.qq (by simp only [EN, Nat.reduceEqDiff, reduceIte, qv_unOp, unv_not, hB1.cell]; rfl) ?_
          refine WL.nil ?_
          refine th_norm ?_
          refine hx_cond (by simp only [EN, Nat.reduceEqDiff, reduceIte, k1_0, k2_0, i5_0, hB1.cell]; rfl) (fun hct31 => ?_) (fun hct31 => ?_)
          ·
            try simp only [BD] at hct31
            refine hx_seq ?_
            refine hx_region ?_
            refine WL.qq (by simp only [EN, Nat.reduceEqDiff, reduceIte, qv_assign, hB1.cell]; rfl) ?_
            refine WL.nil ?_
            refine th_norm ?_
            refine hx_ret ?_
            refine bl_ret ?_
            refine th_ret ?_
            refine th_ret ?_
            refine bl_ret ?_
            refine th_ret ?_
            refine fin_ret [.tmp 4] rfl rfl (by simp only [EN, Nat.reduceEqDiff, reduceIte, resv, k1_0, k2_0, i5_0, hB1.cell]; rfl) ?_  -- ret 2 r9
            rw [if_pos (fun hh => by rw [hh x (List.mem_of_getElem? hx)] at hct31; cases hct31)] at hr
            exact ⟨by rw [← hr]; rfl, (hx1)⟩
          ·
            try simp only [BD] at hct31
            refine hx_skip ?_
            refine bl_norm ?_
            refine th_norm ?_
            refine hx_region ?_
            refine WL.qq (by simp only [EN, Nat.reduceEqDiff, reduceIte, qv_move, i5_0, hB1.cell]; rfl) ?_
            refine WL.qq (by simp only [EN, Nat.reduceEqDiff, reduceIte, qv_binOp, binv_add, hB1.cell]; (try simp (disch := omega) only [w64, w8, wu64]); rfl) ?_
            refine WL.qq (by simp only [EN, Nat.reduceEqDiff, reduceIte, qv_assign, hB1.cell]; rfl) ?_
            refine WL.nil ?_
            refine th_norm ?_
            refine ⟨rfl, rfl, ?_, _, ?_, i + 1, rfl, ?_, ?_, ?_⟩  -- again 0 of loop 0
            · (repeat (first | exact Fr.refl _ _ | refine Fr.set rfl ?_ | refine Fr.put rfl ?_ | refine Fr.put0 ?_))
            · omega
            · omega
            · exact all_take hal hx hct31
            · simp only [EN, Nat.reduceEqDiff, reduceIte, k1_0, k2_0, i5_0, hB1.cell] <;> first | rfl | (congr 1; omega)
        ·
          try simp only [BD] at hct22
          have hv := all_end hal (by omega)
          rw [if_neg (fun hh => hh hv)] at hr
          refine hx_exit ?_
          refine th_exit ?_
          refine th_exit ?_
          refine bl_hit ?_
          refine th_norm ?_
          refine hx_seq ?_
          refine hx_seq ?_
          refine hx_region ?_
          refine WL.qq (by simp only [EN, Nat.reduceEqDiff, reduceIte, qv_assign, hB1.cell]; rfl) ?_
          refine WL.nil ?_
          refine th_norm ?_
          refine hx_block ?_
          refine hx_loopX [4, 6, 32, 33, 34, 35, 36, 37, 38, 39, 40, 41, 42, 43, 44, 45, 46, 47, 48, 49, 50, 51, 52, 53, 54] (fun k e => ∃ (i : Nat), l.length - i = k ∧ (i ≤ l.length) ∧ (∀ y ∈ l.take i, vld (lk ks y.1 + netM l y.1) = true) ∧ e 6 = .int .i64 i) _ ⟨0, rfl, ?_, ?_, ?_⟩ ?_
          · omega
          · simp
          · simp only [EN, Nat.reduceEqDiff, reduceIte, k1_0, k2_0, i5_0, hB1.cell] <;> rfl
          ·
            rintro k e1L hL1 hX1 hfr1 ⟨i, rfl, hi, hal2, i6_1⟩
            replace hs := hs.ext hX1
            replace hf := hf.ext hX1
            replace hl := hl.ext hX1
            replace hB1 := hB1.ext hX1
            have k1_1 := hfr1 1 rfl; try simp only [EN, Nat.reduceEqDiff, reduceIte, k1_0, k2_0, i5_0, hB1.cell] at k1_1
            have k2_1 := hfr1 2 rfl; try simp only [EN, Nat.reduceEqDiff, reduceIte, k1_0, k2_0, i5_0, hB1.cell] at k2_1
            refine hx_seq ?_
            refine hx_seq ?_
            refine hx_region ?_
            refine WL.qq (by simp only [EN, Nat.reduceEqDiff, reduceIte, qv_move, i6_1, hB1.cell]; rfl) ?_
            refine WL.qq (by simp only [EN, Nat.reduceEqDiff, reduceIte, qv_move, k1_1, hB1.cell]; rfl) ?_
            refine WL.qq (by simp only [EN, Nat.reduceEqDiff, reduceIte, qv_len, ln26, AR, hB1.cell]; rfl) ?_
            refine WL.qq (by simp only [EN, Nat.reduceEqDiff, reduceIte, qv_binOp, binv_lss, hB1.cell]; rfl) ?_
            refine WL.nil ?_
            refine th_norm ?_
            refine hx_cond (by simp only [EN, Nat.reduceEqDiff, reduceIte, k1_1, k2_1, i6_1, hB1.cell]; rfl) (fun hct35 => ?_) (fun hct35 => ?_)
            ·
              try simp only [BD] at hct35
              obtain ⟨x, hx⟩ := atG (l := l) (i := i) (by omega)
              obtain ⟨b, off, rfl, hr3, hr2, hc0, hc1, hc2⟩ := ent_rd hl hx
              have hN := (netM_eq (by omega) hv x.1).2; have hB := vld_iff.1 (hbal x.1)
              refine hx_skip ?_
              refine th_norm ?_
              refine hx_seq ?_
              refine hx_block ?_
              refine hx_seq ?_
              apply hx_draw2 Rel.grows [] [6, 13, 15] [(6, Spec.is _), (13, Spec.is _), (15, Spec.is _)] rfl (by decide +kernel) rfl
              refine LD.qq rfl rfl (by simp only [EN, Nat.reduceEqDiff, reduceIte, qv_load, ld29, readN, AR, Nat.zero_add, Nat.reduceAdd, k2_1, hB1.cell]; rfl) ?_
              refine LD.qq rfl rfl (by simp only [EN, Nat.reduceEqDiff, reduceIte, qv_move, k1_1, hB1.cell]; rfl) ?_
              refine LD.qq rfl rfl (by simp only [EN, Nat.reduceEqDiff, reduceIte, qv_move, i6_1, hB1.cell]; rfl) ?_
              refine LD.qq rfl rfl (by simp only [EN, Nat.reduceEqDiff, reduceIte, qv_indexAddr, hB1.cell]; (try simp (disch := omega) only [ix26, Int.toNat_natCast]); rfl) ?_
              refine LD.qq rfl rfl (by simp only [EN, Nat.reduceEqDiff, reduceIte, qv_fieldAddr, fa44_0, Nat.zero_add, Nat.reduceAdd, hB1.cell]; rfl) ?_
              refine LD.qq rfl rfl (by simp only [EN, Nat.reduceEqDiff, reduceIte, k1_1, k2_1, i6_1, hB1.cell, qv_load, ld34, Int.toNat_natCast, Nat.add_zero, hr2]; rfl) ?_
              refine LD.ck rfl rfl Try.call37 (by intro hD hr; have hx : Ext _ _ := hr; have hs := hs.ext hx; have hf := hf.ext hx; have hl := hl.ext hx; have hB1 := hB1.ext hx; simp only [EN, Nat.reduceEqDiff, reduceIte, AR, hB1.cell]; exact c_rbal _ ks _ _ _ x.1 lk' hs) ?_
              refine LD.qq rfl rfl (by simp only [EN, Nat.reduceEqDiff, reduceIte, qv_move, k1_1, hB1.cell]; rfl) ?_
              refine LD.qq rfl rfl (by simp only [EN, Nat.reduceEqDiff, reduceIte, qv_move, k1_1, hB1.cell]; rfl) ?_
              refine LD.qq rfl rfl (by simp only [EN, Nat.reduceEqDiff, reduceIte, qv_move, i6_1, hB1.cell]; rfl) ?_
              refine LD.qq rfl rfl (by simp only [EN, Nat.reduceEqDiff, reduceIte, qv_indexAddr, hB1.cell]; (try simp (disch := omega) only [ix26, Int.toNat_natCast]); rfl) ?_
              refine LD.qq rfl rfl (by simp only [EN, Nat.reduceEqDiff, reduceIte, qv_fieldAddr, fa44_0, Nat.zero_add, Nat.reduceAdd, hB1.cell]; rfl) ?_
              refine LD.qq rfl rfl (by simp only [EN, Nat.reduceEqDiff, reduceIte, k1_1, k2_1, i6_1, hB1.cell, qv_load, ld34, Int.toNat_natCast, Nat.add_zero, hr2]; rfl) ?_
              refine LD.ck rfl rfl Try.call27 (by intro hD hr; have hx : Ext _ _ := hr; have hs := hs.ext hx; have hf := hf.ext hx; have hl := hl.ext hx; have hB1 := hB1.ext hx; simp only [EN, Nat.reduceEqDiff, reduceIte, AR, hB1.cell]; exact c_rnet _ l _ x.1 ll hl) ?_
              refine LD.qq rfl rfl (by simp only [EN, Nat.reduceEqDiff, reduceIte, qv_binOp, binv_add, hB1.cell]; (try simp (disch := omega) only [w64, w8, wu64]); rfl) ?_
              refine LD.ck rfl rfl Try.call26 (by intro hD hr; have hx : Ext _ _ := hr; have hs := hs.ext hx; have hf := hf.ext hx; have hl := hl.ext hx; have hB1 := hB1.ext hx; simp only [EN, Nat.reduceEqDiff, reduceIte, AR, hB1.cell]; exact (c_rValid _ _).grow) ?_
              refine LD.qq rfl rfl (by simp only [EN, Nat.reduceEqDiff, reduceIte, qv_unOp, unv_not, hB1.cell]; rfl) ?_
              refine LD.nil ?_
              rintro h2 hx2 hF13
              replace hx2 : Ext _ _ := hx2
              replace hs := hs.ext hx2
              replace hf := hf.ext hx2
              replace hl := hl.ext hx2
              replace hB1 := hB1.ext hx2
              refine WL.nil ?_
              refine th_norm ?_
              refine hx_cond (by simp only [EN, Nat.reduceEqDiff, reduceIte, k1_1, k2_1, i6_1, hB1.cell]; rfl) (fun hct54 => ?_) (fun hct54 => ?_)
              ·
                try simp only [BD] at hct54
                refine hx_seq ?_
                refine hx_region ?_
                refine WL.qq (by simp only [EN, Nat.reduceEqDiff, reduceIte, qv_assign, hB1.cell]; rfl) ?_
                refine WL.nil ?_
                refine th_norm ?_
                refine hx_ret ?_
                refine bl_ret ?_
                refine th_ret ?_
                refine th_ret ?_
                refine bl_ret ?_
                refine th_ret ?_
                refine fin_ret [.tmp 4] rfl rfl (by simp only [EN, Nat.reduceEqDiff, reduceIte, resv, k1_1, k2_1, i6_1, hB1.cell]; rfl) ?_  -- ret 3 r14
                rw [if_pos (fun hh => by rw [hh x (List.mem_of_getElem? hx)] at hct54; cases hct54)] at hr
                exact ⟨by rw [← hr]; rfl, ((hx1).trans ((hX1).trans (hx2)))⟩
              ·
                try simp only [BD] at hct54
                refine hx_skip ?_
                refine bl_norm ?_
                refine th_norm ?_
                refine hx_region ?_
                refine WL.qq (by simp only [EN, Nat.reduceEqDiff, reduceIte, qv_move, i6_1, hB1.cell]; rfl) ?_
                refine WL.qq (by simp only [EN, Nat.reduceEqDiff, reduceIte, qv_binOp, binv_add, hB1.cell]; (try simp (disch := omega) only [w64, w8, wu64]); rfl) ?_
                refine WL.qq (by simp only [EN, Nat.reduceEqDiff, reduceIte, qv_assign, hB1.cell]; rfl) ?_
                refine WL.nil ?_
                refine th_norm ?_
                refine ⟨rfl, ?_, ?_, _, ?_, i + 1, rfl, ?_, ?_, ?_⟩  -- again 0 of loop 1
                · exact hx2
                · (repeat (first | exact Fr.refl _ _ | refine Fr.set rfl ?_ | refine Fr.put rfl ?_ | refine Fr.put0 ?_))
                · omega
                · omega
                · exact all_take (p := fun y => vld (lk ks y.1 + netM l y.1) = true) hal2 hx hct54
                · simp only [EN, Nat.reduceEqDiff, reduceIte, k1_1, k2_1, i6_1, hB1.cell] <;> first | rfl | (congr 1; omega)
            ·
              try simp only [BD] at hct35
              have hv2 := all_end (p := fun y => vld (lk ks y.1 + netM l y.1) = true) hal2 (by omega)
              rw [if_neg (fun hh => hh hv2)] at hr
              refine hx_exit ?_
              refine th_exit ?_
              refine th_exit ?_
              refine bl_hit ?_
              refine th_norm ?_
              refine hx_seq ?_
              refine hx_seq ?_
              refine hx_region ?_
              refine WL.qq (by simp only [EN, Nat.reduceEqDiff, reduceIte, qv_assign, hB1.cell]; rfl) ?_
              refine WL.nil ?_
              refine th_norm ?_
              refine hx_block ?_
              refine hx_loopX [4, 7, 8, 9, 55, 56, 57, 58, 59, 60, 61, 62, 63, 64, 65, 66, 67, 68, 69, 70, 71, 72, 73, 74, 75, 76, 77, 78, 79, 80, 81, 82, 83, 84, 85, 86, 87, 88] (fun k e => ∃ (i : Nat), l.length - i = k ∧ (i ≤ l.length) ∧ (∀ y ∈ l.take i, sumA l y.1.a = 0) ∧ e 7 = .int .i64 i) _ ⟨0, rfl, ?_, ?_, ?_⟩ ?_
              · omega
              · simp
              · simp only [EN, Nat.reduceEqDiff, reduceIte, k1_1, k2_1, i6_1, hB1.cell] <;> rfl
              ·
                rintro k e2L hL2 hX2 hfr2 ⟨i, rfl, hi, hal3, i7_2⟩
                replace hs := hs.ext hX2
                replace hf := hf.ext hX2
                replace hl := hl.ext hX2
                replace hB1 := hB1.ext hX2
                have k1_2 := hfr2 1 rfl; try simp only [EN, Nat.reduceEqDiff, reduceIte, k1_1, k2_1, i6_1, hB1.cell] at k1_2
                have k2_2 := hfr2 2 rfl; try simp only [EN, Nat.reduceEqDiff, reduceIte, k1_1, k2_1, i6_1, hB1.cell] at k2_2
                refine hx_seq ?_
                refine hx_seq ?_
                refine hx_region ?_
                refine WL.qq (by simp only [EN, Nat.reduceEqDiff, reduceIte, qv_move, i7_2, hB1.cell]; rfl) ?_
                refine WL.qq (by simp only [EN, Nat.reduceEqDiff, reduceIte, qv_move, k1_2, hB1.cell]; rfl) ?_
                refine WL.qq (by simp only [EN, Nat.reduceEqDiff, reduceIte, qv_len, ln26, AR, hB1.cell]; rfl) ?_
                refine WL.qq (by simp only [EN, Nat.reduceEqDiff, reduceIte, qv_binOp, binv_lss, hB1.cell]; rfl) ?_
                refine WL.nil ?_
                refine th_norm ?_
                refine hx_cond (by simp only [EN, Nat.reduceEqDiff, reduceIte, k1_2, k2_2, i7_2, hB1.cell]; rfl) (fun hct58 => ?_) (fun hct58 => ?_)
                ·
                  try simp only [BD] at hct58
                  obtain ⟨x, hx⟩ := atG (l := l) (i := i) (by omega)
                  obtain ⟨b, off, rfl, hr3, hr2, hc0, hc1, hc2⟩ := ent_rd hl hx
                  refine hx_skip ?_
                  refine th_norm ?_
                  refine hx_seq ?_
                  refine hx_block ?_
                  refine hx_seq ?_
                  refine hx_region ?_
                  refine WL.qq (by simp only [EN, Nat.reduceEqDiff, reduceIte, qv_assign, hB1.cell]; rfl) ?_
                  refine WL.nil ?_
                  refine th_norm ?_
                  refine hx_seq ?_
                  refine hx_seq ?_
                  refine hx_region ?_
                  refine WL.qq (by simp only [EN, Nat.reduceEqDiff, reduceIte, qv_assign, hB1.cell]; rfl) ?_
                  refine WL.nil ?_
                  refine th_norm ?_
                  refine hx_block ?_
                  refine hx_loopS [8, 9, 61, 62, 63, 64, 65, 66, 67, 68, 69, 70, 71, 72, 73, 74, 75, 76, 77, 78, 79, 80, 81, 82, 83, 84, 85, 86] (fun k e => ∃ (j : Nat), l.length - j = k ∧ (j ≤ l.length) ∧ e 9 = .int .i64 j ∧ e 8 = .int .i64 (sumA (l.take j) x.1.a)) _ ⟨0, rfl, ?_, ?_, ?_⟩ ?_
                  · omega
                  · simp only [EN, Nat.reduceEqDiff, reduceIte, k1_2, k2_2, i7_2, hB1.cell] <;> rfl
                  · simp only [EN, Nat.reduceEqDiff, reduceIte, k1_2, k2_2, i7_2, hB1.cell] <;> rfl
                  ·
                    rintro k e3L hfr3 ⟨j, rfl, hj, i9_3, i8_3⟩
                    have k1_3 := hfr3 1 rfl; try simp only [EN, Nat.reduceEqDiff, reduceIte, k1_2, k2_2, i7_2, hB1.cell] at k1_3
                    have k2_3 := hfr3 2 rfl; try simp only [EN, Nat.reduceEqDiff, reduceIte, k1_2, k2_2, i7_2, hB1.cell] at k2_3
                    have k4_3 := hfr3 4 rfl; try simp only [EN, Nat.reduceEqDiff, reduceIte, k1_2, k2_2, i7_2, hB1.cell] at k4_3
                    have k7_3 := hfr3 7 rfl; try simp only [EN, Nat.reduceEqDiff, reduceIte, k1_2, k2_2, i7_2, hB1.cell] at k7_3
                    have k55_3 := hfr3 55 rfl; try simp only [EN, Nat.reduceEqDiff, reduceIte, k1_2, k2_2, i7_2, hB1.cell] at k55_3
                    have k56_3 := hfr3 56 rfl; try simp only [EN, Nat.reduceEqDiff, reduceIte, k1_2, k2_2, i7_2, hB1.cell] at k56_3
                    have k57_3 := hfr3 57 rfl; try simp only [EN, Nat.reduceEqDiff, reduceIte, k1_2, k2_2, i7_2, hB1.cell] at k57_3
                    have k58_3 := hfr3 58 rfl; try simp only [EN, Nat.reduceEqDiff, reduceIte, k1_2, k2_2, i7_2, hB1.cell] at k58_3
                    refine hx_seq ?_
                    refine hx_seq ?_
                    refine hx_region ?_
                    refine WL.qq (by simp only [EN, Nat.reduceEqDiff, reduceIte, qv_move, i9_3, hB1.cell]; rfl) ?_
                    refine WL.qq (by simp only [EN, Nat.reduceEqDiff, reduceIte, qv_move, k1_3, hB1.cell]; rfl) ?_
                    refine WL.qq (by simp only [EN, Nat.reduceEqDiff, reduceIte, qv_len, ln26, AR, hB1.cell]; rfl) ?_
                    refine WL.qq (by simp only [EN, Nat.reduceEqDiff, reduceIte, qv_binOp, binv_lss, hB1.cell]; rfl) ?_
                    refine WL.nil ?_
                    refine th_norm ?_
                    refine hx_cond (by simp only [EN, Nat.reduceEqDiff, reduceIte, k1_3, k2_3, k4_3, k7_3, k55_3, k56_3, k57_3, k58_3, i9_3, i8_3, hB1.cell]; rfl) (fun hct64 => ?_) (fun hct64 => ?_)
                    ·
                      try simp only [BD] at hct64
                      obtain ⟨y, hy⟩ := atG (l := l) (i := j) (by omega)
                      obtain ⟨_, _, ha9, hr39, hr29, hc09, hc19, hc29⟩ := ent_rd hl hy; cases ha9
                      refine hx_skip ?_
                      refine th_norm ?_
                      refine hx_seq ?_
                      refine hx_block ?_
                      refine hx_seq ?_
                      apply hx_draw2 Rel.same [] [] [] rfl (by decide +kernel) rfl
                      refine LD.qq rfl rfl (by simp only [EN, Nat.reduceEqDiff, reduceIte, qv_move, k1_3, hB1.cell]; rfl) ?_
                      refine LD.qq rfl rfl (by simp only [EN, Nat.reduceEqDiff, reduceIte, qv_move, i9_3, hB1.cell]; rfl) ?_
                      refine LD.qq rfl rfl (by simp only [EN, Nat.reduceEqDiff, reduceIte, qv_indexAddr, hB1.cell]; (try simp (disch := omega) only [ix26, Int.toNat_natCast]); rfl) ?_
                      refine LD.qq rfl rfl (by simp only [EN, Nat.reduceEqDiff, reduceIte, qv_fieldAddr, fa44_0, Nat.zero_add, Nat.reduceAdd, hB1.cell]; rfl) ?_
                      refine LD.qq rfl rfl (by simp only [EN, Nat.reduceEqDiff, reduceIte, qv_fieldAddr, fa34_1, Nat.zero_add, Nat.reduceAdd, hB1.cell]; rfl) ?_
                      refine LD.qq rfl rfl (by simp only [EN, Nat.reduceEqDiff, reduceIte, k1_3, k2_3, k4_3, k7_3, k55_3, k56_3, k57_3, k58_3, i9_3, i8_3, hB1.cell, qv_load, ld5, Int.toNat_natCast, hc19]; rfl) ?_
                      refine LD.qq rfl rfl (by simp only [EN, Nat.reduceEqDiff, reduceIte, qv_move, k1_3, hB1.cell]; rfl) ?_
                      refine LD.qq rfl rfl (by simp only [EN, Nat.reduceEqDiff, reduceIte, qv_move, k7_3, hB1.cell]; rfl) ?_
                      refine LD.qq rfl rfl (by simp only [EN, Nat.reduceEqDiff, reduceIte, qv_indexAddr, hB1.cell]; (try simp (disch := omega) only [ix26, Int.toNat_natCast]); rfl) ?_
                      refine LD.qq rfl rfl (by simp only [EN, Nat.reduceEqDiff, reduceIte, qv_fieldAddr, fa44_0, Nat.zero_add, Nat.reduceAdd, hB1.cell]; rfl) ?_
                      refine LD.qq rfl rfl (by simp only [EN, Nat.reduceEqDiff, reduceIte, qv_fieldAddr, fa34_1, Nat.zero_add, Nat.reduceAdd, hB1.cell]; rfl) ?_
                      refine LD.qq rfl rfl (by simp only [EN, Nat.reduceEqDiff, reduceIte, k1_3, k2_3, k4_3, k7_3, k55_3, k56_3, k57_3, k58_3, i9_3, i8_3, hB1.cell, qv_load, ld5, Int.toNat_natCast, hc1]; rfl) ?_
                      refine LD.qq rfl rfl (by simp only [EN, Nat.reduceEqDiff, reduceIte, qv_binOp, binv_eql, eq5, Option.map_some, hB1.cell]; rfl) ?_
                      refine LD.nil ?_
                      rintro _ rfl -
                      refine WL.nil ?_
                      refine th_norm ?_
                      refine hx_cond (by simp only [EN, Nat.reduceEqDiff, reduceIte, k1_3, k2_3, k4_3, k7_3, k55_3, k56_3, k57_3, k58_3, i9_3, i8_3, hB1.cell]; rfl) (fun hct79 => ?_) (fun hct79 => ?_)
                      ·
                        try simp only [BD] at hct79
                        refine hx_region ?_
                        refine WL.qq (by simp only [EN, Nat.reduceEqDiff, reduceIte, qv_move, i8_3, hB1.cell]; rfl) ?_
                        refine WL.qq (by simp only [EN, Nat.reduceEqDiff, reduceIte, qv_move, k1_3, hB1.cell]; rfl) ?_
                        refine WL.qq (by simp only [EN, Nat.reduceEqDiff, reduceIte, qv_move, i9_3, hB1.cell]; rfl) ?_
                        refine WL.qq (by simp only [EN, Nat.reduceEqDiff, reduceIte, qv_indexAddr, hB1.cell]; (try simp (disch := omega) only [ix26, Int.toNat_natCast]); rfl) ?_
                        refine WL.qq (by simp only [EN, Nat.reduceEqDiff, reduceIte, qv_fieldAddr, fa44_1, Nat.zero_add, Nat.reduceAdd, hB1.cell]; rfl) ?_
                        refine WL.qq (by simp only [EN, Nat.reduceEqDiff, reduceIte, k1_3, k2_3, k4_3, k7_3, k55_3, k56_3, k57_3, k58_3, i9_3, i8_3, hB1.cell, qv_load, ld2, Int.toNat_natCast, hc29]; rfl) ?_
                        refine WL.qq (by simp only [EN, Nat.reduceEqDiff, reduceIte, k1_3, k2_3, k4_3, k7_3, k55_3, k56_3, k57_3, k58_3, i9_3, i8_3, hB1.cell, qv_binOp, binv_add]; rfl) ?_
                        refine WL.qq (by simp only [EN, Nat.reduceEqDiff, reduceIte, qv_assign, hB1.cell]; rfl) ?_
                        refine WL.nil ?_
                        refine bl_norm ?_
                        refine th_norm ?_
                        refine hx_region ?_
                        refine WL.qq (by simp only [EN, Nat.reduceEqDiff, reduceIte, qv_move, i9_3, hB1.cell]; rfl) ?_
                        refine WL.qq (by simp only [EN, Nat.reduceEqDiff, reduceIte, qv_binOp, binv_add, hB1.cell]; (try simp (disch := omega) only [w64, w8, wu64]); rfl) ?_
                        refine WL.qq (by simp only [EN, Nat.reduceEqDiff, reduceIte, qv_assign, hB1.cell]; rfl) ?_
                        refine WL.nil ?_
                        refine th_norm ?_
                        refine ⟨rfl, rfl, ?_, _, ?_, j + 1, rfl, ?_, ?_, ?_⟩  -- again 0 of loop 3
                        · (repeat (first | exact Fr.refl _ _ | refine Fr.set rfl ?_ | refine Fr.put rfl ?_ | refine Fr.put0 ?_))
                        · omega
                        · omega
                        · simp only [EN, Nat.reduceEqDiff, reduceIte, k1_3, k2_3, k4_3, k7_3, k55_3, k56_3, k57_3, k58_3, i9_3, i8_3, hB1.cell] <;> first | rfl | (congr 1; omega)
                        · simp only [EN, Nat.reduceEqDiff, reduceIte, k1_3, k2_3, k4_3, k7_3, k55_3, k56_3, k57_3, k58_3, i9_3, i8_3, hB1.cell] <;> first | rw [sumA_step _ hy, if_pos hct79] | rw [sumA_step _ hy, if_neg hct79]
                      ·
                        try simp only [BD] at hct79
                        refine hx_skip ?_
                        refine bl_norm ?_
                        refine th_norm ?_
                        refine hx_region ?_
                        refine WL.qq (by simp only [EN, Nat.reduceEqDiff, reduceIte, qv_move, i9_3, hB1.cell]; rfl) ?_
                        refine WL.qq (by simp only [EN, Nat.reduceEqDiff, reduceIte, qv_binOp, binv_add, hB1.cell]; (try simp (disch := omega) only [w64, w8, wu64]); rfl) ?_
                        refine WL.qq (by simp only [EN, Nat.reduceEqDiff, reduceIte, qv_assign, hB1.cell]; rfl) ?_
                        refine WL.nil ?_
                        refine th_norm ?_
                        refine ⟨rfl, rfl, ?_, _, ?_, j + 1, rfl, ?_, ?_, ?_⟩  -- again 1 of loop 3
                        · (repeat (first | exact Fr.refl _ _ | refine Fr.set rfl ?_ | refine Fr.put rfl ?_ | refine Fr.put0 ?_))
                        · omega
                        · omega
                        · simp only [EN, Nat.reduceEqDiff, reduceIte, k1_3, k2_3, k4_3, k7_3, k55_3, k56_3, k57_3, k58_3, i9_3, i8_3, hB1.cell] <;> first | rfl | (congr 1; omega)
                        · simp only [EN, Nat.reduceEqDiff, reduceIte, k1_3, k2_3, k4_3, k7_3, k55_3, k56_3, k57_3, k58_3, i9_3, i8_3, hB1.cell] <;> first | rw [sumA_step _ hy, if_pos hct79] | rw [sumA_step _ hy, if_neg hct79]
                    ·
                      try simp only [BD] at hct64
                      have hjl : j = l.length := (by omega); subst hjl; rw [List.take_length] at *
                      refine hx_exit ?_
                      refine th_exit ?_
                      refine th_exit ?_
                      refine bl_hit ?_
                      refine th_norm ?_
                      refine hx_seq ?_
                      refine hx_region ?_
                      refine WL.qq (by simp only [EN, Nat.reduceEqDiff, reduceIte, qv_move, i8_3, hB1.cell]; rfl) ?_
                      refine WL.qq (by simp only [EN, Nat.reduceEqDiff, reduceIte, qv_binOp, binv_neq, eq2, Option.map_some, hB1.cell]; rfl) ?_
                      refine WL.nil ?_
                      refine th_norm ?_
                      refine hx_cond (by simp only [EN, Nat.reduceEqDiff, reduceIte, k1_3, k2_3, k4_3, k7_3, k55_3, k56_3, k57_3, k58_3, i9_3, i8_3, hB1.cell]; rfl) (fun hct88 => ?_) (fun hct88 => ?_)
                      ·
                        try simp only [BD] at hct88
                        refine hx_seq ?_
                        refine hx_region ?_
                        refine WL.qq (by simp only [EN, Nat.reduceEqDiff, reduceIte, qv_assign, hB1.cell]; rfl) ?_
                        refine WL.nil ?_
                        refine th_norm ?_
                        refine hx_ret ?_
                        refine bl_ret ?_
                        refine th_ret ?_
                        refine th_ret ?_
                        refine bl_ret ?_
                        refine th_ret ?_
                        refine fin_ret [.tmp 4] rfl rfl (by simp only [EN, Nat.reduceEqDiff, reduceIte, resv, k1_3, k2_3, k4_3, k7_3, k55_3, k56_3, k57_3, k58_3, i9_3, i8_3, hB1.cell]; rfl) ?_  -- ret 4 r25
                        rw [if_pos (fun hh => hct88 (hh x (List.mem_of_getElem? hx)))] at hr
                        exact ⟨by rw [← hr]; rfl, ((hx1).trans ((hX1).trans (hX2)))⟩
                      ·
                        try simp only [BD] at hct88
                        refine hx_skip ?_
                        refine bl_norm ?_
                        refine th_norm ?_
                        refine hx_region ?_
                        refine WL.qq (by simp only [EN, Nat.reduceEqDiff, reduceIte, qv_move, k7_3, hB1.cell]; rfl) ?_
                        refine WL.qq (by simp only [EN, Nat.reduceEqDiff, reduceIte, qv_binOp, binv_add, hB1.cell]; (try simp (disch := omega) only [w64, w8, wu64]); rfl) ?_
                        refine WL.qq (by simp only [EN, Nat.reduceEqDiff, reduceIte, qv_assign, hB1.cell]; rfl) ?_
                        refine WL.nil ?_
                        refine th_norm ?_
                        refine ⟨rfl, ?_, ?_, _, ?_, i + 1, rfl, ?_, ?_, ?_⟩  -- again 0 of loop 2
                        · exact Ext.refl _
                        · (repeat (first | exact Fr.refl _ _ | refine Fr.set rfl ?_ | refine Fr.put rfl ?_ | refine Fr.put0 ?_ | refine Fr.trans ?_ (Fr.of hfr3 rfl)))
                        · omega
                        · omega
                        · exact all_take (p := fun y => sumA l y.1.a = 0) hal3 hx hct88
                        · simp only [EN, Nat.reduceEqDiff, reduceIte, k1_3, k2_3, k4_3, k7_3, k55_3, k56_3, k57_3, k58_3, i9_3, i8_3, hB1.cell] <;> first | rfl | (congr 1; omega)
                ·
                  try simp only [BD] at hct58
                  have hv3 := all_end (p := fun y => sumA l y.1.a = 0) hal3 (by omega)
                  rw [if_neg (fun hh => hh hv3)] at hr
                  refine hx_exit ?_
                  refine th_exit ?_
                  refine th_exit ?_
                  refine bl_hit ?_
                  refine th_norm ?_
                  refine hx_seq ?_
                  refine hx_seq ?_
                  refine hx_region ?_
                  refine WL.qq (by simp only [EN, Nat.reduceEqDiff, reduceIte, qv_assign, hB1.cell]; rfl) ?_
                  refine WL.nil ?_
                  refine th_norm ?_
                  refine hx_block ?_
                  refine hx_loopX [4, 10, 11, 12, 89, 90, 91, 92, 93, 94, 95, 96, 97, 98, 99, 100, 101, 102, 103, 104, 105, 106, 107, 108, 109, 110, 111, 112, 113, 114, 115] (fun k e => ∃ (i : Nat), l.length - i = k ∧ (i ≤ l.length) ∧ (∀ y ∈ l.take i, netM l y.1 < 0 → lk fs y.1 ≤ lk ks y.1 + netM l y.1) ∧ e 10 = .int .i64 i) _ ⟨0, rfl, ?_, ?_, ?_⟩ ?_
                  · omega
                  · simp
                  · simp only [EN, Nat.reduceEqDiff, reduceIte, k1_2, k2_2, i7_2, hB1.cell] <;> rfl
                  ·
                    rintro k e4L hL4 hX4 hfr4 ⟨i, rfl, hi, hal4, i10_4⟩
                    replace hs := hs.ext hX4
                    replace hf := hf.ext hX4
                    replace hl := hl.ext hX4
                    replace hB1 := hB1.ext hX4
                    have k1_4 := hfr4 1 rfl; try simp only [EN, Nat.reduceEqDiff, reduceIte, k1_2, k2_2, i7_2, hB1.cell] at k1_4
                    have k2_4 := hfr4 2 rfl; try simp only [EN, Nat.reduceEqDiff, reduceIte, k1_2, k2_2, i7_2, hB1.cell] at k2_4
                    refine hx_seq ?_
                    refine hx_seq ?_
                    refine hx_region ?_
                    refine WL.qq (by simp only [EN, Nat.reduceEqDiff, reduceIte, qv_move, i10_4, hB1.cell]; rfl) ?_
                    refine WL.qq (by simp only [EN, Nat.reduceEqDiff, reduceIte, qv_move, k1_4, hB1.cell]; rfl) ?_
                    refine WL.qq (by simp only [EN, Nat.reduceEqDiff, reduceIte, qv_len, ln26, AR, hB1.cell]; rfl) ?_
                    refine WL.qq (by simp only [EN, Nat.reduceEqDiff, reduceIte, qv_binOp, binv_lss, hB1.cell]; rfl) ?_
                    refine WL.nil ?_
                    refine th_norm ?_
                    refine hx_cond (by simp only [EN, Nat.reduceEqDiff, reduceIte, k1_4, k2_4, i10_4, hB1.cell]; rfl) (fun hct92 => ?_) (fun hct92 => ?_)
                    ·
                      try simp only [BD] at hct92
                      obtain ⟨x, hx⟩ := atG (l := l) (i := i) (by omega)
                      obtain ⟨b, off, rfl, hr3, hr2, hc0, hc1, hc2⟩ := ent_rd hl hx
                      have hN := (netM_eq (by omega) hv x.1).2; have hB := vld_iff.1 (hbal x.1)
                      refine hx_skip ?_
                      refine th_norm ?_
                      refine hx_seq ?_
                      refine hx_block ?_
                      refine hx_seq ?_
                      refine hx_region ?_
                      refine WL.qq (by simp only [EN, Nat.reduceEqDiff, reduceIte, qv_move, k1_4, hB1.cell]; rfl) ?_
                      refine WL.qq (by simp only [EN, Nat.reduceEqDiff, reduceIte, qv_move, i10_4, hB1.cell]; rfl) ?_
                      refine WL.qq (by simp only [EN, Nat.reduceEqDiff, reduceIte, qv_indexAddr, hB1.cell]; (try simp (disch := omega) only [ix26, Int.toNat_natCast]); rfl) ?_
                      refine WL.qq (by simp only [EN, Nat.reduceEqDiff, reduceIte, qv_fieldAddr, fa44_0, Nat.zero_add, Nat.reduceAdd, hB1.cell]; rfl) ?_
                      refine WL.qq (by simp only [EN, Nat.reduceEqDiff, reduceIte, k1_4, k2_4, i10_4, hB1.cell, qv_load, ld34, Int.toNat_natCast, Nat.add_zero, hr2]; rfl) ?_
                      refine WL.allocSt zr34 sz34 (fun u => by simp only [EN, Nat.reduceEqDiff, reduceIte, Value.cells, hB1.cell]; rfl) ⟨rfl, rfl⟩ (by simp [Value.oneCell']) ?_
                      intro h3 B3 hx3 hlt3 hB3
                      replace hs := hs.ext hx3
                      replace hf := hf.ext hx3
                      replace hl := hl.ext hx3
                      replace hB1 := hB1.ext hx3
                      refine WL.nil ?_
                      refine th_norm ?_
                      refine hx_seq ?_
                      refine hx_region ?_
                      refine WL.qq (by simp only [EN, Nat.reduceEqDiff, reduceIte, qv_move, k1_4, hB1.cell, hB3.cell]; rfl) ?_
                      refine WL.qq (by simp only [EN, Nat.reduceEqDiff, reduceIte, qv_load, ld34, readN, AR, Nat.zero_add, Nat.reduceAdd, hB1.cell, hB3.cell]; rfl) ?_
                      refine WL.cg Try.call27 (by simp only [EN, Nat.reduceEqDiff, reduceIte, AR, hB1.cell, hB3.cell]; exact c_rnet _ l _ x.1 ll hl) ?_
                      intro h4 hx4
                      replace hs := hs.ext hx4
                      replace hf := hf.ext hx4
                      replace hl := hl.ext hx4
                      replace hB1 := hB1.ext hx4
                      replace hB3 := hB3.ext hx4
                      refine WL.qq (by simp only [EN, Nat.reduceEqDiff, reduceIte, qv_assign, hB1.cell, hB3.cell]; rfl) ?_
                      refine WL.nil ?_
                      refine th_norm ?_
                      refine hx_seq ?_
                      apply hx_draw2 Rel.grows [] [5, 10] [(5, Spec.is _), (10, Spec.is _)] rfl (by decide +kernel) rfl
                      refine LD.qq rfl rfl (by simp only [EN, Nat.reduceEqDiff, reduceIte, qv_move, hB1.cell, hB3.cell]; rfl) ?_
                      refine LD.qq rfl rfl (by simp only [EN, Nat.reduceEqDiff, reduceIte, qv_binOp, binv_lss, hB1.cell, hB3.cell]; rfl) ?_
                      refine LD.qq rfl rfl (by simp only [EN, Nat.reduceEqDiff, reduceIte, qv_move, hB1.cell, hB3.cell]; rfl) ?_
                      refine LD.cq rfl rfl (gd_at (t := 105) rfl (by simp only [EN, Nat.reduceEqDiff, reduceIte, k2_4, hB1.cell, hB3.cell] <;> rfl)) (fun hg31_3 => by simp only [EN, Nat.reduceEqDiff, reduceIte, qv_load, ld29, readN, AR, Nat.zero_add, Nat.reduceAdd, k2_4, hB1.cell, hB3.cell, hg31_3, GR]; rfl) ?_
                      refine LD.cq rfl rfl (gd_at (t := 105) rfl (by simp only [EN, Nat.reduceEqDiff, reduceIte, hB1.cell, hB3.cell] <;> rfl)) (fun hg31_4 => by simp only [EN, Nat.reduceEqDiff, reduceIte, qv_load, ld34, readN, AR, Nat.zero_add, Nat.reduceAdd, hB1.cell, hB3.cell, hg31_4, GR]; rfl) ?_
                      refine LD.cck rfl rfl (gd_at (t := 105) rfl (by simp only [EN, Nat.reduceEqDiff, reduceIte, hB1.cell, hB3.cell] <;> rfl)) Try.call37 (fun hg31_5 => by intro hD hr; have hx : Ext _ _ := hr; have hs := hs.ext hx; have hf := hf.ext hx; have hl := hl.ext hx; have hB1 := hB1.ext hx; have hB3 := hB3.ext hx; simp only [EN, Nat.reduceEqDiff, reduceIte, AR, hB1.cell, hB3.cell, hg31_5, GR]; exact c_rbal _ ks _ _ _ x.1 lk' hs) ?_
                      refine LD.cq rfl rfl (gd_at (t := 105) rfl (by simp only [EN, Nat.reduceEqDiff, reduceIte, hB1.cell, hB3.cell] <;> rfl)) (fun hg31_6 => by simp only [EN, Nat.reduceEqDiff, reduceIte, qv_move, hB1.cell, hB3.cell, hg31_6, GR]; rfl) ?_
                      refine LD.cq rfl rfl (gd_at (t := 105) rfl (by simp only [EN, Nat.reduceEqDiff, reduceIte, hB1.cell, hB3.cell] <;> rfl)) (fun hg31_7 => by have hq0 := hg31_7; (try simp only [BD] at hq0); simp only [EN, Nat.reduceEqDiff, reduceIte, qv_binOp, binv_add, hB1.cell, hB3.cell, hg31_7, GR]; (try simp (disch := omega) only [w64, w8, wu64]); rfl) ?_
                      refine LD.cq rfl rfl (gd_at (t := 105) rfl (by simp only [EN, Nat.reduceEqDiff, reduceIte, k2_4, hB1.cell, hB3.cell] <;> rfl)) (fun hg31_8 => by simp only [EN, Nat.reduceEqDiff, reduceIte, qv_load, ld29, readN, AR, Nat.zero_add, Nat.reduceAdd, k2_4, hB1.cell, hB3.cell, hg31_8, GR]; rfl) ?_
                      refine LD.cq rfl rfl (gd_at (t := 105) rfl (by simp only [EN, Nat.reduceEqDiff, reduceIte, hB1.cell, hB3.cell] <;> rfl)) (fun hg31_9 => by simp only [EN, Nat.reduceEqDiff, reduceIte, qv_load, ld34, readN, AR, Nat.zero_add, Nat.reduceAdd, hB1.cell, hB3.cell, hg31_9, GR]; rfl) ?_
                      refine LD.cck rfl rfl (gd_at (t := 105) rfl (by simp only [EN, Nat.reduceEqDiff, reduceIte, hB1.cell, hB3.cell] <;> rfl)) Try.call52 (fun hg31_10 => by intro hD hr; have hx : Ext _ _ := hr; have hs := hs.ext hx; have hf := hf.ext hx; have hl := hl.ext hx; have hB1 := hB1.ext hx; have hB3 := hB3.ext hx; simp only [EN, Nat.reduceEqDiff, reduceIte, AR, hB1.cell, hB3.cell, hg31_10, GR]; exact c_rfloor _ _ fs _ _ x.1 lf hf) ?_
                      refine LD.cq rfl rfl (gd_at (t := 105) rfl (by simp only [EN, Nat.reduceEqDiff, reduceIte, hB1.cell, hB3.cell] <;> rfl)) (fun hg31_11 => by simp only [EN, Nat.reduceEqDiff, reduceIte, qv_binOp, binv_lss, hB1.cell, hB3.cell, hg31_11, GR]; rfl) ?_
                      refine LD.qq rfl rfl (by simp only [EN, Nat.reduceEqDiff, reduceIte, qv_pick, pk_and, pk_or, GR, hB1.cell, hB3.cell]; rfl) ?_
                      refine LD.nil ?_
                      rintro h5 hx5 hF31
                      replace hx5 : Ext _ _ := hx5
                      replace hs := hs.ext hx5
                      replace hf := hf.ext hx5
                      replace hl := hl.ext hx5
                      replace hB1 := hB1.ext hx5
                      replace hB3 := hB3.ext hx5
                      refine WL.nil ?_
                      refine th_norm ?_
                      refine hx_cond (by simp only [EN, Nat.reduceEqDiff, reduceIte, k1_4, k2_4, i10_4, hB1.cell, hB3.cell]; rfl) (fun hct115 => ?_) (fun hct115 => ?_)
                      ·
                        try simp only [BD] at hct115
                        refine hx_seq ?_
                        refine hx_region ?_
                        refine WL.qq (by simp only [EN, Nat.reduceEqDiff, reduceIte, qv_assign, hB1.cell, hB3.cell]; rfl) ?_
                        refine WL.nil ?_
                        refine th_norm ?_
                        refine hx_ret ?_
                        refine bl_ret ?_
                        refine th_ret ?_
                        refine th_ret ?_
                        refine bl_ret ?_
                        refine th_ret ?_
                        refine fin_ret [.tmp 4] rfl rfl (by simp only [EN, Nat.reduceEqDiff, reduceIte, resv, k1_4, k2_4, i10_4, hB1.cell, hB3.cell]; rfl) ?_  -- ret 5 r32
                        rw [if_pos (fun hh => by have := hh x (List.mem_of_getElem? hx) hct115.1; omega)] at hr
                        exact ⟨by rw [← hr]; rfl, ((hx1).trans ((hX1).trans ((hX2).trans ((hX4).trans ((hx3).trans ((hx4).trans (hx5)))))))⟩
                      ·
                        try simp only [BD] at hct115
                        refine hx_skip ?_
                        refine bl_norm ?_
                        refine th_norm ?_
                        refine hx_region ?_
                        refine WL.qq (by simp only [EN, Nat.reduceEqDiff, reduceIte, qv_move, i10_4, hB1.cell, hB3.cell]; rfl) ?_
                        refine WL.qq (by simp only [EN, Nat.reduceEqDiff, reduceIte, qv_binOp, binv_add, hB1.cell, hB3.cell]; (try simp (disch := omega) only [w64, w8, wu64]); rfl) ?_
                        refine WL.qq (by simp only [EN, Nat.reduceEqDiff, reduceIte, qv_assign, hB1.cell, hB3.cell]; rfl) ?_
                        refine WL.nil ?_
                        refine th_norm ?_
                        refine ⟨rfl, ?_, ?_, _, ?_, i + 1, rfl, ?_, ?_, ?_⟩  -- again 0 of loop 4
                        · exact (hx3).trans ((hx4).trans (hx5))
                        · (repeat (first | exact Fr.refl _ _ | refine Fr.set rfl ?_ | refine Fr.put rfl ?_ | refine Fr.put0 ?_))
                        · omega
                        · omega
                        · exact all_take (p := fun y => netM l y.1 < 0 → lk fs y.1 ≤ lk ks y.1 + netM l y.1) hal4 hx (by omega)
                        · simp only [EN, Nat.reduceEqDiff, reduceIte, k1_4, k2_4, i10_4, hB1.cell, hB3.cell] <;> first | rfl | (congr 1; omega)
                    ·
                      try simp only [BD] at hct92
                      have hv4 := all_end (p := fun y => netM l y.1 < 0 → lk fs y.1 ≤ lk ks y.1 + netM l y.1) hal4 (by omega)
                      rw [if_neg (fun hh => hh hv4)] at hr
                      refine hx_exit ?_
                      refine th_exit ?_
                      refine th_exit ?_
                      refine bl_hit ?_
                      refine th_norm ?_
                      refine hx_seq ?_
                      refine hx_region ?_
                      refine WL.qq (by simp only [EN, Nat.reduceEqDiff, reduceIte, qv_assign, hB1.cell]; rfl) ?_
                      refine WL.nil ?_
                      refine th_norm ?_
                      refine hx_ret ?_
                      refine fin_ret [.tmp 4] rfl rfl (by simp only [EN, Nat.reduceEqDiff, reduceIte, resv, k1_4, k2_4, i10_4, hB1.cell]; rfl) ?_  -- ret 6 r33
                      exact ⟨by rw [← hr]; rfl, ((hx1).trans ((hX1).trans ((hX2).trans (hX4))))⟩
end GL


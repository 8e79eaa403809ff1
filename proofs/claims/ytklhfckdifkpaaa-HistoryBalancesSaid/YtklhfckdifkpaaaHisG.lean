/- History: the reference's balanced, Balance, Check. -/
import Derived.Test.YtklhfckdifkpaaaHisE
import Derived.Test.YtklhfckdifkpaaaGl34
set_option linter.unusedSimpArgs false
set_option linter.unusedVariables false
set_option linter.unnecessarySimpa false
namespace GL
open Go Go.Proofs
set_option maxRecDepth 8000
theorem aS_step (q : ByteArray) {l : List PO} {i : Nat} {y : PO} (h : l[i]? = some y) : aS q (l.take (i + 1)) = aS q (l.take i) + if y.c.a = q then y.d else 0 := by
  rw [List.take_add_one, h, aS_app]; simp [aS_one]
theorem aS_tk (q : ByteArray) {l : List PO} (hn : l.length ≤ 2000) (hr : ∀ x ∈ l, inR x.d) (k : Nat) : -2000000000000000000 ≤ aS q (l.take k) ∧ aS q (l.take k) ≤ 2000000000000000000 := by
  have h1 := aS_bd q (l := l.take k) (fun x hx => hr x (List.mem_of_mem_take hx))
  rw [List.length_take] at h1
  simp only [MA] at h1
  omega
theorem dS_tk (q : AC) {l : List PO} (hn : l.length ≤ 2000) (hr : ∀ x ∈ l, inR x.d) (k : Nat) : -2000000000000000000 ≤ dS q (l.take k) ∧ dS q (l.take k) ≤ 2000000000000000000 := by
  have h1 := dS_bd q (l := l.take k) (fun x hx => hr x (List.mem_of_mem_take hx))
  rw [List.length_take] at h1
  simp only [MA] at h1
  omega
set_option maxHeartbeats 1000000 in
theorem c_rBal (a : Option Addr) (L : List PO) (c : Nat) (hl : L.length ≤ 2000) (hr : ∀ x ∈ L, inR x.d) {h : Heap} (hs : SlG 4 poL h a L) : HCalls Try.prog 65 #[.slice a L.length c] h (Pure (.bool (decide (bal L))) h) := by
  refine hcalls2 Try.func65 rfl (by decide +kernel) (by simp only [Try.ntmps65]; exact of_decide_eq_true rfl) ?_
  intro e hin
  have e0 := hin 0 _ rfl
  refine hx_seq ?_
  refine hx_region ?_
  refine WL.qq (by simp only [EN, Nat.reduceEqDiff, reduceIte, qv_assign, strEq]; rfl) ?_
  refine WL.nil ?_
  refine th_norm ?_
  refine hx_seq ?_
  refine hx_seq ?_
  refine hx_region ?_
  refine WL.qq (by simp only [EN, Nat.reduceEqDiff, reduceIte, qv_assign, strEq]; rfl) ?_
  refine WL.nil ?_
  refine th_norm ?_
  refine hx_block ?_
  refine hx_loopS [2, 3, 4, 5, 6, 7, 8, 9, 10, 11, 12, 13, 14, 15, 16, 17, 18, 19, 20, 21, 22, 23, 24, 25, 26, 27, 28, 29, 30, 31, 32, 33, 34, 35, 36, 37, 38, 39] (fun k e => ∃ (i : Nat), L.length - i = k ∧ (i ≤ L.length) ∧ (∀ y ∈ L.take i, aS y.c.a L = 0) ∧ e 3 = .int .i64 i) _ ⟨0, rfl, ?_, ?_, ?_⟩ ?_
  · omega
  · intro y hy; simp at hy
  · simp only [EN, Nat.reduceEqDiff, reduceIte, e0, strEq] <;> rfl
  ·
    rintro k e0L hfr0 ⟨i, rfl, hi, hz, i3_0⟩
    have k0_0 := hfr0 0 rfl; try simp only [EN, Nat.reduceEqDiff, reduceIte, e0, strEq] at k0_0
    refine hx_seq ?_
    refine hx_seq ?_
    refine hx_region ?_
    refine WL.qq (by simp only [EN, Nat.reduceEqDiff, reduceIte, qv_move, i3_0, strEq]; rfl) ?_
    refine WL.qq (by simp only [EN, Nat.reduceEqDiff, reduceIte, qv_move, k0_0, strEq]; rfl) ?_
    refine WL.qq (by simp only [EN, Nat.reduceEqDiff, reduceIte, qv_len, ln77, AR, strEq]; rfl) ?_
    refine WL.qq (by simp only [EN, Nat.reduceEqDiff, reduceIte, qv_binOp, binv_lss, strEq]; rfl) ?_
    refine WL.nil ?_
    refine th_norm ?_
    refine hx_cond (by simp only [EN, Nat.reduceEqDiff, reduceIte, strEq]; rfl) (fun hct9 => ?_) (fun hct9 => ?_)
    ·
      try simp only [BD] at hct9
      obtain ⟨x, hx⟩ := atG (l := L) (i := i) (by omega)
      obtain ⟨b, off, rfl, _, _, _, _, hx2, _⟩ := po_rd hs hx
      refine hx_skip ?_
      refine th_norm ?_
      refine hx_seq ?_
      refine hx_block ?_
      refine hx_seq ?_
      refine hx_region ?_
      refine WL.qq (by simp only [EN, Nat.reduceEqDiff, reduceIte, qv_assign, strEq]; rfl) ?_
      refine WL.nil ?_
      refine th_norm ?_
      refine hx_seq ?_
      refine hx_seq ?_
      refine hx_region ?_
      refine WL.qq (by simp only [EN, Nat.reduceEqDiff, reduceIte, qv_assign, strEq]; rfl) ?_
      refine WL.nil ?_
      refine th_norm ?_
      refine hx_block ?_
      refine hx_loopS [4, 5, 12, 13, 14, 15, 16, 17, 18, 19, 20, 21, 22, 23, 24, 25, 26, 27, 28, 29, 30, 31, 32, 33, 34, 35, 36, 37] (fun k e => ∃ (k2 : Nat), L.length - k2 = k ∧ (k2 ≤ L.length) ∧ e 4 = iV (aS x.c.a (L.take k2)) ∧ e 5 = .int .i64 k2) _ ⟨0, rfl, ?_, ?_, ?_⟩ ?_
      · omega
      · simp only [EN, Nat.reduceEqDiff, reduceIte, k0_0, i3_0, strEq] <;> rfl
      · simp only [EN, Nat.reduceEqDiff, reduceIte, k0_0, i3_0, strEq] <;> rfl
      ·
        rintro k e1L hfr1 ⟨k2, rfl, hk2, i4_1, i5_1⟩
        have k0_1 := hfr1 0 rfl; try simp only [EN, Nat.reduceEqDiff, reduceIte, k0_0, strEq] at k0_1
        have k3_1 := hfr1 3 rfl; try simp only [EN, Nat.reduceEqDiff, reduceIte, i3_0, strEq] at k3_1
        refine hx_seq ?_
        refine hx_seq ?_
        refine hx_region ?_
        refine WL.qq (by simp only [EN, Nat.reduceEqDiff, reduceIte, qv_move, i5_1, strEq]; rfl) ?_
        refine WL.qq (by simp only [EN, Nat.reduceEqDiff, reduceIte, qv_move, k0_1, strEq]; rfl) ?_
        refine WL.qq (by simp only [EN, Nat.reduceEqDiff, reduceIte, qv_len, ln77, AR, strEq]; rfl) ?_
        refine WL.qq (by simp only [EN, Nat.reduceEqDiff, reduceIte, qv_binOp, binv_lss, strEq]; rfl) ?_
        refine WL.nil ?_
        refine th_norm ?_
        refine hx_cond (by simp only [EN, Nat.reduceEqDiff, reduceIte, strEq]; rfl) (fun hct15 => ?_) (fun hct15 => ?_)
        ·
          try simp only [BD] at hct15
          obtain ⟨y, hy⟩ := atG (l := L) (i := k2) (by omega)
          obtain ⟨b', off', hae, _, _, _, _, hy2, hy3⟩ := po_rd hs hy
          cases hae
          have hst := aS_step x.c.a hy; have hb1 := aS_tk x.c.a hl hr k2; have hyd := hr y (List.mem_of_getElem? hy); have hyd1 := hyd.1; have hyd2 := hyd.2; simp only [MA] at hyd1 hyd2
          refine hx_skip ?_
          refine th_norm ?_
          refine hx_seq ?_
          refine hx_block ?_
          refine hx_seq ?_
          apply hx_draw2 Rel.same [] [] [] rfl (by decide +kernel) rfl
          refine LD.qq rfl rfl (by simp only [EN, Nat.reduceEqDiff, reduceIte, qv_move, k0_1, strEq]; rfl) ?_
          refine LD.qq rfl rfl (by simp only [EN, Nat.reduceEqDiff, reduceIte, qv_move, i5_1, strEq]; rfl) ?_
          refine LD.qq rfl rfl (by simp only [EN, Nat.reduceEqDiff, reduceIte, qv_indexAddr, strEq]; (try simp (disch := omega) only [ix77, Int.toNat_natCast]); rfl) ?_
          refine LD.qq rfl rfl (by simp only [EN, Nat.reduceEqDiff, reduceIte, qv_fieldAddr, fa76_0, Nat.zero_add, Nat.reduceAdd, strEq]; rfl) ?_
          refine LD.qq rfl rfl (by simp only [EN, Nat.reduceEqDiff, reduceIte, qv_fieldAddr, fa24_2, Nat.zero_add, Nat.reduceAdd, strEq]; rfl) ?_
          refine LD.qq rfl rfl (by simp only [EN, Nat.reduceEqDiff, reduceIte, k0_1, k3_1, i4_1, i5_1, strEq, qv_load, ld9, Int.toNat_natCast, hy2]; rfl) ?_
          refine LD.qq rfl rfl (by simp only [EN, Nat.reduceEqDiff, reduceIte, qv_move, k0_1, strEq]; rfl) ?_
          refine LD.qq rfl rfl (by simp only [EN, Nat.reduceEqDiff, reduceIte, qv_move, k3_1, strEq]; rfl) ?_
          refine LD.qq rfl rfl (by simp only [EN, Nat.reduceEqDiff, reduceIte, qv_indexAddr, strEq]; (try simp (disch := omega) only [ix77, Int.toNat_natCast]); rfl) ?_
          refine LD.qq rfl rfl (by simp only [EN, Nat.reduceEqDiff, reduceIte, qv_fieldAddr, fa76_0, Nat.zero_add, Nat.reduceAdd, strEq]; rfl) ?_
          refine LD.qq rfl rfl (by simp only [EN, Nat.reduceEqDiff, reduceIte, qv_fieldAddr, fa24_2, Nat.zero_add, Nat.reduceAdd, strEq]; rfl) ?_
          refine LD.qq rfl rfl (by simp only [EN, Nat.reduceEqDiff, reduceIte, k0_1, k3_1, i4_1, i5_1, strEq, qv_load, ld9, Int.toNat_natCast, hx2]; rfl) ?_
          refine LD.qq rfl rfl (by simp only [EN, Nat.reduceEqDiff, reduceIte, qv_binOp, binv_eql, eq9, Option.map_some, strEq]; rfl) ?_
          refine LD.nil ?_
          rintro _ rfl -
          refine WL.nil ?_
          refine th_norm ?_
          refine hx_cond (by simp only [EN, Nat.reduceEqDiff, reduceIte, strEq]; rfl) (fun hct30 => ?_) (fun hct30 => ?_)
          ·
            try simp only [BD] at hct30
            rw [if_pos hct30] at hst
            refine hx_region ?_
            refine WL.qq (by simp only [EN, Nat.reduceEqDiff, reduceIte, qv_move, i4_1, strEq]; rfl) ?_
            refine WL.qq (by simp only [EN, Nat.reduceEqDiff, reduceIte, qv_move, k0_1, strEq]; rfl) ?_
            refine WL.qq (by simp only [EN, Nat.reduceEqDiff, reduceIte, qv_move, i5_1, strEq]; rfl) ?_
            refine WL.qq (by simp only [EN, Nat.reduceEqDiff, reduceIte, qv_indexAddr, strEq]; (try simp (disch := omega) only [ix77, Int.toNat_natCast]); rfl) ?_
            refine WL.qq (by simp only [EN, Nat.reduceEqDiff, reduceIte, qv_fieldAddr, fa76_1, Nat.zero_add, Nat.reduceAdd, strEq]; rfl) ?_
            refine WL.qq (by simp only [EN, Nat.reduceEqDiff, reduceIte, k0_1, k3_1, i4_1, i5_1, strEq, qv_load, ld2, Int.toNat_natCast, hy3]; rfl) ?_
            refine WL.qq (by simp only [EN, Nat.reduceEqDiff, reduceIte, qv_binOp, binv_add, strEq]; (try simp (disch := omega) only [w64, w8, wu64]); rfl) ?_
            refine WL.qq (by simp only [EN, Nat.reduceEqDiff, reduceIte, qv_assign, strEq]; rfl) ?_
            refine WL.nil ?_
            refine bl_norm ?_
            refine th_norm ?_
            refine hx_region ?_
            refine WL.qq (by simp only [EN, Nat.reduceEqDiff, reduceIte, qv_move, i5_1, strEq]; rfl) ?_
            refine WL.qq (by simp only [EN, Nat.reduceEqDiff, reduceIte, qv_binOp, binv_add, strEq]; (try simp (disch := omega) only [w64, w8, wu64]); rfl) ?_
            refine WL.qq (by simp only [EN, Nat.reduceEqDiff, reduceIte, qv_assign, strEq]; rfl) ?_
            refine WL.nil ?_
            refine th_norm ?_
            refine ⟨rfl, rfl, ?_, _, ?_, k2 + 1, rfl, ?_, ?_, ?_⟩  -- again 0 of loop 1
            · (repeat (first | exact Fr.refl _ _ | refine Fr.set rfl ?_ | refine Fr.put rfl ?_ | with_reducible refine Fr.put0 ?_))
            · omega
            · omega
            · simp only [EN, Nat.reduceEqDiff, reduceIte, k0_1, k3_1, i4_1, i5_1, strEq] <;> first | (rw [hst]; done) | (congr 1; omega) | (rw [hst]; rfl)
            · simp only [EN, Nat.reduceEqDiff, reduceIte, k0_1, k3_1, i4_1, i5_1, strEq] <;> first | rfl | (congr 1; omega)
          ·
            try simp only [BD] at hct30
            rw [if_neg hct30] at hst
            refine hx_skip ?_
            refine bl_norm ?_
            refine th_norm ?_
            refine hx_region ?_
            refine WL.qq (by simp only [EN, Nat.reduceEqDiff, reduceIte, qv_move, i5_1, strEq]; rfl) ?_
            refine WL.qq (by simp only [EN, Nat.reduceEqDiff, reduceIte, qv_binOp, binv_add, strEq]; (try simp (disch := omega) only [w64, w8, wu64]); rfl) ?_
            refine WL.qq (by simp only [EN, Nat.reduceEqDiff, reduceIte, qv_assign, strEq]; rfl) ?_
            refine WL.nil ?_
            refine th_norm ?_
            refine ⟨rfl, rfl, ?_, _, ?_, k2 + 1, rfl, ?_, ?_, ?_⟩  -- again 1 of loop 1
            · (repeat (first | exact Fr.refl _ _ | refine Fr.set rfl ?_ | refine Fr.put rfl ?_ | with_reducible refine Fr.put0 ?_))
            · omega
            · omega
            · simp only [EN, Nat.reduceEqDiff, reduceIte, k0_1, k3_1, i4_1, i5_1, strEq] <;> first | (rw [hst]; done) | (congr 1; omega) | (rw [hst]; rfl)
            · simp only [EN, Nat.reduceEqDiff, reduceIte, k0_1, k3_1, i4_1, i5_1, strEq] <;> first | rfl | (congr 1; omega)
        ·
          try simp only [BD] at hct15
          obtain rfl : k2 = L.length := (by omega)
          rw [List.take_length] at i4_1
          refine hx_exit ?_
          refine th_exit ?_
          refine th_exit ?_
          refine bl_hit ?_
          refine th_norm ?_
          refine hx_seq ?_
          refine hx_region ?_
          refine WL.qq (by simp only [EN, Nat.reduceEqDiff, reduceIte, qv_move, i4_1, strEq]; rfl) ?_
          refine WL.qq (by simp only [EN, Nat.reduceEqDiff, reduceIte, qv_binOp, binv_neq, eq2, Option.map_some, strEq]; rfl) ?_
          refine WL.nil ?_
          refine th_norm ?_
          refine hx_cond (by simp only [EN, Nat.reduceEqDiff, reduceIte, strEq]; rfl) (fun hct39 => ?_) (fun hct39 => ?_)
          ·
            try simp only [BD] at hct39
            refine hx_seq ?_
            refine hx_region ?_
            refine WL.qq (by simp only [EN, Nat.reduceEqDiff, reduceIte, qv_assign, strEq]; rfl) ?_
            refine WL.nil ?_
            refine th_norm ?_
            refine hx_ret ?_
            refine bl_ret ?_
            refine th_ret ?_
            refine th_ret ?_
            refine bl_ret ?_
            refine th_ret ?_
            refine fin_ret [.tmp 2] rfl rfl (by simp only [EN, Nat.reduceEqDiff, reduceIte, resv, k0_1, k3_1, i4_1, i5_1, strEq]; rfl) ?_  -- ret 0 r11
            exact ⟨by simp only [retOf]; congr 1; exact (decide_eq_false (fun hh => hct39 (hh x (List.mem_of_getElem? hx)))).symm, rfl⟩
          ·
            try simp only [BD] at hct39
            refine hx_skip ?_
            refine bl_norm ?_
            refine th_norm ?_
            refine hx_region ?_
            refine WL.qq (by simp only [EN, Nat.reduceEqDiff, reduceIte, qv_move, k3_1, strEq]; rfl) ?_
            refine WL.qq (by simp only [EN, Nat.reduceEqDiff, reduceIte, qv_binOp, binv_add, strEq]; (try simp (disch := omega) only [w64, w8, wu64]); rfl) ?_
            refine WL.qq (by simp only [EN, Nat.reduceEqDiff, reduceIte, qv_assign, strEq]; rfl) ?_
            refine WL.nil ?_
            refine th_norm ?_
            refine ⟨rfl, rfl, ?_, _, ?_, i + 1, rfl, ?_, ?_, ?_⟩  -- again 0 of loop 0
            · (repeat (first | exact Fr.refl _ _ | refine Fr.set rfl ?_ | refine Fr.put rfl ?_ | with_reducible refine Fr.put0 ?_ | refine Fr.trans ?_ (Fr.of hfr1 rfl)))
            · omega
            · omega
            · exact all_take hz hx (by simpa using hct39)
            · simp only [EN, Nat.reduceEqDiff, reduceIte, k0_1, k3_1, i4_1, i5_1, strEq] <;> first | rfl | (congr 1; omega)
    ·
      try simp only [BD] at hct9
      refine hx_exit ?_
      refine th_exit ?_
      refine th_exit ?_
      refine bl_hit ?_
      refine th_norm ?_
      refine hx_seq ?_
      refine hx_region ?_
      refine WL.qq (by simp only [EN, Nat.reduceEqDiff, reduceIte, qv_assign, strEq]; rfl) ?_
      refine WL.nil ?_
      refine th_norm ?_
      refine hx_ret ?_
      refine fin_ret [.tmp 2] rfl rfl (by simp only [EN, Nat.reduceEqDiff, reduceIte, resv, k0_0, i3_0, strEq]; rfl) ?_  -- ret 1 r12
      exact ⟨by simp only [retOf]; congr 1; exact (decide_eq_true (fun y hy => all_end hz (by omega) y hy)).symm, rfl⟩
/-- A place within the postings of bundles. -/
theorem allP_at {l : List HB} {i j : Nat} {b : HB} (hi : l[i]? = some b) (hj : j ≤ (pos b).length) : (allP l).take ((allP (l.take i)).length + j) = allP (l.take i) ++ (pos b).take j := by
  have h1 : l = l.take i ++ b :: l.drop (i + 1) := by
    rw [← drop_atG hi, List.take_append_drop]
  have h2 : allP l = allP (l.take i) ++ (pos b ++ allP (l.drop (i + 1))) := by
    conv => lhs; rw [h1]
    simp only [allP, List.flatMap_append, List.flatMap_cons]
  rw [h2, List.take_length_add_append, List.take_append_of_le_length hj]
theorem dS_at (q : AC) {l : List HB} (hn : (allP l).length ≤ 2000) (hr : ∀ x ∈ allP l, inR x.d) {i j : Nat} {b : HB} (hi : l[i]? = some b) (hj : j ≤ (pos b).length) : -2000000000000000000 ≤ dS q (allP (l.take i) ++ (pos b).take j) ∧ dS q (allP (l.take i) ++ (pos b).take j) ≤ 2000000000000000000 := by
  rw [← allP_at hi hj]
  exact dS_tk q hn hr _
set_option maxHeartbeats 2000000 in
theorem c_rBalance (a : Option Addr) (xs : List BX) (c : Nat) (q : AC) (n : Nat) (hl : xs.length ≤ 1000) (hN : (allP (xs.map BX.bd)).length ≤ 2000) (hr : ∀ x ∈ allP (xs.map BX.bd), inR x.d) (hf : ∀ x ∈ xs, FB x.bd) {h : Heap} (hs : SlG 4 bdL h a xs) (hb : BXs h xs) :
    HCalls Try.prog 18 #[.slice a xs.length c, acV q, iV n] h (Grow (iV (dS q (allP ((xs.map BX.bd).take n)))) h) := by
  refine hcalls2 Try.func18 rfl (by decide +kernel) (by simp only [Try.ntmps18]; exact of_decide_eq_true rfl) ?_
  intro e hin
  have e0 := hin 0 _ rfl
  have e1 := hin 1 _ rfl
  have e2 := hin 2 _ rfl
  refine hx_seq ?_
  refine hx_region ?_
  refine WL.box2 (by simp only [EN, Nat.reduceEqDiff, reduceIte, Value.cells, e1, strEq]; rfl) ?_
  intro h1 B1 hx1 hlt1 hB1
  replace hs := hs.ext hx1
  replace hb := hb.ext hx1
  refine WL.qq (by simp only [EN, Nat.reduceEqDiff, reduceIte, qv_assign, strEq, hB1.cell]; rfl) ?_
  refine WL.nil ?_
  refine th_norm ?_
  refine hx_seq ?_
  refine hx_region ?_
  refine WL.qq (by simp only [EN, Nat.reduceEqDiff, reduceIte, qv_assign, strEq, hB1.cell]; rfl) ?_
  refine WL.nil ?_
  refine th_norm ?_
  refine hx_seq ?_
  refine hx_seq ?_
  refine hx_region ?_
  refine WL.qq (by simp only [EN, Nat.reduceEqDiff, reduceIte, qv_assign, strEq, hB1.cell]; rfl) ?_
  refine WL.nil ?_
  refine th_norm ?_
  refine hx_block ?_
  refine hx_loopS [7, 8, 9, 10, 11, 12, 13, 14, 15, 16, 17, 18, 19, 20, 21, 22, 23, 24, 25, 26, 27, 28, 29, 30, 31, 32, 33, 34, 35, 36, 37, 38, 39, 40, 41, 42, 43, 44, 45, 46, 47, 48, 49, 50, 51, 52, 53, 54, 55, 56, 57, 58, 59, 60, 61] (fun k e => ∃ (i : Nat), xs.length - i = k ∧ (i ≤ xs.length) ∧ (i ≤ n) ∧ e 7 = iV (dS q (allP ((xs.map BX.bd).take i))) ∧ e 8 = .int .i64 i) _ ⟨0, rfl, ?_, ?_, ?_, ?_⟩ ?_
  · omega
  · omega
  · simp only [EN, Nat.reduceEqDiff, reduceIte, e0, e1, e2, strEq, hB1.cell] <;> rfl
  · simp only [EN, Nat.reduceEqDiff, reduceIte, e0, e1, e2, strEq, hB1.cell] <;> rfl
  ·
    rintro k e0L hfr0 ⟨i, rfl, hi, hin2, i7_0, i8_0⟩
    have k0_0 := hfr0 0 rfl; try simp only [EN, Nat.reduceEqDiff, reduceIte, e0, strEq, hB1.cell] at k0_0
    have k2_0 := hfr0 2 rfl; try simp only [EN, Nat.reduceEqDiff, reduceIte, e2, strEq, hB1.cell] at k2_0
    have k4_0 := hfr0 4 rfl; try simp only [EN, Nat.reduceEqDiff, reduceIte, strEq, hB1.cell] at k4_0
    refine hx_seq ?_
    refine hx_seq ?_
    refine hx_region ?_
    refine WL.qq (by simp only [EN, Nat.reduceEqDiff, reduceIte, qv_move, i8_0, strEq, hB1.cell]; rfl) ?_
    refine WL.qq (by simp only [EN, Nat.reduceEqDiff, reduceIte, qv_move, k2_0, strEq, hB1.cell]; rfl) ?_
    refine WL.qq (by simp only [EN, Nat.reduceEqDiff, reduceIte, qv_binOp, binv_lss, strEq, hB1.cell]; rfl) ?_
    refine WL.qq (by simp only [EN, Nat.reduceEqDiff, reduceIte, qv_move, strEq, hB1.cell]; rfl) ?_
    refine WL.cq (gd_at (t := 15) rfl (by simp only [EN, Nat.reduceEqDiff, reduceIte, i8_0, strEq, hB1.cell] <;> rfl)) (fun hg3_4 => by simp only [EN, Nat.reduceEqDiff, reduceIte, qv_move, i8_0, strEq, hB1.cell, hg3_4, GR]; rfl) ?_
    refine WL.cq (gd_at (t := 15) rfl (by simp only [EN, Nat.reduceEqDiff, reduceIte, k0_0, strEq, hB1.cell] <;> rfl)) (fun hg3_5 => by simp only [EN, Nat.reduceEqDiff, reduceIte, qv_move, k0_0, strEq, hB1.cell, hg3_5, GR]; rfl) ?_
    refine WL.cq (gd_at (t := 15) rfl (by simp only [EN, Nat.reduceEqDiff, reduceIte, strEq, hB1.cell] <;> rfl)) (fun hg3_6 => by simp only [EN, Nat.reduceEqDiff, reduceIte, qv_len, ln22, AR, strEq, hB1.cell, hg3_6, GR]; rfl) ?_
    refine WL.cq (gd_at (t := 15) rfl (by simp only [EN, Nat.reduceEqDiff, reduceIte, strEq, hB1.cell] <;> rfl)) (fun hg3_7 => by simp only [EN, Nat.reduceEqDiff, reduceIte, qv_binOp, binv_lss, strEq, hB1.cell, hg3_7, GR]; rfl) ?_
    refine WL.qq (by simp only [EN, Nat.reduceEqDiff, reduceIte, qv_pick, pk_and, pk_or, GR, strEq, hB1.cell]; rfl) ?_
    refine WL.nil ?_
    refine th_norm ?_
    refine hx_cond (by simp only [EN, Nat.reduceEqDiff, reduceIte, strEq, hB1.cell]; rfl) (fun hct20 => ?_) (fun hct20 => ?_)
    ·
      try simp only [BD] at hct20
      obtain ⟨x, hx⟩ := atG (l := xs) (i := i) (by omega)
      obtain ⟨b, off, rfl, _, _, _, _, hc3, _⟩ := bd_rd hs hx
      have hxb := bd_at hx; have hxi := hb x (List.mem_of_getElem? hx); have hxl := (hf x (List.mem_of_getElem? hx)).lens
      refine hx_skip ?_
      refine th_norm ?_
      refine hx_seq ?_
      refine hx_block ?_
      refine hx_seq ?_
      refine hx_region ?_
      refine WL.qq (by simp only [EN, Nat.reduceEqDiff, reduceIte, qv_assign, strEq, hB1.cell]; rfl) ?_
      refine WL.nil ?_
      refine th_norm ?_
      refine hx_block ?_
      refine hx_loopS [7, 9, 10, 11, 23, 24, 25, 26, 27, 28, 29, 30, 31, 32, 33, 34, 35, 36, 37, 38, 39, 40, 41, 42, 43, 44, 45, 46, 47, 48, 49, 50, 51, 52, 53, 54, 55, 56, 57, 58, 59, 60, 61] (fun k e => ∃ (k2 : Nat), x.ps.length - k2 = k ∧ (k2 ≤ x.ps.length) ∧ e 7 = iV (dS q (allP ((xs.map BX.bd).take i) ++ (pos x.bd).take (fl x k2))) ∧ e 9 = .int .i64 k2) _ ⟨0, rfl, ?_, ?_, ?_⟩ ?_
      · omega
      · simp only [EN, Nat.reduceEqDiff, reduceIte, k0_0, k2_0, k4_0, i7_0, i8_0, strEq, hB1.cell] <;> rw [show fl x 0 = 0 from rfl, List.take_zero, List.append_nil]
      · simp only [EN, Nat.reduceEqDiff, reduceIte, k0_0, k2_0, k4_0, i7_0, i8_0, strEq, hB1.cell] <;> rfl
      ·
        rintro k e1L hfr1 ⟨k2, rfl, hk2, i7_1, i9_1⟩
        have k0_1 := hfr1 0 rfl; try simp only [EN, Nat.reduceEqDiff, reduceIte, k0_0, strEq, hB1.cell] at k0_1
        have k2_1 := hfr1 2 rfl; try simp only [EN, Nat.reduceEqDiff, reduceIte, k2_0, strEq, hB1.cell] at k2_1
        have k4_1 := hfr1 4 rfl; try simp only [EN, Nat.reduceEqDiff, reduceIte, k4_0, strEq, hB1.cell] at k4_1
        have k8_1 := hfr1 8 rfl; try simp only [EN, Nat.reduceEqDiff, reduceIte, i8_0, strEq, hB1.cell] at k8_1
        refine hx_seq ?_
        refine hx_seq ?_
        refine hx_region ?_
        refine WL.qq (by simp only [EN, Nat.reduceEqDiff, reduceIte, qv_move, i9_1, strEq, hB1.cell]; rfl) ?_
        refine WL.qq (by simp only [EN, Nat.reduceEqDiff, reduceIte, qv_move, k0_1, strEq, hB1.cell]; rfl) ?_
        refine WL.qq (by simp only [EN, Nat.reduceEqDiff, reduceIte, qv_move, k8_1, strEq, hB1.cell]; rfl) ?_
        refine WL.qq (by simp only [EN, Nat.reduceEqDiff, reduceIte, qv_indexAddr, strEq, hB1.cell]; (try simp (disch := omega) only [ix22, Int.toNat_natCast]); rfl) ?_
        refine WL.qq (by simp only [EN, Nat.reduceEqDiff, reduceIte, qv_fieldAddr, fa45_3, Nat.zero_add, Nat.reduceAdd, strEq, hB1.cell]; rfl) ?_
        refine WL.qq (by simp only [EN, Nat.reduceEqDiff, reduceIte, k0_1, k2_1, k4_1, k8_1, i7_1, i9_1, strEq, hB1.cell, qv_load, ld43, Int.toNat_natCast, hc3]; rfl) ?_
        refine WL.qq (by simp only [EN, Nat.reduceEqDiff, reduceIte, qv_len, ln43, AR, strEq, hB1.cell]; rfl) ?_
        refine WL.qq (by simp only [EN, Nat.reduceEqDiff, reduceIte, qv_binOp, binv_lss, strEq, hB1.cell]; rfl) ?_
        refine WL.nil ?_
        refine th_norm ?_
        refine hx_cond (by simp only [EN, Nat.reduceEqDiff, reduceIte, strEq, hB1.cell]; rfl) (fun hct30 => ?_) (fun hct30 => ?_)
        ·
          try simp only [BD] at hct30
          obtain ⟨y, hy⟩ := atG (l := x.ps) (i := k2) (by omega)
          obtain ⟨b2, off2, ha2, _, _, hp1⟩ := pt_rd hxi.1 hy
          have hyl := hxl.2 y (List.mem_of_getElem? hy); have hyi : SlG 4 poL _ y.a y.ps := hxi.2 y (List.mem_of_getElem? hy)
          refine hx_skip ?_
          refine th_norm ?_
          refine hx_seq ?_
          refine hx_block ?_
          refine hx_seq ?_
          refine hx_region ?_
          refine WL.qq (by simp only [EN, Nat.reduceEqDiff, reduceIte, qv_move, k0_1, strEq, hB1.cell]; rfl) ?_
          refine WL.qq (by simp only [EN, Nat.reduceEqDiff, reduceIte, qv_move, k8_1, strEq, hB1.cell]; rfl) ?_
          refine WL.qq (by simp only [EN, Nat.reduceEqDiff, reduceIte, qv_indexAddr, strEq, hB1.cell]; (try simp (disch := omega) only [ix22, Int.toNat_natCast]); rfl) ?_
          refine WL.qq (by simp only [EN, Nat.reduceEqDiff, reduceIte, qv_fieldAddr, fa45_3, Nat.zero_add, Nat.reduceAdd, strEq, hB1.cell]; rfl) ?_
          refine WL.qq (by simp only [EN, Nat.reduceEqDiff, reduceIte, k0_1, k2_1, k4_1, k8_1, i7_1, i9_1, strEq, hB1.cell, qv_load, ld43, Int.toNat_natCast, hc3]; rfl) ?_
          refine WL.qq (by simp only [EN, Nat.reduceEqDiff, reduceIte, qv_move, i9_1, strEq, hB1.cell]; rfl) ?_
          refine WL.qq (by simp only [EN, Nat.reduceEqDiff, reduceIte, qv_indexAddr, strEq, hB1.cell, ha2]; (try simp (disch := omega) only [ix43, Int.toNat_natCast]); rfl) ?_
          refine WL.qq (by simp only [EN, Nat.reduceEqDiff, reduceIte, qv_fieldAddr, fa79_1, Nat.zero_add, Nat.reduceAdd, strEq, hB1.cell]; rfl) ?_
          refine WL.qq (by simp only [EN, Nat.reduceEqDiff, reduceIte, k0_1, k2_1, k4_1, k8_1, i7_1, i9_1, strEq, hB1.cell, qv_load, ld77, Int.toNat_natCast, hp1]; rfl) ?_
          refine WL.qq (by simp only [EN, Nat.reduceEqDiff, reduceIte, qv_assign, strEq, hB1.cell]; rfl) ?_
          refine WL.nil ?_
          refine th_norm ?_
          refine hx_seq ?_
          refine hx_region ?_
          refine WL.qq (by simp only [EN, Nat.reduceEqDiff, reduceIte, qv_assign, strEq, hB1.cell]; rfl) ?_
          refine WL.nil ?_
          refine th_norm ?_
          refine hx_block ?_
          refine hx_loopS [7, 11, 42, 43, 44, 45, 46, 47, 48, 49, 50, 51, 52, 53, 54, 55, 56, 57, 58, 59, 60, 61] (fun k e => ∃ (m2 : Nat), y.ps.length - m2 = k ∧ (m2 ≤ y.ps.length) ∧ e 7 = iV (dS q (allP ((xs.map BX.bd).take i) ++ (pos x.bd).take (fl x k2 + m2))) ∧ e 11 = .int .i64 m2) _ ⟨0, rfl, ?_, ?_, ?_⟩ ?_
          · omega
          · simp only [EN, Nat.reduceEqDiff, reduceIte, k0_1, k2_1, k4_1, k8_1, i7_1, i9_1, strEq, hB1.cell] <;> rfl
          · simp only [EN, Nat.reduceEqDiff, reduceIte, k0_1, k2_1, k4_1, k8_1, i7_1, i9_1, strEq, hB1.cell] <;> rfl
          ·
            rintro k e2L hfr2 ⟨m2, rfl, hm2, i7_2, i11_2⟩
            have k0_2 := hfr2 0 rfl; try simp only [EN, Nat.reduceEqDiff, reduceIte, k0_1, strEq, hB1.cell] at k0_2
            have k2_2 := hfr2 2 rfl; try simp only [EN, Nat.reduceEqDiff, reduceIte, k2_1, strEq, hB1.cell] at k2_2
            have k4_2 := hfr2 4 rfl; try simp only [EN, Nat.reduceEqDiff, reduceIte, k4_1, strEq, hB1.cell] at k4_2
            have k8_2 := hfr2 8 rfl; try simp only [EN, Nat.reduceEqDiff, reduceIte, k8_1, strEq, hB1.cell] at k8_2
            have k9_2 := hfr2 9 rfl; try simp only [EN, Nat.reduceEqDiff, reduceIte, i9_1, strEq, hB1.cell] at k9_2
            have k10_2 := hfr2 10 rfl; try simp only [EN, Nat.reduceEqDiff, reduceIte, strEq, hB1.cell] at k10_2
            refine hx_seq ?_
            refine hx_seq ?_
            refine hx_region ?_
            refine WL.qq (by simp only [EN, Nat.reduceEqDiff, reduceIte, qv_move, i11_2, strEq, hB1.cell]; rfl) ?_
            refine WL.qq (by simp only [EN, Nat.reduceEqDiff, reduceIte, qv_move, k10_2, strEq, hB1.cell]; rfl) ?_
            refine WL.qq (by simp only [EN, Nat.reduceEqDiff, reduceIte, qv_len, ln77, AR, strEq, hB1.cell]; rfl) ?_
            refine WL.qq (by simp only [EN, Nat.reduceEqDiff, reduceIte, qv_binOp, binv_lss, strEq, hB1.cell]; rfl) ?_
            refine WL.nil ?_
            refine th_norm ?_
            refine hx_cond (by simp only [EN, Nat.reduceEqDiff, reduceIte, strEq, hB1.cell]; rfl) (fun hct45 => ?_) (fun hct45 => ?_)
            ·
              try simp only [BD] at hct45
              obtain ⟨z, hz⟩ := atG (l := y.ps) (i := m2) (by omega)
              obtain ⟨b3, off3, ha3, _, hr3, _, _, _, hz3⟩ := po_rd hyi hz
              have hzat := fl_at hy hz
              have hzm : z ∈ allP (xs.map BX.bd) := mem_allP (List.mem_of_getElem? hxb) (List.mem_of_getElem? hzat)
              have hyd := hr z hzm; have hyd1 := hyd.1; have hyd2 := hyd.2; simp only [MA] at hyd1 hyd2
              have hst : dS q (allP ((xs.map BX.bd).take i) ++ (pos x.bd).take (fl x k2 + m2 + 1)) = dS q (allP ((xs.map BX.bd).take i) ++ (pos x.bd).take (fl x k2 + m2)) + if z.c = q then z.d else 0 := (by rw [dS_app, dS_app, dS_step q hzat]; omega)
              have hb1 := dS_at q hN hr hxb (Nat.le_of_lt (List.getElem?_eq_some_iff.1 hzat).1)
              refine hx_skip ?_
              refine th_norm ?_
              refine hx_seq ?_
              refine hx_block ?_
              refine hx_seq ?_
              apply hx_draw2 Rel.same [] [] [] rfl (by decide +kernel) rfl
              refine LD.qq rfl rfl (by simp only [EN, Nat.reduceEqDiff, reduceIte, qv_move, k10_2, strEq, hB1.cell]; rfl) ?_
              refine LD.qq rfl rfl (by simp only [EN, Nat.reduceEqDiff, reduceIte, qv_move, i11_2, strEq, hB1.cell]; rfl) ?_
              refine LD.qq rfl rfl (by simp only [EN, Nat.reduceEqDiff, reduceIte, qv_indexAddr, strEq, hB1.cell, ha3]; (try simp (disch := omega) only [ix77, Int.toNat_natCast]); rfl) ?_
              refine LD.qq rfl rfl (by simp only [EN, Nat.reduceEqDiff, reduceIte, qv_fieldAddr, fa76_0, Nat.zero_add, Nat.reduceAdd, strEq, hB1.cell]; rfl) ?_
              refine LD.qq rfl rfl (by simp only [EN, Nat.reduceEqDiff, reduceIte, k0_2, k2_2, k4_2, k8_2, k9_2, k10_2, i7_2, i11_2, strEq, hB1.cell, qv_load, ld24, Int.toNat_natCast, hr3]; rfl) ?_
              refine LD.qq rfl rfl (by simp only [EN, Nat.reduceEqDiff, reduceIte, qv_load, ld24, readN, AR, Nat.zero_add, Nat.reduceAdd, k4_2, strEq, hB1.cell]; rfl) ?_
              refine LD.qq rfl rfl (by simp only [EN, Nat.reduceEqDiff, reduceIte, qv_binOp, binv_eql, eqs24, Option.map_some, strEq, hB1.cell]; rfl) ?_
              refine LD.nil ?_
              rintro _ rfl -
              refine WL.nil ?_
              refine th_norm ?_
              refine hx_cond (by simp only [EN, Nat.reduceEqDiff, reduceIte, strEq, hB1.cell]; rfl) (fun hct54 => ?_) (fun hct54 => ?_)
              ·
                try simp only [BD] at hct54
                have hq : z.c = q := (by simpa [ac_eq] using hct54)
                rw [if_pos hq] at hst
                refine hx_region ?_
                refine WL.qq (by simp only [EN, Nat.reduceEqDiff, reduceIte, qv_move, i7_2, strEq, hB1.cell]; rfl) ?_
                refine WL.qq (by simp only [EN, Nat.reduceEqDiff, reduceIte, qv_move, k10_2, strEq, hB1.cell]; rfl) ?_
                refine WL.qq (by simp only [EN, Nat.reduceEqDiff, reduceIte, qv_move, i11_2, strEq, hB1.cell]; rfl) ?_
                refine WL.qq (by simp only [EN, Nat.reduceEqDiff, reduceIte, qv_indexAddr, strEq, hB1.cell, ha3]; (try simp (disch := omega) only [ix77, Int.toNat_natCast]); rfl) ?_
                refine WL.qq (by simp only [EN, Nat.reduceEqDiff, reduceIte, qv_fieldAddr, fa76_1, Nat.zero_add, Nat.reduceAdd, strEq, hB1.cell]; rfl) ?_
                refine WL.qq (by simp only [EN, Nat.reduceEqDiff, reduceIte, k0_2, k2_2, k4_2, k8_2, k9_2, k10_2, i7_2, i11_2, strEq, hB1.cell, qv_load, ld2, Int.toNat_natCast, hz3]; rfl) ?_
                refine WL.qq (by simp only [EN, Nat.reduceEqDiff, reduceIte, qv_binOp, binv_add, strEq, hB1.cell]; (try simp (disch := omega) only [w64, w8, wu64]); rfl) ?_
                refine WL.qq (by simp only [EN, Nat.reduceEqDiff, reduceIte, qv_assign, strEq, hB1.cell]; rfl) ?_
                refine WL.nil ?_
                refine bl_norm ?_
                refine th_norm ?_
                refine hx_region ?_
                refine WL.qq (by simp only [EN, Nat.reduceEqDiff, reduceIte, qv_move, i11_2, strEq, hB1.cell]; rfl) ?_
                refine WL.qq (by simp only [EN, Nat.reduceEqDiff, reduceIte, qv_binOp, binv_add, strEq, hB1.cell]; (try simp (disch := omega) only [w64, w8, wu64]); rfl) ?_
                refine WL.qq (by simp only [EN, Nat.reduceEqDiff, reduceIte, qv_assign, strEq, hB1.cell]; rfl) ?_
                refine WL.nil ?_
                refine th_norm ?_
                refine ⟨rfl, rfl, ?_, _, ?_, m2 + 1, rfl, ?_, ?_, ?_⟩  -- again 0 of loop 2
                · (repeat (first | exact Fr.refl _ _ | refine Fr.set rfl ?_ | refine Fr.put rfl ?_ | with_reducible refine Fr.put0 ?_))
                · omega
                · omega
                · simp only [EN, Nat.reduceEqDiff, reduceIte, k0_2, k2_2, k4_2, k8_2, k9_2, k10_2, i7_2, i11_2, strEq, hB1.cell] <;> first | (rw [← Nat.add_assoc, hst]; done) | (congr 1; rw [← Nat.add_assoc]; omega) | (rw [← Nat.add_assoc, hst]; rfl)
                · simp only [EN, Nat.reduceEqDiff, reduceIte, k0_2, k2_2, k4_2, k8_2, k9_2, k10_2, i7_2, i11_2, strEq, hB1.cell] <;> first | rfl | (congr 1; omega)
              ·
                try simp only [BD] at hct54
                have hq : z.c ≠ q := fun hh => (by rw [ac_eq] at hh; simp [hh] at hct54)
                rw [if_neg hq] at hst
                refine hx_skip ?_
                refine bl_norm ?_
                refine th_norm ?_
                refine hx_region ?_
                refine WL.qq (by simp only [EN, Nat.reduceEqDiff, reduceIte, qv_move, i11_2, strEq, hB1.cell]; rfl) ?_
                refine WL.qq (by simp only [EN, Nat.reduceEqDiff, reduceIte, qv_binOp, binv_add, strEq, hB1.cell]; (try simp (disch := omega) only [w64, w8, wu64]); rfl) ?_
                refine WL.qq (by simp only [EN, Nat.reduceEqDiff, reduceIte, qv_assign, strEq, hB1.cell]; rfl) ?_
                refine WL.nil ?_
                refine th_norm ?_
                refine ⟨rfl, rfl, ?_, _, ?_, m2 + 1, rfl, ?_, ?_, ?_⟩  -- again 1 of loop 2
                · (repeat (first | exact Fr.refl _ _ | refine Fr.set rfl ?_ | refine Fr.put rfl ?_ | with_reducible refine Fr.put0 ?_))
                · omega
                · omega
                · simp only [EN, Nat.reduceEqDiff, reduceIte, k0_2, k2_2, k4_2, k8_2, k9_2, k10_2, i7_2, i11_2, strEq, hB1.cell] <;> first | (rw [← Nat.add_assoc, hst]; done) | (congr 1; rw [← Nat.add_assoc]; omega) | (rw [← Nat.add_assoc, hst]; rfl)
                · simp only [EN, Nat.reduceEqDiff, reduceIte, k0_2, k2_2, k4_2, k8_2, k9_2, k10_2, i7_2, i11_2, strEq, hB1.cell] <;> first | rfl | (congr 1; omega)
            ·
              try simp only [BD] at hct45
              have hfe : fl x (k2 + 1) = fl x k2 + m2 := (by rw [fl_step hy]; omega)
              refine hx_exit ?_
              refine th_exit ?_
              refine th_exit ?_
              refine bl_hit ?_
              refine bl_norm ?_
              refine th_norm ?_
              refine hx_region ?_
              refine WL.qq (by simp only [EN, Nat.reduceEqDiff, reduceIte, qv_move, k9_2, strEq, hB1.cell]; rfl) ?_
              refine WL.qq (by simp only [EN, Nat.reduceEqDiff, reduceIte, qv_binOp, binv_add, strEq, hB1.cell]; (try simp (disch := omega) only [w64, w8, wu64]); rfl) ?_
              refine WL.qq (by simp only [EN, Nat.reduceEqDiff, reduceIte, qv_assign, strEq, hB1.cell]; rfl) ?_
              refine WL.nil ?_
              refine th_norm ?_
              refine ⟨rfl, rfl, ?_, _, ?_, k2 + 1, rfl, ?_, ?_, ?_⟩  -- again 0 of loop 1
              · (repeat (first | exact Fr.refl _ _ | refine Fr.set rfl ?_ | refine Fr.put rfl ?_ | with_reducible refine Fr.put0 ?_ | refine Fr.trans ?_ (Fr.of hfr2 rfl)))
              · omega
              · omega
              · simp only [EN, Nat.reduceEqDiff, reduceIte, k0_2, k2_2, k4_2, k8_2, k9_2, k10_2, i7_2, i11_2, strEq, hB1.cell] <;> rw [hfe]
              · simp only [EN, Nat.reduceEqDiff, reduceIte, k0_2, k2_2, k4_2, k8_2, k9_2, k10_2, i7_2, i11_2, strEq, hB1.cell] <;> first | rfl | (congr 1; omega)
        ·
          try simp only [BD] at hct30
          have hfe : fl x k2 = (pos x.bd).length := fl_end (by omega)
          rw [hfe, List.take_length, ← allP_step hxb] at i7_1
          refine hx_exit ?_
          refine th_exit ?_
          refine th_exit ?_
          refine bl_hit ?_
          refine bl_norm ?_
          refine th_norm ?_
          refine hx_region ?_
          refine WL.qq (by simp only [EN, Nat.reduceEqDiff, reduceIte, qv_move, k8_1, strEq, hB1.cell]; rfl) ?_
          refine WL.qq (by simp only [EN, Nat.reduceEqDiff, reduceIte, qv_binOp, binv_add, strEq, hB1.cell]; (try simp (disch := omega) only [w64, w8, wu64]); rfl) ?_
          refine WL.qq (by simp only [EN, Nat.reduceEqDiff, reduceIte, qv_assign, strEq, hB1.cell]; rfl) ?_
          refine WL.nil ?_
          refine th_norm ?_
          refine ⟨rfl, rfl, ?_, _, ?_, i + 1, rfl, ?_, ?_, ?_, ?_⟩  -- again 0 of loop 0
          · (repeat (first | exact Fr.refl _ _ | refine Fr.set rfl ?_ | refine Fr.put rfl ?_ | with_reducible refine Fr.put0 ?_ | refine Fr.trans ?_ (Fr.of hfr1 rfl)))
          · omega
          · omega
          · omega
          · simp only [EN, Nat.reduceEqDiff, reduceIte, k0_1, k2_1, k4_1, k8_1, i7_1, i9_1, strEq, hB1.cell] <;> first | rfl | (congr 1; omega)
          · simp only [EN, Nat.reduceEqDiff, reduceIte, k0_1, k2_1, k4_1, k8_1, i7_1, i9_1, strEq, hB1.cell] <;> first | rfl | (congr 1; omega)
    ·
      try simp only [BD] at hct20
      have hte : (xs.map BX.bd).take i = (xs.map BX.bd).take n := (by rcases hct20 with h9 | h9; (obtain rfl : i = n := by omega); rfl; (rw [List.take_of_length_le (by rw [List.length_map]; omega), List.take_of_length_le (by rw [List.length_map]; omega)]))
      rw [hte] at i7_0
      refine hx_exit ?_
      refine th_exit ?_
      refine th_exit ?_
      refine bl_hit ?_
      refine th_norm ?_
      refine hx_seq ?_
      refine hx_region ?_
      refine WL.qq (by simp only [EN, Nat.reduceEqDiff, reduceIte, qv_move, i7_0, strEq, hB1.cell]; rfl) ?_
      refine WL.qq (by simp only [EN, Nat.reduceEqDiff, reduceIte, qv_assign, strEq, hB1.cell]; rfl) ?_
      refine WL.nil ?_
      refine th_norm ?_
      refine hx_ret ?_
      refine fin_ret [.tmp 6] rfl rfl (by simp only [EN, Nat.reduceEqDiff, reduceIte, resv, k0_0, k2_0, k4_0, i7_0, i8_0, strEq, hB1.cell]; rfl) ?_  -- ret 0 r14
      exact ⟨rfl, (hx1)⟩
theorem c_rBalanceA {h : Heap} (a : Option Addr) (xs : List BX) (c : Nat) (m : Nat) (hm : m = xs.length) (q : AC) (hl : xs.length ≤ 1000) (hN : (allP (xs.map BX.bd)).length ≤ 2000) (hr : ∀ x ∈ allP (xs.map BX.bd), inR x.d) (hf : ∀ x ∈ xs, FB x.bd) (hs : SlG 4 bdL h a xs) (hb : BXs h xs) :
    HCalls Try.prog 18 #[.slice a m c, acV q, iV m] h (Grow (iV (dS q (allP (xs.map BX.bd)))) h) := by
  subst hm
  have h1 := c_rBalance a xs c q xs.length hl hN hr hf hs hb
  rw [List.take_of_length_le (by rw [List.length_map]; exact Nat.le_refl _)] at h1
  exact h1
end GL


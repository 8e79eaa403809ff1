/- History: the reference's balanced, Balance, Check. -/
import Derived.Test.YtklhfckdifkpaaaHisE
import Derived.Test.YtklhfckdifkpaaaGl34
set_option linter.unusedSimpArgs false
set_option linter.unusedVariables false
set_option linter.unnecessarySimpa false
namespace GL
open Go Go.Proofs
set_option maxRecDepth 8000
theorem aS_step (q : ByteArray) {l : List PO} {i : Nat} {y : PO} (h : l[i]? = some y) : aS q (l.take (i + 1)) = aS q (l.take i) + if y.c.a = q then y.d else 0 := by
  rw [List.take_add_one, h, aS_app]; simp [aS_one]
theorem aS_tk (q : ByteArray) {l : List PO} (hn : l.length ≤ 2000) (hr : ∀ x ∈ l, inR x.d) (k : Nat) : -2000000000000000000 ≤ aS q (l.take k) ∧ aS q (l.take k) ≤ 2000000000000000000 := by
  have h1 := aS_bd q (l := l.take k) (fun x hx => hr x (List.mem_of_mem_take hx))
  rw [List.length_take] at h1
  simp only [MA] at h1
  omega
theorem dS_tk (q : AC) {l : List PO} (hn : l.length ≤ 2000) (hr : ∀ x ∈ l, inR x.d) (k : Nat) : -2000000000000000000 ≤ dS q (l.take k) ∧ dS q (l.take k) ≤ 2000000000000000000 := by
  have h1 := dS_bd q (l := l.take k) (fun x hx => hr x (List.mem_of_mem_take hx))
  rw [List.length_take] at h1
  simp only [MA] at h1
  omega
set_option maxHeartbeats 1000000 in
theorem c_rBal (a : Option Addr) (L : List PO) (c : Nat) (hl : L.length ≤ 2000) (hr : ∀ x ∈ L, inR x.d) {h : Heap} (hs : SlG 4 poL h a L) : HCalls Try.prog 65 #[.slice a L.length c] h (Pure (.bool (decide (bal L))) h) := by
  refine hcalls2 Try.func65 rfl (by decide +kernel) (by simp only [Try.ntmps65]; exact of_decide_eq_true rfl) ?_
  intro e hin
  have e0 := hin 0 _ rfl
  refine hx_seq ?_
  refine hx_region ?_
  refine WL.qq (by simp only [EN, Nat.reduceEqDiff, reduceIte, qv_assign, strEq]; rfl) ?_
  refine WL.nil ?_
  refine th_norm ?_
  refine hx_seq ?_
  refine hx_seq ?_
  refine hx_region ?_
  refine WL.qq (by simp only [EN, Nat.reduceEqDiff, reduceIte, qv_assign, strEq]; rfl) ?_
  refine WL.nil ?_
  refine th_norm ?_
  refine hx_block ?_
  refine hx_loopS [2, 3, 4, 5, 6, 7, 8, 9, 10, 11, 12, 13, 14, 15, 16, 17, 18, 19, 20, 21, 22, 23, 24, 25, 26, 27, 28, 29, 30, 31, 32, 33, 34, 35, 36, 37, 38, 39] (fun k e => ∃ (i : Nat), L.length - i = k ∧ (i ≤ L.length) ∧ (∀ y ∈ L.take i, aS y.c.a L = 0) ∧ e 3 = .int .i64 i) _ ⟨0, rfl, ?_, ?_, ?_⟩ ?_
  · omega
  · intro y hy; simp at hy
  · simp only [EN, Nat.reduceEqDiff, reduceIte, e0, strEq] <;> rfl
  ·
    rintro k e0L hfr0 ⟨i, rfl, hi, hz, i3_0⟩
    have k0_0 := hfr0 0 rfl; try simp only [EN, Nat.reduceEqDiff, reduceIte, e0, strEq] at k0_0
    refine hx_seq ?_
    refine hx_seq ?_
    refine hx_region ?_
    refine WL.qq (by simp only [EN, Nat.reduceEqDiff, reduceIte, qv_move, i3_0, strEq]; rfl) ?_
    refine WL.qq (by simp only [EN, Nat.reduceEqDiff, reduceIte, qv_move, k0_0, strEq]; rfl) ?_
    refine WL.qq (by simp only [EN, Nat.reduceEqDiff, reduceIte, qv_len, ln77, AR, strEq]; rfl) ?_
    refine WL.qq (by simp only [EN, Nat.reduceEqDiff, reduceIte, qv_binOp, binv_lss, strEq]; rfl) ?_
    refine WL.nil ?_
    refine th_norm ?_
    refine hx_cond (by simp only [EN, Nat.reduceEqDiff, reduceIte, strEq]; rfl) (fun hct9 => ?_) (fun hct9 => ?_)
    ·
      try simp only [BD] at hct9
      obtain ⟨x, hx⟩ := atG (l := L) (i := i) (by omega)
      obtain ⟨b, off, rfl, _, _, _, _, hx2, _⟩ := po_rd hs hx
      refine hx_skip ?_
      refine th_norm ?_
      refine hx_seq ?_
      refine hx_block ?_
      refine hx_seq ?_
      refine hx_region ?_
      refine WL.qq (by simp only [EN, Nat.reduceEqDiff, reduceIte, qv_assign, strEq]; rfl) ?_
      refine WL.nil ?_
      refine th_norm ?_
      refine hx_seq ?_
      refine hx_seq ?_
      refine hx_region ?_
      refine WL.qq (by simp only [EN, Nat.reduceEqDiff, reduceIte, qv_assign, strEq]; rfl) ?_
      refine WL.nil ?_
      refine th_norm ?_
      refine hx_block ?_
      refine hx_loopS [4, 5, 12, 13, 14, 15, 16, 17, 18, 19, 20, 21, 22, 23, 24, 25, 26, 27, 28, 29, 30, 31, 32, 33, 34, 35, 36, 37] (fun k e => ∃ (k2 : Nat), L.length - k2 = k ∧ (k2 ≤ L.length) ∧ e 4 = iV (aS x.c.a (L.take k2)) ∧ e 5 = .int .i64 k2) _ ⟨0, rfl, ?_, ?_, ?_⟩ ?_
      · omega
      · simp only [EN, Nat.reduceEqDiff, reduceIte, k0_0, i3_0, strEq] <;> rfl
      · simp only [EN, Nat.reduceEqDiff, reduceIte, k0_0, i3_0, strEq] <;> rfl
      ·
        rintro k e1L hfr1 ⟨k2, rfl, hk2, i4_1, i5_1⟩
        have k0_1 := hfr1 0 rfl; try simp only [EN, Nat.reduceEqDiff, reduceIte, k0_0, strEq] at k0_1
        have k3_1 := hfr1 3 rfl; try simp only [EN, Nat.reduceEqDiff, reduceIte, i3_0, strEq] at k3_1
        refine hx_seq ?_
        refine hx_seq ?_
        refine hx_region ?_
        refine WL.qq (by simp only [EN, Nat.reduceEqDiff, reduceIte, qv_move, i5_1, strEq]; rfl) ?_
        refine WL.qq (by simp only [EN, Nat.reduceEqDiff, reduceIte, qv_move, k0_1, strEq]; rfl) ?_
        refine WL.qq (by simp only [EN, Nat.reduceEqDiff, reduceIte, qv_len, ln77, AR, strEq]; rfl) ?_
        refine WL.qq (by simp only [EN, Nat.reduceEqDiff, reduceIte, qv_binOp, binv_lss, strEq]; rfl) ?_
        refine WL.nil ?_
        refine th_norm ?_
        refine hx_cond (by simp only [EN, Nat.reduceEqDiff, reduceIte, strEq]; rfl) (fun hct15 => ?_) (fun hct15 => ?_)
        ·
          try simp only [BD] at hct15
          obtain ⟨y, hy⟩ := atG (l := L) (i := k2) (by omega)
          obtain ⟨b', off', hae, _, _, _, _, hy2, hy3⟩ := po_rd hs hy
          cases hae
          have hst := aS_step x.c.a hy; have hb1 := aS_tk x.c.a hl hr k2; have hyd := hr y (List.mem_of_getElem? hy); have hyd1 := hyd.1; have hyd2 := hyd.2; simp only [MA] at hyd1 hyd2
          refine hx_skip ?_
          refine th_norm ?_
          refine hx_seq ?_
          refine hx_block ?_
          refine hx_seq ?_
          apply hx_draw2 Rel.same [] [] [] rfl (by decide +kernel) rfl
          refine LD.qq rfl rfl (by simp only [EN, Nat.reduceEqDiff, reduceIte, qv_move, k0_1, strEq]; rfl) ?_
          refine LD.qq rfl rfl (by simp only [EN, Nat.reduceEqDiff, reduceIte, qv_move, i5_1, strEq]; rfl) ?_
          refine LD.qq rfl rfl (by simp only [EN, Nat.reduceEqDiff, reduceIte, qv_indexAddr, strEq]; (try simp (disch := omega) only [ix77, Int.toNat_natCast]); rfl) ?_
          refine LD.qq rfl rfl (by simp only [EN, Nat.reduceEqDiff, reduceIte, qv_fieldAddr, fa76_0, Nat.zero_add, Nat.reduceAdd, strEq]; rfl) ?_
          refine LD.qq rfl rfl (by simp only [EN, Nat.reduceEqDiff, reduceIte, qv_fieldAddr, fa24_2, Nat.zero_add, Nat.reduceAdd, strEq]; rfl) ?_
          refine LD.qq rfl rfl (by simp only [EN, Nat.reduceEqDiff, reduceIte, k0_1, k3_1, i4_1, i5_1, strEq, qv_load, ld9, Int.toNat_natCast, hy2]; rfl) ?_
          refine LD.qq rfl rfl (by simp only [EN, Nat.reduceEqDiff, reduceIte, qv_move, k0_1, strEq]; rfl) ?_
          refine LD.qq rfl rfl (by simp only [EN, Nat.reduceEqDiff, reduceIte, qv_move, k3_1, strEq]; rfl) ?_
          refine LD.qq rfl rfl (by simp only [EN, Nat.reduceEqDiff, reduceIte, qv_indexAddr, strEq]; (try simp (disch := omega) only [ix77, Int.toNat_natCast]); rfl) ?_
          refine LD.qq rfl rfl (by simp only [EN, Nat.reduceEqDiff, reduceIte, qv_fieldAddr, fa76_0, Nat.zero_add, Nat.reduceAdd, strEq]; rfl) ?_
          refine LD.qq rfl rfl (by simp only [EN, Nat.reduceEqDiff, reduceIte, qv_fieldAddr, fa24_2, Nat.zero_add, Nat.reduceAdd, strEq]; rfl) ?_
          refine LD.qq rfl rfl (by simp only [EN, Nat.reduceEqDiff, reduceIte, k0_1, k3_1, i4_1, i5_1, strEq, qv_load, ld9, Int.toNat_natCast, hx2]; rfl) ?_
          refine LD.qq rfl rfl (by simp only [EN, Nat.reduceEqDiff, reduceIte, qv_binOp, binv_eql, eq9, Option.map_some, strEq]; rfl) ?_
          refine LD.nil ?_
          rintro _ rfl -
          refine WL.nil ?_
          refine th_norm ?_
          refine hx_cond (by simp only [EN, Nat.reduceEqDiff, reduceIte, strEq]; rfl) (fun hct30 => ?_) (fun hct30 => ?_)
          ·
            try simp only [BD] at hct30
            rw [if_pos hct30] at hst
            refine hx_region ?_
            refine WL.qq (by simp only [EN, Nat.reduceEqDiff, reduceIte, qv_move, i4_1, strEq]; rfl) ?_
            refine WL.qq (by simp only [EN, Nat.reduceEqDiff, reduceIte, qv_move, k0_1, strEq]; rfl) ?_
            refine WL.qq (by simp only [EN, Nat.reduceEqDiff, reduceIte, qv_move, i5_1, strEq]; rfl) ?_
            refine WL.qq (by simp only [EN, Nat.reduceEqDiff, reduceIte, qv_indexAddr, strEq]; (try simp (disch := omega) only [ix77, Int.toNat_natCast]); rfl) ?_
            refine WL.qq (by simp only [EN, Nat.reduceEqDiff, reduceIte, qv_fieldAddr, fa76_1, Nat.zero_add, Nat.reduceAdd, strEq]; rfl) ?_
            refine WL.qq (by simp only [EN, Nat.reduceEqDiff, reduceIte, k0_1, k3_1, i4_1, i5_1, strEq, qv_load, ld2, Int.toNat_natCast, hy3]; rfl) ?_
            refine WL.qq (by simp only [EN, Nat.reduceEqDiff, reduceIte, qv_binOp, binv_add, strEq]; (try simp (disch := omega) only [w64, w8, wu64]); rfl) ?_
            refine WL.qq (by simp only [EN, Nat.reduceEqDiff, reduceIte, qv_assign, strEq]; rfl) ?_
            refine WL.nil ?_
            refine bl_norm ?_
            refine th_norm ?_
            refine hx_region ?_
            refine WL.qq (by simp only [EN, Nat.reduceEqDiff, reduceIte, qv_move, i5_1, strEq]; rfl) ?_
            refine WL.qq (by simp only [EN, Nat.reduceEqDiff, reduceIte, qv_binOp, binv_add, strEq]; (try simp (disch := omega) only [w64, w8, wu64]); rfl) ?_
            refine WL.qq (by simp only [EN, Nat.reduceEqDiff, reduceIte, qv_assign, strEq]; rfl) ?_
            refine WL.nil ?_
            refine th_norm ?_
            refine ⟨rfl, rfl, ?_, _, ?_, k2 + 1, rfl, ?_, ?_, ?_⟩  -- again 0 of loop 1
            · (repeat (first | exact Fr.refl _ _ | refine Fr.set rfl ?_ | refine Fr.put rfl ?_ | with_reducible refine Fr.put0 ?_))
            · omega
            · omega
            · simp only [EN, Nat.reduceEqDiff, reduceIte, k0_1, k3_1, i4_1, i5_1, strEq] <;> first | (rw [hst]; done) | (congr 1; omega) | (rw [hst]; rfl)
            · simp only [EN, Nat.reduceEqDiff, reduceIte, k0_1, k3_1, i4_1, i5_1, strEq] <;> first | rfl | (congr 1; omega)
          ·
            try simp only [BD] at hct30
            rw [if_neg hct30] at hst
            refine hx_skip ?_
            refine bl_norm ?_
            refine th_norm ?_
            refine hx_region ?_
            refine WL.qq (by simp only [EN, Nat.reduceEqDiff, reduceIte, qv_move, i5_1, strEq]; rfl) ?_
            refine WL.qq (by simp only [EN, Nat.reduceEqDiff, reduceIte, qv_binOp, binv_add, strEq]; (try simp (disch := omega) only [w64, w8, wu64]); rfl) ?_
            refine WL.qq (by simp only [EN, Nat.reduceEqDiff, reduceIte, qv_assign, strEq]; rfl) ?_
            refine WL.nil ?_
            refine th_norm ?_
            refine ⟨rfl, rfl, ?_, _, ?_, k2 + 1, rfl, ?_, ?_, ?_⟩  -- again 1 of loop 1
            · (repeat (first | exact Fr.refl _ _ | refine Fr.set rfl ?_ | refine Fr.put rfl ?_ | with_reducible refine Fr.put0 ?_))
            · omega
            · omega
            · simp only [EN, Nat.reduceEqDiff, reduceIte, k0_1, k3_1, i4_1, i5_1, strEq] <;> first | (rw [hst]; done) | (congr 1; omega) | (rw [hst]; rfl)
            · simp only [EN, Nat.reduceEqDiff, reduceIte, k0_1, k3_1, i4_1, i5_1, strEq] <;> first | rfl | (congr 1; omega)
        ·
          try simp only [BD] at hct15
          obtain rfl : k2 = L.length := (by omega)
          rw [List.take_length] at i4_1
          refine hx_exit ?_
          refine th_exit ?_
          refine th_exit ?_
          refine bl_hit ?_
          refine th_norm ?_
          refine hx_seq ?_
          refine hx_region ?_
          refine WL.qq (by simp only [EN, Nat.reduceEqDiff, reduceIte, qv_move, i4_1, strEq]; rfl) ?_
          refine WL.qq (by simp only [EN, Nat.reduceEqDiff, reduceIte, qv_binOp, binv_neq, eq2, Option.map_some, strEq]; rfl) ?_
          refine WL.nil ?_
          refine th_norm ?_
          refine hx_cond (by simp only [EN, Nat.reduceEqDiff, reduceIte, strEq]; rfl) (fun hct39 => ?_) (fun hct39 => ?_)
          ·
            try simp only [BD] at hct39
            refine hx_seq ?_
            refine hx_region ?_
            refine WL.qq (by simp only [EN, Nat.reduceEqDiff, reduceIte, qv_assign, strEq]; rfl) ?_
            refine WL.nil ?_
            refine th_norm ?_
            refine hx_ret ?_
            refine bl_ret ?_
            refine th_ret ?_
            refine th_ret ?_
            refine bl_ret ?_
            refine th_ret ?_
            refine fin_ret [.tmp 2] rfl rfl (by simp only [EN, Nat.reduceEqDiff, reduceIte, resv, k0_1, k3_1, i4_1, i5_1, strEq]; rfl) ?_  -- ret 0 r11
            exact ⟨by simp only [retOf]; congr 1; exact (decide_eq_false (fun hh => hct39 (hh x (List.mem_of_getElem? hx)))).symm, rfl⟩
          ·
            try simp only [BD] at hct39
            refine hx_skip ?_
            refine bl_norm ?_
            refine th_norm ?_
            refine hx_region ?_
            refine WL.qq (by simp only [EN, Nat.reduceEqDiff, reduceIte, qv_move, k3_1, strEq]; rfl) ?_
            refine WL.qq (by simp only [EN, Nat.reduceEqDiff, reduceIte, qv_binOp, binv_add, strEq]; (try simp (disch := omega) only [w64, w8, wu64]); rfl) ?_
            refine WL.qq (by simp only [EN, Nat.reduceEqDiff, reduceIte, qv_assign, strEq]; rfl) ?_
            refine WL.nil ?_
            refine th_norm ?_
            refine ⟨rfl, rfl, ?_, _, ?_, i + 1, rfl, ?_, ?_, ?_⟩  -- again 0 of loop 0
            · (repeat (first | exact Fr.refl _ _ | refine Fr.set rfl ?_ | refine Fr.put rfl ?_ | with_reducible refine Fr.put0 ?_ | refine Fr.trans ?_ (Fr.of hfr1 rfl)))
            · omega
            · omega
            · exact all_take hz hx (by simpa using hct39)
            · simp only [EN, Nat.reduceEqDiff, reduceIte, k0_1, k3_1, i4_1, i5_1, strEq] <;> first | rfl | (congr 1; omega)
    ·
      try simp only [BD] at hct9
      refine hx_exit ?_
      refine th_exit ?_
      refine th_exit ?_
      refine bl_hit ?_
      refine th_norm ?_
      refine hx_seq ?_
      refine hx_region ?_
      refine WL.qq (by simp only [EN, Nat.reduceEqDiff, reduceIte, qv_assign, strEq]; rfl) ?_
      refine WL.nil ?_
      refine th_norm ?_
      refine hx_ret ?_
      refine fin_ret [.tmp 2] rfl rfl (by simp only [EN, Nat.reduceEqDiff, reduceIte, resv, k0_0, i3_0, strEq]; rfl) ?_  -- ret 1 r12
      exact ⟨by simp only [retOf]; congr 1; exact (decide_eq_true (fun y hy => all_end hz (by omega) y hy)).symm, rfl⟩
/-- A place within the postings of bundles. -/
theorem allP_at {l : List HB} {i j : Nat} {b : HB} (hi : l[i]? = some b) (hj : j ≤ (pos b).length) : (allP l).take ((allP (l.take i)).length + j) = allP (l.take i) ++ (pos b).take j := by
  have h1 : l = l.take i ++ b :: l.drop (i + 1) := by
    rw [← drop_atG hi, List.take_append_drop]
  have h2 : allP l = allP (l.take i) ++ (pos b ++ allP (l.drop (i + 1))) := by
    conv => lhs; rw [h1]
    simp only [allP, List.flatMap_append, List.flatMap_cons]
  rw [h2, List.take_length_add_append, List.take_append_of_le_length hj]
theorem dS_at (q : AC) {l : List HB} (hn : (allP l).length ≤ 2000) (hr : ∀ x ∈ allP l, inR x.d) {i j : Nat} {b : HB} (hi : l[i]? = some b) (hj : j ≤ (pos b).length) : -2000000000000000000 ≤ dS q (allP (l.take i) ++ (pos b).take j) ∧ dS q (allP (l.take i) ++ (pos b).take j) ≤ 2000000000000000000 := by
  rw [← allP_at hi hj]
  exact dS_tk q hn hr _
set_option maxHeartbeats 2000000 in
theorem c_rBalance (a : Option Addr) (xs : List BX) (c : Nat) (q : AC) (n : Nat) (hl : xs.length ≤ 1000) (hN : (allP (xs.map BX.bd)).length ≤ 2000) (hr : ∀ x ∈ allP (xs.map BX.bd), inR x.d) (hf : ∀ x ∈ xs, FB x.bd) {h : Heap} (hs : SlG 4 bdL h a xs) (hb : BXs h xs) :
    HCalls Try.prog 18 #[.slice a xs.length c, acV q, iV n] h (Grow (iV (dS q (allP ((xs.map BX.bd).take n)))) h) := by
  refine hcalls2 Try.func18 rfl (by decide +kernel) (by simp only [Try.ntmps18]; exact of_decide_eq_true rfl) ?_
  intro e hin
  have e0 := hin 0 _ rfl
  have e1 := hin 1 _ rfl
  have e2 := hin 2 _ rfl
  refine hx_seq ?_
  refine hx_region ?_
  refine WL.box2 (by simp only [EN, Nat.reduceEqDiff, reduceIte, Value.cells, e1, strEq]; rfl) ?_
  intro h1 B1 hx1 hlt1 hB1
  replace hs := hs.ext hx1
  replace hb := hb.ext hx1
  refine WL.qq (by simp only [EN, Nat.reduceEqDiff, reduceIte, qv_assign, strEq, hB1.cell]; rfl) ?_
  refine WL.nil ?_
  refine th_norm ?_
  refine hx_seq ?_
  refine hx_region ?_
  refine WL.qq (by simp only [EN, Nat.reduceEqDiff, reduceIte, qv_assign, strEq, hB1.cell]; rfl) ?_
  refine WL.nil ?_
  refine th_norm ?_
  refine hx_seq ?_
  refine hx_seq ?_
  refine hx_region ?_
  refine WL.qq (by simp only [EN, Nat.reduceEqDiff, reduceIte, qv_assign, strEq, hB1.cell]; rfl) ?_
  refine WL.nil ?_
  refine th_norm ?_
  refine hx_block ?_
  refine hx_loopS [7, 8, 9, 10, 11, 12, 13, 14, 15, 16, 17, 18, 19, 20, 21, 22, 23, 24, 25, 26, 27, 28, 29, 30, 31, 32, 33, 34, 35, 36, 37, 38, 39, 40, 41, 42, 43, 44, 45, 46, 47, 48, 49, 50, 51, 52, 53, 54, 55, 56, 57, 58, 59, 60, 61] (fun k e => ∃ (i : Nat), xs.length - i = k ∧ (i ≤ xs.length) ∧ (i ≤ n) ∧ e 7 = iV (dS q (allP ((xs.map BX.bd).take i))) ∧ e 8 = .int .i64 i) _ ⟨0, rfl, ?_, ?_, ?_, ?_⟩ ?_
  · omega
  · omega
  · simp only [EN, Nat.reduceEqDiff, reduceIte, e0, e1, e2, strEq, hB1.cell] <;> rfl
  · simp only [EN, Nat.reduceEqDiff, reduceIte, e0, e1, e2, strEq, hB1.cell] <;> rfl
  ·
    rintro k e0L hfr0 ⟨i, rfl, hi, hin2, i7_0, i8_0⟩
    have k0_0 := hfr0 0 rfl; try simp only [EN, Nat.reduceEqDiff, reduceIte, e0, strEq, hB1.cell] at k0_0
    have k2_0 := hfr0 2 rfl; try simp only [EN, Nat.reduceEqDiff, reduceIte, e2, strEq, hB1.cell] at k2_0
    have k4_0 := hfr0 4 rfl; try simp only [EN, Nat.reduceEqDiff, reduceIte, strEq, hB1.cell] at k4_0
    refine hx_seq ?_
    refine hx_seq ?_
    refine hx_region ?_
    refine WL.qq (by simp only [EN, Nat.reduceEqDiff, reduceIte, qv_move, i8_0, strEq, hB1.cell]; rfl) ?_
    refine WL.qq (by simp only [EN, Nat.reduceEqDiff, reduceIte, qv_move, k2_0, strEq, hB1.cell]; rfl) ?_
    refine WL.qq (by simp only [EN, Nat.reduceEqDiff, reduceIte, qv_binOp, binv_lss, strEq, hB1.cell]; rfl) ?_
    refine WL.qq (by simp only [EN, Nat.reduceEqDiff, reduceIte, qv_move, strEq, hB1.cell]; rfl) ?_
    refine WL.cq (gd_at (t := 15) rfl (by simp only [EN, Nat.reduceEqDiff, reduceIte, i8_0, strEq, hB1.cell] <;> rfl)) (fun hg3_4 => by simp only [EN, Nat.reduceEqDiff, reduceIte, qv_move, i8_0, strEq, hB1.cell, hg3_4, GR]; rfl) ?_
    refine WL.cq (gd_at (t := 15) rfl (by simp only [EN, Nat.reduceEqDiff, reduceIte, k0_0, strEq, hB1.cell] <;> rfl)) (fun hg3_5 => by simp only [EN, Nat.reduceEqDiff, reduceIte, qv_move, k0_0, strEq, hB1.cell, hg3_5, GR]; rfl) ?_
    refine WL.cq (gd_at (t := 15) rfl (by simp only [EN, Nat.reduceEqDiff, reduceIte, strEq, hB1.cell] <;> rfl)) (fun hg3_6 => by simp only [EN, Nat.reduceEqDiff, reduceIte, qv_len, ln22, AR, strEq, hB1.cell, hg3_6, GR]; rfl) ?_
    refine WL.cq (gd_at (t := 15) rfl (by simp only [EN, Nat.reduceEqDiff, reduceIte, strEq, hB1.cell] <;> rfl)) (fun hg3_7 => by simp only [EN, Nat.reduceEqDiff, reduceIte, qv_binOp, binv_lss, strEq, hB1.cell, hg3_7, GR]; rfl) ?_
    refine WL.qq (by simp only [EN, Nat.reduceEqDiff, reduceIte, qv_pick, pk_and, pk_or, GR, strEq, hB1.cell]; rfl) ?_
    refine WL.nil ?_
    refine th_norm ?_
    refine hx_cond (by simp only [EN, Nat.reduceEqDiff, reduceIte, strEq, hB1.cell]; rfl) (fun hct20 => ?_) (fun hct20 => ?_)
    ·
      try simp only [BD] at hct20
      obtain ⟨x, hx⟩ := atG (l := xs) (i := i) (by omega)
      obtain ⟨b, off, rfl, _, _, _, _, hc3, _⟩ := bd_rd hs hx
      have hxb := bd_at hx; have hxi := hb x (List.mem_of_getElem? hx); have hxl := (hf x (List.mem_of_getElem? hx)).lens
      refine hx_skip ?_
      refine th_norm ?_
      refine hx_seq ?_
      refine hx_block ?_
      refine hx_seq ?_
      refine hx_region ?_
      refine WL.qq (by simp only [EN, Nat.reduceEqDiff, reduceIte, qv_assign, strEq, hB1.cell]; rfl) ?_
      refine WL.nil ?_
      refine th_norm ?_
      refine hx_block ?_
      refine hx_loopS [7, 9, 10, 11, 23, 24, 25, 26, 27, 28, 29, 30, 31, 32, 33, 34, 35, 36, 37, 38, 39, 40, 41, 42, 43, 44, 45, 46, 47, 48, 49, 50, 51, 52, 53, 54, 55, 56, 57, 58, 59, 60, 61] (fun k e => ∃ (k2 : Nat), x.ps.length - k2 = k ∧ (k2 ≤ x.ps.length) ∧ e 7 = iV (dS q (allP ((xs.map BX.bd).take i) ++ (pos x.bd).take (fl x k2))) ∧ e 9 = .int .i64 k2) _ ⟨0, rfl, ?_, ?_, ?_⟩ ?_
      · omega
      · simp only [EN, Nat.reduceEqDiff, reduceIte, k0_0, k2_0, k4_0, i7_0, i8_0, strEq, hB1.cell] <;> rw [show fl x 0 = 0 from rfl, List.take_zero, List.append_nil]
      · simp only [EN, Nat.reduceEqDiff, reduceIte, k0_0, k2_0, k4_0, i7_0, i8_0, strEq, hB1.cell] <;> rfl
      ·
        rintro k e1L hfr1 ⟨k2, rfl, hk2, i7_1, i9_1⟩
        have k0_1 := hfr1 0 rfl; try simp only [EN, Nat.reduceEqDiff, reduceIte, k0_0, strEq, hB1.cell] at k0_1
        have k2_1 := hfr1 2 rfl; try simp only [EN, Nat.reduceEqDiff, reduceIte, k2_0, strEq, hB1.cell] at k2_1
        have k4_1 := hfr1 4 rfl; try simp only [EN, Nat.reduceEqDiff, reduceIte, k4_0, strEq, hB1.cell] at k4_1
        have k8_1 := hfr1 8 rfl; try simp only [EN, Nat.reduceEqDiff, reduceIte, i8_0, strEq, hB1.cell] at k8_1
        refine hx_seq ?_
        refine hx_seq ?_
        refine hx_region ?_
        refine WL.qq (by simp only [EN, Nat.reduceEqDiff, reduceIte, qv_move, i9_1, strEq, hB1.cell]; rfl) ?_
        refine WL.qq (by simp only [EN, Nat.reduceEqDiff, reduceIte, qv_move, k0_1, strEq, hB1.cell]; rfl) ?_
        refine WL.qq (by simp only [EN, Nat.reduceEqDiff, reduceIte, qv_move, k8_1, strEq, hB1.cell]; rfl) ?_
        refine WL.qq (by simp only [EN, Nat.reduceEqDiff, reduceIte, qv_indexAddr, strEq, hB1.cell]; (try simp (disch := omega) only [ix22, Int.toNat_natCast]); rfl) ?_
        refine WL.qq (by simp only [EN, Nat.reduceEqDiff, reduceIte, qv_fieldAddr, fa45_3, Nat.zero_add, Nat.reduceAdd, strEq, hB1.cell]; rfl) ?_
        refine WL.qq (by simp only [EN, Nat.reduceEqDiff, reduceIte, k0_1, k2_1, k4_1, k8_1, i7_1, i9_1, strEq, hB1.cell, qv_load, ld43, Int.toNat_natCast, hc3]; rfl) ?_
        refine WL.qq (by simp only [EN, Nat.reduceEqDiff, reduceIte, qv_len, ln43, AR, strEq, hB1.cell]; rfl) ?_
        refine WL.qq (by simp only [EN, Nat.reduceEqDiff, reduceIte, qv_binOp, binv_lss, strEq, hB1.cell]; rfl) ?_
        refine WL.nil ?_
        refine th_norm ?_
        refine hx_cond (by simp only [EN, Nat.reduceEqDiff, reduceIte, strEq, hB1.cell]; rfl) (fun hct30 => ?_) (fun hct30 => ?_)
        ·
          try simp only [BD] at hct30
          obtain ⟨y, hy⟩ := atG (l := x.ps) (i := k2) (by omega)
          obtain ⟨b2, off2, ha2, _, _, hp1⟩ := pt_rd hxi.1 hy
          have hyl := hxl.2 y (List.mem_of_getElem? hy); have hyi : SlG 4 poL _ y.a y.ps := hxi.2 y (List.mem_of_getElem? hy)
          refine hx_skip ?_
          refine th_norm ?_
          refine hx_seq ?_
          refine hx_block ?_
          refine hx_seq ?_
          refine hx_region ?_
          refine WL.qq (by simp only [EN, Nat.reduceEqDiff, reduceIte, qv_move, k0_1, strEq, hB1.cell]; rfl) ?_
          refine WL.qq (by simp only [EN, Nat.reduceEqDiff, reduceIte, qv_move, k8_1, strEq, hB1.cell]; rfl) ?_
          refine WL.qq (by simp only [EN, Nat.reduceEqDiff, reduceIte, qv_indexAddr, strEq, hB1.cell]; (try simp (disch := omega) only [ix22, Int.toNat_natCast]); rfl) ?_
          refine WL.qq (by simp only [EN, Nat.reduceEqDiff, reduceIte, qv_fieldAddr, fa45_3, Nat.zero_add, Nat.reduceAdd, strEq, hB1.cell]; rfl) ?_
          refine WL.qq (by simp only [EN, Nat.reduceEqDiff, reduceIte, k0_1, k2_1, k4_1, k8_1, i7_1, i9_1, strEq, hB1.cell, qv_load, ld43, Int.toNat_natCast, hc3]; rfl) ?_
          refine WL.qq (by simp only [EN, Nat.reduceEqDiff, reduceIte, qv_move, i9_1, strEq, hB1.cell]; rfl) ?_
          refine WL.qq (by simp only [EN, Nat.reduceEqDiff, reduceIte, qv_indexAddr, strEq, hB1.cell, ha2]; (try simp (disch := omega) only [ix43, Int.toNat_natCast]); rfl) ?_
          refine WL.qq (by simp only [EN, Nat.reduceEqDiff, reduceIte, qv_fieldAddr, fa79_1, Nat.zero_add, Nat.reduceAdd, strEq, hB1.cell]; rfl) ?_
          refine WL.qq (by simp only [EN, Nat.reduceEqDiff, reduceIte, k0_1, k2_1, k4_1, k8_1, i7_1, i9_1, strEq, hB1.cell, qv_load, ld77, Int.toNat_natCast, hp1]; rfl) ?_
          refine WL.qq (by simp only [EN, Nat.reduceEqDiff, reduceIte, qv_assign, strEq, hB1.cell]; rfl) ?_
          refine WL.nil ?_
          refine th_norm ?_
          refine hx_seq ?_
          refine hx_region ?_
          refine WL.qq (by simp only [EN, Nat.reduceEqDiff, reduceIte, qv_assign, strEq, hB1.cell]; rfl) ?_
          refine WL.nil ?_
          refine th_norm ?_
          refine hx_block ?_
          refine hx_loopS [7, 11, 42, 43, 44, 45, 46, 47, 48, 49, 50, 51, 52, 53, 54, 55, 56, 57, 58, 59, 60, 61] (fun k e => ∃ (m2 : Nat), y.ps.length - m2 = k ∧ (m2 ≤ y.ps.length) ∧ e 7 = iV (dS q (allP ((xs.map BX.bd).take i) ++ (pos x.bd).take (fl x k2 + m2))) ∧ e 11 = .int .i64 m2) _ ⟨0, rfl, ?_, ?_, ?_⟩ ?_
          · omega
          · simp only [EN, Nat.reduceEqDiff, reduceIte, k0_1, k2_1, k4_1, k8_1, i7_1, i9_1, strEq, hB1.cell] <;> rfl
          · simp only [EN, Nat.reduceEqDiff, reduceIte, k0_1, k2_1, k4_1, k8_1, i7_1, i9_1, strEq, hB1.cell] <;> rfl
          ·
            rintro k e2L hfr2 ⟨m2, rfl, hm2, i7_2, i11_2⟩
            have k0_2 := hfr2 0 rfl; try simp only [EN, Nat.reduceEqDiff, reduceIte, k0_1, strEq, hB1.cell] at k0_2
            have k2_2 := hfr2 2 rfl; try simp only [EN, Nat.reduceEqDiff, reduceIte, k2_1, strEq, hB1.cell] at k2_2
            have k4_2 := hfr2 4 rfl; try simp only [EN, Nat.reduceEqDiff, reduceIte, k4_1, strEq, hB1.cell] at k4_2
            have k8_2 := hfr2 8 rfl; try simp only [EN, Nat.reduceEqDiff, reduceIte, k8_1, strEq, hB1.cell] at k8_2
            have k9_2 := hfr2 9 rfl; try simp only [EN, Nat.reduceEqDiff, reduceIte, i9_1, strEq, hB1.cell] at k9_2
            have k10_2 := hfr2 10 rfl; try simp only [EN, Nat.reduceEqDiff, reduceIte, strEq, hB1.cell] at k10_2
            refine hx_seq ?_
            refine hx_seq ?_
            refine hx_region ?_
            refine WL.qq (by simp only [EN, Nat.reduceEqDiff, reduceIte, qv_move, i11_2, strEq, hB1.cell]; rfl) ?_
            refine WL.qq (by simp only [EN, Nat.reduceEqDiff, reduceIte, qv_move, k10_2, strEq, hB1.cell]; rfl) ?_
            refine WL.qq (by simp only [EN, Nat.reduceEqDiff, reduceIte, qv_len, ln77, AR, strEq, hB1.cell]; rfl) ?_
            refine WL.qq (by simp only [EN, Nat.reduceEqDiff, reduceIte, qv_binOp, binv_lss, strEq, hB1.cell]; rfl) ?_
            refine WL.nil ?_
            refine th_norm ?_
            refine hx_cond (by simp only [EN, Nat.reduceEqDiff, reduceIte, strEq, hB1.cell]; rfl) (fun hct45 => ?_) (fun hct45 => ?_)
            ·
              try simp only [BD] at hct45
              obtain ⟨z, hz⟩ := atG (l := y.ps) (i := m2) (by omega)
              obtain ⟨b3, off3, ha3, _, hr3, _, _, _, hz3⟩ := po_rd hyi hz
              have hzat := fl_at hy hz
              have hzm : z ∈ allP (xs.map BX.bd) := mem_allP (List.mem_of_getElem? hxb) (List.mem_of_getElem? hzat)
              have hyd := hr z hzm; have hyd1 := hyd.1; have hyd2 := hyd.2; simp only [MA] at hyd1 hyd2
              have hst : dS q (allP ((xs.map BX.bd).take i) ++ (pos x.bd).take (fl x k2 + m2 + 1)) = dS q (allP ((xs.map BX.bd).take i) ++ (pos x.bd).take (fl x k2 + m2)) + if z.c = q then z.d else 0 := (by rw [dS_app, dS_app, dS_step q hzat]; omega)
              have hb1 := dS_at q hN hr hxb (Nat.le_of_lt (List.getElem?_eq_some_iff.1 hzat).1)
              refine hx_skip ?_
              refine th_norm ?_
              refine hx_seq ?_
              refine hx_block ?_
              refine hx_seq ?_
              apply hx_draw2 Rel.same [] [] [] rfl (by decide +kernel) rfl
              refine LD.qq rfl rfl (by simp only [EN, Nat.reduceEqDiff, reduceIte, qv_move, k10_2, strEq, hB1.cell]; rfl) ?_
              refine LD.qq rfl rfl (by simp only [EN, Nat.reduceEqDiff, reduceIte, qv_move, i11_2, strEq, hB1.cell]; rfl) ?_
              refine LD.qq rfl rfl (by simp only [EN, Nat.reduceEqDiff, reduceIte, qv_indexAddr, strEq, hB1.cell, ha3]; (try simp (disch := omega) only [ix77, Int.toNat_natCast]); rfl) ?_
              refine LD.qq rfl rfl (by simp only [EN, Nat.reduceEqDiff, reduceIte, qv_fieldAddr, fa76_0, Nat.zero_add, Nat.reduceAdd, strEq, hB1.cell]; rfl) ?_
              refine LD.qq rfl rfl (by simp only [EN, Nat.reduceEqDiff, reduceIte, k0_2, k2_2, k4_2, k8_2, k9_2, k10_2, i7_2, i11_2, strEq, hB1.cell, qv_load, ld24, Int.toNat_natCast, hr3]; rfl) ?_
              refine LD.qq rfl rfl (by simp only [EN, Nat.reduceEqDiff, reduceIte, qv_load, ld24, readN, AR, Nat.zero_add, Nat.reduceAdd, k4_2, strEq, hB1.cell]; rfl) ?_
              refine LD.qq rfl rfl (by simp only [EN, Nat.reduceEqDiff, reduceIte, qv_binOp, binv_eql, eqs24, Option.map_some, strEq, hB1.cell]; rfl) ?_
              refine LD.nil ?_
              rintro _ rfl -
              refine WL.nil ?_
              refine th_norm ?_
              refine hx_cond (by simp only [EN, Nat.reduceEqDiff, reduceIte, strEq, hB1.cell]; rfl) (fun hct54 => ?_) (fun hct54 => ?_)
              ·
                try simp only [BD] at hct54
                have hq : z.c = q := (by simpa [ac_eq] using hct54)
                rw [if_pos hq] at hst
                refine hx_region ?_
                refine WL.qq (by simp only [EN, Nat.reduceEqDiff, reduceIte, qv_move, i7_2, strEq, hB1.cell]; rfl) ?_
                refine WL.qq (by simp only [EN, Nat.reduceEqDiff, reduceIte, qv_move, k10_2, strEq, hB1.cell]; rfl) ?_
                refine WL.qq (by simp only [EN, Nat.reduceEqDiff, reduceIte, qv_move, i11_2, strEq, hB1.cell]; rfl) ?_
                refine WL.qq (by simp only [EN, Nat.reduceEqDiff, reduceIte, qv_indexAddr, strEq, hB1.cell, ha3]; (try simp (disch := omega) only [ix77, Int.toNat_natCast]); rfl) ?_
                refine WL.qq (by simp only [EN, Nat.reduceEqDiff, reduceIte, qv_fieldAddr, fa76_1, Nat.zero_add, Nat.reduceAdd, strEq, hB1.cell]; rfl) ?_
                refine WL.qq (by simp only [EN, Nat.reduceEqDiff, reduceIte, k0_2, k2_2, k4_2, k8_2, k9_2, k10_2, i7_2, i11_2, strEq, hB1.cell, qv_load, ld2, Int.toNat_natCast, hz3]; rfl) ?_
                refine WL.qq (by simp only [EN, Nat.reduceEqDiff, reduceIte, qv_binOp, binv_add, strEq, hB1.cell]; (try simp (disch := omega) only [w64, w8, wu64]); rfl) ?_
                refine WL.qq (by simp only [EN, Nat.reduceEqDiff, reduceIte, qv_assign, strEq, hB1.cell]; rfl) ?_
                refine WL.nil ?_
                refine bl_norm ?_
                refine th_norm ?_
                refine hx_region ?_
                refine WL.qq (by simp only [EN, Nat.reduceEqDiff, reduceIte, qv_move, i11_2, strEq, hB1.cell]; rfl) ?_
                refine WL.qq (by simp only [EN, Nat.reduceEqDiff, reduceIte, qv_binOp, binv_add, strEq, hB1.cell]; (try simp (disch := omega) only [w64, w8, wu64]); rfl) ?_
                refine WL.qq (by simp only [EN, Nat.reduceEqDiff, reduceIte, qv_assign, strEq, hB1.cell]; rfl) ?_
                refine WL.nil ?_
                refine th_norm ?_
                refine ⟨rfl, rfl, ?_, _, ?_, m2 + 1, rfl, ?_, ?_, ?_⟩  -- again 0 of loop 2
                · (repeat (first | exact Fr.refl _ _ | refine Fr.set rfl ?_ | refine Fr.put rfl ?_ | with_reducible refine Fr.put0 ?_))
                · omega
                · omega
                · simp only [EN, Nat.reduceEqDiff, reduceIte, k0_2, k2_2, k4_2, k8_2, k9_2, k10_2, i7_2, i11_2, strEq, hB1.cell] <;> first | (rw [← Nat.add_assoc, hst]; done) | (congr 1; rw [← Nat.add_assoc]; omega) | (rw [← Nat.add_assoc, hst]; rfl)
                · simp only [EN, Nat.reduceEqDiff, reduceIte, k0_2, k2_2, k4_2, k8_2, k9_2, k10_2, i7_2, i11_2, strEq, hB1.cell] <;> first | rfl | (congr 1; omega)
              ·
                try simp only [BD] at hct54
                have hq : z.c ≠ q := fun hh => (by rw [ac_eq] at hh; simp [hh] at hct54)
                rw [if_neg hq] at hst
                refine hx_skip ?_
                refine bl_norm ?_
                refine th_norm ?_
                refine hx_region ?_
                refine WL.qq (by simp only [EN, Nat.reduceEqDiff, reduceIte, qv_move, i11_2, strEq, hB1.cell]; rfl) ?_
                refine WL.qq (by simp only [EN, Nat.reduceEqDiff, reduceIte, qv_binOp, binv_add, strEq, hB1.cell]; (try simp (disch := omega) only [w64, w8, wu64]); rfl) ?_
                refine WL.qq (by simp only [EN, Nat.reduceEqDiff, reduceIte, qv_assign, strEq, hB1.cell]; rfl) ?_
                refine WL.nil ?_
                refine th_norm ?_
                refine ⟨rfl, rfl, ?_, _, ?_, m2 + 1, rfl, ?_, ?_, ?_⟩  -- again 1 of loop 2
                · (repeat (first | exact Fr.refl _ _ | refine Fr.set rfl ?_ | refine Fr.put rfl ?_ | with_reducible refine Fr.put0 ?_))
                · omega
                · omega
                · simp only [EN, Nat.reduceEqDiff, reduceIte, k0_2, k2_2, k4_2, k8_2, k9_2, k10_2, i7_2, i11_2, strEq, hB1.cell] <;> first | (rw [← Nat.add_assoc, hst]; done) | (congr 1; rw [← Nat.add_assoc]; omega) | (rw [← Nat.add_assoc, hst]; rfl)
                · simp only [EN, Nat.reduceEqDiff, reduceIte, k0_2, k2_2, k4_2, k8_2, k9_2, k10_2, i7_2, i11_2, strEq, hB1.cell] <;> first | rfl | (congr 1; omega)
            ·
              try simp only [BD] at hct45
              have hfe : fl x (k2 + 1) = fl x k2 + m2 := (by rw [fl_step hy]; omega)
              refine hx_exit ?_
              refine th_exit ?_
              refine th_exit ?_
              refine bl_hit ?_
              refine bl_norm ?_
              refine th_norm ?_
              refine hx_region ?_
              refine WL.qq (by simp only [EN, Nat.reduceEqDiff, reduceIte, qv_move, k9_2, strEq, hB1.cell]; rfl) ?_
              refine WL.qq (by simp only [EN, Nat.reduceEqDiff, reduceIte, qv_binOp, binv_add, strEq, hB1.cell]; (try simp (disch := omega) only [w64, w8, wu64]); rfl) ?_
              refine WL.qq (by simp only [EN, Nat.reduceEqDiff, reduceIte, qv_assign, strEq, hB1.cell]; rfl) ?_
              refine WL.nil ?_
              refine th_norm ?_
              refine ⟨rfl, rfl, ?_, _, ?_, k2 + 1, rfl, ?_, ?_, ?_⟩  -- again 0 of loop 1
              · (repeat (first | exact Fr.refl _ _ | refine Fr.set rfl ?_ | refine Fr.put rfl ?_ | with_reducible refine Fr.put0 ?_ | refine Fr.trans ?_ (Fr.of hfr2 rfl)))
              · omega
              · omega
              · simp only [EN, Nat.reduceEqDiff, reduceIte, k0_2, k2_2, k4_2, k8_2, k9_2, k10_2, i7_2, i11_2, strEq, hB1.cell] <;> rw [hfe]
              · simp only [EN, Nat.reduceEqDiff, reduceIte, k0_2, k2_2, k4_2, k8_2, k9_2, k10_2, i7_2, i11_2, strEq, hB1.cell] <;> first | rfl | (congr 1; omega)
        ·
          try simp only [BD] at hct30
          have hfe : fl x k2 = (pos x.bd).length := fl_end (by omega)
          rw [hfe, List.take_length, ← allP_step hxb] at i7_1
          refine hx_exit ?_
          refine th_exit ?_
          refine th_exit ?_
          refine bl_hit ?_
          refine bl_norm ?_
          refine th_norm ?_
          refine hx_region ?_
          refine WL.qq (by simp only [EN, Nat.reduceEqDiff, reduceIte, qv_move, k8_1, strEq, hB1.cell]; rfl) ?_
          refine WL.qq (by simp only [EN, Nat.reduceEqDiff, reduceIte, qv_binOp, binv_add, strEq, hB1.cell]; (try simp (disch := omega) only [w64, w8, wu64]); rfl) ?_
          refine WL.qq (by simp only [EN, Nat.reduceEqDiff, reduceIte, qv_assign, strEq, hB1.cell]; rfl) ?_
          refine WL.nil ?_
          refine th_norm ?_
          refine ⟨rfl, rfl, ?_, _, ?_, i + 1, rfl, ?_, ?_, ?_, ?_⟩  -- again 0 of loop 0
          · (repeat (first | exact Fr.refl _ _ | refine Fr.set rfl ?_ | refine Fr.put rfl ?_ | with_reducible refine Fr.put0 ?_ | refine Fr.trans ?_ (Fr.of hfr1 rfl)))
          · omega
          · omega
          · omega
          · simp only [EN, Nat.reduceEqDiff, reduceIte, k0_1, k2_1, k4_1, k8_1, i7_1, i9_1, strEq, hB1.cell] <;> first | rfl | (congr 1; omega)
          · simp only [EN, Nat.reduceEqDiff, reduceIte, k0_1, k2_1, k4_1, k8_1, i7_1, i9_1, strEq, hB1.cell] <;> first | rfl | (congr 1; omega)
    ·
      try simp only [BD] at hct20
      have hte : (xs.map BX.bd).take i = (xs.map BX.bd).take n := (by rcases hct20 with h9 | h9; (obtain rfl : i = n := by omega); rfl; (rw [List.take_of_length_le (by rw [List.length_map]; omega), List.take_of_length_le (by rw [List.length_map]; omega)]))
      rw [hte] at i7_0
      refine hx_exit ?_
      refine th_exit ?_
      refine th_exit ?_
      refine bl_hit ?_
      refine th_norm ?_
      refine hx_seq ?_
      refine hx_region ?_
      refine WL.qq (by simp only [EN, Nat.reduceEqDiff, reduceIte, qv_move, i7_0, strEq, hB1.cell]; rfl) ?_
      refine WL.qq (by simp only [EN, Nat.reduceEqDiff, reduceIte, qv_assign, strEq, hB1.cell]; rfl) ?_
      refine WL.nil ?_
      refine th_norm ?_
      refine hx_ret ?_
      refine fin_ret [.tmp 6] rfl rfl (by simp only [EN, Nat.reduceEqDiff, reduceIte, resv, k0_0, k2_0, k4_0, i7_0, i8_0, strEq, hB1.cell]; rfl) ?_  -- ret 0 r14
      exact ⟨rfl, (hx1)⟩
theorem c_rBalanceA {h : Heap} (a : Option Addr) (xs : List BX) (c : Nat) (m : Nat) (hm : m = xs.length) (q : AC) (hl : xs.length ≤ 1000) (hN : (allP (xs.map BX.bd)).length ≤ 2000) (hr : ∀ x ∈ allP (xs.map BX.bd), inR x.d) (hf : ∀ x ∈ xs, FB x.bd) (hs : SlG 4 bdL h a xs) (hb : BXs h xs) :
    HCalls Try.prog 18 #[.slice a m c, acV q, iV m] h (Grow (iV (dS q (allP (xs.map BX.bd)))) h) := by
  subst hm
  have h1 := c_rBalance a xs c q xs.length hl hN hr hf hs hb
  rw [List.take_of_length_le (by rw [List.length_map]; exact Nat.le_refl _)] at h1
  exact h1
end GL
set_option linter.unusedSimpArgs false
set_option linter.unusedVariables false
set_option linter.unnecessarySimpa false
namespace GL
open Go Go.Proofs
set_option maxRecDepth 8000
theorem ap1_stable4 {N : Nat} {el : TypeId} {sz n j1 j2 j3 j5 : Nat} {xs ys : List Value} {c1 : Array Value} (hc1 : c1.size = sz) :
    Stable (Rel.ap1 N el sz n 1 xs ys) (specOf [(j1, Spec.ls N #[] el 0), (j2, Spec.ownZ N el sz n xs), (j5, Spec.ls N c1 el 1), (j3, Spec.own N el sz (n + 1) (xs ++ ys))]) := by
  intro i s hi u a b hr hm
  simp only [specOf, List.lookup] at hi
  repeat' split at hi
  all_goals cases hi
  · exact fun B hv => hr.2.2.2.1 B _ (by simp) (hm B hv)
  · exact hr.2.2.2.2.1 u hm
  · exact fun B hv => hr.2.2.2.1 B _ (by rw [hc1]; exact Nat.le_mul_of_pos_left _ (by omega)) (hm B hv)
  · exact hr.2.2.2.2.2 u hm
theorem pos_pts {x : BX} {i j : Nat} {p : PX} {y : PO} (h : x.ps[i]? = some p) (hj : p.ps[j]? = some y) : y ∈ pos x.bd := List.mem_of_getElem? (fl_at h hj)
set_option maxHeartbeats 4000000 in
theorem c_rCheck (av : Option Addr) (xs : List BX) (cap : Nat) (x : BX) {l : List HB} (hxl : xs.map BX.bd = l) (hg : GS l) (hfb : FB x.bd) {h : Heap} (hs : SlG 4 bdL h av xs) (hb : BXs h xs) (hbi : BXin h x) :
    HCalls Try.prog 40 #[.slice av xs.length cap, .agg (bdL x).toArray] h (Grow (iV (bdE l x.bd)) h) := by
  have hlens := hfb.lens
  have hx12 : xs.length ≤ 12 := by have := hg.n; rw [← hxl] at this; simpa using this
  have hs1 : (l.length : Int) = xs.length := by rw [← hxl, List.length_map]
  obtain ⟨lb, lo, ly, hlast⟩ := last_ex av xs hs
  have h8 : x.ps.length ≤ 8 := by have := hfb.1; simpa [HB.pts, BX.bd] using this
  have hp12 : ∀ q ∈ x.ps, q.ps.length ≤ 12 := fun q hq => (hfb.2 q.pt (List.mem_map.2 ⟨q, hq, rfl⟩)).1
  have hsx := hs
  have ksx := hs
  refine hcalls2 Try.func40 rfl (by decide +kernel) (by simp only [Try.ntmps40]; exact of_decide_eq_true rfl) ?_
  intro e hin
  have e0 := hin 0 _ rfl
  have e1 := hin 1 _ rfl
  refine hx_seq ?_
  refine hx_region ?_
  refine WL.box2 (by simp only [EN, Nat.reduceEqDiff, reduceIte, Value.cells, e1]; rfl) ?_
  intro h1 B1 hx1 hlt1 hB1
  replace hsx := hsx.ext hx1
  replace hb := hb.ext hx1
  replace hbi := hbi.ext hx1
  refine WL.qq (by simp only [EN, Nat.reduceEqDiff, reduceIte, qv_assign, hB1.cell]; rfl) ?_
  refine WL.nil ?_
  refine th_norm ?_
  refine hx_seq ?_
  refine hx_seq ?_
  refine hx_region ?_
  refine WL.qq (by simp only [EN, Nat.reduceEqDiff, reduceIte, qv_fieldAddr, fa45_0, Nat.zero_add, Nat.reduceAdd, hB1.cell]; rfl) ?_
  refine WL.qq (by simp only [EN, Nat.reduceEqDiff, reduceIte, qv_load, ld3, readN, AR, Nat.zero_add, Nat.reduceAdd, hB1.cell]; rfl) ?_
  refine WL.qq (by simp only [EN, Nat.reduceEqDiff, reduceIte, qv_move, e0, hB1.cell]; rfl) ?_
  refine WL.qq (by simp only [EN, Nat.reduceEqDiff, reduceIte, qv_len, ln22, AR, hB1.cell]; rfl) ?_
  refine WL.qq (by simp only [EN, Nat.reduceEqDiff, reduceIte, qv_binOp, binv_add, hB1.cell]; (try simp (disch := omega) only [w64, w8, wu64]); rfl) ?_
  refine WL.qq (by simp only [EN, Nat.reduceEqDiff, reduceIte, qv_binOp, binv_neq, eq3, Option.map_some, hB1.cell]; rfl) ?_
  refine WL.nil ?_
  refine th_norm ?_
  refine hx_cond (by simp only [EN, Nat.reduceEqDiff, reduceIte, hB1.cell]; rfl) (fun hct19 => ?_) (fun hct19 => ?_)
  ·
    try simp only [BD] at hct19
    refine hx_seq ?_
    refine hx_region ?_
    refine WL.qq (by simp only [EN, Nat.reduceEqDiff, reduceIte, qv_assign, hB1.cell]; rfl) ?_
    refine WL.nil ?_
    refine th_norm ?_
    refine hx_ret ?_
    refine th_ret ?_
    refine fin_ret [.tmp 4] rfl rfl (by simp only [EN, Nat.reduceEqDiff, reduceIte, resv, e0, e1, hB1.cell]; rfl) ?_  -- ret 0 r2
    exact ⟨(congrArg iV (bdE_seq (b := x.bd) (by rw [hs1]; exact hct19))).symm, (hx1)⟩
  ·
    try simp only [BD] at hct19
    have hq1 : x.bd.s = (l.length : Int) + 1 := (by rw [hs1]; show x.s = _; simpa using hct19)
    refine hx_skip ?_
    refine th_norm ?_
    refine hx_seq ?_
    refine hx_seq ?_
    refine hx_region ?_
    refine WL.qq (by simp only [EN, Nat.reduceEqDiff, reduceIte, qv_fieldAddr, fa45_1, Nat.zero_add, Nat.reduceAdd, hB1.cell]; rfl) ?_
    refine WL.qq (by simp only [EN, Nat.reduceEqDiff, reduceIte, qv_load, ld3, readN, AR, Nat.zero_add, Nat.reduceAdd, hB1.cell]; rfl) ?_
    refine WL.qq (by simp only [EN, Nat.reduceEqDiff, reduceIte, qv_binOp, binv_lss, hB1.cell]; rfl) ?_
    refine WL.qq (by simp only [EN, Nat.reduceEqDiff, reduceIte, qv_move, hB1.cell]; rfl) ?_
    refine WL.cq (gd_at (t := 23) rfl (by simp only [EN, Nat.reduceEqDiff, reduceIte, hB1.cell] <;> rfl)) (fun hg3_4 => by simp only [EN, Nat.reduceEqDiff, reduceIte, qv_fieldAddr, fa45_1, Nat.zero_add, Nat.reduceAdd, hB1.cell, hg3_4, GR]; rfl) ?_
    refine WL.cq (gd_at (t := 23) rfl (by simp only [EN, Nat.reduceEqDiff, reduceIte, hB1.cell] <;> rfl)) (fun hg3_5 => by simp only [EN, Nat.reduceEqDiff, reduceIte, qv_load, ld3, readN, AR, Nat.zero_add, Nat.reduceAdd, hB1.cell, hg3_5, GR]; rfl) ?_
    refine WL.cq (gd_at (t := 23) rfl (by simp only [EN, Nat.reduceEqDiff, reduceIte, hB1.cell] <;> rfl)) (fun hg3_6 => by simp only [EN, Nat.reduceEqDiff, reduceIte, qv_binOp, binv_gtr, hB1.cell, hg3_6, GR]; rfl) ?_
    refine WL.qq (by simp only [EN, Nat.reduceEqDiff, reduceIte, qv_pick, pk_and, pk_or, GR, hB1.cell]; rfl) ?_
    refine WL.qq (by simp only [EN, Nat.reduceEqDiff, reduceIte, qv_move, hB1.cell]; rfl) ?_
    refine WL.cq (gd_at (t := 28) rfl (by simp only [EN, Nat.reduceEqDiff, reduceIte, hB1.cell] <;> rfl)) (fun hg3_9 => by simp only [EN, Nat.reduceEqDiff, reduceIte, qv_fieldAddr, fa45_2, Nat.zero_add, Nat.reduceAdd, hB1.cell, hg3_9, GR]; rfl) ?_
    refine WL.cq (gd_at (t := 28) rfl (by simp only [EN, Nat.reduceEqDiff, reduceIte, hB1.cell] <;> rfl)) (fun hg3_10 => by simp only [EN, Nat.reduceEqDiff, reduceIte, qv_load, ld3, readN, AR, Nat.zero_add, Nat.reduceAdd, hB1.cell, hg3_10, GR]; rfl) ?_
    refine WL.cq (gd_at (t := 28) rfl (by simp only [EN, Nat.reduceEqDiff, reduceIte, hB1.cell] <;> rfl)) (fun hg3_11 => by simp only [EN, Nat.reduceEqDiff, reduceIte, qv_binOp, binv_lss, hB1.cell, hg3_11, GR]; rfl) ?_
    refine WL.qq (by simp only [EN, Nat.reduceEqDiff, reduceIte, qv_pick, pk_and, pk_or, GR, hB1.cell]; rfl) ?_
    refine WL.qq (by simp only [EN, Nat.reduceEqDiff, reduceIte, qv_move, hB1.cell]; rfl) ?_
    refine WL.cq (gd_at (t := 33) rfl (by simp only [EN, Nat.reduceEqDiff, reduceIte, hB1.cell] <;> rfl)) (fun hg3_14 => by simp only [EN, Nat.reduceEqDiff, reduceIte, qv_fieldAddr, fa45_2, Nat.zero_add, Nat.reduceAdd, hB1.cell, hg3_14, GR]; rfl) ?_
    refine WL.cq (gd_at (t := 33) rfl (by simp only [EN, Nat.reduceEqDiff, reduceIte, hB1.cell] <;> rfl)) (fun hg3_15 => by simp only [EN, Nat.reduceEqDiff, reduceIte, qv_load, ld3, readN, AR, Nat.zero_add, Nat.reduceAdd, hB1.cell, hg3_15, GR]; rfl) ?_
    refine WL.cq (gd_at (t := 33) rfl (by simp only [EN, Nat.reduceEqDiff, reduceIte, hB1.cell] <;> rfl)) (fun hg3_16 => by simp only [EN, Nat.reduceEqDiff, reduceIte, qv_binOp, binv_gtr, hB1.cell, hg3_16, GR]; rfl) ?_
    refine WL.qq (by simp only [EN, Nat.reduceEqDiff, reduceIte, qv_pick, pk_and, pk_or, GR, hB1.cell]; rfl) ?_
    refine WL.nil ?_
    refine th_norm ?_
    refine hx_cond (by simp only [EN, Nat.reduceEqDiff, reduceIte, hB1.cell]; rfl) (fun hct37 => ?_) (fun hct37 => ?_)
    ·
      try simp only [BD] at hct37
      refine hx_seq ?_
      refine hx_region ?_
      refine WL.qq (by simp only [EN, Nat.reduceEqDiff, reduceIte, qv_assign, hB1.cell]; rfl) ?_
      refine WL.nil ?_
      refine th_norm ?_
      refine hx_ret ?_
      refine th_ret ?_
      refine fin_ret [.tmp 4] rfl rfl (by simp only [EN, Nat.reduceEqDiff, reduceIte, resv, e0, e1, hB1.cell]; rfl) ?_  -- ret 1 r4
      exact ⟨(congrArg iV (bdE_rng (b := x.bd) hq1 (show x.day < 0 ∨ 73048 < x.day ∨ x.mn < 0 ∨ 1439 < x.mn by omega))).symm, (hx1)⟩
    ·
      try simp only [BD] at hct37
      have hq2 : ¬ (x.bd.day < 0 ∨ 73048 < x.bd.day ∨ x.bd.mn < 0 ∨ 1439 < x.bd.mn) := (show ¬ (x.day < 0 ∨ 73048 < x.day ∨ x.mn < 0 ∨ 1439 < x.mn) by omega)
      refine hx_skip ?_
      refine th_norm ?_
      refine hx_seq ?_
      refine hx_seq ?_
      apply hx_draw2 Rel.same [] [22] [(22, Spec.is _)] rfl (by decide +kernel) rfl
      refine LD.qq rfl rfl (by simp only [EN, Nat.reduceEqDiff, reduceIte, qv_move, e0, hB1.cell]; rfl) ?_
      refine LD.qq rfl rfl (by simp only [EN, Nat.reduceEqDiff, reduceIte, qv_len, ln22, AR, hB1.cell]; rfl) ?_
      refine LD.qq rfl rfl (by simp only [EN, Nat.reduceEqDiff, reduceIte, qv_binOp, binv_gtr, hB1.cell]; rfl) ?_
      refine LD.qq rfl rfl (by simp only [EN, Nat.reduceEqDiff, reduceIte, qv_move, hB1.cell]; rfl) ?_
      refine LD.cq rfl rfl (gd_at (t := 41) rfl (by simp only [EN, Nat.reduceEqDiff, reduceIte, hB1.cell] <;> rfl)) (fun hg5_4 => by simp only [EN, Nat.reduceEqDiff, reduceIte, qv_fieldAddr, fa45_1, Nat.zero_add, Nat.reduceAdd, hB1.cell, hg5_4, GR]; rfl) ?_
      refine LD.cq rfl rfl (gd_at (t := 41) rfl (by simp only [EN, Nat.reduceEqDiff, reduceIte, hB1.cell] <;> rfl)) (fun hg5_5 => by simp only [EN, Nat.reduceEqDiff, reduceIte, qv_load, ld3, readN, AR, Nat.zero_add, Nat.reduceAdd, hB1.cell, hg5_5, GR]; rfl) ?_
      refine LD.cq rfl rfl (gd_at (t := 41) rfl (by simp only [EN, Nat.reduceEqDiff, reduceIte, hB1.cell] <;> rfl)) (fun hg5_6 => by simp only [EN, Nat.reduceEqDiff, reduceIte, qv_fieldAddr, fa45_2, Nat.zero_add, Nat.reduceAdd, hB1.cell, hg5_6, GR]; rfl) ?_
      refine LD.cq rfl rfl (gd_at (t := 41) rfl (by simp only [EN, Nat.reduceEqDiff, reduceIte, hB1.cell] <;> rfl)) (fun hg5_7 => by simp only [EN, Nat.reduceEqDiff, reduceIte, qv_load, ld3, readN, AR, Nat.zero_add, Nat.reduceAdd, hB1.cell, hg5_7, GR]; rfl) ?_
      refine LD.cq rfl rfl (gd_at (t := 41) rfl (by simp only [EN, Nat.reduceEqDiff, reduceIte, e0, hB1.cell] <;> rfl)) (fun hg5_8 => by simp only [EN, Nat.reduceEqDiff, reduceIte, qv_move, e0, hB1.cell, hg5_8, GR]; rfl) ?_
      refine LD.cq rfl rfl (gd_at (t := 41) rfl (by simp only [EN, Nat.reduceEqDiff, reduceIte, e0, hB1.cell] <;> rfl)) (fun hg5_9 => by simp only [EN, Nat.reduceEqDiff, reduceIte, qv_move, e0, hB1.cell, hg5_9, GR]; rfl) ?_
      refine LD.cq rfl rfl (gd_at (t := 41) rfl (by simp only [EN, Nat.reduceEqDiff, reduceIte, hB1.cell] <;> rfl)) (fun hg5_10 => by simp only [EN, Nat.reduceEqDiff, reduceIte, qv_len, ln22, AR, hB1.cell, hg5_10, GR]; rfl) ?_
      refine LD.cq rfl rfl (gd_at (t := 41) rfl (by simp only [EN, Nat.reduceEqDiff, reduceIte, hB1.cell] <;> rfl)) (fun hg5_11 => by have hq0 := hg5_11; (try simp only [BD] at hq0); simp only [EN, Nat.reduceEqDiff, reduceIte, qv_binOp, binv_sub, hB1.cell, hg5_11, GR]; (try simp (disch := omega) only [w64, w8, wu64]); rfl) ?_
      refine LD.cq rfl rfl (gd_at (t := 41) rfl (by simp only [EN, Nat.reduceEqDiff, reduceIte, hB1.cell] <;> rfl)) (fun hg5_12 => by have hne : xs ≠ [] := (fun hh => by rw [hh] at hg5_12; simp at hg5_12); obtain ⟨ha, hl⟩ := hlast hne; have hpos := List.length_pos_iff.2 hne; simp only [EN, Nat.reduceEqDiff, reduceIte, e0, e1, hB1.cell, GR, hg5_12, qv_indexAddr, ha]; exact ix22 _ _ _ _ _ _ (by omega) (by omega)) ?_
      refine LD.cq rfl rfl (gd_at (t := 41) rfl (by simp only [EN, Nat.reduceEqDiff, reduceIte, hB1.cell] <;> rfl)) (fun hg5_13 => by simp only [EN, Nat.reduceEqDiff, reduceIte, qv_fieldAddr, fa45_1, Nat.zero_add, Nat.reduceAdd, hB1.cell, hg5_13, GR]; rfl) ?_
      refine LD.cq rfl rfl (gd_at (t := 41) rfl (by simp only [EN, Nat.reduceEqDiff, reduceIte, hB1.cell] <;> rfl)) (fun hg5_14 => by have hne : xs ≠ [] := (fun hh => by rw [hh] at hg5_14; simp at hg5_14); obtain ⟨ha, hl⟩ := hlast hne; have hpos := List.length_pos_iff.2 hne; obtain ⟨b1, o1, ha1, _, _, hr2, _⟩ := bd_rd hsx hl; rw [ha] at ha1; cases ha1; have ht9 : ((xs.length : Int) - 1).toNat = xs.length - 1 := (by omega); rw [← ht9] at hr2; simp only [EN, Nat.reduceEqDiff, reduceIte, e0, e1, hB1.cell, GR, hg5_14, qv_load, ld3, hr2]; rfl) ?_
      refine LD.cq rfl rfl (gd_at (t := 41) rfl (by simp only [EN, Nat.reduceEqDiff, reduceIte, e0, hB1.cell] <;> rfl)) (fun hg5_15 => by simp only [EN, Nat.reduceEqDiff, reduceIte, qv_move, e0, hB1.cell, hg5_15, GR]; rfl) ?_
      refine LD.cq rfl rfl (gd_at (t := 41) rfl (by simp only [EN, Nat.reduceEqDiff, reduceIte, e0, hB1.cell] <;> rfl)) (fun hg5_16 => by simp only [EN, Nat.reduceEqDiff, reduceIte, qv_move, e0, hB1.cell, hg5_16, GR]; rfl) ?_
      refine LD.cq rfl rfl (gd_at (t := 41) rfl (by simp only [EN, Nat.reduceEqDiff, reduceIte, hB1.cell] <;> rfl)) (fun hg5_17 => by simp only [EN, Nat.reduceEqDiff, reduceIte, qv_len, ln22, AR, hB1.cell, hg5_17, GR]; rfl) ?_
      refine LD.cq rfl rfl (gd_at (t := 41) rfl (by simp only [EN, Nat.reduceEqDiff, reduceIte, hB1.cell] <;> rfl)) (fun hg5_18 => by have hq0 := hg5_18; (try simp only [BD] at hq0); simp only [EN, Nat.reduceEqDiff, reduceIte, qv_binOp, binv_sub, hB1.cell, hg5_18, GR]; (try simp (disch := omega) only [w64, w8, wu64]); rfl) ?_
      refine LD.cq rfl rfl (gd_at (t := 41) rfl (by simp only [EN, Nat.reduceEqDiff, reduceIte, hB1.cell] <;> rfl)) (fun hg5_19 => by have hne : xs ≠ [] := (fun hh => by rw [hh] at hg5_19; simp at hg5_19); obtain ⟨ha, hl⟩ := hlast hne; have hpos := List.length_pos_iff.2 hne; simp only [EN, Nat.reduceEqDiff, reduceIte, e0, e1, hB1.cell, GR, hg5_19, qv_indexAddr, ha]; exact ix22 _ _ _ _ _ _ (by omega) (by omega)) ?_
      refine LD.cq rfl rfl (gd_at (t := 41) rfl (by simp only [EN, Nat.reduceEqDiff, reduceIte, hB1.cell] <;> rfl)) (fun hg5_20 => by simp only [EN, Nat.reduceEqDiff, reduceIte, qv_fieldAddr, fa45_2, Nat.zero_add, Nat.reduceAdd, hB1.cell, hg5_20, GR]; rfl) ?_
      refine LD.cq rfl rfl (gd_at (t := 41) rfl (by simp only [EN, Nat.reduceEqDiff, reduceIte, hB1.cell] <;> rfl)) (fun hg5_21 => by have hne : xs ≠ [] := (fun hh => by rw [hh] at hg5_21; simp at hg5_21); obtain ⟨ha, hl⟩ := hlast hne; have hpos := List.length_pos_iff.2 hne; obtain ⟨b1, o1, ha1, _, _, _, hr2, _⟩ := bd_rd hsx hl; rw [ha] at ha1; cases ha1; have ht9 : ((xs.length : Int) - 1).toNat = xs.length - 1 := (by omega); rw [← ht9] at hr2; simp only [EN, Nat.reduceEqDiff, reduceIte, e0, e1, hB1.cell, GR, hg5_21, qv_load, ld3, hr2]; rfl) ?_
      refine LD.cck rfl rfl (gd_at (t := 41) rfl (by simp only [EN, Nat.reduceEqDiff, reduceIte, hB1.cell] <;> rfl)) Try.call47 (fun hg5_22 => by intro hD hr; obtain rfl : hD = _ := hr; simp only [EN, Nat.reduceEqDiff, reduceIte, AR, hB1.cell, hg5_22, GR]; exact c_later x.day x.mn ly.day ly.mn _) ?_
      refine LD.qq rfl rfl (by simp only [EN, Nat.reduceEqDiff, reduceIte, qv_pick, pk_and, pk_or, GR, hB1.cell]; rfl) ?_
      refine LD.nil ?_
      rintro _ rfl -
      refine WL.nil ?_
      refine th_norm ?_
      refine hx_cond (by simp only [EN, Nat.reduceEqDiff, reduceIte, hB1.cell]; rfl) (fun hct61 => ?_) (fun hct61 => ?_)
      ·
        try simp only [BD] at hct61
        refine hx_seq ?_
        refine hx_region ?_
        refine WL.qq (by simp only [EN, Nat.reduceEqDiff, reduceIte, qv_assign, hB1.cell]; rfl) ?_
        refine WL.nil ?_
        refine th_norm ?_
        refine hx_ret ?_
        refine th_ret ?_
        refine fin_ret [.tmp 4] rfl rfl (by simp only [EN, Nat.reduceEqDiff, reduceIte, resv, e0, e1, hB1.cell]; rfl) ?_  -- ret 2 r6
        have hne : xs ≠ [] := (fun hh => by rw [hh] at hct61; simp at hct61)
        have hlt : lateB l x.bd = true := (by rw [← hxl, late_of (hlast hne).2]; exact decide_eq_true hct61.2)
        exact ⟨(congrArg iV (bdE_stale (b := x.bd) hq1 hq2 hlt)).symm, (hx1)⟩
      ·
        try simp only [BD] at hct61
        have hq3 : ¬ lateB l x.bd = true := (fun hh => by by_cases hne : xs = []; (rw [← hxl, hne] at hh; cases hh); (rw [← hxl, late_of (hlast hne).2] at hh; have h9 : ltr x.day x.mn ly.day ly.mn := of_decide_eq_true hh; have := List.length_pos_iff.2 hne; rcases hct61 with h1 | h1; omega; exact h1 h9))
        refine hx_skip ?_
        refine th_norm ?_
        refine hx_seq ?_
        refine hx_seq ?_
        refine hx_region ?_
        refine WL.qq (by simp only [EN, Nat.reduceEqDiff, reduceIte, qv_fieldAddr, fa45_3, Nat.zero_add, Nat.reduceAdd, hB1.cell]; rfl) ?_
        refine WL.qq (by simp only [EN, Nat.reduceEqDiff, reduceIte, qv_load, ld43, readN, AR, Nat.zero_add, Nat.reduceAdd, hB1.cell]; rfl) ?_
        refine WL.qq (by simp only [EN, Nat.reduceEqDiff, reduceIte, qv_len, ln43, AR, hB1.cell]; rfl) ?_
        refine WL.qq (by simp only [EN, Nat.reduceEqDiff, reduceIte, qv_binOp, binv_eql, eq3, Option.map_some, hB1.cell]; rfl) ?_
        refine WL.nil ?_
        refine th_norm ?_
        refine hx_cond (by simp only [EN, Nat.reduceEqDiff, reduceIte, hB1.cell]; rfl) (fun hct65 => ?_) (fun hct65 => ?_)
        ·
          try simp only [BD] at hct65
          refine hx_seq ?_
          refine hx_region ?_
          refine WL.qq (by simp only [EN, Nat.reduceEqDiff, reduceIte, qv_assign, hB1.cell]; rfl) ?_
          refine WL.nil ?_
          refine th_norm ?_
          refine hx_ret ?_
          refine th_ret ?_
          refine fin_ret [.tmp 4] rfl rfl (by simp only [EN, Nat.reduceEqDiff, reduceIte, resv, e0, e1, hB1.cell]; rfl) ?_  -- ret 3 r8
          have hq4 : x.ps = [] := List.length_eq_zero_iff.1 (by omega)
          exact ⟨(congrArg iV (bdE_arg (b := x.bd) hq1 hq2 hq3 (by show x.ps.map PX.pt = []; rw [hq4]; rfl))).symm, (hx1)⟩
        ·
          try simp only [BD] at hct65
          have hq4 : x.bd.pts ≠ [] := (fun hh => by have h9 : x.ps = [] := List.map_eq_nil_iff.1 hh; rw [h9] at hct65; simp at hct65)
          refine hx_skip ?_
          refine th_norm ?_
          refine hx_seq ?_
          refine hx_region ?_
          refine WL.qq (by simp only [EN, Nat.reduceEqDiff, reduceIte, qv_assign, hB1.cell]; rfl) ?_
          refine WL.nil ?_
          refine th_norm ?_
          refine hx_seq ?_
          refine hx_seq ?_
          refine hx_region ?_
          refine WL.qq (by simp only [EN, Nat.reduceEqDiff, reduceIte, qv_assign, hB1.cell]; rfl) ?_
          refine WL.nil ?_
          refine th_norm ?_
          refine hx_block ?_
          refine hx_loopX [5, 6, 66, 67, 68, 69, 70, 71, 72, 73, 74, 75, 76, 77, 78, 79, 80, 81] (fun k e => ∃ (i : Nat) (tot : Nat), x.ps.length - i = k ∧ (i ≤ x.ps.length) ∧ (tot ≤ 12 * i) ∧ e 6 = .int .i64 i ∧ e 5 = .int .i64 tot) _ ⟨0, 0, rfl, ?_, ?_, ?_, ?_⟩ ?_
          · omega
          · omega
          · simp only [EN, Nat.reduceEqDiff, reduceIte, e0, e1, hB1.cell] <;> rfl
          · simp only [EN, Nat.reduceEqDiff, reduceIte, e0, e1, hB1.cell] <;> rfl
          ·
            rintro k e0L hL0 hX0 hfr0 ⟨i, tot, rfl, hi, ht, i6_0, i5_0⟩
            replace hsx := hsx.ext hX0
            replace hb := hb.ext hX0
            replace hbi := hbi.ext hX0
            replace hB1 := hB1.ext hX0
            have k0_0 := hfr0 0 rfl; try simp only [EN, Nat.reduceEqDiff, reduceIte, e0, hB1.cell] at k0_0
            have k3_0 := hfr0 3 rfl; try simp only [EN, Nat.reduceEqDiff, reduceIte, hB1.cell] at k3_0
            refine hx_seq ?_
            refine hx_seq ?_
            refine hx_region ?_
            refine WL.qq (by simp only [EN, Nat.reduceEqDiff, reduceIte, qv_move, i6_0, hB1.cell]; rfl) ?_
            refine WL.qq (by simp only [EN, Nat.reduceEqDiff, reduceIte, qv_fieldAddr, fa45_3, Nat.zero_add, Nat.reduceAdd, k3_0, hB1.cell]; rfl) ?_
            refine WL.qq (by simp only [EN, Nat.reduceEqDiff, reduceIte, qv_load, ld43, readN, AR, Nat.zero_add, Nat.reduceAdd, hB1.cell]; rfl) ?_
            refine WL.qq (by simp only [EN, Nat.reduceEqDiff, reduceIte, qv_len, ln43, AR, hB1.cell]; rfl) ?_
            refine WL.qq (by simp only [EN, Nat.reduceEqDiff, reduceIte, qv_binOp, binv_lss, hB1.cell]; rfl) ?_
            refine WL.nil ?_
            refine th_norm ?_
            refine hx_cond (by simp only [EN, Nat.reduceEqDiff, reduceIte, hB1.cell]; rfl) (fun hct70 => ?_) (fun hct70 => ?_)
            ·
              try simp only [BD] at hct70
              obtain ⟨q, hqi⟩ := atG (l := x.ps) (i := i) (by omega)
              obtain ⟨b1, o1, ha1, hr2, _, hc1⟩ := pt_rd hbi.1 hqi
              have hq12 := hp12 q (List.mem_of_getElem? hqi)
              refine hx_skip ?_
              refine th_norm ?_
              refine hx_seq ?_
              refine hx_block ?_
              refine hx_region ?_
              refine WL.qq (by simp only [EN, Nat.reduceEqDiff, reduceIte, qv_move, i5_0, hB1.cell]; rfl) ?_
              refine WL.qq (by simp only [EN, Nat.reduceEqDiff, reduceIte, qv_fieldAddr, fa45_3, Nat.zero_add, Nat.reduceAdd, k3_0, hB1.cell]; rfl) ?_
              refine WL.qq (by simp only [EN, Nat.reduceEqDiff, reduceIte, qv_load, ld43, readN, AR, Nat.zero_add, Nat.reduceAdd, hB1.cell]; rfl) ?_
              refine WL.qq (by simp only [EN, Nat.reduceEqDiff, reduceIte, qv_move, i6_0, hB1.cell]; rfl) ?_
              refine WL.qq (by simp only [EN, Nat.reduceEqDiff, reduceIte, qv_indexAddr, hB1.cell, ha1]; (try simp (disch := omega) only [ix43, Int.toNat_natCast]); rfl) ?_
              refine WL.qq (by simp only [EN, Nat.reduceEqDiff, reduceIte, qv_fieldAddr, fa79_1, Nat.zero_add, Nat.reduceAdd, hB1.cell]; rfl) ?_
              refine WL.qq (by simp only [EN, Nat.reduceEqDiff, reduceIte, k0_0, k3_0, i6_0, i5_0, hB1.cell, qv_load, ld77, Int.toNat_natCast, hc1]; rfl) ?_
              refine WL.qq (by simp only [EN, Nat.reduceEqDiff, reduceIte, qv_len, ln77, AR, hB1.cell]; rfl) ?_
              refine WL.qq (by simp only [EN, Nat.reduceEqDiff, reduceIte, qv_binOp, binv_add, hB1.cell]; (try simp (disch := omega) only [w64, w8, wu64]); rfl) ?_
              refine WL.qq (by simp only [EN, Nat.reduceEqDiff, reduceIte, qv_assign, hB1.cell]; rfl) ?_
              refine WL.nil ?_
              refine bl_norm ?_
              refine th_norm ?_
              refine hx_region ?_
              refine WL.qq (by simp only [EN, Nat.reduceEqDiff, reduceIte, qv_move, i6_0, hB1.cell]; rfl) ?_
              refine WL.qq (by simp only [EN, Nat.reduceEqDiff, reduceIte, qv_binOp, binv_add, hB1.cell]; (try simp (disch := omega) only [w64, w8, wu64]); rfl) ?_
              refine WL.qq (by simp only [EN, Nat.reduceEqDiff, reduceIte, qv_assign, hB1.cell]; rfl) ?_
              refine WL.nil ?_
              refine th_norm ?_
              refine ⟨rfl, ?_, ?_, _, ?_, i + 1, tot + q.ps.length, rfl, ?_, ?_, ?_, ?_⟩  -- again 0 of loop 0
              · exact Ext.refl _
              · (repeat (first | exact Fr.refl _ _ | refine Fr.set rfl ?_ | refine Fr.put rfl ?_ | with_reducible refine Fr.put0 ?_))
              · omega
              · omega
              · omega
              · simp only [EN, Nat.reduceEqDiff, reduceIte, k0_0, k3_0, i6_0, i5_0, hB1.cell] <;> first | rfl | (congr 1; omega)
              · simp only [EN, Nat.reduceEqDiff, reduceIte, k0_0, k3_0, i6_0, i5_0, hB1.cell] <;> first | rfl | (congr 1; omega)
            ·
              try simp only [BD] at hct70
              refine hx_exit ?_
              refine th_exit ?_
              refine th_exit ?_
              refine bl_hit ?_
              refine th_norm ?_
              refine hx_seq ?_
              refine hx_seq ?_
              refine hx_region ?_
              refine WL.qq (by simp only [EN, Nat.reduceEqDiff, reduceIte, qv_fieldAddr, fa45_3, Nat.zero_add, Nat.reduceAdd, k3_0, hB1.cell]; rfl) ?_
              refine WL.qq (by simp only [EN, Nat.reduceEqDiff, reduceIte, qv_load, ld43, readN, AR, Nat.zero_add, Nat.reduceAdd, hB1.cell]; rfl) ?_
              refine WL.qq (by simp only [EN, Nat.reduceEqDiff, reduceIte, qv_len, ln43, AR, hB1.cell]; rfl) ?_
              refine WL.qq (by simp only [EN, Nat.reduceEqDiff, reduceIte, qv_binOp, binv_gtr, hB1.cell]; rfl) ?_
              refine WL.qq (by simp only [EN, Nat.reduceEqDiff, reduceIte, qv_move, hB1.cell]; rfl) ?_
              refine WL.cq (gd_at (t := 86) rfl (by simp only [EN, Nat.reduceEqDiff, reduceIte, i5_0, hB1.cell] <;> rfl)) (fun hg14_5 => by simp only [EN, Nat.reduceEqDiff, reduceIte, qv_move, i5_0, hB1.cell, hg14_5, GR]; rfl) ?_
              refine WL.cq (gd_at (t := 86) rfl (by simp only [EN, Nat.reduceEqDiff, reduceIte, hB1.cell] <;> rfl)) (fun hg14_6 => by simp only [EN, Nat.reduceEqDiff, reduceIte, qv_binOp, binv_gtr, hB1.cell, hg14_6, GR]; rfl) ?_
              refine WL.qq (by simp only [EN, Nat.reduceEqDiff, reduceIte, qv_pick, pk_and, pk_or, GR, hB1.cell]; rfl) ?_
              refine WL.nil ?_
              refine th_norm ?_
              refine hx_cond (by simp only [EN, Nat.reduceEqDiff, reduceIte, hB1.cell]; rfl) (fun hct89 => ?_) (fun hct89 => ?_)
              ·
                simp at hct89; omega
              ·
                try simp only [BD] at hct89
                refine hx_skip ?_
                refine th_norm ?_
                refine hx_seq ?_
                refine hx_seq ?_
                refine hx_region ?_
                refine WL.qq (by simp only [EN, Nat.reduceEqDiff, reduceIte, qv_assign, hB1.cell]; rfl) ?_
                refine WL.nil ?_
                refine th_norm ?_
                refine hx_block ?_
                refine hx_loopX [4, 7, 8, 9, 90, 91, 92, 93, 94, 95, 96, 97, 98, 99, 100, 101, 102, 103, 104, 105, 106, 107, 108, 109, 110, 111, 112, 113, 114, 115, 116, 117, 118, 119, 120, 121, 122, 123, 124, 125, 126, 127, 128, 129, 130, 131, 132, 133, 134, 135, 136] (fun k e => ∃ (i : Nat), x.ps.length - i = k ∧ (i ≤ x.ps.length) ∧ (fstE ((x.bd.pts.map ptE).take i) = 0) ∧ e 7 = .int .i64 i) _ ⟨0, rfl, ?_, ?_, ?_⟩ ?_
                · omega
                · rfl
                · simp only [EN, Nat.reduceEqDiff, reduceIte, k0_0, k3_0, i6_0, i5_0, hB1.cell] <;> rfl
                ·
                  rintro k e1L hL1 hX1 hfr1 ⟨i, rfl, hi, hz, i7_1⟩
                  replace hsx := hsx.ext hX1
                  replace hb := hb.ext hX1
                  replace hbi := hbi.ext hX1
                  replace hB1 := hB1.ext hX1
                  have k0_1 := hfr1 0 rfl; try simp only [EN, Nat.reduceEqDiff, reduceIte, k0_0, hB1.cell] at k0_1
                  have k3_1 := hfr1 3 rfl; try simp only [EN, Nat.reduceEqDiff, reduceIte, k3_0, hB1.cell] at k3_1
                  refine hx_seq ?_
                  refine hx_seq ?_
                  refine hx_region ?_
                  refine WL.qq (by simp only [EN, Nat.reduceEqDiff, reduceIte, qv_move, i7_1, hB1.cell]; rfl) ?_
                  refine WL.qq (by simp only [EN, Nat.reduceEqDiff, reduceIte, qv_fieldAddr, fa45_3, Nat.zero_add, Nat.reduceAdd, k3_1, hB1.cell]; rfl) ?_
                  refine WL.qq (by simp only [EN, Nat.reduceEqDiff, reduceIte, qv_load, ld43, readN, AR, Nat.zero_add, Nat.reduceAdd, hB1.cell]; rfl) ?_
                  refine WL.qq (by simp only [EN, Nat.reduceEqDiff, reduceIte, qv_len, ln43, AR, hB1.cell]; rfl) ?_
                  refine WL.qq (by simp only [EN, Nat.reduceEqDiff, reduceIte, qv_binOp, binv_lss, hB1.cell]; rfl) ?_
                  refine WL.nil ?_
                  refine th_norm ?_
                  refine hx_cond (by simp only [EN, Nat.reduceEqDiff, reduceIte, hB1.cell]; rfl) (fun hct94 => ?_) (fun hct94 => ?_)
                  ·
                    try simp only [BD] at hct94
                    obtain ⟨q, hqi⟩ := atG (l := x.ps) (i := i) (by omega)
                    obtain ⟨b1, o1, ha1, hr2, _, hc1⟩ := pt_rd hbi.1 hqi
                    have hq12 := hp12 q (List.mem_of_getElem? hqi); have hqs : SlG 4 poL _ q.a q.ps := hbi.2 q (List.mem_of_getElem? hqi)
                    have hqe : (x.bd.pts.map ptE)[i]? = some (ptE q.pt) := (by show ((x.ps.map PX.pt).map ptE)[i]? = _; rw [List.getElem?_map, List.getElem?_map, hqi]; rfl)
                    refine hx_skip ?_
                    refine th_norm ?_
                    refine hx_seq ?_
                    refine hx_block ?_
                    refine hx_seq ?_
                    refine hx_region ?_
                    refine WL.qq (by simp only [EN, Nat.reduceEqDiff, reduceIte, qv_fieldAddr, fa45_3, Nat.zero_add, Nat.reduceAdd, k3_1, hB1.cell]; rfl) ?_
                    refine WL.qq (by simp only [EN, Nat.reduceEqDiff, reduceIte, qv_load, ld43, readN, AR, Nat.zero_add, Nat.reduceAdd, hB1.cell]; rfl) ?_
                    refine WL.qq (by simp only [EN, Nat.reduceEqDiff, reduceIte, qv_move, i7_1, hB1.cell]; rfl) ?_
                    refine WL.qq (by simp only [EN, Nat.reduceEqDiff, reduceIte, qv_indexAddr, hB1.cell, ha1]; (try simp (disch := omega) only [ix43, Int.toNat_natCast]); rfl) ?_
                    refine WL.qq (by simp only [EN, Nat.reduceEqDiff, reduceIte, k0_1, k3_1, i7_1, hB1.cell, qv_load, ld79, Int.toNat_natCast, hr2]; rfl) ?_
                    refine WL.allocSt zr79 sz79 (fun u => by simp only [EN, Nat.reduceEqDiff, reduceIte, Value.cells, hB1.cell]; rfl) ⟨rfl, rfl⟩ (by simp [Value.oneCell']) ?_
                    intro h2 B2 hx2 hlt2 hB2
                    replace hsx := hsx.ext hx2
                    replace hb := hb.ext hx2
                    replace hbi := hbi.ext hx2
                    replace hB1 := hB1.ext hx2
                    replace hqs := hqs.ext hx2
                    refine WL.nil ?_
                    refine th_norm ?_
                    refine hx_seq ?_
                    refine hx_seq ?_
                    refine hx_region ?_
                    refine WL.qq (by simp only [EN, Nat.reduceEqDiff, reduceIte, qv_fieldAddr, fa79_0, Nat.zero_add, Nat.reduceAdd, hB1.cell, hB2.cell]; rfl) ?_
                    refine WL.qq (by simp only [EN, Nat.reduceEqDiff, reduceIte, qv_load, ld9, readN, AR, Nat.zero_add, Nat.reduceAdd, hB1.cell, hB2.cell]; rfl) ?_
                    refine WL.qq (by simp only [EN, Nat.reduceEqDiff, reduceIte, qv_len, ln9, AR, hB1.cell, hB2.cell]; rfl) ?_
                    refine WL.qq (by simp only [EN, Nat.reduceEqDiff, reduceIte, qv_binOp, binv_gtr, hB1.cell, hB2.cell]; rfl) ?_
                    refine WL.nil ?_
                    refine th_norm ?_
                    refine hx_cond (by simp only [EN, Nat.reduceEqDiff, reduceIte, hB1.cell, hB2.cell]; rfl) (fun hct105 => ?_) (fun hct105 => ?_)
                    ·
                      try simp only [BD] at hct105
                      refine hx_seq ?_
                      refine hx_region ?_
                      refine WL.qq (by simp only [EN, Nat.reduceEqDiff, reduceIte, qv_assign, hB1.cell, hB2.cell]; rfl) ?_
                      refine WL.nil ?_
                      refine th_norm ?_
                      refine hx_ret ?_
                      refine th_ret ?_
                      refine bl_ret ?_
                      refine th_ret ?_
                      refine th_ret ?_
                      refine bl_ret ?_
                      refine th_ret ?_
                      refine fin_ret [.tmp 4] rfl rfl (by simp only [EN, Nat.reduceEqDiff, reduceIte, resv, k0_1, k3_1, i7_1, hB1.cell, hB2.cell]; rfl) ?_  -- ret 4 r21
                      have h7 : ptE q.pt = 5 := if_pos (show 64 < q.r.size by omega)
                      have h9 := fstE_at hz hqe (by rw [h7]; decide)
                      exact ⟨(congrArg iV ((bdE_pt hq1 hq2 hq3 hq4 (by rw [h9, h7]; decide)).trans (h9.trans h7))).symm, ((hx1).trans ((hX0).trans ((hX1).trans (hx2))))⟩
                    ·
                      try simp only [BD] at hct105
                      have hn5 : ¬ 64 < q.pt.r.size := (show ¬ 64 < q.r.size by omega)
                      refine hx_skip ?_
                      refine th_norm ?_
                      refine hx_seq ?_
                      refine hx_seq ?_
                      refine hx_region ?_
                      refine WL.qq (by simp only [EN, Nat.reduceEqDiff, reduceIte, qv_fieldAddr, fa79_1, Nat.zero_add, Nat.reduceAdd, hB1.cell, hB2.cell]; rfl) ?_
                      refine WL.qq (by simp only [EN, Nat.reduceEqDiff, reduceIte, qv_load, ld77, readN, AR, Nat.zero_add, Nat.reduceAdd, hB1.cell, hB2.cell]; rfl) ?_
                      refine WL.qq (by simp only [EN, Nat.reduceEqDiff, reduceIte, qv_len, ln77, AR, hB1.cell, hB2.cell]; rfl) ?_
                      refine WL.qq (by simp only [EN, Nat.reduceEqDiff, reduceIte, qv_binOp, binv_eql, eq3, Option.map_some, hB1.cell, hB2.cell]; rfl) ?_
                      refine WL.nil ?_
                      refine th_norm ?_
                      refine hx_cond (by simp only [EN, Nat.reduceEqDiff, reduceIte, hB1.cell, hB2.cell]; rfl) (fun hct109 => ?_) (fun hct109 => ?_)
                      ·
                        try simp only [BD] at hct109
                        refine hx_seq ?_
                        refine hx_region ?_
                        refine WL.qq (by simp only [EN, Nat.reduceEqDiff, reduceIte, qv_assign, hB1.cell, hB2.cell]; rfl) ?_
                        refine WL.nil ?_
                        refine th_norm ?_
                        refine hx_ret ?_
                        refine th_ret ?_
                        refine bl_ret ?_
                        refine th_ret ?_
                        refine th_ret ?_
                        refine bl_ret ?_
                        refine th_ret ?_
                        refine fin_ret [.tmp 4] rfl rfl (by simp only [EN, Nat.reduceEqDiff, reduceIte, resv, k0_1, k3_1, i7_1, hB1.cell, hB2.cell]; rfl) ?_  -- ret 5 r23
                        have h8 : q.ps = [] := List.length_eq_zero_iff.1 (by omega)
                        have h7 : ptE q.pt = 1 := (if_neg hn5).trans (if_pos h8)
                        have h9 := fstE_at hz hqe (by rw [h7]; decide)
                        exact ⟨(congrArg iV ((bdE_pt hq1 hq2 hq3 hq4 (by rw [h9, h7]; decide)).trans (h9.trans h7))).symm, ((hx1).trans ((hX0).trans ((hX1).trans (hx2))))⟩
                      ·
                        try simp only [BD] at hct109
                        have hn1 : ¬ q.pt.ps = [] := (fun hh => by have h9 : q.ps = [] := hh; rw [h9] at hct109; simp at hct109)
                        refine hx_skip ?_
                        refine th_norm ?_
                        refine hx_seq ?_
                        refine hx_seq ?_
                        refine hx_region ?_
                        refine WL.qq (by simp only [EN, Nat.reduceEqDiff, reduceIte, qv_assign, hB1.cell, hB2.cell]; rfl) ?_
                        refine WL.nil ?_
                        refine th_norm ?_
                        refine hx_block ?_
                        refine hx_loopS [4, 9, 110, 111, 112, 113, 114, 115, 116, 117, 118, 119, 120, 121, 122, 123, 124, 125, 126, 127, 128, 129, 130, 131, 132] (fun k e => ∃ (m2 : Nat), q.ps.length - m2 = k ∧ (m2 ≤ q.ps.length) ∧ ((∀ y ∈ q.ps.take m2, inR y.d)) ∧ e 9 = .int .i64 m2) _ ⟨0, rfl, ?_, ?_, ?_⟩ ?_
                        · omega
                        · intro y hy; simp at hy
                        · simp only [EN, Nat.reduceEqDiff, reduceIte, k0_1, k3_1, i7_1, hB1.cell, hB2.cell] <;> rfl
                        ·
                          rintro k e2L hfr2 ⟨m2, rfl, hm2, hok, i9_2⟩
                          have k0_2 := hfr2 0 rfl; try simp only [EN, Nat.reduceEqDiff, reduceIte, k0_1, hB1.cell, hB2.cell] at k0_2
                          have k3_2 := hfr2 3 rfl; try simp only [EN, Nat.reduceEqDiff, reduceIte, k3_1, hB1.cell, hB2.cell] at k3_2
                          have k7_2 := hfr2 7 rfl; try simp only [EN, Nat.reduceEqDiff, reduceIte, i7_1, hB1.cell, hB2.cell] at k7_2
                          have k8_2 := hfr2 8 rfl; try simp only [EN, Nat.reduceEqDiff, reduceIte, hB1.cell, hB2.cell] at k8_2
                          refine hx_seq ?_
                          refine hx_seq ?_
                          refine hx_region ?_
                          refine WL.qq (by simp only [EN, Nat.reduceEqDiff, reduceIte, qv_move, i9_2, hB1.cell, hB2.cell]; rfl) ?_
                          refine WL.qq (by simp only [EN, Nat.reduceEqDiff, reduceIte, qv_fieldAddr, fa79_1, Nat.zero_add, Nat.reduceAdd, k8_2, hB1.cell, hB2.cell]; rfl) ?_
                          refine WL.qq (by simp only [EN, Nat.reduceEqDiff, reduceIte, qv_load, ld77, readN, AR, Nat.zero_add, Nat.reduceAdd, hB1.cell, hB2.cell]; rfl) ?_
                          refine WL.qq (by simp only [EN, Nat.reduceEqDiff, reduceIte, qv_len, ln77, AR, hB1.cell, hB2.cell]; rfl) ?_
                          refine WL.qq (by simp only [EN, Nat.reduceEqDiff, reduceIte, qv_binOp, binv_lss, hB1.cell, hB2.cell]; rfl) ?_
                          refine WL.nil ?_
                          refine th_norm ?_
                          refine hx_cond (by simp only [EN, Nat.reduceEqDiff, reduceIte, hB1.cell, hB2.cell]; rfl) (fun hct114 => ?_) (fun hct114 => ?_)
                          ·
                            try simp only [BD] at hct114
                            obtain ⟨y, hy⟩ := atG (l := q.ps) (i := m2) (by omega)
                            obtain ⟨b2, off2, ha2, _, _, _, _, _, hy3⟩ := po_rd hqs hy
                            refine hx_skip ?_
                            refine th_norm ?_
                            refine hx_seq ?_
                            refine hx_block ?_
                            refine hx_seq ?_
                            refine hx_region ?_
                            refine WL.qq (by simp only [EN, Nat.reduceEqDiff, reduceIte, qv_fieldAddr, fa79_1, Nat.zero_add, Nat.reduceAdd, k8_2, hB1.cell, hB2.cell]; rfl) ?_
                            refine WL.qq (by simp only [EN, Nat.reduceEqDiff, reduceIte, qv_load, ld77, readN, AR, Nat.zero_add, Nat.reduceAdd, hB1.cell, hB2.cell]; rfl) ?_
                            refine WL.qq (by simp only [EN, Nat.reduceEqDiff, reduceIte, qv_move, i9_2, hB1.cell, hB2.cell]; rfl) ?_
                            refine WL.qq (by simp only [EN, Nat.reduceEqDiff, reduceIte, qv_indexAddr, hB1.cell, hB2.cell, ha2]; (try simp (disch := omega) only [ix77, Int.toNat_natCast]); rfl) ?_
                            refine WL.qq (by simp only [EN, Nat.reduceEqDiff, reduceIte, qv_fieldAddr, fa76_1, Nat.zero_add, Nat.reduceAdd, hB1.cell, hB2.cell]; rfl) ?_
                            refine WL.qq (by simp only [EN, Nat.reduceEqDiff, reduceIte, k0_2, k3_2, k7_2, k8_2, i9_2, hB1.cell, hB2.cell, qv_load, ld2, Int.toNat_natCast, hy3]; rfl) ?_
                            refine WL.qq (by simp only [EN, Nat.reduceEqDiff, reduceIte, qv_binOp, binv_gtr, hB1.cell, hB2.cell]; rfl) ?_
                            refine WL.qq (by simp only [EN, Nat.reduceEqDiff, reduceIte, qv_move, hB1.cell, hB2.cell]; rfl) ?_
                            refine WL.cq (gd_at (t := 124) rfl (by simp only [EN, Nat.reduceEqDiff, reduceIte, k8_2, hB1.cell, hB2.cell] <;> rfl)) (fun hg27_8 => by simp only [EN, Nat.reduceEqDiff, reduceIte, qv_fieldAddr, fa79_1, Nat.zero_add, Nat.reduceAdd, k8_2, hB1.cell, hB2.cell, hg27_8, GR]; rfl) ?_
                            refine WL.cq (gd_at (t := 124) rfl (by simp only [EN, Nat.reduceEqDiff, reduceIte, hB1.cell, hB2.cell] <;> rfl)) (fun hg27_9 => by simp only [EN, Nat.reduceEqDiff, reduceIte, qv_load, ld77, readN, AR, Nat.zero_add, Nat.reduceAdd, hB1.cell, hB2.cell, hg27_9, GR]; rfl) ?_
                            refine WL.cq (gd_at (t := 124) rfl (by simp only [EN, Nat.reduceEqDiff, reduceIte, i9_2, hB1.cell, hB2.cell] <;> rfl)) (fun hg27_10 => by simp only [EN, Nat.reduceEqDiff, reduceIte, qv_move, i9_2, hB1.cell, hB2.cell, hg27_10, GR]; rfl) ?_
                            refine WL.cq (gd_at (t := 124) rfl (by simp only [EN, Nat.reduceEqDiff, reduceIte, hB1.cell, hB2.cell] <;> rfl)) (fun hg27_11 => by have hq0 := hg27_11; (try simp only [BD] at hq0); simp only [EN, Nat.reduceEqDiff, reduceIte, qv_indexAddr, hB1.cell, hB2.cell, ha2, hg27_11, GR]; (try simp (disch := omega) only [ix77, Int.toNat_natCast]); rfl) ?_
                            refine WL.cq (gd_at (t := 124) rfl (by simp only [EN, Nat.reduceEqDiff, reduceIte, hB1.cell, hB2.cell] <;> rfl)) (fun hg27_12 => by simp only [EN, Nat.reduceEqDiff, reduceIte, qv_fieldAddr, fa76_1, Nat.zero_add, Nat.reduceAdd, hB1.cell, hB2.cell, hg27_12, GR]; rfl) ?_
                            refine WL.cq (gd_at (t := 124) rfl (by simp only [EN, Nat.reduceEqDiff, reduceIte, hB1.cell, hB2.cell] <;> rfl)) (fun hg27_13 => by simp only [EN, Nat.reduceEqDiff, reduceIte, k0_2, k3_2, k7_2, k8_2, i9_2, hB1.cell, hB2.cell, GR, hg27_13, qv_load, ld2, Int.toNat_natCast, hy3]; rfl) ?_
                            refine WL.cq (gd_at (t := 124) rfl (by simp only [EN, Nat.reduceEqDiff, reduceIte, hB1.cell, hB2.cell] <;> rfl)) (fun hg27_14 => by simp only [EN, Nat.reduceEqDiff, reduceIte, qv_binOp, binv_lss, hB1.cell, hB2.cell, hg27_14, GR]; rfl) ?_
                            refine WL.qq (by simp only [EN, Nat.reduceEqDiff, reduceIte, qv_pick, pk_and, pk_or, GR, hB1.cell, hB2.cell]; rfl) ?_
                            refine WL.nil ?_
                            refine th_norm ?_
                            refine hx_cond (by simp only [EN, Nat.reduceEqDiff, reduceIte, hB1.cell, hB2.cell]; rfl) (fun hct132 => ?_) (fun hct132 => ?_)
                            ·
                              try simp only [BD] at hct132
                              refine hx_seq ?_
                              refine hx_region ?_
                              refine WL.qq (by simp only [EN, Nat.reduceEqDiff, reduceIte, qv_assign, hB1.cell, hB2.cell]; rfl) ?_
                              refine WL.nil ?_
                              refine th_norm ?_
                              refine hx_ret ?_
                              refine bl_ret ?_
                              refine th_ret ?_
                              refine th_ret ?_
                              refine bl_ret ?_
                              refine th_ret ?_
                              refine bl_ret ?_
                              refine th_ret ?_
                              refine th_ret ?_
                              refine bl_ret ?_
                              refine th_ret ?_
                              refine fin_ret [.tmp 4] rfl rfl (by simp only [EN, Nat.reduceEqDiff, reduceIte, resv, k0_2, k3_2, k7_2, k8_2, i9_2, hB1.cell, hB2.cell]; rfl) ?_  -- ret 6 r28
                              have h8 : ¬ ∀ z ∈ q.pt.ps, inR z.d := (fun hh => by have := hh y (List.mem_of_getElem? hy); simp only [inR, MA] at this; omega)
                              have h7 : ptE q.pt = 2 := (if_neg hn5).trans ((if_neg hn1).trans (if_pos h8))
                              have h9 := fstE_at hz hqe (by rw [h7]; decide)
                              exact ⟨(congrArg iV ((bdE_pt hq1 hq2 hq3 hq4 (by rw [h9, h7]; decide)).trans (h9.trans h7))).symm, ((hx1).trans ((hX0).trans ((hX1).trans (hx2))))⟩
                            ·
                              try simp only [BD] at hct132
                              refine hx_skip ?_
                              refine bl_norm ?_
                              refine th_norm ?_
                              refine hx_region ?_
                              refine WL.qq (by simp only [EN, Nat.reduceEqDiff, reduceIte, qv_move, i9_2, hB1.cell, hB2.cell]; rfl) ?_
                              refine WL.qq (by simp only [EN, Nat.reduceEqDiff, reduceIte, qv_binOp, binv_add, hB1.cell, hB2.cell]; (try simp (disch := omega) only [w64, w8, wu64]); rfl) ?_
                              refine WL.qq (by simp only [EN, Nat.reduceEqDiff, reduceIte, qv_assign, hB1.cell, hB2.cell]; rfl) ?_
                              refine WL.nil ?_
                              refine th_norm ?_
                              refine ⟨rfl, rfl, ?_, _, ?_, m2 + 1, rfl, ?_, ?_, ?_⟩  -- again 0 of loop 2
                              · (repeat (first | exact Fr.refl _ _ | refine Fr.set rfl ?_ | refine Fr.put rfl ?_ | with_reducible refine Fr.put0 ?_))
                              · omega
                              · omega
                              · exact all_take hok hy (by simp only [inR, MA]; omega)
                              · simp only [EN, Nat.reduceEqDiff, reduceIte, k0_2, k3_2, k7_2, k8_2, i9_2, hB1.cell, hB2.cell] <;> first | rfl | (congr 1; omega)
                          ·
                            try simp only [BD] at hct114
                            have hokq : ∀ z ∈ q.ps, inR z.d := all_end hok (by omega)
                            refine hx_exit ?_
                            refine th_exit ?_
                            refine th_exit ?_
                            refine bl_hit ?_
                            refine th_norm ?_
                            refine hx_seq ?_
                            refine hx_region ?_
                            refine WL.qq (by simp only [EN, Nat.reduceEqDiff, reduceIte, qv_fieldAddr, fa79_1, Nat.zero_add, Nat.reduceAdd, k8_2, hB1.cell, hB2.cell]; rfl) ?_
                            refine WL.qq (by simp only [EN, Nat.reduceEqDiff, reduceIte, qv_load, ld77, readN, AR, Nat.zero_add, Nat.reduceAdd, hB1.cell, hB2.cell]; rfl) ?_
                            refine WL.ck Try.call65 (by simp only [EN, Nat.reduceEqDiff, reduceIte, AR, hB1.cell, hB2.cell]; exact c_rBal q.a q.ps q.c (by omega) hokq hqs) ?_
                            refine WL.qq (by simp only [EN, Nat.reduceEqDiff, reduceIte, qv_unOp, unv_not, hB1.cell, hB2.cell]; rfl) ?_
                            refine WL.nil ?_
                            refine th_norm ?_
                            refine hx_cond (by simp only [EN, Nat.reduceEqDiff, reduceIte, hB1.cell, hB2.cell]; rfl) (fun hct136 => ?_) (fun hct136 => ?_)
                            ·
                              try simp only [BD] at hct136
                              refine hx_seq ?_
                              refine hx_region ?_
                              refine WL.qq (by simp only [EN, Nat.reduceEqDiff, reduceIte, qv_assign, hB1.cell, hB2.cell]; rfl) ?_
                              refine WL.nil ?_
                              refine th_norm ?_
                              refine hx_ret ?_
                              refine bl_ret ?_
                              refine th_ret ?_
                              refine th_ret ?_
                              refine bl_ret ?_
                              refine th_ret ?_
                              refine fin_ret [.tmp 4] rfl rfl (by simp only [EN, Nat.reduceEqDiff, reduceIte, resv, k0_2, k3_2, k7_2, k8_2, i9_2, hB1.cell, hB2.cell]; rfl) ?_  -- ret 7 r30
                              have h8 : ¬ bal q.pt.ps := (show ¬ bal q.ps by simpa using hct136)
                              have h7 : ptE q.pt = 14 := (if_neg hn5).trans ((if_neg hn1).trans ((if_neg (fun hh => hh hokq)).trans (if_pos h8)))
                              have h9 := fstE_at hz hqe (by rw [h7]; decide)
                              exact ⟨(congrArg iV ((bdE_pt hq1 hq2 hq3 hq4 (by rw [h9, h7]; decide)).trans (h9.trans h7))).symm, ((hx1).trans ((hX0).trans ((hX1).trans (hx2))))⟩
                            ·
                              try simp only [BD] at hct136
                              have h7 : ptE q.pt = 0 := (if_neg hn5).trans ((if_neg hn1).trans ((if_neg (fun hh => hh hokq)).trans (if_neg (fun hh => hh (show bal q.ps by simpa using hct136)))))
                              refine hx_skip ?_
                              refine bl_norm ?_
                              refine th_norm ?_
                              refine hx_region ?_
                              refine WL.qq (by simp only [EN, Nat.reduceEqDiff, reduceIte, qv_move, k7_2, hB1.cell, hB2.cell]; rfl) ?_
                              refine WL.qq (by simp only [EN, Nat.reduceEqDiff, reduceIte, qv_binOp, binv_add, hB1.cell, hB2.cell]; (try simp (disch := omega) only [w64, w8, wu64]); rfl) ?_
                              refine WL.qq (by simp only [EN, Nat.reduceEqDiff, reduceIte, qv_assign, hB1.cell, hB2.cell]; rfl) ?_
                              refine WL.nil ?_
                              refine th_norm ?_
                              refine ⟨rfl, ?_, ?_, _, ?_, i + 1, rfl, ?_, ?_, ?_⟩  -- again 0 of loop 1
                              · exact hx2
                              · (repeat (first | exact Fr.refl _ _ | refine Fr.set rfl ?_ | refine Fr.put rfl ?_ | with_reducible refine Fr.put0 ?_ | refine Fr.trans ?_ (Fr.of hfr2 rfl)))
                              · omega
                              · omega
                              · exact fstE_step hz (by rw [hqe, h7])
                              · simp only [EN, Nat.reduceEqDiff, reduceIte, k0_2, k3_2, k7_2, k8_2, i9_2, hB1.cell, hB2.cell] <;> first | rfl | (congr 1; omega)
                  ·
                    try simp only [BD] at hct94
                    have hq5 : fstE (x.bd.pts.map ptE) = 0 := (by rw [List.take_of_length_le (by show ((x.ps.map PX.pt).map ptE).length ≤ i; rw [List.length_map, List.length_map]; omega)] at hz; exact hz)
                    have hpok : ∀ z ∈ x.bd.pts, ptE z = 0 := fun z hz2 => fstE_zero.1 hq5 _ (List.mem_map.2 ⟨z, hz2, rfl⟩)
                    refine hx_exit ?_
                    refine th_exit ?_
                    refine th_exit ?_
                    refine bl_hit ?_
                    refine th_norm ?_
                    refine hx_seq ?_
                    apply hx_draw2R (Rel.ap1 (Array.size hL1) 45 4 xs.length 1 (xs.flatMap bdL) (([x] : List BX).flatMap bdL)) [] [0, 2, 4, 5] [(0, Spec.ls (Array.size hL1) #[] 45 0), (2, Spec.ownZ (Array.size hL1) 45 4 xs.length (xs.flatMap bdL)), (4, Spec.ls (Array.size hL1) (bdL x).toArray 45 1), (5, Spec.own (Array.size hL1) 45 4 (xs.length + 1) (xs.flatMap bdL ++ (([x] : List BX).flatMap bdL)))] rfl (by decide +kernel) rfl (ap1_stable4 rfl)
                    have hXa := ((hx1).trans ((hX0).trans (hX1))); have hbp := hfb.pos; have hal := all_len hg.f hg.n
                    have hAl : (allP ((xs ++ [x]).map BX.bd)).length ≤ 2000 := (by rw [List.map_append, hxl, allP_app, List.length_append, show allP ([x].map BX.bd) = pos x.bd from allP_one _]; omega)
                    have hAr : ∀ y ∈ allP ((xs ++ [x]).map BX.bd), inR y.d := (by rw [List.map_append, hxl, allP_app, show allP ([x].map BX.bd) = pos x.bd from allP_one _]; intro y hy; rcases List.mem_append.1 hy with hy | hy; exact hg.g.inR y hy; exact pos_in hpok y hy)
                    have hAf : ∀ y ∈ xs ++ [x], FB y.bd := (by intro y hy; rcases List.mem_append.1 hy with hy | hy; exact hg.f _ (by rw [← hxl]; exact List.mem_map.2 ⟨y, hy, rfl⟩); (simp at hy; subst hy; exact hfb))
                    refine LD.es rfl rfl (by intro hD hr hf; have hX : Ext _ _ := ap1_ext hr; have hB1 := hB1.ext hX; exact (e_lit0 hX.size Try.underlying22 sz45).mono (fun _ _ hh => ⟨ap1_of_ext hh.1, hh.2⟩)) ?_
                    intro u31_0 w31_0
                    obtain ⟨B30, hlt30, rfl⟩ := w31_0
                    refine LD.qr rfl rfl (fun hD hr => by have hX : Ext _ _ := ap1_ext hr; have hB1 := hB1.ext hX; simp only [EN, Nat.reduceEqDiff, reduceIte, qv_move, k0_1, hB1.cell]; rfl) ?_
                    refine LD.es rfl rfl (by intro hD hr hf; have hX : Ext _ _ := ap1_ext hr; have hB1 := hB1.ext hX; have hB30 := hf (0, .slice (some ⟨B30, 0, none⟩) 0 0) (by simp) (by show tb _ _ 0 = true; decide +kernel) _ rfl B30 rfl; exact (e_copyZ (f := bdL) (L := xs) (bytes := 48) Try.underlying22 (inf_of Try.type45) rfl rfl rfl rfl (by decide) (fun _ => rfl) (by simp only [EN, Nat.reduceEqDiff, reduceIte, k0_1, k3_1, i7_1, hB1.cell]) hB30 hlt30 (by simp only [EN, Nat.reduceEqDiff, reduceIte, k0_1, k3_1, i7_1, hB1.cell]; rfl) rfl (hsx.ext hX) (by simp only [maxLen]; omega) (by omega) hX.size).mono (fun _ _ hh => ⟨ap1_of_ext hh.1, hh.2⟩)) ?_
                    intro u31_2 w31_2
                    obtain ⟨a31, c31, rfl, hz31⟩ := w31_2
                    refine LD.qr rfl rfl (fun hD hr => by have hX : Ext _ _ := ap1_ext hr; have hB1 := hB1.ext hX; simp only [EN, Nat.reduceEqDiff, reduceIte, qv_load, ld45, readN, AR, Nat.zero_add, Nat.reduceAdd, k3_1, hB1.cell]; rfl) ?_
                    refine LD.es rfl rfl (by intro hD hr hf; have hX : Ext _ _ := ap1_ext hr; have hB1 := hB1.ext hX; exact (e_lit1 hX.size Try.underlying22 sz45 zr45 (by decide) (by simp only [EN, Nat.reduceEqDiff, reduceIte, k0_1, k3_1, i7_1, hB1.cell, Value.cells] <;> rfl) rfl).mono (fun _ _ hh => ⟨ap1_of_ext hh.1, hh.2⟩)) ?_
                    intro u31_4 w31_4
                    obtain ⟨B33, hlt33, rfl⟩ := w31_4
                    refine LD.es rfl rfl (by intro hD hr hf; have hX : Ext _ _ := ap1_ext hr; have hB1 := hB1.ext hX; have ho31 := hf (2, .slice a31 xs.length c31) (by simp) (by show tb _ _ 2 = true; decide +kernel) _ rfl; have hB33 := hf (4, .slice (some ⟨B33, 0, none⟩) 1 1) (by simp) (by show tb _ _ 4 = true; decide +kernel) _ rfl B33 rfl; exact e_appIn1 (f := bdL) (L := xs) (M := [x]) (bytes := 48) Try.underlying22 (inf_of Try.type45) rfl rfl rfl rfl (by decide) (fun _ => rfl) (fun x u hu => by simp at hu; rcases hu with rfl | rfl | rfl | rfl <;> rfl) (by simp only [EN, Nat.reduceEqDiff, reduceIte, k0_1, k3_1, i7_1, hB1.cell]) ho31 (by simp only [EN, Nat.reduceEqDiff, reduceIte, k0_1, k3_1, i7_1, hB1.cell]; rfl) rfl (slG_has (f := bdL) (sz := 4) (L := [x]) (fun _ => rfl) hB33 rfl) (fun hh a cap hv => by cases hv; exact hz31 hh) (by simp only [maxLen]; omega) (by omega) hX.size) ?_
                    intro u31_5 w31_5
                    obtain ⟨a32, c32, rfl⟩ := w31_5
                    refine LD.qr rfl rfl (fun hD hr => by have hX : Ext _ _ := ap1_ext hr; have hB1 := hB1.ext hX; simp only [EN, Nat.reduceEqDiff, reduceIte, qv_assign, hB1.cell]; rfl) ?_
                    refine LD.nil ?_
                    rintro h3 hr31 hF31
                    have hx3 : Ext _ _ := ap1_ext hr31
                    replace hsx := hsx.ext hx3
                    replace hb := hb.ext hx3
                    replace hbi := hbi.ext hx3
                    replace hB1 := hB1.ext hx3
                    have ho32 : Own h3 _ 45 4 (.slice a32 (xs.length + 1) c32) (xs.length + 1) (xs.flatMap bdL ++ (([x] : List BX).flatMap bdL)) := hF31 (5, .slice a32 (xs.length + 1) c32) (by simp) _ rfl
                    have hl2 : xs.length + 1 = (xs ++ [x]).length := (by rw [List.length_append]; rfl)
                    rw [← List.flatMap_append] at ho32
                    have hsA := slG_own (f := bdL) (sz := 4) (fun _ => rfl) ho32 hl2
                    have hbA : BXs h3 (xs ++ [x]) := (by intro y hy; rcases List.mem_append.1 hy with hy | hy; exact hb y hy; (simp at hy; subst hy; exact hbi))
                    refine WL.nil ?_
                    refine th_norm ?_
                    refine hx_seq ?_
                    refine hx_seq ?_
                    refine hx_region ?_
                    refine WL.qq (by simp only [EN, Nat.reduceEqDiff, reduceIte, qv_assign, hB1.cell]; rfl) ?_
                    refine WL.nil ?_
                    refine th_norm ?_
                    refine hx_block ?_
                    refine hx_loopX [4, 11, 12, 13, 143, 144, 145, 146, 147, 148, 149, 150, 151, 152, 153, 154, 155, 156, 157, 158, 159, 160, 161, 162, 163, 164, 165, 166, 167, 168, 169, 170, 171, 172, 173, 174, 175, 176, 177, 178, 179, 180] (fun k e => ∃ (i : Nat), x.ps.length - i = k ∧ (i ≤ x.ps.length) ∧ ((∀ y ∈ (pos x.bd).take (fl x i), inR (dS y.c (allP (l ++ [x.bd]))))) ∧ e 11 = .int .i64 i) _ ⟨0, rfl, ?_, ?_, ?_⟩ ?_
                    · omega
                    · rw [show fl x 0 = 0 from rfl]; intro y hy; simp at hy
                    · simp only [EN, Nat.reduceEqDiff, reduceIte, k0_1, k3_1, i7_1, hB1.cell] <;> rfl
                    ·
                      rintro k e3L hL3 hX3 hfr3 ⟨i, rfl, hi, hok, i11_3⟩
                      replace hsx := hsx.ext hX3
                      replace hb := hb.ext hX3
                      replace hbi := hbi.ext hX3
                      replace hB1 := hB1.ext hX3
                      replace hsA := hsA.ext hX3
                      replace hbA := hbA.ext hX3
                      have k3_3 := hfr3 3 rfl; try simp only [EN, Nat.reduceEqDiff, reduceIte, k3_1, hB1.cell] at k3_3
                      have k10_3 := hfr3 10 rfl; try simp only [EN, Nat.reduceEqDiff, reduceIte, hB1.cell] at k10_3
                      refine hx_seq ?_
                      refine hx_seq ?_
                      refine hx_region ?_
                      refine WL.qq (by simp only [EN, Nat.reduceEqDiff, reduceIte, qv_move, i11_3, hB1.cell]; rfl) ?_
                      refine WL.qq (by simp only [EN, Nat.reduceEqDiff, reduceIte, qv_fieldAddr, fa45_3, Nat.zero_add, Nat.reduceAdd, k3_3, hB1.cell]; rfl) ?_
                      refine WL.qq (by simp only [EN, Nat.reduceEqDiff, reduceIte, qv_load, ld43, readN, AR, Nat.zero_add, Nat.reduceAdd, hB1.cell]; rfl) ?_
                      refine WL.qq (by simp only [EN, Nat.reduceEqDiff, reduceIte, qv_len, ln43, AR, hB1.cell]; rfl) ?_
                      refine WL.qq (by simp only [EN, Nat.reduceEqDiff, reduceIte, qv_binOp, binv_lss, hB1.cell]; rfl) ?_
                      refine WL.nil ?_
                      refine th_norm ?_
                      refine hx_cond (by simp only [EN, Nat.reduceEqDiff, reduceIte, hB1.cell]; rfl) (fun hct147 => ?_) (fun hct147 => ?_)
                      ·
                        try simp only [BD] at hct147
                        obtain ⟨q, hqi⟩ := atG (l := x.ps) (i := i) (by omega)
                        obtain ⟨b1, o1, ha1, hr2, _, hc1⟩ := pt_rd hbi.1 hqi
                        have hq12 := hp12 q (List.mem_of_getElem? hqi); have hqs : SlG 4 poL _ q.a q.ps := hbi.2 q (List.mem_of_getElem? hqi)
                        refine hx_skip ?_
                        refine th_norm ?_
                        refine hx_seq ?_
                        refine hx_block ?_
                        refine hx_seq ?_
                        refine hx_region ?_
                        refine WL.qq (by simp only [EN, Nat.reduceEqDiff, reduceIte, qv_assign, hB1.cell]; rfl) ?_
                        refine WL.nil ?_
                        refine th_norm ?_
                        refine hx_block ?_
                        refine hx_loopX [4, 12, 13, 150, 151, 152, 153, 154, 155, 156, 157, 158, 159, 160, 161, 162, 163, 164, 165, 166, 167, 168, 169, 170, 171, 172, 173, 174, 175, 176, 177, 178, 179, 180] (fun k e => ∃ (m2 : Nat), q.ps.length - m2 = k ∧ (m2 ≤ q.ps.length) ∧ ((∀ y ∈ (pos x.bd).take (fl x i + m2), inR (dS y.c (allP (l ++ [x.bd]))))) ∧ e 12 = .int .i64 m2) _ ⟨0, rfl, ?_, ?_, ?_⟩ ?_
                        · omega
                        · exact hok
                        · simp only [EN, Nat.reduceEqDiff, reduceIte, k3_3, k10_3, i11_3, hB1.cell] <;> rfl
                        ·
                          rintro k e4L hL4 hX4 hfr4 ⟨m2, rfl, hm2, hok2, i12_4⟩
                          replace hsx := hsx.ext hX4
                          replace hb := hb.ext hX4
                          replace hbi := hbi.ext hX4
                          replace hB1 := hB1.ext hX4
                          replace hsA := hsA.ext hX4
                          replace hbA := hbA.ext hX4
                          have k3_4 := hfr4 3 rfl; try simp only [EN, Nat.reduceEqDiff, reduceIte, k3_3, hB1.cell] at k3_4
                          have k10_4 := hfr4 10 rfl; try simp only [EN, Nat.reduceEqDiff, reduceIte, k10_3, hB1.cell] at k10_4
                          have k11_4 := hfr4 11 rfl; try simp only [EN, Nat.reduceEqDiff, reduceIte, i11_3, hB1.cell] at k11_4
                          refine hx_seq ?_
                          refine hx_seq ?_
                          refine hx_region ?_
                          obtain ⟨_, _, hae1, _, _, hc1b⟩ := pt_rd hbi.1 hqi; rw [ha1] at hae1; cases hae1
                          refine WL.qq (by simp only [EN, Nat.reduceEqDiff, reduceIte, qv_move, i12_4, hB1.cell]; rfl) ?_
                          refine WL.qq (by simp only [EN, Nat.reduceEqDiff, reduceIte, qv_fieldAddr, fa45_3, Nat.zero_add, Nat.reduceAdd, k3_4, hB1.cell]; rfl) ?_
                          refine WL.qq (by simp only [EN, Nat.reduceEqDiff, reduceIte, qv_load, ld43, readN, AR, Nat.zero_add, Nat.reduceAdd, hB1.cell]; rfl) ?_
                          refine WL.qq (by simp only [EN, Nat.reduceEqDiff, reduceIte, qv_move, k11_4, hB1.cell]; rfl) ?_
                          refine WL.qq (by simp only [EN, Nat.reduceEqDiff, reduceIte, qv_indexAddr, hB1.cell, ha1]; (try simp (disch := omega) only [ix43, Int.toNat_natCast]); rfl) ?_
                          refine WL.qq (by simp only [EN, Nat.reduceEqDiff, reduceIte, qv_fieldAddr, fa79_1, Nat.zero_add, Nat.reduceAdd, hB1.cell]; rfl) ?_
                          refine WL.qq (by simp only [EN, Nat.reduceEqDiff, reduceIte, k3_4, k10_4, k11_4, i12_4, hB1.cell, qv_load, ld77, Int.toNat_natCast, hc1b]; rfl) ?_
                          refine WL.qq (by simp only [EN, Nat.reduceEqDiff, reduceIte, qv_len, ln77, AR, hB1.cell]; rfl) ?_
                          refine WL.qq (by simp only [EN, Nat.reduceEqDiff, reduceIte, qv_binOp, binv_lss, hB1.cell]; rfl) ?_
                          refine WL.nil ?_
                          refine th_norm ?_
                          refine hx_cond (by simp only [EN, Nat.reduceEqDiff, reduceIte, hB1.cell]; rfl) (fun hct158 => ?_) (fun hct158 => ?_)
                          ·
                            try simp only [BD] at hct158
                            obtain ⟨y, hy⟩ := atG (l := q.ps) (i := m2) (by omega)
                            obtain ⟨b2, off2, ha2, _, hr3, _⟩ := po_rd (L := q.ps) (hbi.2 q (List.mem_of_getElem? hqi)) hy
                            have hyp := fl_at hqi hy
                            have hval : dS y.c (allP ((xs ++ [x]).map BX.bd)) = dS y.c (allP (l ++ [x.bd])) := (by rw [List.map_append, hxl]; rfl)
                            refine hx_skip ?_
                            refine th_norm ?_
                            refine hx_seq ?_
                            refine hx_block ?_
                            refine hx_seq ?_
                            refine hx_region ?_
                            refine WL.qq (by simp only [EN, Nat.reduceEqDiff, reduceIte, qv_move, k10_4, hB1.cell]; rfl) ?_
                            refine WL.qq (by simp only [EN, Nat.reduceEqDiff, reduceIte, qv_fieldAddr, fa45_3, Nat.zero_add, Nat.reduceAdd, k3_4, hB1.cell]; rfl) ?_
                            refine WL.qq (by simp only [EN, Nat.reduceEqDiff, reduceIte, qv_load, ld43, readN, AR, Nat.zero_add, Nat.reduceAdd, hB1.cell]; rfl) ?_
                            refine WL.qq (by simp only [EN, Nat.reduceEqDiff, reduceIte, qv_move, k11_4, hB1.cell]; rfl) ?_
                            refine WL.qq (by simp only [EN, Nat.reduceEqDiff, reduceIte, qv_indexAddr, hB1.cell, ha1]; (try simp (disch := omega) only [ix43, Int.toNat_natCast]); rfl) ?_
                            refine WL.qq (by simp only [EN, Nat.reduceEqDiff, reduceIte, qv_fieldAddr, fa79_1, Nat.zero_add, Nat.reduceAdd, hB1.cell]; rfl) ?_
                            refine WL.qq (by simp only [EN, Nat.reduceEqDiff, reduceIte, k3_4, k10_4, k11_4, i12_4, hB1.cell, qv_load, ld77, Int.toNat_natCast, hc1b]; rfl) ?_
                            refine WL.qq (by simp only [EN, Nat.reduceEqDiff, reduceIte, qv_move, i12_4, hB1.cell]; rfl) ?_
                            refine WL.qq (by simp only [EN, Nat.reduceEqDiff, reduceIte, qv_indexAddr, hB1.cell, ha2]; (try simp (disch := omega) only [ix77, Int.toNat_natCast]); rfl) ?_
                            refine WL.qq (by simp only [EN, Nat.reduceEqDiff, reduceIte, qv_fieldAddr, fa76_0, Nat.zero_add, Nat.reduceAdd, hB1.cell]; rfl) ?_
                            refine WL.qq (by simp only [EN, Nat.reduceEqDiff, reduceIte, k3_4, k10_4, k11_4, i12_4, hB1.cell, qv_load, ld24, Int.toNat_natCast, hr3]; rfl) ?_
                            refine WL.qq (by simp only [EN, Nat.reduceEqDiff, reduceIte, qv_move, k10_4, hB1.cell]; rfl) ?_
                            refine WL.qq (by simp only [EN, Nat.reduceEqDiff, reduceIte, qv_len, ln22, AR, hB1.cell]; rfl) ?_
                            refine WL.cg Try.call18 (by simp only [EN, Nat.reduceEqDiff, reduceIte, AR, hB1.cell]; exact c_rBalanceA a32 (xs ++ [x]) c32 (xs.length + 1) hl2 y.c (by rw [← hl2]; omega) hAl hAr hAf hsA hbA) ?_
                            intro h4 hx4
                            replace hsx := hsx.ext hx4
                            replace hb := hb.ext hx4
                            replace hbi := hbi.ext hx4
                            replace hB1 := hB1.ext hx4
                            replace hsA := hsA.ext hx4
                            replace hbA := hbA.ext hx4
                            refine WL.qq (by simp only [EN, Nat.reduceEqDiff, reduceIte, qv_assign, hB1.cell]; rfl) ?_
                            refine WL.nil ?_
                            refine th_norm ?_
                            refine hx_seq ?_
                            refine hx_region ?_
                            refine WL.qq (by simp only [EN, Nat.reduceEqDiff, reduceIte, qv_move, hB1.cell]; rfl) ?_
                            refine WL.qq (by simp only [EN, Nat.reduceEqDiff, reduceIte, qv_binOp, binv_gtr, hB1.cell]; rfl) ?_
                            refine WL.qq (by simp only [EN, Nat.reduceEqDiff, reduceIte, qv_move, hB1.cell]; rfl) ?_
                            refine WL.cq (gd_at (t := 177) rfl (by simp only [EN, Nat.reduceEqDiff, reduceIte, hB1.cell] <;> rfl)) (fun hg39_3 => by simp only [EN, Nat.reduceEqDiff, reduceIte, qv_move, hB1.cell, hg39_3, GR]; rfl) ?_
                            refine WL.cq (gd_at (t := 177) rfl (by simp only [EN, Nat.reduceEqDiff, reduceIte, hB1.cell] <;> rfl)) (fun hg39_4 => by simp only [EN, Nat.reduceEqDiff, reduceIte, qv_binOp, binv_lss, hB1.cell, hg39_4, GR]; rfl) ?_
                            refine WL.qq (by simp only [EN, Nat.reduceEqDiff, reduceIte, qv_pick, pk_and, pk_or, GR, hB1.cell]; rfl) ?_
                            refine WL.nil ?_
                            refine th_norm ?_
                            refine hx_cond (by simp only [EN, Nat.reduceEqDiff, reduceIte, hB1.cell]; rfl) (fun hct180 => ?_) (fun hct180 => ?_)
                            ·
                              try simp only [BD] at hct180
                              refine hx_seq ?_
                              refine hx_region ?_
                              refine WL.qq (by simp only [EN, Nat.reduceEqDiff, reduceIte, qv_assign, hB1.cell]; rfl) ?_
                              refine WL.nil ?_
                              refine th_norm ?_
                              refine hx_ret ?_
                              refine bl_ret ?_
                              refine th_ret ?_
                              refine th_ret ?_
                              refine bl_ret ?_
                              refine bl_ret ?_
                              refine th_ret ?_
                              refine th_ret ?_
                              refine bl_ret ?_
                              refine th_ret ?_
                              refine fin_ret [.tmp 4] rfl rfl (by simp only [EN, Nat.reduceEqDiff, reduceIte, resv, k3_4, k10_4, k11_4, i12_4, hB1.cell]; rfl) ?_  -- ret 8 r40
                              have h9 : ¬ inR (dS y.c (allP (l ++ [x.bd]))) := (by rw [← hval]; simp only [inR, MA]; omega)
                              exact ⟨(congrArg iV (bdE_ovf (b := x.bd) hq1 hq2 hq3 hq4 hq5 (fun hh => h9 (hh y (List.mem_of_getElem? hyp))))).symm, ((hx1).trans ((hX0).trans ((hX1).trans ((hx3).trans ((hX3).trans ((hX4).trans (hx4)))))))⟩
                            ·
                              try simp only [BD] at hct180
                              refine hx_skip ?_
                              refine bl_norm ?_
                              refine th_norm ?_
                              refine hx_region ?_
                              refine WL.qq (by simp only [EN, Nat.reduceEqDiff, reduceIte, qv_move, i12_4, hB1.cell]; rfl) ?_
                              refine WL.qq (by simp only [EN, Nat.reduceEqDiff, reduceIte, qv_binOp, binv_add, hB1.cell]; (try simp (disch := omega) only [w64, w8, wu64]); rfl) ?_
                              refine WL.qq (by simp only [EN, Nat.reduceEqDiff, reduceIte, qv_assign, hB1.cell]; rfl) ?_
                              refine WL.nil ?_
                              refine th_norm ?_
                              refine ⟨rfl, ?_, ?_, _, ?_, m2 + 1, rfl, ?_, ?_, ?_⟩  -- again 0 of loop 4
                              · exact hx4
                              · (repeat (first | exact Fr.refl _ _ | refine Fr.set rfl ?_ | refine Fr.put rfl ?_ | with_reducible refine Fr.put0 ?_))
                              · omega
                              · omega
                              · rw [← Nat.add_assoc]; exact all_take hok2 hyp (by rw [← hval]; simp only [inR, MA]; omega)
                              · simp only [EN, Nat.reduceEqDiff, reduceIte, k3_4, k10_4, k11_4, i12_4, hB1.cell] <;> first | rfl | (congr 1; omega)
                          ·
                            try simp only [BD] at hct158
                            have hfe : fl x (i + 1) = fl x i + m2 := (by rw [fl_step hqi]; omega)
                            refine hx_exit ?_
                            refine th_exit ?_
                            refine th_exit ?_
                            refine bl_hit ?_
                            refine bl_norm ?_
                            refine th_norm ?_
                            refine hx_region ?_
                            refine WL.qq (by simp only [EN, Nat.reduceEqDiff, reduceIte, qv_move, k11_4, hB1.cell]; rfl) ?_
                            refine WL.qq (by simp only [EN, Nat.reduceEqDiff, reduceIte, qv_binOp, binv_add, hB1.cell]; (try simp (disch := omega) only [w64, w8, wu64]); rfl) ?_
                            refine WL.qq (by simp only [EN, Nat.reduceEqDiff, reduceIte, qv_assign, hB1.cell]; rfl) ?_
                            refine WL.nil ?_
                            refine th_norm ?_
                            refine ⟨rfl, ?_, ?_, _, ?_, i + 1, rfl, ?_, ?_, ?_⟩  -- again 0 of loop 3
                            · exact hX4
                            · (repeat (first | exact Fr.refl _ _ | refine Fr.set rfl ?_ | refine Fr.put rfl ?_ | with_reducible refine Fr.put0 ?_ | refine Fr.trans ?_ (Fr.of hfr4 rfl)))
                            · omega
                            · omega
                            · rw [hfe]; exact hok2
                            · simp only [EN, Nat.reduceEqDiff, reduceIte, k3_4, k10_4, k11_4, i12_4, hB1.cell] <;> first | rfl | (congr 1; omega)
                      ·
                        try simp only [BD] at hct147
                        rw [fl_end (by omega), List.take_length] at hok
                        refine hx_exit ?_
                        refine th_exit ?_
                        refine th_exit ?_
                        refine bl_hit ?_
                        refine th_norm ?_
                        refine hx_seq ?_
                        refine hx_region ?_
                        refine WL.qq (by simp only [EN, Nat.reduceEqDiff, reduceIte, qv_assign, hB1.cell]; rfl) ?_
                        refine WL.nil ?_
                        refine th_norm ?_
                        refine hx_ret ?_
                        refine fin_ret [.tmp 4] rfl rfl (by simp only [EN, Nat.reduceEqDiff, reduceIte, resv, k3_3, k10_3, i11_3, hB1.cell]; rfl) ?_  -- ret 9 r41
                        exact ⟨(congrArg iV (bdE_ok (b := x.bd) hq1 hq2 hq3 hq4 hq5 (fun hh => hh hok))).symm, ((hx1).trans ((hX0).trans ((hX1).trans ((hx3).trans (hX3)))))⟩
end GL


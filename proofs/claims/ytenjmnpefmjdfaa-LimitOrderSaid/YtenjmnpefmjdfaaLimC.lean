/- Limits: valid flows, the net amounts after flows, the outflows of members. -/
import Derived.Test.YtenjmnpefmjdfaaLimB
set_option linter.unusedSimpArgs false
set_option linter.unusedVariables false
set_option linter.unnecessarySimpa false
namespace GL
open Go Go.Proofs
set_option maxRecDepth 8000
def valL : List L2 → Int
  | [] => 0
  | x :: l => if x.1.f = em ∨ x.1.t = em then 6 else if x.1.f = x.1.t then 7 else if x.2 < 0 ∨ 1000000000000000 < x.2 then 2 else valL l
def valE (F : List L2) : Int := if 4096 < F.length then 8 else valL F
theorem valL_drop {l : List L2} {i : Nat} {x : L2} (hx : l[i]? = some x) : valL (l.drop i) = if x.1.f = em ∨ x.1.t = em then 6 else if x.1.f = x.1.t then 7 else if x.2 < 0 ∨ 1000000000000000 < x.2 then 2 else valL (l.drop (i + 1)) := by
  rw [drop_atG hx]; rfl
theorem c_valid16 (al : Option Addr) (F : List L2) (cl : Nat) (ll : F.length ≤ 9223372036854775807) {h : Heap} (hl : SlG 3 limL h al F) :
    HCalls Try.prog 52 #[.slice al F.length cl] h (Grow (iV (valE F)) h) := by
  refine hcalls2 Try.func52 rfl (by decide +kernel) (by simp only [Try.ntmps52]; exact of_decide_eq_true rfl) ?_
  intro e hin
  have e0 := hin 0 _ rfl
  refine hx_seq ?_
  refine hx_region ?_
  refine WL.qq (by simp only [EN, Nat.reduceEqDiff, reduceIte, qv_assign, strEq]; rfl) ?_
  refine WL.nil ?_
  refine th_norm ?_
  refine hx_seq ?_
  refine hx_seq ?_
  refine hx_region ?_
  refine WL.qq (by simp only [EN, Nat.reduceEqDiff, reduceIte, qv_move, e0, strEq]; rfl) ?_
  refine WL.qq (by simp only [EN, Nat.reduceEqDiff, reduceIte, qv_len, ln32, AR, strEq]; rfl) ?_
  refine WL.qq (by simp only [EN, Nat.reduceEqDiff, reduceIte, qv_binOp, binv_gtr, strEq]; rfl) ?_
  refine WL.nil ?_
  refine th_norm ?_
  refine hx_cond (by simp only [EN, Nat.reduceEqDiff, reduceIte, strEq]; rfl) (fun hct7 => ?_) (fun hct7 => ?_)
  ·
    try simp only [BD] at hct7
    refine hx_seq ?_
    refine hx_region ?_
    refine WL.qq (by simp only [EN, Nat.reduceEqDiff, reduceIte, qv_assign, strEq]; rfl) ?_
    refine WL.nil ?_
    refine th_norm ?_
    refine hx_ret ?_
    refine th_ret ?_
    refine fin_ret [.tmp 2] rfl rfl (by simp only [EN, Nat.reduceEqDiff, reduceIte, resv, e0, strEq]; rfl) ?_  -- ret 0 r2
    exact ⟨by unfold valE; rw [if_pos (by omega)]; rfl, (Ext.refl _)⟩
  ·
    try simp only [BD] at hct7
    refine hx_skip ?_
    refine th_norm ?_
    refine hx_seq ?_
    refine hx_seq ?_
    refine hx_region ?_
    refine WL.qq (by simp only [EN, Nat.reduceEqDiff, reduceIte, qv_move, e0, strEq]; rfl) ?_
    refine WL.qq (by simp only [EN, Nat.reduceEqDiff, reduceIte, qv_len, ln32, AR, strEq]; rfl) ?_
    refine WL.qq (by simp only [EN, Nat.reduceEqDiff, reduceIte, qv_move, strEq]; rfl) ?_
    refine WL.nil ?_
    refine th_norm ?_
    refine hx_block ?_
    refine hx_loopX [2, 4, 10, 11, 12, 13, 14, 15, 16, 17, 18, 19, 20, 21, 22, 23, 24, 25, 26, 27, 28, 29, 30, 31, 32, 33, 34, 35, 36, 37, 38] (fun k e => ∃ (i : Nat), F.length - i = k ∧ (i ≤ F.length) ∧ (valL (F.drop i) = valL F) ∧ e 10 = .int .i64 i) _ ⟨0, rfl, ?_, ?_, ?_⟩ ?_
    · omega
    · rfl
    · simp only [EN, Nat.reduceEqDiff, reduceIte, e0, strEq] <;> rfl
    ·
      rintro k e0L hL0 hX0 hfr0 ⟨i, rfl, hi, hr, i10_0⟩
      replace hl := hl.ext hX0
      have k8_0 := hfr0 8 rfl; try simp only [EN, Nat.reduceEqDiff, reduceIte, strEq] at k8_0
      have k9_0 := hfr0 9 rfl; try simp only [EN, Nat.reduceEqDiff, reduceIte, strEq] at k9_0
      refine hx_seq ?_
      refine hx_region ?_
      refine WL.qq (by simp only [EN, Nat.reduceEqDiff, reduceIte, qv_binOp, binv_lss, k9_0, i10_0, strEq]; rfl) ?_
      refine WL.nil ?_
      refine th_norm ?_
      refine hx_seq ?_
      refine hx_cond (by simp only [EN, Nat.reduceEqDiff, reduceIte, strEq]; rfl) (fun hct11 => ?_) (fun hct11 => ?_)
      ·
        try simp only [BD] at hct11
        obtain ⟨x, hx⟩ := atG (l := F) (i := i) (by omega)
        obtain ⟨b, off, rfl, hr3, hc0, hc1, hc2⟩ := lim_rd hl hx
        refine hx_skip ?_
        refine th_norm ?_
        refine hx_seq ?_
        refine hx_block ?_
        refine hx_seq ?_
        refine hx_region ?_
        refine WL.qq (by simp only [EN, Nat.reduceEqDiff, reduceIte, qv_indexAddr, k8_0, i10_0, strEq]; (try simp (disch := omega) only [ix32, Int.toNat_natCast]); rfl) ?_
        refine WL.qq (by simp only [EN, Nat.reduceEqDiff, reduceIte, k8_0, k9_0, i10_0, strEq, qv_load, ld31, Int.toNat_natCast, hr3]; rfl) ?_
        refine WL.allocSt zr31 sz31 (fun u => by simp only [EN, Nat.reduceEqDiff, reduceIte, Value.cells, strEq]; rfl) ⟨rfl, rfl⟩ (by simp [Value.oneCell']) ?_
        intro h1 B1 hx1 hlt1 hB1
        replace hl := hl.ext hx1
        refine WL.nil ?_
        refine th_norm ?_
        refine hx_block ?_
        refine hx_seq ?_
        refine hx_region ?_
        refine WL.qq (by simp only [EN, Nat.reduceEqDiff, reduceIte, qv_fieldAddr, fa31_0, Nat.zero_add, Nat.reduceAdd, strEq, hB1.cell]; rfl) ?_
        refine WL.qq (by simp only [EN, Nat.reduceEqDiff, reduceIte, qv_load, ld9, readN, AR, Nat.zero_add, Nat.reduceAdd, strEq, hB1.cell]; rfl) ?_
        refine WL.qq (by simp only [EN, Nat.reduceEqDiff, reduceIte, qv_binOp, binv_eql, eq9, Option.map_some, strEq, hB1.cell]; rfl) ?_
        refine WL.qq (by simp only [EN, Nat.reduceEqDiff, reduceIte, qv_move, strEq, hB1.cell]; rfl) ?_
        refine WL.cq (gd_at (t := 18) rfl (by simp only [EN, Nat.reduceEqDiff, reduceIte, strEq, hB1.cell] <;> rfl)) (fun hg6_4 => by simp only [EN, Nat.reduceEqDiff, reduceIte, qv_fieldAddr, fa31_1, Nat.zero_add, Nat.reduceAdd, strEq, hB1.cell, hg6_4, GR]; rfl) ?_
        refine WL.cq (gd_at (t := 18) rfl (by simp only [EN, Nat.reduceEqDiff, reduceIte, strEq, hB1.cell] <;> rfl)) (fun hg6_5 => by simp only [EN, Nat.reduceEqDiff, reduceIte, qv_load, ld9, readN, AR, Nat.zero_add, Nat.reduceAdd, strEq, hB1.cell, hg6_5, GR]; rfl) ?_
        refine WL.cq (gd_at (t := 18) rfl (by simp only [EN, Nat.reduceEqDiff, reduceIte, strEq, hB1.cell] <;> rfl)) (fun hg6_6 => by simp only [EN, Nat.reduceEqDiff, reduceIte, qv_binOp, binv_eql, eq9, Option.map_some, strEq, hB1.cell, hg6_6, GR]; rfl) ?_
        refine WL.qq (by simp only [EN, Nat.reduceEqDiff, reduceIte, qv_pick, pk_and, pk_or, GR, strEq, hB1.cell]; rfl) ?_
        refine WL.qq (by simp only [EN, Nat.reduceEqDiff, reduceIte, qv_assign, strEq, hB1.cell]; rfl) ?_
        refine WL.nil ?_
        refine th_norm ?_
        refine hx_cond (by simp only [EN, Nat.reduceEqDiff, reduceIte, strEq, hB1.cell]; rfl) (fun hct14 => ?_) (fun hct14 => ?_)
        ·
          try simp only [BD] at hct14
          refine hx_seq ?_
          refine hx_region ?_
          refine WL.qq (by simp only [EN, Nat.reduceEqDiff, reduceIte, qv_assign, strEq, hB1.cell]; rfl) ?_
          refine WL.nil ?_
          refine th_norm ?_
          refine hx_ret ?_
          refine bl_ret ?_
          refine bl_ret ?_
          refine th_ret ?_
          refine th_ret ?_
          refine bl_ret ?_
          refine th_ret ?_
          refine fin_ret [.tmp 2] rfl rfl (by simp only [EN, Nat.reduceEqDiff, reduceIte, resv, k8_0, k9_0, i10_0, strEq, hB1.cell]; rfl) ?_  -- ret 1 r7
          exact ⟨by unfold valE; rw [if_neg (by omega), ← hr, valL_drop hx, if_pos (by simpa using hct14)]; rfl, ((hX0).trans (hx1))⟩
        ·
          try simp only [BD] at hct14
          refine hx_seq ?_
          refine hx_region ?_
          refine WL.qq (by simp only [EN, Nat.reduceEqDiff, reduceIte, qv_fieldAddr, fa31_0, Nat.zero_add, Nat.reduceAdd, strEq, hB1.cell]; rfl) ?_
          refine WL.qq (by simp only [EN, Nat.reduceEqDiff, reduceIte, qv_load, ld9, readN, AR, Nat.zero_add, Nat.reduceAdd, strEq, hB1.cell]; rfl) ?_
          refine WL.qq (by simp only [EN, Nat.reduceEqDiff, reduceIte, qv_fieldAddr, fa31_1, Nat.zero_add, Nat.reduceAdd, strEq, hB1.cell]; rfl) ?_
          refine WL.qq (by simp only [EN, Nat.reduceEqDiff, reduceIte, qv_load, ld9, readN, AR, Nat.zero_add, Nat.reduceAdd, strEq, hB1.cell]; rfl) ?_
          refine WL.qq (by simp only [EN, Nat.reduceEqDiff, reduceIte, qv_binOp, binv_eql, eq9, Option.map_some, strEq, hB1.cell]; rfl) ?_
          refine WL.qq (by simp only [EN, Nat.reduceEqDiff, reduceIte, qv_assign, strEq, hB1.cell]; rfl) ?_
          refine WL.nil ?_
          refine th_norm ?_
          refine hx_cond (by simp only [EN, Nat.reduceEqDiff, reduceIte, strEq, hB1.cell]; rfl) (fun hct23 => ?_) (fun hct23 => ?_)
          ·
            try simp only [BD] at hct23
            refine hx_seq ?_
            refine hx_region ?_
            refine WL.qq (by simp only [EN, Nat.reduceEqDiff, reduceIte, qv_assign, strEq, hB1.cell]; rfl) ?_
            refine WL.nil ?_
            refine th_norm ?_
            refine hx_ret ?_
            refine bl_ret ?_
            refine bl_ret ?_
            refine th_ret ?_
            refine th_ret ?_
            refine bl_ret ?_
            refine th_ret ?_
            refine fin_ret [.tmp 2] rfl rfl (by simp only [EN, Nat.reduceEqDiff, reduceIte, resv, k8_0, k9_0, i10_0, strEq, hB1.cell]; rfl) ?_  -- ret 2 r9
            exact ⟨by unfold valE; rw [if_neg (by omega), ← hr, valL_drop hx, if_neg (by simpa using hct14), if_pos (by simpa using hct23)]; rfl, ((hX0).trans (hx1))⟩
          ·
            try simp only [BD] at hct23
            refine hx_seq ?_
            refine hx_region ?_
            refine WL.qq (by simp only [EN, Nat.reduceEqDiff, reduceIte, qv_fieldAddr, fa31_2, Nat.zero_add, Nat.reduceAdd, strEq, hB1.cell]; rfl) ?_
            refine WL.qq (by simp only [EN, Nat.reduceEqDiff, reduceIte, qv_load, ld2, readN, AR, Nat.zero_add, Nat.reduceAdd, strEq, hB1.cell]; rfl) ?_
            refine WL.qq (by simp only [EN, Nat.reduceEqDiff, reduceIte, qv_binOp, binv_lss, strEq, hB1.cell]; rfl) ?_
            refine WL.qq (by simp only [EN, Nat.reduceEqDiff, reduceIte, qv_move, strEq, hB1.cell]; rfl) ?_
            refine WL.cq (gd_at (t := 33) rfl (by simp only [EN, Nat.reduceEqDiff, reduceIte, strEq, hB1.cell] <;> rfl)) (fun hg10_4 => by simp only [EN, Nat.reduceEqDiff, reduceIte, qv_fieldAddr, fa31_2, Nat.zero_add, Nat.reduceAdd, strEq, hB1.cell, hg10_4, GR]; rfl) ?_
            refine WL.cq (gd_at (t := 33) rfl (by simp only [EN, Nat.reduceEqDiff, reduceIte, strEq, hB1.cell] <;> rfl)) (fun hg10_5 => by simp only [EN, Nat.reduceEqDiff, reduceIte, qv_load, ld2, readN, AR, Nat.zero_add, Nat.reduceAdd, strEq, hB1.cell, hg10_5, GR]; rfl) ?_
            refine WL.cq (gd_at (t := 33) rfl (by simp only [EN, Nat.reduceEqDiff, reduceIte, strEq, hB1.cell] <;> rfl)) (fun hg10_6 => by simp only [EN, Nat.reduceEqDiff, reduceIte, qv_binOp, binv_gtr, strEq, hB1.cell, hg10_6, GR]; rfl) ?_
            refine WL.qq (by simp only [EN, Nat.reduceEqDiff, reduceIte, qv_pick, pk_and, pk_or, GR, strEq, hB1.cell]; rfl) ?_
            refine WL.qq (by simp only [EN, Nat.reduceEqDiff, reduceIte, qv_assign, strEq, hB1.cell]; rfl) ?_
            refine WL.nil ?_
            refine th_norm ?_
            refine hx_cond (by simp only [EN, Nat.reduceEqDiff, reduceIte, strEq, hB1.cell]; rfl) (fun hct29 => ?_) (fun hct29 => ?_)
            ·
              try simp only [BD] at hct29
              refine hx_seq ?_
              refine hx_region ?_
              refine WL.qq (by simp only [EN, Nat.reduceEqDiff, reduceIte, qv_assign, strEq, hB1.cell]; rfl) ?_
              refine WL.nil ?_
              refine th_norm ?_
              refine hx_ret ?_
              refine bl_ret ?_
              refine bl_ret ?_
              refine th_ret ?_
              refine th_ret ?_
              refine bl_ret ?_
              refine th_ret ?_
              refine fin_ret [.tmp 2] rfl rfl (by simp only [EN, Nat.reduceEqDiff, reduceIte, resv, k8_0, k9_0, i10_0, strEq, hB1.cell]; rfl) ?_  -- ret 3 r11
              exact ⟨by unfold valE; rw [if_neg (by omega), ← hr, valL_drop hx, if_neg (by simpa using hct14), if_neg (by simpa using hct23), if_pos (by simpa using hct29)]; rfl, ((hX0).trans (hx1))⟩
            ·
              try simp only [BD] at hct29
              refine hx_skip ?_
              refine bl_norm ?_
              refine bl_norm ?_
              refine th_norm ?_
              refine hx_region ?_
              refine WL.qq (by simp only [EN, Nat.reduceEqDiff, reduceIte, qv_binOp, binv_add, i10_0, strEq, hB1.cell]; (try simp (disch := omega) only [w64, w8, wu64]); rfl) ?_
              refine WL.qq (by simp only [EN, Nat.reduceEqDiff, reduceIte, qv_move, strEq, hB1.cell]; rfl) ?_
              refine WL.nil ?_
              refine th_norm ?_
              refine ⟨rfl, ?_, ?_, _, ?_, i + 1, rfl, ?_, ?_, ?_⟩  -- again 0 of loop 0
              · exact hx1
              · (repeat (first | exact Fr.refl _ _ | refine Fr.set rfl ?_ | refine Fr.put rfl ?_ | with_reducible refine Fr.put0 ?_))
              · omega
              · omega
              · rw [← hr, valL_drop hx, if_neg (by simpa using hct14), if_neg (by simpa using hct23), if_neg (by simpa using hct29)]
              · simp only [EN, Nat.reduceEqDiff, reduceIte, k8_0, k9_0, i10_0, strEq, hB1.cell] <;> first | rfl | (congr 1; omega)
      ·
        try simp only [BD] at hct11
        refine hx_exit ?_
        refine th_exit ?_
        refine th_exit ?_
        refine bl_hit ?_
        refine th_norm ?_
        refine hx_seq ?_
        refine hx_region ?_
        refine WL.qq (by simp only [EN, Nat.reduceEqDiff, reduceIte, qv_assign, strEq]; rfl) ?_
        refine WL.nil ?_
        refine th_norm ?_
        refine hx_ret ?_
        refine fin_ret [.tmp 2] rfl rfl (by simp only [EN, Nat.reduceEqDiff, reduceIte, resv, k8_0, k9_0, i10_0, strEq]; rfl) ?_  -- ret 4 r13
        exact ⟨by unfold valE; rw [if_neg (by omega), ← hr, List.drop_eq_nil_of_le (by omega)]; rfl, (hX0)⟩
theorem c_after1 (k : PK) (n : Int) (h : Heap) : HCalls Try.prog 64 #[pV k, iV n] h (Grow (.bool (decide (n = 0))) h) := by
  refine hcalls2 Try.func64 rfl (by decide +kernel) (by simp only [Try.ntmps64]; exact of_decide_eq_true rfl) ?_
  intro e hin
  have e0 := hin 0 _ rfl
  have e1 := hin 1 _ rfl
  refine hx_seq ?_
  refine hx_region ?_
  refine WL.box2 (by simp only [EN, Nat.reduceEqDiff, reduceIte, Value.cells, e0]; rfl) ?_
  intro h1 B1 hx1 hlt1 hB1
  refine WL.qq (by simp only [EN, Nat.reduceEqDiff, reduceIte, qv_assign, hB1.cell]; rfl) ?_
  refine WL.nil ?_
  refine th_norm ?_
  refine hx_seq ?_
  refine hx_region ?_
  refine WL.qq (by simp only [EN, Nat.reduceEqDiff, reduceIte, qv_move, e1, hB1.cell]; rfl) ?_
  refine WL.qq (by simp only [EN, Nat.reduceEqDiff, reduceIte, qv_binOp, binv_eql, eq2, Option.map_some, hB1.cell]; rfl) ?_
  refine WL.qq (by simp only [EN, Nat.reduceEqDiff, reduceIte, qv_assign, hB1.cell]; rfl) ?_
  refine WL.nil ?_
  refine th_norm ?_
  refine hx_ret ?_
  refine fin_ret [.tmp 4] rfl rfl (by simp only [EN, Nat.reduceEqDiff, reduceIte, resv, e0, e1, hB1.cell]; rfl) ?_  -- ret 0 r1
  exact ⟨rfl, (hx1)⟩
abbrev nz (x : L2) : Bool := decide (x.2 ≠ 0)
theorem mdel_nz {cur : List L2} {q : L2} (hn : (cur.map Prod.fst).Nodup) (hq : q ∈ cur) (h0 : q.2 = 0) : (mdel cur q.1).filter nz = cur.filter nz := by
  unfold mdel
  rw [List.filter_filter]
  refine List.filter_congr fun p hp => ?_
  by_cases h : p.1 = q.1
  · have h1 : cur.lookup p.1 = some p.2 := lookup_mem hn hp
    have h2 : cur.lookup q.1 = some q.2 := lookup_mem hn hq
    rw [h, h2] at h1
    have h3 : p.2 = 0 := by rw [← Option.some.inj h1]; exact h0
    simp [nz, h3]
  · simp [nz, h]
theorem c_delFunc {h : Heap} {b : Nat} {l : List L2} (hm : MapT pV iV h b l) :
    HCalls Try.prog 63 #[.map (some b), .func (.func 64) #[] #[]] h fun _ h' => Gs h h' [b] ∧ MapT pV iV h' b (l.filter nz) := by
  refine hcalls2 Try.func63 rfl (by decide +kernel) (by simp only [Try.ntmps63]; exact of_decide_eq_true rfl) ?_
  intro e hin
  have e0 := hin 0 _ rfl
  have e1 := hin 1 _ rfl
  have hlt := hm.lt
  refine hx_seq ?_
  refine hx_region ?_
  refine WL.qq (by simp only [EN, Nat.reduceEqDiff, reduceIte, qv_move, e0]; rfl) ?_
  refine WL.ef _ (e_range Try.underlying71 hm (by simp only [EN, Nat.reduceEqDiff, reduceIte, e0, e1])) ?_
  rintro _ h50 ⟨it, rfl, hit, hx50, hsz50, hI⟩
  simp only [put_some]
  refine WL.nil ?_
  refine th_norm ?_
  refine hx_block ?_
  refine hx_loopG [4, 5, 8, 9, 10, 11, 12, 13, 14, 15, 16, 17, 18] (fun k e hL0 => ∃ (left : List L2) (cur : List L2), left.length = k ∧ (Gs h hL0 [b]) ∧ (IterT pV iV hL0 it b cur left) ∧ (∀ y ∈ left, y ∈ cur) ∧ ((left.map Prod.fst).Nodup) ∧ (cur.filter nz = l.filter nz) ∧ (∀ y ∈ cur, y ∈ left ∨ nz y = true)) _ ⟨l, l, rfl, ?_, ?_, ?_, ?_, ?_, ?_⟩ ?_
  · exact Gs.ofExt hx50
  · exact hI
  · exact fun y hy => hy
  · exact hm.nodup
  · rfl
  · exact fun y hy => .inl hy
  ·
    rintro k e0L hL0 hfr0 ⟨left, cur, rfl, hE, hI, hsub, hnd, hf, hdone⟩
    have k0_0 := hfr0 0 rfl; try simp only [EN, Nat.reduceEqDiff, reduceIte, e0] at k0_0
    have k1_0 := hfr0 1 rfl; try simp only [EN, Nat.reduceEqDiff, reduceIte, e1] at k1_0
    have k7_0 := hfr0 7 rfl; try simp only [EN, Nat.reduceEqDiff, reduceIte] at k7_0
    refine hx_seq ?_
    refine hx_region ?_
    refine WL.ef _ (e_next2 ktP hI (by simp only [EN, Nat.reduceEqDiff, reduceIte, k0_0, k1_0, k7_0])) ?_
    rintro _ h51 ⟨bb1, vs1, rfl, hv1, hst1, hT1, hF1⟩
    simp only [put_some]
    replace hE := hE.stp hst1 (.inr (by omega))
    refine WL.qq (by simp only [EN, Nat.reduceEqDiff, reduceIte, k0_0, k1_0, k7_0, qv_extract, hv1]; rfl) ?_
    refine WL.nil ?_
    refine th_norm ?_
    refine hx_seq ?_
    refine hx_cond (by simp only [EN, Nat.reduceEqDiff, reduceIte]; rfl) (fun hct9 => ?_) (fun hct9 => ?_)
    ·
      try simp only [BD] at hct9
      obtain ⟨q1, left', hp1, hS⟩ := hT1 hct9; have hlen1 := hp1.length_eq; rw [List.length_cons] at hlen1; have hql := hsub q1 (hp1.mem_iff.2 (by simp)); have hnd2 := (hp1.map Prod.fst).nodup_iff.1 hnd; rw [List.map_cons, List.nodup_cons] at hnd2
      refine hx_skip ?_
      refine th_norm ?_
      refine hx_block ?_
      refine hx_seq ?_
      refine hx_region ?_
      refine WL.ef _ (e_entry hS (by simp only [EN, Nat.reduceEqDiff, reduceIte, k0_0, k1_0, k7_0])) ?_
      rintro _ hX ⟨rfl, hq1x⟩
      obtain rfl : h51 = hX := hq1x.symm
      simp only [put_some]
      refine WL.qq (by simp only [EN, Nat.reduceEqDiff, reduceIte, qv_extract, AR]; rfl) ?_
      refine WL.qq (by simp only [EN, Nat.reduceEqDiff, reduceIte, qv_extract, AR]; rfl) ?_
      refine WL.allocSt zr76 sz76 (fun u => by simp only [EN, Nat.reduceEqDiff, reduceIte, Value.cells]; rfl) ⟨rfl, rfl⟩ (by simp [Value.oneCell']) ?_
      intro h1 B1 hx1 hlt1 hB1
      replace hE := hE.ext hx1
      replace hS := hS.ext hx1
      refine WL.qq (by simp only [EN, Nat.reduceEqDiff, reduceIte, qv_assign, hB1.cell]; rfl) ?_
      refine WL.nil ?_
      refine th_norm ?_
      refine hx_seq ?_
      refine hx_region ?_
      refine WL.qq (by simp only [EN, Nat.reduceEqDiff, reduceIte, qv_move, k1_0, hB1.cell]; rfl) ?_
      refine WL.qq (by simp only [EN, Nat.reduceEqDiff, reduceIte, qv_load, ld76, readN, AR, Nat.zero_add, Nat.reduceAdd, hB1.cell]; rfl) ?_
      refine WL.qq (by simp only [EN, Nat.reduceEqDiff, reduceIte, qv_move, hB1.cell]; rfl) ?_
      refine WL.cf (f := 64) (first := #[]) (cap := #[]) (by simp only [EN, Nat.reduceEqDiff, reduceIte, k0_0, k1_0, k7_0, hB1.cell]) Try.call64 (by simp only [EN, Nat.reduceEqDiff, reduceIte, k0_0, k1_0, k7_0, hB1.cell, List.map_toArray, List.map_cons, List.map_nil]; exact c_after1 q1.1 q1.2 _) ?_
      rintro _ h2 ⟨rfl, hx2⟩
      simp only [put_some]
      replace hE := hE.ext hx2
      replace hS := hS.ext hx2
      replace hB1 := hB1.ext hx2
      refine WL.nil ?_
      refine th_norm ?_
      refine hx_cond (by simp only [EN, Nat.reduceEqDiff, reduceIte, hB1.cell]; rfl) (fun hct16 => ?_) (fun hct16 => ?_)
      ·
        try simp only [BD] at hct16
        refine hx_region ?_
        refine WL.qq (by simp only [EN, Nat.reduceEqDiff, reduceIte, qv_move, k0_0, hB1.cell]; rfl) ?_
        refine WL.qq (by simp only [EN, Nat.reduceEqDiff, reduceIte, qv_load, ld76, readN, AR, Nat.zero_add, Nat.reduceAdd, hB1.cell]; rfl) ?_
        refine WL.ef _ (e_deleteIt (t := 71) ktP Try.underlying71 rfl hS (by simp only [EN, Nat.reduceEqDiff, reduceIte, k0_0, k1_0, k7_0, hB1.cell]) (by simp only [EN, Nat.reduceEqDiff, reduceIte, k0_0, k1_0, k7_0, hB1.cell] <;> rfl)) ?_
        rintro _ h60 ⟨⟨o60, hw60⟩, hI2⟩
        simp only [put_none]
        replace hE := hE.stp (.inr ⟨_, hw60⟩) (.inl (by simp))
        refine WL.nil ?_
        refine bl_norm ?_
        refine th_norm ?_
        have hz : q1.2 = 0 := (by simpa using hct16)
        refine ⟨rfl, ?_, _, ?_, left', mdel cur q1.1, rfl, ?_, ?_, ?_, ?_, ?_, ?_⟩  -- again 0 of loop 0
        · (repeat (first | exact Fr.refl _ _ | refine Fr.set rfl ?_ | refine Fr.put rfl ?_ | with_reducible refine Fr.put0 ?_))
        · omega
        · exact hE
        · exact hI2
        · exact fun y hy => List.mem_filter.2 ⟨hsub y (hp1.mem_iff.2 (by simp [hy])), by simp; exact fun hh => hnd2.1 (hh ▸ List.mem_map_of_mem (f := Prod.fst) hy)⟩
        · exact hnd2.2
        · rw [mdel_nz hS.iter.map.nodup hql hz]; exact hf
        · intro y hy; obtain ⟨h8, h9⟩ := List.mem_filter.1 hy; rcases hdone y h8 with h7 | h7; (rcases List.mem_cons.1 (hp1.mem_iff.1 h7) with rfl | h6; (simp at h9); (exact .inl h6)); (exact .inr h7)
      ·
        try simp only [BD] at hct16
        refine hx_skip ?_
        refine bl_norm ?_
        refine th_norm ?_
        refine ⟨rfl, ?_, _, ?_, left', cur, rfl, ?_, ?_, ?_, ?_, ?_, ?_⟩  -- again 1 of loop 0
        · (repeat (first | exact Fr.refl _ _ | refine Fr.set rfl ?_ | refine Fr.put rfl ?_ | with_reducible refine Fr.put0 ?_))
        · omega
        · exact hE
        · exact hS.iter
        · exact fun y hy => hsub y (hp1.mem_iff.2 (by simp [hy]))
        · exact hnd2.2
        · exact hf
        · exact perm_sub (P := fun y => nz y = true) hp1 hdone (by simpa using hct16)
    ·
      try simp only [BD] at hct9
      obtain ⟨hl0, hmm⟩ := hF1 hct9; subst hl0
      refine hx_exit ?_
      refine th_exit ?_
      refine th_exit ?_
      refine bl_hit ?_
      refine fin_end [] rfl rfl (by simp only [EN, Nat.reduceEqDiff, reduceIte, resv, k0_0, k1_0, k7_0]; rfl) ?_  -- ret 0 r4
      exact ⟨hE, by rw [← hf, List.filter_eq_self.2 (fun y hy => (hdone y hy).resolve_left (by simp))]; exact hmm⟩
/-! The net amounts after flows. -/
abbrev swp (k : PK) : PK := ⟨k.t, k.f⟩
def stF (m : List L2) (x : L2) : List L2 :=
  mset (mset m x.1 (IntKind.i64.wrap (lk m x.1 + x.2))) (swp x.1) (IntKind.i64.wrap (lk (mset m x.1 (IntKind.i64.wrap (lk m x.1 + x.2))) (swp x.1) - x.2))
def foF (ns F : List L2) : List L2 := F.foldl stF ns
def aftS (ns F : List L2) : List L2 := (foF ns F).filter nz
theorem foF_step {ns F : List L2} {i : Nat} {x : L2} (hx : F[i]? = some x) : foF ns (F.take (i + 1)) = stF (foF ns (F.take i)) x := by
  unfold foF
  rw [List.take_add_one, hx, List.foldl_append]; rfl
theorem c_after {h : Heap} {p bl bn : Nat} {ls ns : List L2} (al : Option Addr) (F : List L2) (cl : Nat) (ll : F.length ≤ 9223372036854775807) (hb : IsTb h p bl bn ls ns) (hl : SlG 3 limL h al F) :
    HCalls Try.prog 53 #[.pointer (some ⟨p, 0, none⟩), .slice al F.length cl] h fun v h' => Ext h h' ∧ ∃ b, v = .map (some b) ∧ h.size ≤ b ∧ MapT pV iV h' b (aftS ns F) := by
  refine hcalls2 Try.func53 rfl (by decide +kernel) (by simp only [Try.ntmps53]; exact of_decide_eq_true rfl) ?_
  intro e hin
  have e0 := hin 0 _ rfl
  have e1 := hin 1 _ rfl
  have kb := hb; have kl := hl
  refine hx_seq ?_
  refine hx_region ?_
  refine WL.qq (by simp only [EN, Nat.reduceEqDiff, reduceIte, qv_assign, hb.blk.cell]; rfl) ?_
  refine WL.nil ?_
  refine th_norm ?_
  refine hx_seq ?_
  refine hx_region ?_
  refine WL.qq (by simp only [EN, Nat.reduceEqDiff, reduceIte, qv_move, e0, hb.blk.cell]; rfl) ?_
  refine WL.qq (by simp only [EN, Nat.reduceEqDiff, reduceIte, qv_nilCheck, hb.blk.cell]; rfl) ?_
  refine WL.qq (by simp only [EN, Nat.reduceEqDiff, reduceIte, qv_fieldAddr, fa73_1, Nat.zero_add, Nat.reduceAdd, hb.blk.cell]; rfl) ?_
  refine WL.qq (by simp only [EN, Nat.reduceEqDiff, reduceIte, qv_load, ld71, readN, AR, Nat.zero_add, Nat.reduceAdd, hb.blk.cell]; rfl) ?_
  refine WL.ce Try.call39 (by simp only [EN, Nat.reduceEqDiff, reduceIte, AR, hb.blk.cell]; exact c_mapsClone hb.net) ?_
  rintro _ h2 ⟨rfl, hx2, hm⟩
  simp only [put_some]
  refine WL.qq (by simp only [EN, Nat.reduceEqDiff, reduceIte, qv_assign, hb.blk.cell]; rfl) ?_
  refine WL.nil ?_
  refine th_norm ?_
  refine hx_seq ?_
  refine hx_seq ?_
  refine hx_region ?_
  refine WL.qq (by simp only [EN, Nat.reduceEqDiff, reduceIte, qv_move, e1, hb.blk.cell]; rfl) ?_
  refine WL.qq (by simp only [EN, Nat.reduceEqDiff, reduceIte, qv_len, ln32, AR, hb.blk.cell]; rfl) ?_
  refine WL.qq (by simp only [EN, Nat.reduceEqDiff, reduceIte, qv_move, hb.blk.cell]; rfl) ?_
  refine WL.nil ?_
  refine th_norm ?_
  refine hx_block ?_
  refine hx_loopG [7, 15, 16, 17, 18, 19, 20, 21, 22, 23, 24, 25, 26, 27, 28, 29, 30, 31, 32, 33, 34, 35, 36, 37, 38, 39, 40, 41, 42, 43] (fun k e hL0 => ∃ (i : Nat), F.length - i = k ∧ (i ≤ F.length) ∧ (Ext h hL0) ∧ (MapT pV iV hL0 h.size (foF ns (F.take i))) ∧ e 15 = .int .i64 i) _ ⟨0, rfl, ?_, ?_, ?_, ?_⟩ ?_
  · omega
  · exact hx2
  · exact hm
  · simp only [EN, Nat.reduceEqDiff, reduceIte, e0, e1, hb.blk.cell] <;> rfl
  ·
    rintro k e0L hL0 hfr0 ⟨i, rfl, hi, hE, hm, i15_0⟩
    have k5_0 := hfr0 5 rfl; try simp only [EN, Nat.reduceEqDiff, reduceIte, hb.blk.cell] at k5_0
    have k13_0 := hfr0 13 rfl; try simp only [EN, Nat.reduceEqDiff, reduceIte, hb.blk.cell] at k13_0
    have k14_0 := hfr0 14 rfl; try simp only [EN, Nat.reduceEqDiff, reduceIte, hb.blk.cell] at k14_0
    have hl := kl.ext hE
    refine hx_seq ?_
    refine hx_region ?_
    refine WL.qq (by simp only [EN, Nat.reduceEqDiff, reduceIte, qv_binOp, binv_lss, k14_0, i15_0, hb.blk.cell]; rfl) ?_
    refine WL.nil ?_
    refine th_norm ?_
    refine hx_seq ?_
    refine hx_cond (by simp only [EN, Nat.reduceEqDiff, reduceIte, hb.blk.cell]; rfl) (fun hct16 => ?_) (fun hct16 => ?_)
    ·
      try simp only [BD] at hct16
      obtain ⟨x, hx⟩ := atG (l := F) (i := i) (by omega)
      obtain ⟨b, off, rfl, hr3, hc0, hc1, hc2⟩ := lim_rd hl hx
      obtain ⟨M, hM⟩ : ∃ M, foF ns (F.take i) = M := ⟨_, rfl⟩
      rw [hM] at hm
      refine hx_skip ?_
      refine th_norm ?_
      refine hx_seq ?_
      refine hx_block ?_
      refine hx_seq ?_
      refine hx_region ?_
      refine WL.qq (by simp only [EN, Nat.reduceEqDiff, reduceIte, qv_indexAddr, k13_0, i15_0, hb.blk.cell]; (try simp (disch := omega) only [ix32, Int.toNat_natCast]); rfl) ?_
      refine WL.qq (by simp only [EN, Nat.reduceEqDiff, reduceIte, k5_0, k13_0, k14_0, i15_0, hb.blk.cell, qv_load, ld31, Int.toNat_natCast, hr3]; rfl) ?_
      have hml := hm.lt
      refine WL.allocSt zr31 sz31 (fun u => by simp only [EN, Nat.reduceEqDiff, reduceIte, Value.cells, hb.blk.cell]; rfl) ⟨rfl, rfl⟩ (by simp [Value.oneCell']) ?_
      intro h1 B1 hx1 hlt1 hB1
      replace hm := hm.ext hx1
      replace hE := hE.ext hx1
      refine WL.nil ?_
      refine th_norm ?_
      refine hx_seq ?_
      apply hx_draw2R (Rel.ent pV iV h.size M x.1 0) [12] [10] [(10, (Spec.ent pV iV h.size (mset M x.1 ((M.lookup x.1).getD 0)) x.1 ((M.lookup x.1).getD 0)))] rfl (by decide +kernel) rfl ent_stable
      refine LD.qr rfl rfl (fun hD hr => by have hB1 := hB1.st hr.1 (by omega); simp only [EN, Nat.reduceEqDiff, reduceIte, qv_move, k5_0, hb.blk.cell, hB1.cell]; rfl) ?_
      refine LD.qr rfl rfl (fun hD hr => by have hB1 := hB1.st hr.1 (by omega); simp only [EN, Nat.reduceEqDiff, reduceIte, qv_fieldAddr, fa31_0, Nat.zero_add, Nat.reduceAdd, hb.blk.cell, hB1.cell]; rfl) ?_
      refine LD.qr rfl rfl (fun hD hr => by have hB1 := hB1.st hr.1 (by omega); simp only [EN, Nat.reduceEqDiff, reduceIte, qv_load, ld9, readN, AR, Nat.zero_add, Nat.reduceAdd, hb.blk.cell, hB1.cell]; rfl) ?_
      refine LD.qr rfl rfl (fun hD hr => by have hB1 := hB1.st hr.1 (by omega); simp only [EN, Nat.reduceEqDiff, reduceIte, qv_fieldAddr, fa31_1, Nat.zero_add, Nat.reduceAdd, hb.blk.cell, hB1.cell]; rfl) ?_
      refine LD.qr rfl rfl (fun hD hr => by have hB1 := hB1.st hr.1 (by omega); simp only [EN, Nat.reduceEqDiff, reduceIte, qv_load, ld9, readN, AR, Nat.zero_add, Nat.reduceAdd, hb.blk.cell, hB1.cell]; rfl) ?_
      refine LD.qr rfl rfl (fun hD hr => by have hB1 := hB1.st hr.1 (by omega); refine qv_bld (by simp only [EN, Nat.reduceEqDiff, reduceIte, AR, hb.blk.cell, hB1.cell] <;> rfl) (by rw [bl76]; simp [Instr.fill, Value.cells]; rfl)) ?_
      refine LD.qr rfl rfl (fun hD hr => by have hB1 := hB1.st hr.1 (by omega); simp only [EN, Nat.reduceEqDiff, reduceIte, k5_0, k13_0, k14_0, i15_0, hb.blk.cell, hB1.cell, qv_lookup]; exact lookv_entIn (ek := pV) (ev' := iV) (z := 0) (x := x.1) ktP Try.underlying71 zr2 hm hr) ?_
      refine LD.qr rfl rfl (fun hD hr => by have hB1 := hB1.st hr.1 (by omega); simp only [EN, Nat.reduceEqDiff, reduceIte, qv_fieldAddr, fa31_2, Nat.zero_add, Nat.reduceAdd, hb.blk.cell, hB1.cell]; rfl) ?_
      refine LD.qr rfl rfl (fun hD hr => by have hB1 := hB1.st hr.1 (by omega); simp only [EN, Nat.reduceEqDiff, reduceIte, qv_load, ld2, readN, AR, Nat.zero_add, Nat.reduceAdd, hb.blk.cell, hB1.cell]; rfl) ?_
      refine LD.qr rfl rfl (fun hD hr => by have hB1 := hB1.st hr.1 (by omega); simp only [EN, Nat.reduceEqDiff, reduceIte, k5_0, k13_0, k14_0, i15_0, hb.blk.cell, hB1.cell, qv_binOp, binv_add]; rfl) ?_
      refine LD.es rfl rfl (by intro hD hr hf; have hB1 := hB1.st hr.1 (by omega); exact e_entryIn (ek := pV) (ev' := iV) (l := M) (x := x.1) (z := 0) ktP Try.underlying71 zr2 hm hr (by simp only [EN, Nat.reduceEqDiff, reduceIte, k5_0, k13_0, k14_0, i15_0, hb.blk.cell, hB1.cell]) (by simp only [EN, Nat.reduceEqDiff, reduceIte, k5_0, k13_0, k14_0, i15_0, hb.blk.cell, hB1.cell] <;> rfl)) ?_
      intro u5_10 w5_10
      obtain ⟨st, rfl⟩ := w5_10
      refine LD.qr rfl rfl (fun hD hr => by have hB1 := hB1.st hr.1 (by omega); simp only [EN, Nat.reduceEqDiff, reduceIte, qv_extract, AR, hb.blk.cell, hB1.cell]; rfl) ?_
      refine LD.skip rfl ?_
      refine LD.nil ?_
      rintro h2 hr5 hF5
      have hen := hF5 (10, .tuple #[iV ((M.lookup x.1).getD 0), .int .i64 st]) (by simp) _ rfl st rfl
      replace hE := ext_step hE hr5.1 (by omega)
      replace hB1 := hB1.st hr5.1 (by omega)
      refine WL.ef _ (e_entryStore (v := IntKind.i64.wrap (lk M x.1 + x.2)) hen (by simp only [EN, Nat.reduceEqDiff, reduceIte, k5_0, k13_0, k14_0, i15_0, hb.blk.cell, hB1.cell]) (by simp only [EN, Nat.reduceEqDiff, reduceIte, k5_0, k13_0, k14_0, i15_0, hb.blk.cell, hB1.cell]) (by simp only [EN, Nat.reduceEqDiff, reduceIte, k5_0, k13_0, k14_0, i15_0, hb.blk.cell, hB1.cell] <;> rfl)) ?_
      rintro _ h41 ⟨⟨o41, hw41⟩, hm2⟩
      simp only [put_none]
      replace hE := hw41.ext hE (by omega)
      replace hB1 := hB1.wr hw41 (by omega)
      rw [mset_mset] at hm2
      obtain ⟨M2, hM2⟩ : ∃ M2, mset M x.1 (IntKind.i64.wrap (lk M x.1 + x.2)) = M2 := ⟨_, rfl⟩
      rw [hM2] at hm2
      refine WL.nil ?_
      refine th_norm ?_
      apply hx_draw2R (Rel.ent pV iV h.size M2 (swp x.1) 0) [12] [10] [(10, (Spec.ent pV iV h.size (mset M2 (swp x.1) ((M2.lookup (swp x.1)).getD 0)) (swp x.1) ((M2.lookup (swp x.1)).getD 0)))] rfl (by decide +kernel) rfl ent_stable
      refine LD.qr rfl rfl (fun hD hr => by have hB1 := hB1.st hr.1 (by omega); simp only [EN, Nat.reduceEqDiff, reduceIte, qv_move, k5_0, hb.blk.cell, hB1.cell]; rfl) ?_
      refine LD.qr rfl rfl (fun hD hr => by have hB1 := hB1.st hr.1 (by omega); simp only [EN, Nat.reduceEqDiff, reduceIte, qv_fieldAddr, fa31_1, Nat.zero_add, Nat.reduceAdd, hb.blk.cell, hB1.cell]; rfl) ?_
      refine LD.qr rfl rfl (fun hD hr => by have hB1 := hB1.st hr.1 (by omega); simp only [EN, Nat.reduceEqDiff, reduceIte, qv_load, ld9, readN, AR, Nat.zero_add, Nat.reduceAdd, hb.blk.cell, hB1.cell]; rfl) ?_
      refine LD.qr rfl rfl (fun hD hr => by have hB1 := hB1.st hr.1 (by omega); simp only [EN, Nat.reduceEqDiff, reduceIte, qv_fieldAddr, fa31_0, Nat.zero_add, Nat.reduceAdd, hb.blk.cell, hB1.cell]; rfl) ?_
      refine LD.qr rfl rfl (fun hD hr => by have hB1 := hB1.st hr.1 (by omega); simp only [EN, Nat.reduceEqDiff, reduceIte, qv_load, ld9, readN, AR, Nat.zero_add, Nat.reduceAdd, hb.blk.cell, hB1.cell]; rfl) ?_
      refine LD.qr rfl rfl (fun hD hr => by have hB1 := hB1.st hr.1 (by omega); refine qv_bld (by simp only [EN, Nat.reduceEqDiff, reduceIte, AR, hb.blk.cell, hB1.cell] <;> rfl) (by rw [bl76]; simp [Instr.fill, Value.cells]; rfl)) ?_
      refine LD.qr rfl rfl (fun hD hr => by have hB1 := hB1.st hr.1 (by omega); simp only [EN, Nat.reduceEqDiff, reduceIte, k5_0, k13_0, k14_0, i15_0, hb.blk.cell, hB1.cell, qv_lookup]; exact lookv_entIn (ek := pV) (ev' := iV) (z := 0) (x := swp x.1) ktP Try.underlying71 zr2 hm2 hr) ?_
      refine LD.qr rfl rfl (fun hD hr => by have hB1 := hB1.st hr.1 (by omega); simp only [EN, Nat.reduceEqDiff, reduceIte, qv_fieldAddr, fa31_2, Nat.zero_add, Nat.reduceAdd, hb.blk.cell, hB1.cell]; rfl) ?_
      refine LD.qr rfl rfl (fun hD hr => by have hB1 := hB1.st hr.1 (by omega); simp only [EN, Nat.reduceEqDiff, reduceIte, qv_load, ld2, readN, AR, Nat.zero_add, Nat.reduceAdd, hb.blk.cell, hB1.cell]; rfl) ?_
      refine LD.qr rfl rfl (fun hD hr => by have hB1 := hB1.st hr.1 (by omega); simp only [EN, Nat.reduceEqDiff, reduceIte, k5_0, k13_0, k14_0, i15_0, hb.blk.cell, hB1.cell, qv_binOp, binv_sub]; rfl) ?_
      refine LD.es rfl rfl (by intro hD hr hf; have hB1 := hB1.st hr.1 (by omega); exact e_entryIn (ek := pV) (ev' := iV) (l := M2) (x := swp x.1) (z := 0) ktP Try.underlying71 zr2 hm2 hr (by simp only [EN, Nat.reduceEqDiff, reduceIte, k5_0, k13_0, k14_0, i15_0, hb.blk.cell, hB1.cell]) (by simp only [EN, Nat.reduceEqDiff, reduceIte, k5_0, k13_0, k14_0, i15_0, hb.blk.cell, hB1.cell] <;> rfl)) ?_
      intro u6_10 w6_10
      obtain ⟨st2, rfl⟩ := w6_10
      refine LD.qr rfl rfl (fun hD hr => by have hB1 := hB1.st hr.1 (by omega); simp only [EN, Nat.reduceEqDiff, reduceIte, qv_extract, AR, hb.blk.cell, hB1.cell]; rfl) ?_
      refine LD.skip rfl ?_
      refine LD.nil ?_
      rintro h3 hr6 hF6
      have hen2 := hF6 (10, .tuple #[iV ((M2.lookup (swp x.1)).getD 0), .int .i64 st2]) (by simp) _ rfl st2 rfl
      replace hE := ext_step hE hr6.1 (by omega)
      refine WL.ef _ (e_entryStore (v := IntKind.i64.wrap (lk M2 (swp x.1) - x.2)) hen2 (by simp only [EN, Nat.reduceEqDiff, reduceIte, k5_0, k13_0, k14_0, i15_0, hb.blk.cell, hB1.cell]) (by simp only [EN, Nat.reduceEqDiff, reduceIte, k5_0, k13_0, k14_0, i15_0, hb.blk.cell, hB1.cell]) (by simp only [EN, Nat.reduceEqDiff, reduceIte, k5_0, k13_0, k14_0, i15_0, hb.blk.cell, hB1.cell] <;> rfl)) ?_
      rintro _ h42 ⟨⟨o42, hw42⟩, hm3⟩
      simp only [put_none]
      replace hE := hw42.ext hE (by omega)
      rw [mset_mset] at hm3
      refine WL.nil ?_
      refine bl_norm ?_
      refine th_norm ?_
      refine hx_region ?_
      refine WL.qq (by simp only [EN, Nat.reduceEqDiff, reduceIte, qv_binOp, binv_add, i15_0, hb.blk.cell, hB1.cell]; (try simp (disch := omega) only [w64, w8, wu64]); rfl) ?_
      refine WL.qq (by simp only [EN, Nat.reduceEqDiff, reduceIte, qv_move, hb.blk.cell, hB1.cell]; rfl) ?_
      refine WL.nil ?_
      refine th_norm ?_
      refine ⟨rfl, ?_, _, ?_, i + 1, rfl, ?_, ?_, ?_, ?_⟩  -- again 0 of loop 0
      · (repeat (first | exact Fr.refl _ _ | refine Fr.set rfl ?_ | refine Fr.put rfl ?_ | with_reducible refine Fr.put0 ?_))
      · omega
      · omega
      · exact hE
      · rw [foF_step hx, hM]; unfold stF; rw [hM2]; exact hm3
      · simp only [EN, Nat.reduceEqDiff, reduceIte, k5_0, k13_0, k14_0, i15_0, hb.blk.cell, hB1.cell] <;> first | rfl | (congr 1; omega)
    ·
      try simp only [BD] at hct16
      have hil : i = F.length := (by omega); subst hil; rw [List.take_length] at hm
      refine hx_exit ?_
      refine th_exit ?_
      refine th_exit ?_
      refine bl_hit ?_
      refine th_norm ?_
      refine hx_seq ?_
      refine hx_region ?_
      refine WL.qq (by simp only [EN, Nat.reduceEqDiff, reduceIte, qv_move, k5_0, hb.blk.cell]; rfl) ?_
      refine WL.ce Try.call63 (by simp only [EN, Nat.reduceEqDiff, reduceIte, AR, hb.blk.cell]; exact c_delFunc hm) ?_
      rintro _ h70 ⟨hg70, hm7⟩
      simp only [put_some]
      replace hE := hg70.toExt hE (fun x hx => by simp at hx; omega)
      refine WL.nil ?_
      refine th_norm ?_
      refine hx_seq ?_
      refine hx_region ?_
      refine WL.qq (by simp only [EN, Nat.reduceEqDiff, reduceIte, qv_move, k5_0, hb.blk.cell]; rfl) ?_
      refine WL.qq (by simp only [EN, Nat.reduceEqDiff, reduceIte, qv_assign, hb.blk.cell]; rfl) ?_
      refine WL.nil ?_
      refine th_norm ?_
      refine hx_ret ?_
      refine fin_ret [.tmp 4] rfl rfl (by simp only [EN, Nat.reduceEqDiff, reduceIte, resv, k5_0, k13_0, k14_0, i15_0, hb.blk.cell]; rfl) ?_  -- ret 0 r9
      exact ⟨hE, _, rfl, Nat.le_refl _, hm7⟩
/-! The outflows. -/
theorem c_outflows {h : Heap} {b : Nat} {l : List L2} (hm : MapT pV iV h b l) :
    HCalls Try.prog 54 #[.map (some b)] h fun v h' => Ext h h' ∧ ∃ b' os, v = .map (some b') ∧ h.size ≤ b' ∧ MapT Value.string iV h' b' os ∧ (∀ a, lk os a = outW l a) ∧ ∀ a, a ∈ os.map Prod.fst ↔ ∃ x ∈ l, x.1.f = a := by
  refine hcalls2 Try.func54 rfl (by decide +kernel) (by simp only [Try.ntmps54]; exact of_decide_eq_true rfl) ?_
  intro e hin
  have e0 := hin 0 _ rfl
  have hlt := hm.lt; have hsz := Nat.le_refl h.size
  refine hx_seq ?_
  refine hx_region ?_
  refine WL.qq (by simp only [EN, Nat.reduceEqDiff, reduceIte, qv_assign]; rfl) ?_
  refine WL.nil ?_
  refine th_norm ?_
  refine hx_seq ?_
  refine hx_region ?_
  refine WL.makeMap2 ?_
  intro h1 B1 hx1 hlt1 hB1
  replace hm := hm.ext hx1
  refine WL.qq (by simp only [EN, Nat.reduceEqDiff, reduceIte, qv_assign]; rfl) ?_
  refine WL.nil ?_
  refine th_norm ?_
  refine hx_seq ?_
  refine hx_seq ?_
  refine hx_region ?_
  refine WL.qq (by simp only [EN, Nat.reduceEqDiff, reduceIte, qv_move, e0]; rfl) ?_
  refine WL.ef _ (e_range Try.underlying71 hm (by simp only [EN, Nat.reduceEqDiff, reduceIte, e0])) ?_
  rintro _ h50 ⟨it, rfl, hit, hx50, hsz50, hI⟩
  simp only [put_some]
  have hl1 := (Array.getElem?_eq_some_iff.1 hB1).1; have hs1 := hx1.size
  refine WL.nil ?_
  refine th_norm ?_
  refine hx_block ?_
  refine hx_loopG [4, 5, 9, 10, 11, 12, 13, 14, 15, 16, 17, 18, 19] (fun k e hL0 => ∃ (left : List L2) (os : List (ByteArray × Int)), left.length = k ∧ (Ext h hL0) ∧ (IterT pV iV hL0 it b l left) ∧ (MapT Value.string iV hL0 B1 os) ∧ (∀ a, lk os a = IntKind.i64.wrap (sumF (outV a) l - sumF (outV a) left)) ∧ (∀ y ∈ left, y ∈ l) ∧ (∀ a, a ∈ os.map Prod.fst → ∃ x ∈ l, x.1.f = a) ∧ (∀ y ∈ l, y ∈ left ∨ y.1.f ∈ os.map Prod.fst)) _ ⟨l, [], rfl, ?_, ?_, ?_, ?_, ?_, ?_, ?_⟩ ?_
  · exact hx1.trans hx50
  · exact hI
  · exact (MapT.new hB1).ext hx50
  · intro a; rw [Int.sub_self]; rfl
  · exact fun y hy => hy
  · intro a ha; simp at ha
  · exact fun y hy => .inl hy
  ·
    rintro k e0L hL0 hfr0 ⟨left, os, rfl, hE, hI, ho, hv, hsub, hk, hd⟩
    have k3_0 := hfr0 3 rfl; try simp only [EN, Nat.reduceEqDiff, reduceIte] at k3_0
    have k8_0 := hfr0 8 rfl; try simp only [EN, Nat.reduceEqDiff, reduceIte] at k8_0
    refine hx_seq ?_
    refine hx_region ?_
    refine WL.ef _ (e_next2 ktP hI (by simp only [EN, Nat.reduceEqDiff, reduceIte, k3_0, k8_0])) ?_
    rintro _ h51 ⟨bb1, vs1, rfl, hv1, hst1, hT1, hF1⟩
    simp only [put_some]
    replace hE := ext_step hE hst1 (by omega)
    replace ho := ho.step hst1 (by omega)
    refine WL.qq (by simp only [EN, Nat.reduceEqDiff, reduceIte, k3_0, k8_0, qv_extract, hv1]; rfl) ?_
    refine WL.nil ?_
    refine th_norm ?_
    refine hx_seq ?_
    refine hx_cond (by simp only [EN, Nat.reduceEqDiff, reduceIte]; rfl) (fun hct10 => ?_) (fun hct10 => ?_)
    ·
      try simp only [BD] at hct10
      obtain ⟨q1, left', hp1, hS⟩ := hT1 hct10; have hlen1 := hp1.length_eq; rw [List.length_cons] at hlen1; have hql := hsub q1 (hp1.mem_iff.2 (by simp))
      refine hx_skip ?_
      refine th_norm ?_
      refine hx_block ?_
      refine hx_seq ?_
      refine hx_region ?_
      refine WL.ef _ (e_entry hS (by simp only [EN, Nat.reduceEqDiff, reduceIte, k3_0, k8_0])) ?_
      rintro _ hX ⟨rfl, hq1x⟩
      obtain rfl : h51 = hX := hq1x.symm
      simp only [put_some]
      refine WL.qq (by simp only [EN, Nat.reduceEqDiff, reduceIte, qv_extract, AR]; rfl) ?_
      refine WL.qq (by simp only [EN, Nat.reduceEqDiff, reduceIte, qv_extract, AR]; rfl) ?_
      have hol := ho.lt
      refine WL.allocSt zr76 sz76 (fun u => by simp only [EN, Nat.reduceEqDiff, reduceIte, Value.cells]; rfl) ⟨rfl, rfl⟩ (by simp [Value.oneCell']) ?_
      intro h2 B2 hx2 hlt2 hB2
      replace hE := hE.ext hx2
      replace ho := ho.ext hx2
      replace hS := hS.ext hx2
      refine WL.qq (by simp only [EN, Nat.reduceEqDiff, reduceIte, qv_assign, hB2.cell]; rfl) ?_
      refine WL.nil ?_
      refine th_norm ?_
      refine hx_region ?_
      refine WL.qq (by simp only [EN, Nat.reduceEqDiff, reduceIte, qv_move, k3_0, hB2.cell]; rfl) ?_
      refine WL.qq (by simp only [EN, Nat.reduceEqDiff, reduceIte, qv_fieldAddr, fa76_0, Nat.zero_add, Nat.reduceAdd, hB2.cell]; rfl) ?_
      refine WL.qq (by simp only [EN, Nat.reduceEqDiff, reduceIte, qv_load, ld9, readN, AR, Nat.zero_add, Nat.reduceAdd, hB2.cell]; rfl) ?_
      refine WL.qq (by simp only [EN, Nat.reduceEqDiff, reduceIte, k3_0, k8_0, hB2.cell, qv_lookup]; exact lkS ho q1.1.f) ?_
      refine WL.qq (by simp only [EN, Nat.reduceEqDiff, reduceIte, qv_move, hB2.cell]; rfl) ?_
      refine WL.qq (by simp only [EN, Nat.reduceEqDiff, reduceIte, k3_0, k8_0, hB2.cell, qv_binOp, binv_add]; rfl) ?_
      refine WL.ef _ (e_mapUpdate (x := q1.1.f) (v := IntKind.i64.wrap (lk os q1.1.f + q1.2)) ktS Try.underlying97 ho (by simp only [EN, Nat.reduceEqDiff, reduceIte, k3_0, k8_0, hB2.cell]) (by simp only [EN, Nat.reduceEqDiff, reduceIte, k3_0, k8_0, hB2.cell]) (by simp only [EN, Nat.reduceEqDiff, reduceIte, k3_0, k8_0, hB2.cell] <;> rfl)) ?_
      rintro _ h42 ⟨⟨o42, hw42⟩, ho⟩
      simp only [put_none]
      replace hE := hw42.ext hE (by omega)
      replace hS := hS.step (.inr ⟨_, hw42⟩) (by omega) (by omega)
      refine WL.nil ?_
      refine bl_norm ?_
      refine th_norm ?_
      refine ⟨rfl, ?_, _, ?_, left', mset os q1.1.f (IntKind.i64.wrap (lk os q1.1.f + q1.2)), rfl, ?_, ?_, ?_, ?_, ?_, ?_, ?_⟩  -- again 0 of loop 0
      · (repeat (first | exact Fr.refl _ _ | refine Fr.set rfl ?_ | refine Fr.put rfl ?_ | with_reducible refine Fr.put0 ?_))
      · omega
      · exact hE
      · exact hS.iter
      · exact ho
      · intro a; have hsm := sumF_perm (f := outV a) hp1; simp only [sumF] at hsm; rw [lk_mset]; by_cases h9 : q1.1.f = a; (rw [if_pos h9, h9, hv a, wrap_add_l, hsm, show outV a q1 = q1.2 from if_pos h9]; congr 1; omega); (rw [if_neg h9, hv a, hsm, show outV a q1 = 0 from if_neg h9]; congr 1; omega)
      · exact fun y hy => hsub y (hp1.mem_iff.2 (by simp [hy]))
      · intro a ha; rw [mset_keys2] at ha; rcases ha with rfl | ha; (exact ⟨q1, hql, rfl⟩); (exact hk a ha)
      · exact perm_sub (P := fun y => y.1.f ∈ (mset os q1.1.f (IntKind.i64.wrap (lk os q1.1.f + q1.2))).map Prod.fst) hp1 (fun y hy => (hd y hy).imp id (fun h9 => mset_keys2.2 (.inr h9))) (mset_keys2.2 (.inl rfl))
    ·
      try simp only [BD] at hct10
      obtain ⟨hl0, hmm⟩ := hF1 hct10; subst hl0
      refine hx_exit ?_
      refine th_exit ?_
      refine th_exit ?_
      refine bl_hit ?_
      refine th_norm ?_
      refine hx_seq ?_
      refine hx_region ?_
      refine WL.qq (by simp only [EN, Nat.reduceEqDiff, reduceIte, qv_move, k3_0]; rfl) ?_
      refine WL.qq (by simp only [EN, Nat.reduceEqDiff, reduceIte, qv_assign]; rfl) ?_
      refine WL.nil ?_
      refine th_norm ?_
      refine hx_ret ?_
      refine fin_ret [.tmp 2] rfl rfl (by simp only [EN, Nat.reduceEqDiff, reduceIte, resv, k3_0, k8_0]; rfl) ?_  -- ret 0 r6
      exact ⟨hE, _, os, rfl, by omega, ho, fun a => by rw [hv a]; simp [sumF, outW], fun a => ⟨hk a, fun ⟨x, hx, h9⟩ => h9 ▸ (hd x hx).resolve_left (by simp)⟩⟩
end GL


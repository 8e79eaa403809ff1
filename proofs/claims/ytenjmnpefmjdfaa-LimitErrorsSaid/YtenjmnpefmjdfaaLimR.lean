/- Limits: both tables agree. -/
import Derived.Test.YtenjmnpefmjdfaaLimQ
set_option linter.unusedSimpArgs false
set_option linter.unusedVariables false
set_option linter.unnecessarySimpa false
namespace GL
open Go Go.Proofs
set_option maxRecDepth 8000
theorem room_val (ls : List L2) (q : PK) (u : Int) : ∃ n : Int, roomV ls q u = .tuple #[iV n, .bool (ls.lookup q).isSome] ∧ n = if (ls.lookup q).isSome = true then IntKind.i64.wrap (lk ls q - u) else 0 := ⟨_, rfl, rfl⟩
theorem broom_val (ls ns : List L2) (a b : ByteArray) : ∃ (n : Int) (c : Bool), broomV ls ns a b = .tuple #[iV n, .bool c] ∧ c = ((ls.lookup (⟨a, b⟩ : PK)).isSome && decide (b ≠ em)) ∧ n = if c = true then IntKind.i64.wrap (lk ls ⟨a, b⟩ - lk ns ⟨a, b⟩) else 0 := by
  unfold broomV
  by_cases h : b = em
  · rw [if_pos h]
    exact ⟨0, false, rfl, by simp [h], by simp⟩
  · rw [if_neg h]
    obtain ⟨n, h1, h2⟩ := room_val ls ⟨a, b⟩ (lk ns ⟨a, b⟩)
    exact ⟨n, _, h1, by simp [h], h2⟩
abbrev stL (s : ByteArray) : List Value := [.string s]
set_option maxHeartbeats 4000000 in
theorem c_agree {h0 h : Heap} {p : Nat} {ls ns Ls F : List L2} {n : Nat} {w : Value} (hQ : EQ ls ns Ls F n) (hn : n ≤ 1000) (ht : TB h0 h p ls ns) (hw : RT h w Ls F) (am : Option Addr) (m : List ByteArray) (cm : Nat) (lm : m.length ≤ 9223372036854775807) (hm : SlG 1 stL h am m) :
    HCalls Try.prog 31 #[.pointer (some ⟨p, 0, none⟩), w, .slice am m.length cm] h (Grow (.bool true) h) := by
  obtain ⟨al, cl, af, cf, rfl, hs1, hs2⟩ := hw.ex
  have q1 := hQ.ll; have q3 := hQ.lF; have q4 := hQ.pm.length_eq
  refine hcalls2 Try.func31 rfl (by decide +kernel) (by simp only [Try.ntmps31]; exact of_decide_eq_true rfl) ?_
  intro e hin
  have e0 := hin 0 _ rfl
  have e1 := hin 1 _ rfl
  have e2 := hin 2 _ rfl
  refine hx_seq ?_
  refine hx_region ?_
  refine WL.box2 (by simp only [EN, Nat.reduceEqDiff, reduceIte, Value.cells, e1, strEq]; rfl) ?_
  intro h1 B1 hx1 hlt1 hB1
  replace ht := ht.ext hx1
  replace hs1 := hs1.ext hx1
  replace hs2 := hs2.ext hx1
  replace hm := hm.ext hx1
  refine WL.qq (by simp only [EN, Nat.reduceEqDiff, reduceIte, qv_assign, strEq, hB1.cell]; rfl) ?_
  refine WL.nil ?_
  refine th_norm ?_
  refine hx_seq ?_
  refine hx_region ?_
  refine WL.qq (by simp only [EN, Nat.reduceEqDiff, reduceIte, qv_move, e0, strEq, hB1.cell]; rfl) ?_
  refine WL.ce Try.call28 (by simp only [EN, Nat.reduceEqDiff, reduceIte, AR, strEq, hB1.cell]; exact tb_Limits (by omega) ht) ?_
  rintro _ h2 ⟨hx2, L, aL, cL, rfl, hsL, hkL, hpL⟩
  replace ht := ht.ext hx2
  replace hs1 := hs1.ext hx2
  replace hs2 := hs2.ext hx2
  replace hm := hm.ext hx2
  replace hB1 := hB1.ext hx2
  simp only [put_some]
  obtain rfl := hQ.list hkL hpL
  refine WL.qq (by simp only [EN, Nat.reduceEqDiff, reduceIte, qv_assign, strEq, hB1.cell]; rfl) ?_
  refine WL.nil ?_
  refine th_norm ?_
  refine hx_seq ?_
  refine hx_seq ?_
  refine hx_region ?_
  refine WL.qq (by simp only [EN, Nat.reduceEqDiff, reduceIte, qv_move, strEq, hB1.cell]; rfl) ?_
  refine WL.qq (by simp only [EN, Nat.reduceEqDiff, reduceIte, qv_len, ln59, AR, strEq, hB1.cell]; rfl) ?_
  refine WL.qq (by simp only [EN, Nat.reduceEqDiff, reduceIte, qv_fieldAddr, fa41_0, Nat.zero_add, Nat.reduceAdd, strEq, hB1.cell]; rfl) ?_
  refine WL.qq (by simp only [EN, Nat.reduceEqDiff, reduceIte, qv_load, ld38, readN, AR, Nat.zero_add, Nat.reduceAdd, strEq, hB1.cell]; rfl) ?_
  refine WL.qq (by simp only [EN, Nat.reduceEqDiff, reduceIte, qv_len, ln38, AR, strEq, hB1.cell]; rfl) ?_
  refine WL.qq (by simp only [EN, Nat.reduceEqDiff, reduceIte, qv_binOp, binv_neq, eq3, Option.map_some, strEq, hB1.cell]; rfl) ?_
  refine WL.nil ?_
  refine th_norm ?_
  refine hx_cond (by simp only [EN, Nat.reduceEqDiff, reduceIte, strEq, hB1.cell]; rfl) (fun hct28 => ?_) (fun hct28 => ?_)
  ·
    simp at hct28
  ·
    try simp only [BD] at hct28
    refine hx_skip ?_
    refine th_norm ?_
    refine hx_seq ?_
    refine hx_seq ?_
    refine hx_region ?_
    refine WL.qq (by simp only [EN, Nat.reduceEqDiff, reduceIte, qv_assign, strEq, hB1.cell]; rfl) ?_
    refine WL.nil ?_
    refine th_norm ?_
    refine hx_block ?_
    refine hx_loopS [6, 8, 29, 30, 31, 32, 33, 34, 35, 36, 37, 38, 39, 40, 41, 42, 43, 44] (fun k e => ∃ (i : Nat), L.length - i = k ∧ (i ≤ L.length) ∧ e 8 = .int .i64 i) _ ⟨0, rfl, ?_, ?_⟩ ?_
    · omega
    · simp only [EN, Nat.reduceEqDiff, reduceIte, e0, e1, e2, strEq, hB1.cell] <;> rfl
    ·
      rintro k e0L hfr0 ⟨i, rfl, hi, i8_0⟩
      have k0_0 := hfr0 0 rfl; try simp only [EN, Nat.reduceEqDiff, reduceIte, e0, strEq, hB1.cell] at k0_0
      have k2_0 := hfr0 2 rfl; try simp only [EN, Nat.reduceEqDiff, reduceIte, e2, strEq, hB1.cell] at k2_0
      have k4_0 := hfr0 4 rfl; try simp only [EN, Nat.reduceEqDiff, reduceIte, strEq, hB1.cell] at k4_0
      have k7_0 := hfr0 7 rfl; try simp only [EN, Nat.reduceEqDiff, reduceIte, strEq, hB1.cell] at k7_0
      refine hx_seq ?_
      refine hx_seq ?_
      refine hx_region ?_
      refine WL.qq (by simp only [EN, Nat.reduceEqDiff, reduceIte, qv_move, i8_0, strEq, hB1.cell]; rfl) ?_
      refine WL.qq (by simp only [EN, Nat.reduceEqDiff, reduceIte, qv_move, k7_0, strEq, hB1.cell]; rfl) ?_
      refine WL.qq (by simp only [EN, Nat.reduceEqDiff, reduceIte, qv_len, ln59, AR, strEq, hB1.cell]; rfl) ?_
      refine WL.qq (by simp only [EN, Nat.reduceEqDiff, reduceIte, qv_binOp, binv_lss, strEq, hB1.cell]; rfl) ?_
      refine WL.nil ?_
      refine th_norm ?_
      refine hx_cond (by simp only [EN, Nat.reduceEqDiff, reduceIte, strEq, hB1.cell]; rfl) (fun hct32 => ?_) (fun hct32 => ?_)
      ·
        try simp only [BD] at hct32
        obtain ⟨x, hx⟩ := atG (l := L) (i := i) (by omega)
        obtain ⟨b, off, rfl, hr3, _⟩ := lim_rd hsL hx
        obtain ⟨b', off', rfl, hr3', _⟩ := lim_rd hs1 hx
        refine hx_skip ?_
        refine th_norm ?_
        refine hx_seq ?_
        refine hx_block ?_
        refine hx_seq ?_
        apply hx_draw2 Rel.same [] [] [] rfl (by decide +kernel) rfl
        refine LD.qq rfl rfl (by simp only [EN, Nat.reduceEqDiff, reduceIte, qv_move, k7_0, strEq, hB1.cell]; rfl) ?_
        refine LD.qq rfl rfl (by simp only [EN, Nat.reduceEqDiff, reduceIte, qv_move, i8_0, strEq, hB1.cell]; rfl) ?_
        refine LD.qq rfl rfl (by simp only [EN, Nat.reduceEqDiff, reduceIte, qv_indexAddr, strEq, hB1.cell]; (try simp (disch := omega) only [ix59, Int.toNat_natCast]); rfl) ?_
        refine LD.qq rfl rfl (by simp only [EN, Nat.reduceEqDiff, reduceIte, k0_0, k2_0, k4_0, k7_0, i8_0, strEq, hB1.cell, qv_load, ld63, Int.toNat_natCast, hr3]; rfl) ?_
        refine LD.qq rfl rfl (by simp only [EN, Nat.reduceEqDiff, reduceIte, qv_fieldAddr, fa41_0, Nat.zero_add, Nat.reduceAdd, k4_0, strEq, hB1.cell]; rfl) ?_
        refine LD.qq rfl rfl (by simp only [EN, Nat.reduceEqDiff, reduceIte, qv_load, ld38, readN, AR, Nat.zero_add, Nat.reduceAdd, strEq, hB1.cell]; rfl) ?_
        refine LD.qq rfl rfl (by simp only [EN, Nat.reduceEqDiff, reduceIte, qv_move, i8_0, strEq, hB1.cell]; rfl) ?_
        refine LD.qq rfl rfl (by simp only [EN, Nat.reduceEqDiff, reduceIte, qv_indexAddr, strEq, hB1.cell]; (try simp (disch := omega) only [ix38, Int.toNat_natCast]); rfl) ?_
        refine LD.qq rfl rfl (by simp only [EN, Nat.reduceEqDiff, reduceIte, k0_0, k2_0, k4_0, k7_0, i8_0, strEq, hB1.cell, qv_load, ld57, Int.toNat_natCast, hr3']; rfl) ?_
        refine LD.qq rfl rfl (by simp only [EN, Nat.reduceEqDiff, reduceIte, qv_binOp, binv_neq, eqs57, Option.map_some, strEq, hB1.cell]; rfl) ?_
        refine LD.nil ?_
        rintro _ rfl -
        refine WL.nil ?_
        refine th_norm ?_
        refine hx_cond (by simp only [EN, Nat.reduceEqDiff, reduceIte, strEq, hB1.cell]; rfl) (fun hct44 => ?_) (fun hct44 => ?_)
        ·
          simp at hct44
        ·
          try simp only [BD] at hct44
          refine hx_skip ?_
          refine bl_norm ?_
          refine th_norm ?_
          refine hx_region ?_
          refine WL.qq (by simp only [EN, Nat.reduceEqDiff, reduceIte, qv_move, i8_0, strEq, hB1.cell]; rfl) ?_
          refine WL.qq (by simp only [EN, Nat.reduceEqDiff, reduceIte, qv_binOp, binv_add, strEq, hB1.cell]; (try simp (disch := omega) only [w64, w8, wu64]); rfl) ?_
          refine WL.qq (by simp only [EN, Nat.reduceEqDiff, reduceIte, qv_assign, strEq, hB1.cell]; rfl) ?_
          refine WL.nil ?_
          refine th_norm ?_
          refine ⟨rfl, rfl, ?_, _, ?_, i + 1, rfl, ?_, ?_⟩  -- again 0 of loop 0
          · (repeat (first | exact Fr.refl _ _ | refine Fr.set rfl ?_ | refine Fr.put rfl ?_ | with_reducible refine Fr.put0 ?_))
          · omega
          · omega
          · simp only [EN, Nat.reduceEqDiff, reduceIte, k0_0, k2_0, k4_0, k7_0, i8_0, strEq, hB1.cell] <;> first | rfl | (congr 1; omega)
      ·
        try simp only [BD] at hct32
        refine hx_exit ?_
        refine th_exit ?_
        refine th_exit ?_
        refine bl_hit ?_
        refine th_norm ?_
        refine hx_seq ?_
        refine hx_seq ?_
        refine hx_region ?_
        refine WL.qq (by simp only [EN, Nat.reduceEqDiff, reduceIte, qv_assign, strEq, hB1.cell]; rfl) ?_
        refine WL.nil ?_
        refine th_norm ?_
        refine hx_block ?_
        refine hx_loopX [6, 9, 10, 11, 12, 13, 14, 15, 16, 17, 18, 19, 20, 45, 46, 47, 48, 49, 50, 51, 52, 53, 54, 55, 56, 57, 58, 59, 60, 61, 62, 63, 64, 65, 66, 67, 68, 69, 70, 71, 72, 73, 74, 75, 76, 77, 78, 79, 80, 81, 82, 83, 84, 85, 86, 87, 88, 89, 90, 91, 92, 93, 94, 95, 96, 97, 98, 99, 100, 101, 102, 103, 104, 105, 106, 107, 108, 109, 110, 111, 112, 113, 114, 115, 116, 117, 118, 119, 120, 121, 122, 123, 124, 125, 126, 127, 128, 129, 130, 131, 132, 133, 134, 135, 136, 137, 138, 139, 140, 141, 142, 143, 144, 145, 146, 147, 148, 149, 150, 151, 152, 153, 154, 155, 156, 157, 158, 159, 160, 161, 162] (fun k e => ∃ (j : Nat), m.length - j = k ∧ (j ≤ m.length) ∧ e 9 = .int .i64 j) _ ⟨0, rfl, ?_, ?_⟩ ?_
        · omega
        · simp only [EN, Nat.reduceEqDiff, reduceIte, k0_0, k2_0, k4_0, k7_0, i8_0, strEq, hB1.cell] <;> rfl
        ·
          rintro k e1L hL1 hX1 hfr1 ⟨j, rfl, hj, i9_1⟩
          replace ht := ht.ext hX1
          replace hs1 := hs1.ext hX1
          replace hs2 := hs2.ext hX1
          replace hm := hm.ext hX1
          replace hB1 := hB1.ext hX1
          replace hsL := hsL.ext hX1
          have k0_1 := hfr1 0 rfl; try simp only [EN, Nat.reduceEqDiff, reduceIte, k0_0, strEq, hB1.cell] at k0_1
          have k2_1 := hfr1 2 rfl; try simp only [EN, Nat.reduceEqDiff, reduceIte, k2_0, strEq, hB1.cell] at k2_1
          have k4_1 := hfr1 4 rfl; try simp only [EN, Nat.reduceEqDiff, reduceIte, k4_0, strEq, hB1.cell] at k4_1
          refine hx_seq ?_
          refine hx_seq ?_
          refine hx_region ?_
          refine WL.qq (by simp only [EN, Nat.reduceEqDiff, reduceIte, qv_move, i9_1, strEq, hB1.cell]; rfl) ?_
          refine WL.qq (by simp only [EN, Nat.reduceEqDiff, reduceIte, qv_move, k2_1, strEq, hB1.cell]; rfl) ?_
          refine WL.qq (by simp only [EN, Nat.reduceEqDiff, reduceIte, qv_len, ln37, AR, strEq, hB1.cell]; rfl) ?_
          refine WL.qq (by simp only [EN, Nat.reduceEqDiff, reduceIte, qv_binOp, binv_lss, strEq, hB1.cell]; rfl) ?_
          refine WL.nil ?_
          refine th_norm ?_
          refine hx_cond (by simp only [EN, Nat.reduceEqDiff, reduceIte, strEq, hB1.cell]; rfl) (fun hct48 => ?_) (fun hct48 => ?_)
          ·
            try simp only [BD] at hct48
            obtain ⟨a, ha⟩ := atG (l := m) (i := j) (by omega)
            obtain ⟨ba, oa, rfl, hra⟩ := hm j a ha
            have hca := readN_cell hra 0 _ rfl; rw [Nat.add_zero, Nat.mul_one] at hca
            obtain ⟨nn, hnv, hnn⟩ := room_val ls ⟨a, em⟩ (outW ns a)
            have hl1 := hQ.look ⟨a, em⟩; have ho1 := hQ.ou a
            have hk1 : lk ls ⟨a, em⟩ = lk L ⟨a, em⟩ := (by unfold lk; rw [hl1])
            rw [← hl1] at hnv hnn
            obtain ⟨bb, hbb⟩ : ∃ bb, (L.lookup (⟨a, em⟩ : PK)).isSome = bb := ⟨_, rfl⟩
            rw [hbb] at hnv hnn; rw [ho1, hk1] at hnn
            refine hx_skip ?_
            refine th_norm ?_
            refine hx_seq ?_
            refine hx_block ?_
            refine hx_seq ?_
            refine hx_region ?_
            refine WL.qq (by simp only [EN, Nat.reduceEqDiff, reduceIte, qv_move, k2_1, strEq, hB1.cell]; rfl) ?_
            refine WL.qq (by simp only [EN, Nat.reduceEqDiff, reduceIte, qv_move, i9_1, strEq, hB1.cell]; rfl) ?_
            refine WL.qq (by simp only [EN, Nat.reduceEqDiff, reduceIte, qv_indexAddr, strEq, hB1.cell]; (try simp (disch := omega) only [ix37, Int.toNat_natCast]); rfl) ?_
            refine WL.qq (by simp only [EN, Nat.reduceEqDiff, reduceIte, k0_1, k2_1, k4_1, i9_1, strEq, hB1.cell, qv_load, ld9, Int.toNat_natCast, hca]; rfl) ?_
            refine WL.qq (by simp only [EN, Nat.reduceEqDiff, reduceIte, qv_assign, strEq, hB1.cell]; rfl) ?_
            refine WL.nil ?_
            refine th_norm ?_
            refine hx_seq ?_
            refine hx_fresh (fun eF13 hfcf13 => ?_)
            have k0_f13 := hfcf13 0 rfl; try simp only [EN, Nat.reduceEqDiff, reduceIte, k0_1, strEq, hB1.cell] at k0_f13
            have k2_f13 := hfcf13 2 rfl; try simp only [EN, Nat.reduceEqDiff, reduceIte, k2_1, strEq, hB1.cell] at k2_f13
            have k4_f13 := hfcf13 4 rfl; try simp only [EN, Nat.reduceEqDiff, reduceIte, k4_1, strEq, hB1.cell] at k4_f13
            have k9_f13 := hfcf13 9 rfl; try simp only [EN, Nat.reduceEqDiff, reduceIte, i9_1, strEq, hB1.cell] at k9_f13
            have k10_f13 := hfcf13 10 rfl; try simp only [EN, Nat.reduceEqDiff, reduceIte, strEq, hB1.cell] at k10_f13
            refine hx_region ?_
            refine WL.qq (by simp only [EN, Nat.reduceEqDiff, reduceIte, qv_move, k0_f13, strEq, hB1.cell]; rfl) ?_
            refine WL.qq (by simp only [EN, Nat.reduceEqDiff, reduceIte, qv_move, k10_f13, strEq, hB1.cell]; rfl) ?_
            refine WL.cg Try.call29 (by simp only [EN, Nat.reduceEqDiff, reduceIte, AR, strEq, hB1.cell]; exact hnv ▸ tb_MRoom a ht) ?_
            intro h3 hx3
            replace ht := ht.ext hx3
            replace hs1 := hs1.ext hx3
            replace hs2 := hs2.ext hx3
            replace hm := hm.ext hx3
            replace hB1 := hB1.ext hx3
            replace hsL := hsL.ext hx3
            refine WL.qq (by simp only [EN, Nat.reduceEqDiff, reduceIte, qv_move, strEq, hB1.cell]; rfl) ?_
            refine WL.qq (by simp only [EN, Nat.reduceEqDiff, reduceIte, qv_extract, AR, strEq, hB1.cell]; rfl) ?_
            refine WL.qq (by simp only [EN, Nat.reduceEqDiff, reduceIte, qv_extract, AR, strEq, hB1.cell]; rfl) ?_
            refine WL.qq (by simp only [EN, Nat.reduceEqDiff, reduceIte, qv_assign, strEq, hB1.cell]; rfl) ?_
            refine WL.qq (by simp only [EN, Nat.reduceEqDiff, reduceIte, qv_assign, strEq, hB1.cell]; rfl) ?_
            refine WL.nil ?_
            refine th_norm ?_
            refine hx_seq ?_
            refine hx_region ?_
            refine WL.qq (by simp only [EN, Nat.reduceEqDiff, reduceIte, qv_load, ld41, readN, AR, Nat.zero_add, Nat.reduceAdd, k4_f13, strEq, hB1.cell]; rfl) ?_
            refine WL.qq (by simp only [EN, Nat.reduceEqDiff, reduceIte, qv_move, k10_f13, strEq, hB1.cell]; rfl) ?_
            refine WL.cg Try.call48 (by simp only [EN, Nat.reduceEqDiff, reduceIte, AR, strEq, hB1.cell]; exact hbb ▸ c_rFind al L cl af F.length cf ⟨a, em⟩ (by omega) (ks_nd hQ.so) hs1) ?_
            intro h4 hx4
            replace ht := ht.ext hx4
            replace hs1 := hs1.ext hx4
            replace hs2 := hs2.ext hx4
            replace hm := hm.ext hx4
            replace hB1 := hB1.ext hx4
            replace hsL := hsL.ext hx4
            refine WL.qq (by simp only [EN, Nat.reduceEqDiff, reduceIte, qv_move, strEq, hB1.cell]; rfl) ?_
            refine WL.qq (by simp only [EN, Nat.reduceEqDiff, reduceIte, qv_extract, AR, strEq, hB1.cell]; rfl) ?_
            refine WL.qq (by simp only [EN, Nat.reduceEqDiff, reduceIte, qv_extract, AR, strEq, hB1.cell]; rfl) ?_
            refine WL.qq (by simp only [EN, Nat.reduceEqDiff, reduceIte, qv_assign, strEq, hB1.cell]; rfl) ?_
            refine WL.qq (by simp only [EN, Nat.reduceEqDiff, reduceIte, qv_assign, strEq, hB1.cell]; rfl) ?_
            refine WL.nil ?_
            refine th_norm ?_
            refine hx_seq ?_
            refine hx_seq ?_
            refine hx_fresh (fun eF15 hfcf15 => ?_)
            have k0_f15 := hfcf15 0 rfl; try simp only [EN, Nat.reduceEqDiff, reduceIte, k0_f13, strEq, hB1.cell] at k0_f15
            have k2_f15 := hfcf15 2 rfl; try simp only [EN, Nat.reduceEqDiff, reduceIte, k2_f13, strEq, hB1.cell] at k2_f15
            have k4_f15 := hfcf15 4 rfl; try simp only [EN, Nat.reduceEqDiff, reduceIte, k4_f13, strEq, hB1.cell] at k4_f15
            have k9_f15 := hfcf15 9 rfl; try simp only [EN, Nat.reduceEqDiff, reduceIte, k9_f13, strEq, hB1.cell] at k9_f15
            have k10_f15 := hfcf15 10 rfl; try simp only [EN, Nat.reduceEqDiff, reduceIte, k10_f13, strEq, hB1.cell] at k10_f15
            have k11_f15 := hfcf15 11 rfl; try simp only [EN, Nat.reduceEqDiff, reduceIte, strEq, hB1.cell] at k11_f15
            have k12_f15 := hfcf15 12 rfl; try simp only [EN, Nat.reduceEqDiff, reduceIte, strEq, hB1.cell] at k12_f15
            have k13_f15 := hfcf15 13 rfl; try simp only [EN, Nat.reduceEqDiff, reduceIte, strEq, hB1.cell] at k13_f15
            have k14_f15 := hfcf15 14 rfl; try simp only [EN, Nat.reduceEqDiff, reduceIte, strEq, hB1.cell] at k14_f15
            apply hx_draw2 Rel.grows [] [10, 26, 29] [(10, Spec.is _), (26, Spec.is _), (29, Spec.is _)] rfl (by decide +kernel) rfl
            refine LD.qq rfl rfl (by simp only [EN, Nat.reduceEqDiff, reduceIte, qv_move, k12_f15, strEq, hB1.cell]; rfl) ?_
            refine LD.qq rfl rfl (by simp only [EN, Nat.reduceEqDiff, reduceIte, qv_move, k14_f15, strEq, hB1.cell]; rfl) ?_
            refine LD.qq rfl rfl (by simp only [EN, Nat.reduceEqDiff, reduceIte, qv_binOp, binv_neq, eq4, Option.map_some, strEq, hB1.cell]; rfl) ?_
            refine LD.qq rfl rfl (by simp only [EN, Nat.reduceEqDiff, reduceIte, qv_move, strEq, hB1.cell]; rfl) ?_
            refine LD.cq rfl rfl (gd_at (t := 70) rfl (by simp only [EN, Nat.reduceEqDiff, reduceIte, k12_f15, strEq, hB1.cell] <;> rfl)) (fun hg15_4 => by simp only [EN, Nat.reduceEqDiff, reduceIte, qv_move, k12_f15, strEq, hB1.cell, hg15_4, GR]; rfl) ?_
            refine LD.cq rfl rfl (gd_at (t := 70) rfl (by simp only [EN, Nat.reduceEqDiff, reduceIte, strEq, hB1.cell] <;> rfl)) (fun hg15_5 => by simp only [EN, Nat.reduceEqDiff, reduceIte, qv_move, strEq, hB1.cell, hg15_5, GR]; rfl) ?_
            refine LD.cq2 rfl rfl (t := 72) rfl (by simp only [EN, Nat.reduceEqDiff, reduceIte, k11_f15, strEq, hB1.cell]; rfl) (fun hC15_6 hg15_6 => by simp only [EN, Nat.reduceEqDiff, reduceIte, qv_move, k11_f15, strEq, hB1.cell, hC15_6, hg15_6, GR]; rfl) ?_
            refine LD.cq2 rfl rfl (t := 72) rfl (by simp only [EN, Nat.reduceEqDiff, reduceIte, k13_f15, strEq, hB1.cell]; rfl) (fun hC15_7 hg15_7 => by simp only [EN, Nat.reduceEqDiff, reduceIte, qv_move, k13_f15, strEq, hB1.cell, hC15_7, hg15_7, GR]; rfl) ?_
            refine LD.cq2 rfl rfl (t := 72) rfl (by simp only [EN, Nat.reduceEqDiff, reduceIte, k4_f15, strEq, hB1.cell]; rfl) (fun hC15_8 hg15_8 => by simp only [EN, Nat.reduceEqDiff, reduceIte, qv_load, ld41, readN, AR, Nat.zero_add, Nat.reduceAdd, k4_f15, strEq, hB1.cell, hC15_8, hg15_8, GR]; rfl) ?_
            refine LD.cq2 rfl rfl (t := 72) rfl (by simp only [EN, Nat.reduceEqDiff, reduceIte, k10_f15, strEq, hB1.cell]; rfl) (fun hC15_9 hg15_9 => by simp only [EN, Nat.reduceEqDiff, reduceIte, qv_move, k10_f15, strEq, hB1.cell, hC15_9, hg15_9, GR]; rfl) ?_
            refine LD.cck2 rfl rfl (t := 72) rfl (by simp only [EN, Nat.reduceEqDiff, reduceIte, strEq, hB1.cell]; rfl) Try.call49 (fun hC15_10 hg15_10 => by have hC15_10o := hC15_10; (try simp only [hg15_10] at hC15_10); intro hD hr; have hx : Ext _ _ := hr; have ht := ht.ext hx; have hs1 := hs1.ext hx; have hs2 := hs2.ext hx; have hm := hm.ext hx; have hB1 := hB1.ext hx; have hsL := hsL.ext hx; simp only [EN, Nat.reduceEqDiff, reduceIte, AR, strEq, hB1.cell, hC15_10, hC15_10o, hg15_10, GR]; exact c_rOut al L.length cl af F cf a (by omega) hs2) ?_
            refine LD.cq2 rfl rfl (t := 72) rfl (by simp only [EN, Nat.reduceEqDiff, reduceIte, strEq, hB1.cell]; rfl) (fun hC15_11 hg15_11 => by have hC15_11o := hC15_11; (try simp only [hg15_11] at hC15_11); have hq0 := hC15_11; (try simp only [BD] at hq0); have hq1 := hg15_11; (try simp only [BD] at hq1); simp only [EN, Nat.reduceEqDiff, reduceIte, qv_binOp, binv_sub, strEq, hB1.cell, hC15_11o, hC15_11, hg15_11, GR]; (try simp (disch := omega) only [w64, w8, wu64]); rfl) ?_
            refine LD.cq2 rfl rfl (t := 72) rfl (by simp only [EN, Nat.reduceEqDiff, reduceIte, strEq, hB1.cell]; rfl) (fun hC15_12 hg15_12 => by have hC15_12o := hC15_12; (try simp only [hg15_12] at hC15_12); simp only [EN, Nat.reduceEqDiff, reduceIte, qv_binOp, binv_neq, eq2, Option.map_some, strEq, hB1.cell, hC15_12o, hC15_12, hg15_12, GR]; rfl) ?_
            refine LD.cq rfl rfl (gd_at (t := 70) rfl (by simp only [EN, Nat.reduceEqDiff, reduceIte, strEq, hB1.cell] <;> rfl)) (fun hg15_13 => by simp only [EN, Nat.reduceEqDiff, reduceIte, qv_pick, pk_and, pk_or, GR, strEq, hB1.cell, hg15_13, GR]; rfl) ?_
            refine LD.qq rfl rfl (by simp only [EN, Nat.reduceEqDiff, reduceIte, qv_pick, pk_and, pk_or, GR, strEq, hB1.cell]; rfl) ?_
            refine LD.qq rfl rfl (by simp only [EN, Nat.reduceEqDiff, reduceIte, qv_move, strEq, hB1.cell]; rfl) ?_
            refine LD.cq rfl rfl (gd_at (t := 82) rfl (by simp only [EN, Nat.reduceEqDiff, reduceIte, k12_f15, strEq, hB1.cell] <;> rfl)) (fun hg15_16 => by simp only [EN, Nat.reduceEqDiff, reduceIte, qv_move, k12_f15, strEq, hB1.cell, hg15_16, GR]; rfl) ?_
            refine LD.cq rfl rfl (gd_at (t := 82) rfl (by simp only [EN, Nat.reduceEqDiff, reduceIte, strEq, hB1.cell] <;> rfl)) (fun hg15_17 => by simp only [EN, Nat.reduceEqDiff, reduceIte, qv_unOp, unv_not, strEq, hB1.cell, hg15_17, GR]; rfl) ?_
            refine LD.cq rfl rfl (gd_at (t := 82) rfl (by simp only [EN, Nat.reduceEqDiff, reduceIte, strEq, hB1.cell] <;> rfl)) (fun hg15_18 => by simp only [EN, Nat.reduceEqDiff, reduceIte, qv_move, strEq, hB1.cell, hg15_18, GR]; rfl) ?_
            refine LD.cq2 rfl rfl (t := 85) rfl (by simp only [EN, Nat.reduceEqDiff, reduceIte, k11_f15, strEq, hB1.cell]; rfl) (fun hC15_19 hg15_19 => by simp only [EN, Nat.reduceEqDiff, reduceIte, qv_move, k11_f15, strEq, hB1.cell, hC15_19, hg15_19, GR]; rfl) ?_
            refine LD.cq2 rfl rfl (t := 85) rfl (by simp only [EN, Nat.reduceEqDiff, reduceIte, strEq, hB1.cell]; rfl) (fun hC15_20 hg15_20 => by have hC15_20o := hC15_20; (try simp only [hg15_20] at hC15_20); simp only [EN, Nat.reduceEqDiff, reduceIte, qv_binOp, binv_neq, eq2, Option.map_some, strEq, hB1.cell, hC15_20o, hC15_20, hg15_20, GR]; rfl) ?_
            refine LD.cq rfl rfl (gd_at (t := 82) rfl (by simp only [EN, Nat.reduceEqDiff, reduceIte, strEq, hB1.cell] <;> rfl)) (fun hg15_21 => by simp only [EN, Nat.reduceEqDiff, reduceIte, qv_pick, pk_and, pk_or, GR, strEq, hB1.cell, hg15_21, GR]; rfl) ?_
            refine LD.qq rfl rfl (by simp only [EN, Nat.reduceEqDiff, reduceIte, qv_pick, pk_and, pk_or, GR, strEq, hB1.cell]; rfl) ?_
            refine LD.qq rfl rfl (by simp only [EN, Nat.reduceEqDiff, reduceIte, qv_move, strEq, hB1.cell]; rfl) ?_
            refine LD.cq rfl rfl (gd_at (t := 90) rfl (by simp only [EN, Nat.reduceEqDiff, reduceIte, k0_f15, strEq, hB1.cell] <;> rfl)) (fun hg15_24 => by simp only [EN, Nat.reduceEqDiff, reduceIte, qv_move, k0_f15, strEq, hB1.cell, hg15_24, GR]; rfl) ?_
            refine LD.cq rfl rfl (gd_at (t := 90) rfl (by simp only [EN, Nat.reduceEqDiff, reduceIte, k10_f15, strEq, hB1.cell] <;> rfl)) (fun hg15_25 => by simp only [EN, Nat.reduceEqDiff, reduceIte, qv_move, k10_f15, strEq, hB1.cell, hg15_25, GR]; rfl) ?_
            refine LD.cck rfl rfl (gd_at (t := 90) rfl (by simp only [EN, Nat.reduceEqDiff, reduceIte, strEq, hB1.cell] <;> rfl)) Try.call21 (fun hg15_26 => by intro hD hr; have hx : Ext _ _ := hr; have ht := ht.ext hx; have hs1 := hs1.ext hx; have hs2 := hs2.ext hx; have hm := hm.ext hx; have hB1 := hB1.ext hx; have hsL := hsL.ext hx; simp only [EN, Nat.reduceEqDiff, reduceIte, AR, strEq, hB1.cell, hg15_26, GR]; exact ho1 ▸ tb_Out a ht) ?_
            refine LD.cq rfl rfl (gd_at (t := 90) rfl (by simp only [EN, Nat.reduceEqDiff, reduceIte, k4_f15, strEq, hB1.cell] <;> rfl)) (fun hg15_27 => by simp only [EN, Nat.reduceEqDiff, reduceIte, qv_load, ld41, readN, AR, Nat.zero_add, Nat.reduceAdd, k4_f15, strEq, hB1.cell, hg15_27, GR]; rfl) ?_
            refine LD.cq rfl rfl (gd_at (t := 90) rfl (by simp only [EN, Nat.reduceEqDiff, reduceIte, k10_f15, strEq, hB1.cell] <;> rfl)) (fun hg15_28 => by simp only [EN, Nat.reduceEqDiff, reduceIte, qv_move, k10_f15, strEq, hB1.cell, hg15_28, GR]; rfl) ?_
            refine LD.cck rfl rfl (gd_at (t := 90) rfl (by simp only [EN, Nat.reduceEqDiff, reduceIte, strEq, hB1.cell] <;> rfl)) Try.call49 (fun hg15_29 => by intro hD hr; have hx : Ext _ _ := hr; have ht := ht.ext hx; have hs1 := hs1.ext hx; have hs2 := hs2.ext hx; have hm := hm.ext hx; have hB1 := hB1.ext hx; have hsL := hsL.ext hx; simp only [EN, Nat.reduceEqDiff, reduceIte, AR, strEq, hB1.cell, hg15_29, GR]; exact c_rOut al L.length cl af F cf a (by omega) hs2) ?_
            refine LD.cq rfl rfl (gd_at (t := 90) rfl (by simp only [EN, Nat.reduceEqDiff, reduceIte, strEq, hB1.cell] <;> rfl)) (fun hg15_30 => by simp only [EN, Nat.reduceEqDiff, reduceIte, qv_binOp, binv_neq, eq2, Option.map_some, strEq, hB1.cell, hg15_30, GR]; rfl) ?_
            refine LD.qq rfl rfl (by simp only [EN, Nat.reduceEqDiff, reduceIte, qv_pick, pk_and, pk_or, GR, strEq, hB1.cell]; rfl) ?_
            refine LD.nil ?_
            rintro h5 hx5 hF15
            replace hx5 : Ext _ _ := hx5
            replace ht := ht.ext hx5
            replace hs1 := hs1.ext hx5
            replace hs2 := hs2.ext hx5
            replace hm := hm.ext hx5
            replace hB1 := hB1.ext hx5
            replace hsL := hsL.ext hx5
            refine WL.nil ?_
            refine th_norm ?_
            refine hx_cond (by simp only [EN, Nat.reduceEqDiff, reduceIte, strEq, hB1.cell]; rfl) (fun hct98 => ?_) (fun hct98 => ?_)
            ·
              exfalso; cases bb <;> simp [hnn] at hct98
            ·
              try simp only [BD] at hct98
              refine hx_skip ?_
              refine th_norm ?_
              refine hx_seq ?_
              refine hx_region ?_
              refine WL.qq (by simp only [EN, Nat.reduceEqDiff, reduceIte, qv_assign, strEq, hB1.cell]; rfl) ?_
              refine WL.nil ?_
              refine th_norm ?_
              refine hx_block ?_
              refine hx_loopX [6, 15, 16, 17, 18, 19, 20, 99, 100, 101, 102, 103, 104, 105, 106, 107, 108, 109, 110, 111, 112, 113, 114, 115, 116, 117, 118, 119, 120, 121, 122, 123, 124, 125, 126, 127, 128, 129, 130, 131, 132, 133, 134, 135, 136, 137, 138, 139, 140, 141, 142, 143, 144, 145, 146, 147, 148, 149, 150, 151, 152, 153, 154, 155, 156, 157, 158, 159, 160, 161, 162] (fun k e => ∃ (j2 : Nat), m.length - j2 = k ∧ (j2 ≤ m.length) ∧ e 15 = .int .i64 j2) _ ⟨0, rfl, ?_, ?_⟩ ?_
              · omega
              · simp only [EN, Nat.reduceEqDiff, reduceIte, k0_f15, k2_f15, k4_f15, k9_f15, k10_f15, k11_f15, k12_f15, k13_f15, k14_f15, strEq, hB1.cell] <;> rfl
              ·
                rintro k e2L hL2 hX2 hfr2 ⟨j2, rfl, hj2, i15_2⟩
                replace ht := ht.ext hX2
                replace hs1 := hs1.ext hX2
                replace hs2 := hs2.ext hX2
                replace hm := hm.ext hX2
                replace hB1 := hB1.ext hX2
                replace hsL := hsL.ext hX2
                have k0_2 := hfr2 0 rfl; try simp only [EN, Nat.reduceEqDiff, reduceIte, k0_f15, strEq, hB1.cell] at k0_2
                have k2_2 := hfr2 2 rfl; try simp only [EN, Nat.reduceEqDiff, reduceIte, k2_f15, strEq, hB1.cell] at k2_2
                have k4_2 := hfr2 4 rfl; try simp only [EN, Nat.reduceEqDiff, reduceIte, k4_f15, strEq, hB1.cell] at k4_2
                have k9_2 := hfr2 9 rfl; try simp only [EN, Nat.reduceEqDiff, reduceIte, k9_f15, strEq, hB1.cell] at k9_2
                have k10_2 := hfr2 10 rfl; try simp only [EN, Nat.reduceEqDiff, reduceIte, k10_f15, strEq, hB1.cell] at k10_2
                refine hx_seq ?_
                refine hx_seq ?_
                refine hx_region ?_
                refine WL.qq (by simp only [EN, Nat.reduceEqDiff, reduceIte, qv_move, i15_2, strEq, hB1.cell]; rfl) ?_
                refine WL.qq (by simp only [EN, Nat.reduceEqDiff, reduceIte, qv_move, k2_2, strEq, hB1.cell]; rfl) ?_
                refine WL.qq (by simp only [EN, Nat.reduceEqDiff, reduceIte, qv_len, ln37, AR, strEq, hB1.cell]; rfl) ?_
                refine WL.qq (by simp only [EN, Nat.reduceEqDiff, reduceIte, qv_binOp, binv_lss, strEq, hB1.cell]; rfl) ?_
                refine WL.nil ?_
                refine th_norm ?_
                refine hx_cond (by simp only [EN, Nat.reduceEqDiff, reduceIte, strEq, hB1.cell]; rfl) (fun hct102 => ?_) (fun hct102 => ?_)
                ·
                  try simp only [BD] at hct102
                  obtain ⟨b, hb⟩ := atG (l := m) (i := j2) (by omega)
                  obtain ⟨bb2, ob, hab, hrb⟩ := hm j2 b hb
                  cases hab
                  have hcb := readN_cell hrb 0 _ rfl; rw [Nat.add_zero, Nat.mul_one] at hcb
                  obtain ⟨n2, c2, hbv, hc2, hn2⟩ := broom_val ls ns a b
                  have hl2 := hQ.look ⟨a, b⟩; have ht2 : lk ns ⟨a, b⟩ = netR F a b := hQ.nt ⟨a, b⟩
                  have hk2 : lk ls ⟨a, b⟩ = lk L ⟨a, b⟩ := (by unfold lk; rw [hl2])
                  rw [← hl2] at hc2; rw [ht2, hk2] at hn2
                  obtain ⟨d2, hd2⟩ : ∃ d2, (L.lookup (⟨a, b⟩ : PK)).isSome = d2 := ⟨_, rfl⟩
                  rw [hd2] at hc2
                  refine hx_skip ?_
                  refine th_norm ?_
                  refine hx_seq ?_
                  refine hx_block ?_
                  refine hx_seq ?_
                  refine hx_fresh (fun eF20 hfcf20 => ?_)
                  have k0_f20 := hfcf20 0 rfl; try simp only [EN, Nat.reduceEqDiff, reduceIte, k0_2, strEq, hB1.cell] at k0_f20
                  have k2_f20 := hfcf20 2 rfl; try simp only [EN, Nat.reduceEqDiff, reduceIte, k2_2, strEq, hB1.cell] at k2_f20
                  have k4_f20 := hfcf20 4 rfl; try simp only [EN, Nat.reduceEqDiff, reduceIte, k4_2, strEq, hB1.cell] at k4_f20
                  have k9_f20 := hfcf20 9 rfl; try simp only [EN, Nat.reduceEqDiff, reduceIte, k9_2, strEq, hB1.cell] at k9_f20
                  have k10_f20 := hfcf20 10 rfl; try simp only [EN, Nat.reduceEqDiff, reduceIte, k10_2, strEq, hB1.cell] at k10_f20
                  have k15_f20 := hfcf20 15 rfl; try simp only [EN, Nat.reduceEqDiff, reduceIte, i15_2, strEq, hB1.cell] at k15_f20
                  refine hx_region ?_
                  refine WL.qq (by simp only [EN, Nat.reduceEqDiff, reduceIte, qv_move, k2_f20, strEq, hB1.cell]; rfl) ?_
                  refine WL.qq (by simp only [EN, Nat.reduceEqDiff, reduceIte, qv_move, k15_f20, strEq, hB1.cell]; rfl) ?_
                  refine WL.qq (by simp only [EN, Nat.reduceEqDiff, reduceIte, qv_indexAddr, strEq, hB1.cell]; (try simp (disch := omega) only [ix37, Int.toNat_natCast]); rfl) ?_
                  refine WL.qq (by simp only [EN, Nat.reduceEqDiff, reduceIte, k0_f20, k2_f20, k4_f20, k9_f20, k10_f20, k15_f20, strEq, hB1.cell, qv_load, ld9, Int.toNat_natCast, hcb]; rfl) ?_
                  refine WL.qq (by simp only [EN, Nat.reduceEqDiff, reduceIte, qv_assign, strEq, hB1.cell]; rfl) ?_
                  refine WL.nil ?_
                  refine th_norm ?_
                  refine hx_seq ?_
                  refine hx_region ?_
                  refine WL.qq (by simp only [EN, Nat.reduceEqDiff, reduceIte, qv_move, k0_f20, strEq, hB1.cell]; rfl) ?_
                  refine WL.qq (by simp only [EN, Nat.reduceEqDiff, reduceIte, qv_move, k10_f20, strEq, hB1.cell]; rfl) ?_
                  refine WL.qq (by simp only [EN, Nat.reduceEqDiff, reduceIte, qv_move, strEq, hB1.cell]; rfl) ?_
                  refine WL.cg Try.call30 (by simp only [EN, Nat.reduceEqDiff, reduceIte, AR, strEq, hB1.cell]; exact hbv ▸ tb_BRoom a b ht) ?_
                  intro h6 hx6
                  replace ht := ht.ext hx6
                  replace hs1 := hs1.ext hx6
                  replace hs2 := hs2.ext hx6
                  replace hm := hm.ext hx6
                  replace hB1 := hB1.ext hx6
                  replace hsL := hsL.ext hx6
                  refine WL.qq (by simp only [EN, Nat.reduceEqDiff, reduceIte, qv_move, strEq, hB1.cell]; rfl) ?_
                  refine WL.qq (by simp only [EN, Nat.reduceEqDiff, reduceIte, qv_extract, AR, strEq, hB1.cell]; rfl) ?_
                  refine WL.qq (by simp only [EN, Nat.reduceEqDiff, reduceIte, qv_extract, AR, strEq, hB1.cell]; rfl) ?_
                  refine WL.qq (by simp only [EN, Nat.reduceEqDiff, reduceIte, qv_assign, strEq, hB1.cell]; rfl) ?_
                  refine WL.qq (by simp only [EN, Nat.reduceEqDiff, reduceIte, qv_assign, strEq, hB1.cell]; rfl) ?_
                  refine WL.nil ?_
                  refine th_norm ?_
                  refine hx_seq ?_
                  refine hx_fresh (fun eF22 hfcf22 => ?_)
                  have k0_f22 := hfcf22 0 rfl; try simp only [EN, Nat.reduceEqDiff, reduceIte, k0_f20, strEq, hB1.cell] at k0_f22
                  have k2_f22 := hfcf22 2 rfl; try simp only [EN, Nat.reduceEqDiff, reduceIte, k2_f20, strEq, hB1.cell] at k2_f22
                  have k4_f22 := hfcf22 4 rfl; try simp only [EN, Nat.reduceEqDiff, reduceIte, k4_f20, strEq, hB1.cell] at k4_f22
                  have k9_f22 := hfcf22 9 rfl; try simp only [EN, Nat.reduceEqDiff, reduceIte, k9_f20, strEq, hB1.cell] at k9_f22
                  have k10_f22 := hfcf22 10 rfl; try simp only [EN, Nat.reduceEqDiff, reduceIte, k10_f20, strEq, hB1.cell] at k10_f22
                  have k15_f22 := hfcf22 15 rfl; try simp only [EN, Nat.reduceEqDiff, reduceIte, k15_f20, strEq, hB1.cell] at k15_f22
                  have k16_f22 := hfcf22 16 rfl; try simp only [EN, Nat.reduceEqDiff, reduceIte, strEq, hB1.cell] at k16_f22
                  have k17_f22 := hfcf22 17 rfl; try simp only [EN, Nat.reduceEqDiff, reduceIte, strEq, hB1.cell] at k17_f22
                  have k18_f22 := hfcf22 18 rfl; try simp only [EN, Nat.reduceEqDiff, reduceIte, strEq, hB1.cell] at k18_f22
                  refine hx_region ?_
                  refine WL.qq (by simp only [EN, Nat.reduceEqDiff, reduceIte, qv_load, ld41, readN, AR, Nat.zero_add, Nat.reduceAdd, k4_f22, strEq, hB1.cell]; rfl) ?_
                  refine WL.qq (by simp only [EN, Nat.reduceEqDiff, reduceIte, qv_move, k10_f22, strEq, hB1.cell]; rfl) ?_
                  refine WL.qq (by simp only [EN, Nat.reduceEqDiff, reduceIte, qv_move, k16_f22, strEq, hB1.cell]; rfl) ?_
                  refine WL.cg Try.call48 (by simp only [EN, Nat.reduceEqDiff, reduceIte, AR, strEq, hB1.cell]; exact hd2 ▸ c_rFind al L cl af F.length cf ⟨a, b⟩ (by omega) (ks_nd hQ.so) hs1) ?_
                  intro h7 hx7
                  replace ht := ht.ext hx7
                  replace hs1 := hs1.ext hx7
                  replace hs2 := hs2.ext hx7
                  replace hm := hm.ext hx7
                  replace hB1 := hB1.ext hx7
                  replace hsL := hsL.ext hx7
                  refine WL.qq (by simp only [EN, Nat.reduceEqDiff, reduceIte, qv_move, strEq, hB1.cell]; rfl) ?_
                  refine WL.qq (by simp only [EN, Nat.reduceEqDiff, reduceIte, qv_extract, AR, strEq, hB1.cell]; rfl) ?_
                  refine WL.qq (by simp only [EN, Nat.reduceEqDiff, reduceIte, qv_extract, AR, strEq, hB1.cell]; rfl) ?_
                  refine WL.qq (by simp only [EN, Nat.reduceEqDiff, reduceIte, qv_assign, strEq, hB1.cell]; rfl) ?_
                  refine WL.qq (by simp only [EN, Nat.reduceEqDiff, reduceIte, qv_assign, strEq, hB1.cell]; rfl) ?_
                  refine WL.nil ?_
                  refine th_norm ?_
                  refine hx_seq ?_
                  refine hx_region ?_
                  refine WL.qq (by simp only [EN, Nat.reduceEqDiff, reduceIte, qv_move, strEq, hB1.cell]; rfl) ?_
                  refine WL.qq (by simp only [EN, Nat.reduceEqDiff, reduceIte, qv_move, strEq, hB1.cell]; rfl) ?_
                  refine WL.cq (gd_at (t := 124) rfl (by simp only [EN, Nat.reduceEqDiff, reduceIte, k16_f22, strEq, hB1.cell] <;> rfl)) (fun hg23_2 => by simp only [EN, Nat.reduceEqDiff, reduceIte, qv_move, k16_f22, strEq, hB1.cell, hg23_2, GR]; rfl) ?_
                  refine WL.cq (gd_at (t := 124) rfl (by simp only [EN, Nat.reduceEqDiff, reduceIte, strEq, hB1.cell] <;> rfl)) (fun hg23_3 => by simp only [EN, Nat.reduceEqDiff, reduceIte, qv_binOp, binv_neq, eq9, Option.map_some, strEq, hB1.cell, hg23_3, GR]; rfl) ?_
                  refine WL.qq (by simp only [EN, Nat.reduceEqDiff, reduceIte, qv_pick, pk_and, pk_or, GR, strEq, hB1.cell]; rfl) ?_
                  refine WL.qq (by simp only [EN, Nat.reduceEqDiff, reduceIte, qv_assign, strEq, hB1.cell]; rfl) ?_
                  refine WL.nil ?_
                  refine th_norm ?_
                  refine hx_seq ?_
                  refine hx_fresh (fun eF24 hfcf24 => ?_)
                  have k0_f24 := hfcf24 0 rfl; try simp only [EN, Nat.reduceEqDiff, reduceIte, k0_f22, strEq, hB1.cell] at k0_f24
                  have k2_f24 := hfcf24 2 rfl; try simp only [EN, Nat.reduceEqDiff, reduceIte, k2_f22, strEq, hB1.cell] at k2_f24
                  have k4_f24 := hfcf24 4 rfl; try simp only [EN, Nat.reduceEqDiff, reduceIte, k4_f22, strEq, hB1.cell] at k4_f24
                  have k9_f24 := hfcf24 9 rfl; try simp only [EN, Nat.reduceEqDiff, reduceIte, k9_f22, strEq, hB1.cell] at k9_f24
                  have k10_f24 := hfcf24 10 rfl; try simp only [EN, Nat.reduceEqDiff, reduceIte, k10_f22, strEq, hB1.cell] at k10_f24
                  have k15_f24 := hfcf24 15 rfl; try simp only [EN, Nat.reduceEqDiff, reduceIte, k15_f22, strEq, hB1.cell] at k15_f24
                  have k16_f24 := hfcf24 16 rfl; try simp only [EN, Nat.reduceEqDiff, reduceIte, k16_f22, strEq, hB1.cell] at k16_f24
                  have k17_f24 := hfcf24 17 rfl; try simp only [EN, Nat.reduceEqDiff, reduceIte, k17_f22, strEq, hB1.cell] at k17_f24
                  have k18_f24 := hfcf24 18 rfl; try simp only [EN, Nat.reduceEqDiff, reduceIte, k18_f22, strEq, hB1.cell] at k18_f24
                  have k19_f24 := hfcf24 19 rfl; try simp only [EN, Nat.reduceEqDiff, reduceIte, strEq, hB1.cell] at k19_f24
                  have k20_f24 := hfcf24 20 rfl; try simp only [EN, Nat.reduceEqDiff, reduceIte, strEq, hB1.cell] at k20_f24
                  apply hx_draw2 Rel.grows [] [3, 7, 22] [(3, Spec.is _), (7, Spec.is _), (22, Spec.is _)] rfl (by decide +kernel) rfl
                  refine LD.qq rfl rfl (by simp only [EN, Nat.reduceEqDiff, reduceIte, qv_move, k0_f24, strEq, hB1.cell]; rfl) ?_
                  refine LD.qq rfl rfl (by simp only [EN, Nat.reduceEqDiff, reduceIte, qv_move, k10_f24, strEq, hB1.cell]; rfl) ?_
                  refine LD.qq rfl rfl (by simp only [EN, Nat.reduceEqDiff, reduceIte, qv_move, k16_f24, strEq, hB1.cell]; rfl) ?_
                  refine LD.ck rfl rfl Try.call20 (by intro hD hr; have hx : Ext _ _ := hr; have ht := ht.ext hx; have hs1 := hs1.ext hx; have hs2 := hs2.ext hx; have hm := hm.ext hx; have hB1 := hB1.ext hx; have hsL := hsL.ext hx; simp only [EN, Nat.reduceEqDiff, reduceIte, AR, strEq, hB1.cell]; exact (ht2 ▸ tb_Net a b ht).grow) ?_
                  refine LD.qq rfl rfl (by simp only [EN, Nat.reduceEqDiff, reduceIte, qv_load, ld41, readN, AR, Nat.zero_add, Nat.reduceAdd, k4_f24, strEq, hB1.cell]; rfl) ?_
                  refine LD.qq rfl rfl (by simp only [EN, Nat.reduceEqDiff, reduceIte, qv_move, k10_f24, strEq, hB1.cell]; rfl) ?_
                  refine LD.qq rfl rfl (by simp only [EN, Nat.reduceEqDiff, reduceIte, qv_move, k16_f24, strEq, hB1.cell]; rfl) ?_
                  refine LD.ck rfl rfl Try.call50 (by intro hD hr; have hx : Ext _ _ := hr; have ht := ht.ext hx; have hs1 := hs1.ext hx; have hs2 := hs2.ext hx; have hm := hm.ext hx; have hB1 := hB1.ext hx; have hsL := hsL.ext hx; simp only [EN, Nat.reduceEqDiff, reduceIte, AR, strEq, hB1.cell]; exact c_rNet al L.length cl af F cf a b (by omega) hs2) ?_
                  refine LD.qq rfl rfl (by simp only [EN, Nat.reduceEqDiff, reduceIte, qv_binOp, binv_neq, eq2, Option.map_some, strEq, hB1.cell]; rfl) ?_
                  refine LD.qq rfl rfl (by simp only [EN, Nat.reduceEqDiff, reduceIte, qv_move, strEq, hB1.cell]; rfl) ?_
                  refine LD.cq rfl rfl (gd_at (t := 137) rfl (by simp only [EN, Nat.reduceEqDiff, reduceIte, k18_f24, strEq, hB1.cell] <;> rfl)) (fun hg24_10 => by simp only [EN, Nat.reduceEqDiff, reduceIte, qv_move, k18_f24, strEq, hB1.cell, hg24_10, GR]; rfl) ?_
                  refine LD.cq rfl rfl (gd_at (t := 137) rfl (by simp only [EN, Nat.reduceEqDiff, reduceIte, k20_f24, strEq, hB1.cell] <;> rfl)) (fun hg24_11 => by simp only [EN, Nat.reduceEqDiff, reduceIte, qv_move, k20_f24, strEq, hB1.cell, hg24_11, GR]; rfl) ?_
                  refine LD.cq rfl rfl (gd_at (t := 137) rfl (by simp only [EN, Nat.reduceEqDiff, reduceIte, strEq, hB1.cell] <;> rfl)) (fun hg24_12 => by simp only [EN, Nat.reduceEqDiff, reduceIte, qv_binOp, binv_neq, eq4, Option.map_some, strEq, hB1.cell, hg24_12, GR]; rfl) ?_
                  refine LD.qq rfl rfl (by simp only [EN, Nat.reduceEqDiff, reduceIte, qv_pick, pk_and, pk_or, GR, strEq, hB1.cell]; rfl) ?_
                  refine LD.qq rfl rfl (by simp only [EN, Nat.reduceEqDiff, reduceIte, qv_move, strEq, hB1.cell]; rfl) ?_
                  refine LD.cq rfl rfl (gd_at (t := 142) rfl (by simp only [EN, Nat.reduceEqDiff, reduceIte, k18_f24, strEq, hB1.cell] <;> rfl)) (fun hg24_15 => by simp only [EN, Nat.reduceEqDiff, reduceIte, qv_move, k18_f24, strEq, hB1.cell, hg24_15, GR]; rfl) ?_
                  refine LD.cq rfl rfl (gd_at (t := 142) rfl (by simp only [EN, Nat.reduceEqDiff, reduceIte, strEq, hB1.cell] <;> rfl)) (fun hg24_16 => by simp only [EN, Nat.reduceEqDiff, reduceIte, qv_move, strEq, hB1.cell, hg24_16, GR]; rfl) ?_
                  refine LD.cq2 rfl rfl (t := 144) rfl (by simp only [EN, Nat.reduceEqDiff, reduceIte, k17_f24, strEq, hB1.cell]; rfl) (fun hC24_17 hg24_17 => by simp only [EN, Nat.reduceEqDiff, reduceIte, qv_move, k17_f24, strEq, hB1.cell, hC24_17, hg24_17, GR]; rfl) ?_
                  refine LD.cq2 rfl rfl (t := 144) rfl (by simp only [EN, Nat.reduceEqDiff, reduceIte, k19_f24, strEq, hB1.cell]; rfl) (fun hC24_18 hg24_18 => by simp only [EN, Nat.reduceEqDiff, reduceIte, qv_move, k19_f24, strEq, hB1.cell, hC24_18, hg24_18, GR]; rfl) ?_
                  refine LD.cq2 rfl rfl (t := 144) rfl (by simp only [EN, Nat.reduceEqDiff, reduceIte, k4_f24, strEq, hB1.cell]; rfl) (fun hC24_19 hg24_19 => by simp only [EN, Nat.reduceEqDiff, reduceIte, qv_load, ld41, readN, AR, Nat.zero_add, Nat.reduceAdd, k4_f24, strEq, hB1.cell, hC24_19, hg24_19, GR]; rfl) ?_
                  refine LD.cq2 rfl rfl (t := 144) rfl (by simp only [EN, Nat.reduceEqDiff, reduceIte, k10_f24, strEq, hB1.cell]; rfl) (fun hC24_20 hg24_20 => by simp only [EN, Nat.reduceEqDiff, reduceIte, qv_move, k10_f24, strEq, hB1.cell, hC24_20, hg24_20, GR]; rfl) ?_
                  refine LD.cq2 rfl rfl (t := 144) rfl (by simp only [EN, Nat.reduceEqDiff, reduceIte, k16_f24, strEq, hB1.cell]; rfl) (fun hC24_21 hg24_21 => by simp only [EN, Nat.reduceEqDiff, reduceIte, qv_move, k16_f24, strEq, hB1.cell, hC24_21, hg24_21, GR]; rfl) ?_
                  refine LD.cck2 rfl rfl (t := 144) rfl (by simp only [EN, Nat.reduceEqDiff, reduceIte, strEq, hB1.cell]; rfl) Try.call50 (fun hC24_22 hg24_22 => by have hC24_22o := hC24_22; (try simp only [hg24_22] at hC24_22); intro hD hr; have hx : Ext _ _ := hr; have ht := ht.ext hx; have hs1 := hs1.ext hx; have hs2 := hs2.ext hx; have hm := hm.ext hx; have hB1 := hB1.ext hx; have hsL := hsL.ext hx; simp only [EN, Nat.reduceEqDiff, reduceIte, AR, strEq, hB1.cell, hC24_22, hC24_22o, hg24_22, GR]; exact c_rNet al L.length cl af F cf a b (by omega) hs2) ?_
                  refine LD.cq2 rfl rfl (t := 144) rfl (by simp only [EN, Nat.reduceEqDiff, reduceIte, strEq, hB1.cell]; rfl) (fun hC24_23 hg24_23 => by have hC24_23o := hC24_23; (try simp only [hg24_23] at hC24_23); have hq0 := hC24_23; (try simp only [BD] at hq0); have hq1 := hg24_23; (try simp only [BD] at hq1); simp only [EN, Nat.reduceEqDiff, reduceIte, qv_binOp, binv_sub, strEq, hB1.cell, hC24_23o, hC24_23, hg24_23, GR]; (try simp (disch := omega) only [w64, w8, wu64]); rfl) ?_
                  refine LD.cq2 rfl rfl (t := 144) rfl (by simp only [EN, Nat.reduceEqDiff, reduceIte, strEq, hB1.cell]; rfl) (fun hC24_24 hg24_24 => by have hC24_24o := hC24_24; (try simp only [hg24_24] at hC24_24); simp only [EN, Nat.reduceEqDiff, reduceIte, qv_binOp, binv_neq, eq2, Option.map_some, strEq, hB1.cell, hC24_24o, hC24_24, hg24_24, GR]; rfl) ?_
                  refine LD.cq rfl rfl (gd_at (t := 142) rfl (by simp only [EN, Nat.reduceEqDiff, reduceIte, strEq, hB1.cell] <;> rfl)) (fun hg24_25 => by simp only [EN, Nat.reduceEqDiff, reduceIte, qv_pick, pk_and, pk_or, GR, strEq, hB1.cell, hg24_25, GR]; rfl) ?_
                  refine LD.qq rfl rfl (by simp only [EN, Nat.reduceEqDiff, reduceIte, qv_pick, pk_and, pk_or, GR, strEq, hB1.cell]; rfl) ?_
                  refine LD.qq rfl rfl (by simp only [EN, Nat.reduceEqDiff, reduceIte, qv_move, strEq, hB1.cell]; rfl) ?_
                  refine LD.cq rfl rfl (gd_at (t := 155) rfl (by simp only [EN, Nat.reduceEqDiff, reduceIte, k18_f24, strEq, hB1.cell] <;> rfl)) (fun hg24_28 => by simp only [EN, Nat.reduceEqDiff, reduceIte, qv_move, k18_f24, strEq, hB1.cell, hg24_28, GR]; rfl) ?_
                  refine LD.cq rfl rfl (gd_at (t := 155) rfl (by simp only [EN, Nat.reduceEqDiff, reduceIte, strEq, hB1.cell] <;> rfl)) (fun hg24_29 => by simp only [EN, Nat.reduceEqDiff, reduceIte, qv_unOp, unv_not, strEq, hB1.cell, hg24_29, GR]; rfl) ?_
                  refine LD.cq rfl rfl (gd_at (t := 155) rfl (by simp only [EN, Nat.reduceEqDiff, reduceIte, strEq, hB1.cell] <;> rfl)) (fun hg24_30 => by simp only [EN, Nat.reduceEqDiff, reduceIte, qv_move, strEq, hB1.cell, hg24_30, GR]; rfl) ?_
                  refine LD.cq2 rfl rfl (t := 158) rfl (by simp only [EN, Nat.reduceEqDiff, reduceIte, k17_f24, strEq, hB1.cell]; rfl) (fun hC24_31 hg24_31 => by simp only [EN, Nat.reduceEqDiff, reduceIte, qv_move, k17_f24, strEq, hB1.cell, hC24_31, hg24_31, GR]; rfl) ?_
                  refine LD.cq2 rfl rfl (t := 158) rfl (by simp only [EN, Nat.reduceEqDiff, reduceIte, strEq, hB1.cell]; rfl) (fun hC24_32 hg24_32 => by have hC24_32o := hC24_32; (try simp only [hg24_32] at hC24_32); simp only [EN, Nat.reduceEqDiff, reduceIte, qv_binOp, binv_neq, eq2, Option.map_some, strEq, hB1.cell, hC24_32o, hC24_32, hg24_32, GR]; rfl) ?_
                  refine LD.cq rfl rfl (gd_at (t := 155) rfl (by simp only [EN, Nat.reduceEqDiff, reduceIte, strEq, hB1.cell] <;> rfl)) (fun hg24_33 => by simp only [EN, Nat.reduceEqDiff, reduceIte, qv_pick, pk_and, pk_or, GR, strEq, hB1.cell, hg24_33, GR]; rfl) ?_
                  refine LD.qq rfl rfl (by simp only [EN, Nat.reduceEqDiff, reduceIte, qv_pick, pk_and, pk_or, GR, strEq, hB1.cell]; rfl) ?_
                  refine LD.nil ?_
                  rintro h8 hx8 hF24
                  replace hx8 : Ext _ _ := hx8
                  replace ht := ht.ext hx8
                  replace hs1 := hs1.ext hx8
                  replace hs2 := hs2.ext hx8
                  replace hm := hm.ext hx8
                  replace hB1 := hB1.ext hx8
                  replace hsL := hsL.ext hx8
                  refine WL.nil ?_
                  refine th_norm ?_
                  refine hx_cond (by simp only [EN, Nat.reduceEqDiff, reduceIte, strEq, hB1.cell]; rfl) (fun hct162 => ?_) (fun hct162 => ?_)
                  ·
                    exfalso; cases d2 <;> by_cases hbe : b = em <;> simp [hbe] at hc2 <;> simp [hc2, hn2, hbe] at hct162
                  ·
                    try simp only [BD] at hct162
                    refine hx_skip ?_
                    refine bl_norm ?_
                    refine th_norm ?_
                    refine hx_region ?_
                    refine WL.qq (by simp only [EN, Nat.reduceEqDiff, reduceIte, qv_move, k15_f24, strEq, hB1.cell]; rfl) ?_
                    refine WL.qq (by simp only [EN, Nat.reduceEqDiff, reduceIte, qv_binOp, binv_add, strEq, hB1.cell]; (try simp (disch := omega) only [w64, w8, wu64]); rfl) ?_
                    refine WL.qq (by simp only [EN, Nat.reduceEqDiff, reduceIte, qv_assign, strEq, hB1.cell]; rfl) ?_
                    refine WL.nil ?_
                    refine th_norm ?_
                    refine ⟨rfl, ?_, ?_, _, ?_, j2 + 1, rfl, ?_, ?_⟩  -- again 0 of loop 2
                    · exact (hx6).trans ((hx7).trans (hx8))
                    · (repeat (first | exact Fr.refl _ _ | refine Fr.set rfl ?_ | refine Fr.put rfl ?_ | with_reducible refine Fr.put0 ?_ | refine Fr.trans ?_ (Fr.of hfcf24 rfl) | refine Fr.trans ?_ (Fr.of hfcf22 rfl) | refine Fr.trans ?_ (Fr.of hfcf20 rfl)))
                    · omega
                    · omega
                    · simp only [EN, Nat.reduceEqDiff, reduceIte, k0_f24, k2_f24, k4_f24, k9_f24, k10_f24, k15_f24, k16_f24, k17_f24, k18_f24, k19_f24, k20_f24, strEq, hB1.cell] <;> first | rfl | (congr 1; omega)
                ·
                  try simp only [BD] at hct102
                  refine hx_exit ?_
                  refine th_exit ?_
                  refine th_exit ?_
                  refine bl_hit ?_
                  refine bl_norm ?_
                  refine th_norm ?_
                  refine hx_region ?_
                  refine WL.qq (by simp only [EN, Nat.reduceEqDiff, reduceIte, qv_move, k9_2, strEq, hB1.cell]; rfl) ?_
                  refine WL.qq (by simp only [EN, Nat.reduceEqDiff, reduceIte, qv_binOp, binv_add, strEq, hB1.cell]; (try simp (disch := omega) only [w64, w8, wu64]); rfl) ?_
                  refine WL.qq (by simp only [EN, Nat.reduceEqDiff, reduceIte, qv_assign, strEq, hB1.cell]; rfl) ?_
                  refine WL.nil ?_
                  refine th_norm ?_
                  refine ⟨rfl, ?_, ?_, _, ?_, j + 1, rfl, ?_, ?_⟩  -- again 0 of loop 1
                  · exact (hx3).trans ((hx4).trans ((hx5).trans (hX2)))
                  · (repeat (first | exact Fr.refl _ _ | refine Fr.set rfl ?_ | refine Fr.put rfl ?_ | with_reducible refine Fr.put0 ?_ | refine Fr.trans ?_ (Fr.of hfr2 rfl) | refine Fr.trans ?_ (Fr.of hfcf15 rfl) | refine Fr.trans ?_ (Fr.of hfcf13 rfl)))
                  · omega
                  · omega
                  · simp only [EN, Nat.reduceEqDiff, reduceIte, k0_2, k2_2, k4_2, k9_2, k10_2, i15_2, strEq, hB1.cell] <;> first | rfl | (congr 1; omega)
          ·
            try simp only [BD] at hct48
            refine hx_exit ?_
            refine th_exit ?_
            refine th_exit ?_
            refine bl_hit ?_
            refine th_norm ?_
            refine hx_seq ?_
            refine hx_region ?_
            refine WL.qq (by simp only [EN, Nat.reduceEqDiff, reduceIte, qv_assign, strEq, hB1.cell]; rfl) ?_
            refine WL.nil ?_
            refine th_norm ?_
            refine hx_ret ?_
            refine fin_ret [.tmp 6] rfl rfl (by simp only [EN, Nat.reduceEqDiff, reduceIte, resv, k0_1, k2_1, k4_1, i9_1, strEq, hB1.cell]; rfl) ?_  -- ret 0 r26
            exact ⟨rfl, ((hx1).trans ((hx2).trans (hX1)))⟩
end GL


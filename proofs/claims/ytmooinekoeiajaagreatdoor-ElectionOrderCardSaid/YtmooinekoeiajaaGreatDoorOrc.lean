/- Part 3 of the texts of one law: what it needs of the logic of heaps, of the walks, of the plain facts. -/
import Derived.Test.YtmooinekoeiajaaGreatDoorOrb
import Derived.Lib.FrozenHead
import Derived.Laws.IdiomStrings
set_option linter.unusedSimpArgs false
set_option linter.unusedVariables false
set_option linter.unnecessarySimpa false
namespace GL
open Go Go.Proofs
set_option maxRecDepth 8000
abbrev natL (n : Nat) : List Value := [iV n]
abbrev tyI : TypeId := 2
abbrev tyPp : TypeId := 148
theorem c_div64p (t w S : Nat) (ht : t ≤ 1000000000000000) (hw : w ≤ S) (hS0 : 0 < S) (hS : S ≤ 1000000000000000) (h : Heap) :
    HCalls Tryz.prog 74 #[uV (t * w / 18446744073709551616), uV (t * w % 18446744073709551616), uV S] h (Pure (.tuple #[uV (t * w / S), uV (t * w % S)]) h) := by
  have h1 : t * w / 18446744073709551616 < S := by
    rw [Nat.div_lt_iff_lt_mul (by decide), Nat.mul_comm S]
    have h2 := Nat.mul_le_mul ht hw
    omega
  have h2 := c_div64 _ (t * w % 18446744073709551616) S h1 (Nat.mod_lt _ (by decide)) (by omega) h
  rwa [Nat.div_add_mod'] at h2
theorem ws_at {h : Heap} {a : Option Addr} {ws : List Nat} (hs : SlG 1 natL h a ws) {i w : Nat} (hw : ws[i]? = some w) : ∃ b off, a = some ⟨b, off, none⟩ ∧ GL.cell h b (off + i) = some (iV w) := by
  obtain ⟨b, off, ha, hr⟩ := hs i w hw
  have hc := readN_cell hr 0 _ rfl
  rw [Nat.add_zero, Nat.mul_one] at hc
  exact ⟨b, off, ha, hc⟩
theorem rep_at {α : Type} {l : List α} {z : α} {i n : Nat} (hi : i < n) (hl : i ≤ l.length) : (l.take i ++ List.replicate (n - i) z)[i]? = some z := by
  rw [List.getElem?_append_right (by rw [List.length_take]; omega), List.length_take, Nat.min_eq_left hl, Nat.sub_self, List.getElem?_replicate, if_pos (by omega)]
theorem rep_set {α : Type} {l : List α} {z x : α} {i n : Nat} (hi : i < n) (hx : l[i]? = some x) : (l.take i ++ List.replicate (n - i) z).set i x = l.take (i + 1) ++ List.replicate (n - (i + 1)) z := by
  have hl := (List.getElem?_eq_some_iff.1 hx).1
  rw [show n - i = (n - (i + 1)) + 1 by omega, List.replicate_succ, List.take_add_one, hx]
  have h1 : (l.take i).length = i := by rw [List.length_take]; omega
  rw [List.set_append_right _ _ (by omega), h1, Nat.sub_self]
  simp
theorem rep_len {α : Type} {l : List α} {z : α} {i n : Nat} (hi : i ≤ n) (hl : l.length = n) : (l.take i ++ List.replicate (n - i) z).length = n := by
  rw [List.length_append, List.length_take, List.length_replicate]; omega
set_option maxHeartbeats 4000000 in
theorem c_split (t : Nat) (a : Option Addr) (ws : List Nat) (c : Nat) (ht : t ≤ 1000000000000000) (hn : ws.length ≤ 4096) (hS : 0 < ws.sum) (hS2 : ws.sum ≤ 1000000000000000) {h : Heap} (hs : SlG 1 natL h a ws) :
    HCalls Tryz.prog 56 #[iV t, .slice a ws.length c] h fun v h' => Ext h h' ∧ ∃ u, v = .tuple #[u, iV 0] ∧ Own h' h.size tyI 1 u ws.length ((splL t ws).flatMap natL) := by
  have hn0 : ws.length ≠ 0 := fun hh => by rw [List.length_eq_zero_iff.1 hh] at hS; simp at hS
  obtain ⟨hsl, hlf⟩ := shr_le (t := t) hS
  obtain ⟨S, hSe⟩ : ∃ S, S = ws.sum := ⟨_, rfl⟩
  have hwS : ∀ w ∈ ws, w ≤ S := fun w hw => by rw [hSe]; exact mem_sum_le hw
  rw [← hSe] at hsl hS hS2
  refine hcalls2 Tryz.func56 rfl (by decide +kernel) (by simp only [Tryz.ntmps56]; exact of_decide_eq_true rfl) ?_
  intro e hin
  have e0 := hin 0 _ rfl
  have e1 := hin 1 _ rfl
  refine hx_seq (hx_region ?_)
  iterate 2 refine WL.qq (by simp only [EN, Nat.reduceEqDiff, reduceIte, qv_assign]; rfl) ?_
  refine WL.nil (th_norm (hx_seq (hx_block (hx_seq (hx_region ?_)))))
  iterate 4 refine WL.qq (by simp only [EN, Nat.reduceEqDiff, reduceIte, qv_move, e1, qv_len, ln55, AR, qv_binOp, binv_eql, eq3, Option.map_some, qv_assign]; rfl) ?_
  refine WL.nil (th_norm ?_)
  refine hx_cond (by simp only [EN, Nat.reduceEqDiff, reduceIte]; rfl) (fun hct23 => ?_) (fun hct23 => ?_)
  ·
   simp at hct23; exact absurd (by rw [hct23]; rfl) hn0
  ·
   try simp only [BD] at hct23
   refine hx_seq (hx_region ?_)
   iterate 4 refine WL.qq (by simp only [EN, Nat.reduceEqDiff, reduceIte, qv_move, e1, qv_len, ln55, AR, qv_binOp, binv_gtr, qv_assign]; rfl) ?_
   refine WL.nil (th_norm ?_)
   refine hx_cond (by simp only [EN, Nat.reduceEqDiff, reduceIte]; rfl) (fun hct27 => ?_) (fun hct27 => ?_)
   ·
    simp at hct27; omega
   ·
    try simp only [BD] at hct27
    refine hx_skip (bl_norm (th_norm (hx_seq (hx_region ?_))))
    refine WL.qq (by simp only [EN, Nat.reduceEqDiff, reduceIte, qv_assign]; rfl) ?_
    refine WL.nil (th_norm (hx_seq (hx_seq (hx_region ?_))))
    iterate 3 refine WL.qq (by simp only [EN, Nat.reduceEqDiff, reduceIte, qv_move, e1, qv_len, ln55, AR]; rfl) ?_
    refine WL.nil (th_norm (hx_block ?_))
    refine hx_loopS [4, 5, 6, 8, 33, 34, 35, 36, 37, 38, 39, 40, 41, 42, 43, 44, 45, 46, 47] (fun k e => ∃ (i : Nat), ws.length - i = k ∧ (i ≤ ws.length) ∧ e 33 = .int .i64 i ∧ e 6 = uV (ws.take i).sum) _ ⟨0, rfl, ?_, ?_, ?_⟩ ?_
    · omega
    · simp only [EN, Nat.reduceEqDiff, reduceIte, e0, e1] <;> rfl
    · simp only [EN, Nat.reduceEqDiff, reduceIte, e0, e1] <;> rfl
    ·
     rintro k e0L hfr0 ⟨i, rfl, hi, i33_0, i6_0⟩
     have k0_0 := hfr0 0 rfl; try simp only [EN, Nat.reduceEqDiff, reduceIte, e0] at k0_0
     have k1_0 := hfr0 1 rfl; try simp only [EN, Nat.reduceEqDiff, reduceIte, e1] at k1_0
     have k31_0 := hfr0 31 rfl; try simp only [EN, Nat.reduceEqDiff, reduceIte] at k31_0
     have k32_0 := hfr0 32 rfl; try simp only [EN, Nat.reduceEqDiff, reduceIte] at k32_0
     refine hx_seq (hx_region ?_)
     refine WL.qq (by simp only [EN, Nat.reduceEqDiff, reduceIte, qv_binOp, binv_lss, k32_0, i33_0]; rfl) ?_
     refine WL.nil (th_norm (hx_seq ?_))
     refine hx_cond (by simp only [EN, Nat.reduceEqDiff, reduceIte]; rfl) (fun hct34 => ?_) (fun hct34 => ?_)
     ·
      try simp only [BD] at hct34
      obtain ⟨w, hw⟩ := atG (l := ws) (i := i) (by omega)
      obtain ⟨b, off, ha, hc0⟩ := ws_at hs hw
      have hwl := hwS w (List.mem_of_getElem? hw); have hst := take_sum_step hw; have hts := take_sum_le ws (i + 1); rw [← hSe] at hts
      refine hx_skip (th_norm (hx_seq (hx_block (hx_seq (hx_region ?_)))))
      refine WL.qq (by simp only [EN, Nat.reduceEqDiff, reduceIte, qv_indexAddr, k31_0, i33_0, ha]; (try simp (disch := omega) only [ix55, Int.toNat_natCast]); rfl) ?_
      refine WL.qq (by simp only [EN, Nat.reduceEqDiff, reduceIte, k0_0, k1_0, k31_0, k32_0, i33_0, i6_0, qv_load, ld2, Int.toNat_natCast, hc0]; rfl) ?_
      refine WL.qq (by simp only [EN, Nat.reduceEqDiff, reduceIte, qv_assign]; rfl) ?_
      refine WL.nil (th_norm (hx_seq (hx_seq (hx_region ?_))))
      iterate 3 refine WL.qq (by simp only [EN, Nat.reduceEqDiff, reduceIte, qv_move, qv_binOp, binv_lss]; rfl) ?_
      refine WL.cq (gd_at (t := 39) rfl (by simp only [EN, Nat.reduceEqDiff, reduceIte] <;> rfl)) (fun hg9_3 => by simp only [EN, Nat.reduceEqDiff, reduceIte, qv_move, hg9_3, GR]; rfl) ?_
      refine WL.cq (gd_at (t := 39) rfl (by simp only [EN, Nat.reduceEqDiff, reduceIte] <;> rfl)) (fun hg9_4 => by simp only [EN, Nat.reduceEqDiff, reduceIte, qv_binOp, binv_gtr, hg9_4, GR]; rfl) ?_
      refine WL.qq (by simp only [EN, Nat.reduceEqDiff, reduceIte, qv_pick, pk_and, pk_or, GR]; rfl) ?_
      refine WL.nil (th_norm ?_)
      refine hx_cond (by simp only [EN, Nat.reduceEqDiff, reduceIte]; rfl) (fun hct42 => ?_) (fun hct42 => ?_)
      ·
       simp at hct42; omega
      ·
       try simp only [BD] at hct42
       refine hx_skip (th_norm (hx_region ?_))
       iterate 2 refine WL.qq (by simp only [EN, Nat.reduceEqDiff, reduceIte, qv_move, i6_0]; rfl) ?_
       refine WL.qq (by refine Eq.trans (b := some (uV w)) ?_ rfl; simp only [EN, Nat.reduceEqDiff, reduceIte, k0_0, k1_0, k31_0, k32_0, i33_0, i6_0, qv_convert, convv, Tryz.underlying2, Tryz.underlying136]; congr 2; exact wu64 (by omega) (by omega)) ?_
       refine WL.qq (by simp only [EN, Nat.reduceEqDiff, reduceIte, k0_0, k1_0, k31_0, k32_0, i33_0, i6_0, qv_binOp]; exact addU _ _ (by omega)) ?_
       refine WL.qq (by simp only [EN, Nat.reduceEqDiff, reduceIte, qv_assign]; rfl) ?_
       refine WL.nil (bl_norm (th_norm (hx_region ?_)))
       iterate 2 refine WL.qq (by simp only [EN, Nat.reduceEqDiff, reduceIte, qv_binOp, binv_add, i33_0, qv_move]; (try simp (disch := omega) only [w64, w8, wu64]); rfl) ?_
       refine WL.nil (th_norm ?_)
       refine ⟨rfl, rfl, ?_, _, ?_, i + 1, rfl, ?_, ?_, ?_⟩
       · (repeat (first | exact Fr.refl _ _ | refine Fr.set rfl ?_ | refine Fr.put rfl ?_ | with_reducible refine Fr.put0 ?_))
       · omega
       · omega
       · simp only [EN, Nat.reduceEqDiff, reduceIte, k0_0, k1_0, k31_0, k32_0, i33_0, i6_0] <;> first | rfl | (congr 1; omega)
       · simp only [EN, Nat.reduceEqDiff, reduceIte, k0_0, k1_0, k31_0, k32_0, i33_0, i6_0] <;> rw [hst]
     ·
      try simp only [BD] at hct34
      have hie : ws.take i = ws := List.take_of_length_le (by omega)
      rw [hie, ← hSe] at i6_0
      refine hx_exit (th_exit (th_exit (bl_hit (th_norm (hx_seq (hx_block (hx_seq (hx_region ?_))))))))
      iterate 3 refine WL.qq (by simp only [EN, Nat.reduceEqDiff, reduceIte, qv_move, i6_0, qv_binOp, binv_eql, eq136, Option.map_some, qv_assign]; rfl) ?_
      refine WL.nil (th_norm ?_)
      refine hx_cond (by simp only [EN, Nat.reduceEqDiff, reduceIte]; rfl) (fun hct48 => ?_) (fun hct48 => ?_)
      ·
       simp at hct48; omega
      ·
       try simp only [BD] at hct48
       refine hx_seq (hx_region ?_)
       iterate 3 refine WL.qq (by simp only [EN, Nat.reduceEqDiff, reduceIte, qv_move, i6_0, qv_binOp, binv_gtr]; rfl) ?_
       refine WL.cq (gd_at (t := 54) rfl (by simp only [EN, Nat.reduceEqDiff, reduceIte, k0_0] <;> rfl)) (fun hg15_3 => by simp only [EN, Nat.reduceEqDiff, reduceIte, qv_move, k0_0, hg15_3, GR]; rfl) ?_
       refine WL.cck (gd_at (t := 54) rfl (by simp only [EN, Nat.reduceEqDiff, reduceIte] <;> rfl)) Tryz.call71 (fun hg15_4 => by simp only [EN, Nat.reduceEqDiff, reduceIte, AR, hg15_4, GR]; exact c_valid t _) ?_
       refine WL.cq (gd_at (t := 54) rfl (by simp only [EN, Nat.reduceEqDiff, reduceIte] <;> rfl)) (fun hg15_5 => by simp only [EN, Nat.reduceEqDiff, reduceIte, qv_unOp, unv_not, hg15_5, GR]; rfl) ?_
       iterate 2 refine WL.qq (by simp only [EN, Nat.reduceEqDiff, reduceIte, qv_pick, pk_and, pk_or, GR, qv_assign]; rfl) ?_
       refine WL.nil (th_norm ?_)
       refine hx_cond (by simp only [EN, Nat.reduceEqDiff, reduceIte]; rfl) (fun hct51 => ?_) (fun hct51 => ?_)
       ·
        simp at hct51; omega
       ·
        try simp only [BD] at hct51
        refine hx_skip (bl_norm (th_norm (hx_seq (hx_region ?_))))
        refine WL.qq (by simp only [EN, Nat.reduceEqDiff, reduceIte, qv_move, k0_0]; rfl) ?_
        refine WL.ck Tryz.call72 (by simp only [EN, Nat.reduceEqDiff, reduceIte, AR]; exact c_magn t ht _) ?_
        iterate 5 refine WL.qq (by simp only [EN, Nat.reduceEqDiff, reduceIte, qv_move, qv_extract, AR, qv_assign]; rfl) ?_
        refine WL.nil (th_norm (hx_seq (hx_region ?_)))
        iterate 2 refine WL.qq (by simp only [EN, Nat.reduceEqDiff, reduceIte, qv_move, k1_0, qv_len, ln55, AR]; rfl) ?_
        refine WL.ef _ (e_makeSl (n := ws.length) (sz := 1) (bytes := 8) Tryz.underlying55 (inf_of Tryz.type2) rfl rfl rfl (by simp only [EN, Nat.reduceEqDiff, reduceIte, k0_0, k1_0, k31_0, k32_0, i33_0, i6_0]; rfl) (by simp only [EN, Nat.reduceEqDiff, reduceIte, k0_0, k1_0, k31_0, k32_0, i33_0, i6_0]; rfl) (by omega) (by simp only [maxLen]; omega)) ?_
        rintro _ h30 ⟨hx30, rfl, ho30⟩
        simp only [put_some]
        have hzf := made_flat (f := natL) (sz := 1) (z := 0) (zc := (#[iV 0] : Array Value)) rfl rfl (by decide) ws.length
        have ho31 : Own h30 h.size tyI 1 (.slice (some ⟨h.size, 0, none⟩) ws.length ws.length) ws.length ((List.replicate ws.length 0).flatMap natL) := (by rw [← hzf]; exact ho30)
        refine WL.qq (by simp only [EN, Nat.reduceEqDiff, reduceIte, qv_assign]; rfl) ?_
        refine WL.nil (th_norm (hx_seq (hx_region ?_)))
        iterate 2 refine WL.qq (by simp only [EN, Nat.reduceEqDiff, reduceIte, qv_move, k1_0, qv_len, ln55, AR]; rfl) ?_
        refine WL.ef _ (e_makeSl (n := ws.length) (sz := 2) (bytes := 16) Tryz.underlying145 (inf_of Tryz.type148) rfl rfl rfl (by simp only [EN, Nat.reduceEqDiff, reduceIte, k0_0, k1_0, k31_0, k32_0, i33_0, i6_0]; rfl) (by simp only [EN, Nat.reduceEqDiff, reduceIte, k0_0, k1_0, k31_0, k32_0, i33_0, i6_0]; rfl) (by omega) (by simp only [maxLen]; omega)) ?_
        rintro _ h32 ⟨hx32, rfl, ho32⟩
        simp only [put_some]
        have hzp := made_flat (f := spL) (sz := 2) (z := (⟨0, 0⟩ : SP)) (zc := (#[iV 0, uV 0] : Array Value)) rfl rfl (by decide) ws.length
        have ho33 : Own h32 h30.size tyPp 2 (.slice (some ⟨h30.size, 0, none⟩) ws.length ws.length) ws.length ((List.replicate ws.length (⟨0, 0⟩ : SP)).flatMap spL) := (by rw [← hzp]; exact ho32)
        replace ho31 := ho31.ext hx32
        have hX32 := hx30.trans hx32
        have hkz := hx30.size
        generalize hg1 : Array.size h = g1 at ho31 hkz ⊢
        generalize hg2 : Array.size h30 = g2 at ho33 hkz ⊢
        refine WL.qq (by simp only [EN, Nat.reduceEqDiff, reduceIte, qv_assign]; rfl) ?_
        refine WL.nil (th_norm (hx_seq (hx_region ?_)))
        iterate 2 refine WL.qq (by simp only [EN, Nat.reduceEqDiff, reduceIte, qv_move, qv_assign]; rfl) ?_
        refine WL.nil (th_norm (hx_seq (hx_seq (hx_region ?_))))
        iterate 3 refine WL.qq (by simp only [EN, Nat.reduceEqDiff, reduceIte, qv_move, k1_0, qv_len, ln55, AR]; rfl) ?_
        refine WL.nil (th_norm (hx_block ?_))
        refine hx_loopG [13, 14, 15, 16, 17, 18, 19, 73, 74, 75, 76, 77, 78, 79, 80, 81, 82, 83, 84, 85, 86, 87, 88, 89, 90, 91, 92, 93, 94, 95, 96, 97, 98, 99, 100, 101, 102, 103, 104, 105, 106] (fun k e hL1 => ∃ (i : Nat), ws.length - i = k ∧ (i ≤ ws.length) ∧ (Ext h hL1) ∧ (Own hL1 g1 tyI 1 (.slice (some ⟨g1, 0, none⟩) ws.length ws.length) ws.length (((shr t S ws).take i ++ List.replicate (ws.length - i) 0).flatMap natL)) ∧ (Own hL1 g2 tyPp 2 (.slice (some ⟨g2, 0, none⟩) ws.length ws.length) ws.length (((rst t S ws).take i ++ List.replicate (ws.length - i) (⟨0, 0⟩ : SP)).flatMap spL)) ∧ e 73 = .int .i64 i ∧ e 13 = uV (t - ((shr t S ws).take i).sum)) _ ⟨0, rfl, ?_, ?_, ?_, ?_, ?_, ?_⟩ ?_
        · omega
        · exact hX32
        · exact ho31
        · exact ho33
        · simp only [EN, Nat.reduceEqDiff, reduceIte, k0_0, k1_0, k31_0, k32_0, i33_0, i6_0] <;> rfl
        · simp only [EN, Nat.reduceEqDiff, reduceIte, k0_0, k1_0, k31_0, k32_0, i33_0, i6_0] <;> rfl
        ·
         rintro k e1L hL1 hfr1 ⟨i, rfl, hi, hX, ho, hp, i73_1, i13_1⟩
         have k6_1 := hfr1 6 rfl; try simp only [EN, Nat.reduceEqDiff, reduceIte, i6_0] at k6_1
         have k9_1 := hfr1 9 rfl; try simp only [EN, Nat.reduceEqDiff, reduceIte] at k9_1
         have k10_1 := hfr1 10 rfl; try simp only [EN, Nat.reduceEqDiff, reduceIte] at k10_1
         have k11_1 := hfr1 11 rfl; try simp only [EN, Nat.reduceEqDiff, reduceIte] at k11_1
         have k12_1 := hfr1 12 rfl; try simp only [EN, Nat.reduceEqDiff, reduceIte] at k12_1
         have k71_1 := hfr1 71 rfl; try simp only [EN, Nat.reduceEqDiff, reduceIte] at k71_1
         have k72_1 := hfr1 72 rfl; try simp only [EN, Nat.reduceEqDiff, reduceIte] at k72_1
         refine hx_seq (hx_region ?_)
         refine WL.qq (by simp only [EN, Nat.reduceEqDiff, reduceIte, qv_binOp, binv_lss, k72_1, i73_1]; rfl) ?_
         refine WL.nil (th_norm (hx_seq ?_))
         refine hx_cond (by simp only [EN, Nat.reduceEqDiff, reduceIte]; rfl) (fun hct74 => ?_) (fun hct74 => ?_)
         ·
          try simp only [BD] at hct74
          obtain ⟨w, hw⟩ := atG (l := ws) (i := i) (by omega)
          obtain ⟨b, off, ha, hc0⟩ := ws_at (hs.ext hX) hw
          have hwl := hwS w (List.mem_of_getElem? hw); have hshw := shr_at (t := t) (S := S) hw; have hrsw := rst_at (t := t) (S := S) hw; have hst := take_sum_step hshw; have hts := take_sum_le (shr t S ws) (i + 1)
          refine hx_skip (th_norm (hx_seq (hx_block (hx_seq (hx_region ?_)))))
          iterate 2 refine WL.qq (by simp only [EN, Nat.reduceEqDiff, reduceIte, qv_move, i73_1, qv_indexAddr, k71_1, ha]; (try simp (disch := omega) only [ix55, Int.toNat_natCast]); rfl) ?_
          refine WL.qq (by simp only [EN, Nat.reduceEqDiff, reduceIte, k6_1, k9_1, k10_1, k11_1, k12_1, k71_1, k72_1, i73_1, i13_1, qv_load, ld2, Int.toNat_natCast, hc0]; rfl) ?_
          iterate 2 refine WL.qq (by simp only [EN, Nat.reduceEqDiff, reduceIte, qv_assign]; rfl) ?_
          refine WL.nil (th_norm (hx_seq (hx_region ?_)))
          iterate 2 refine WL.qq (by simp only [EN, Nat.reduceEqDiff, reduceIte, qv_move, k9_1]; rfl) ?_
          refine WL.qq (by refine Eq.trans (b := some (uV w)) ?_ rfl; simp only [EN, Nat.reduceEqDiff, reduceIte, k6_1, k9_1, k10_1, k11_1, k12_1, k71_1, k72_1, i73_1, i13_1, qv_convert, convv, Tryz.underlying2, Tryz.underlying136]; congr 2; exact wu64 (by omega) (by omega)) ?_
          refine WL.ck Tryz.call73 (by simp only [EN, Nat.reduceEqDiff, reduceIte, AR]; exact c_mul64 t w (by omega) (by omega) _) ?_
          iterate 5 refine WL.qq (by simp only [EN, Nat.reduceEqDiff, reduceIte, qv_move, qv_extract, AR, qv_assign]; rfl) ?_
          refine WL.nil (th_norm (hx_seq (hx_region ?_)))
          iterate 3 refine WL.qq (by simp only [EN, Nat.reduceEqDiff, reduceIte, qv_move, k6_1]; rfl) ?_
          refine WL.ck Tryz.call74 (by simp only [EN, Nat.reduceEqDiff, reduceIte, AR]; exact c_div64p t w S ht hwl hS hS2 _) ?_
          iterate 5 refine WL.qq (by simp only [EN, Nat.reduceEqDiff, reduceIte, qv_move, qv_extract, AR, qv_assign]; rfl) ?_
          refine WL.nil (th_norm (hx_seq (hx_region ?_)))
          obtain ⟨q, hq⟩ : ∃ q, q = t * w / S := ⟨_, rfl⟩; obtain ⟨r, hr⟩ : ∃ r, r = t * w % S := ⟨_, rfl⟩; rw [← hq] at hshw hst ⊢; rw [← hr] at hrsw ⊢
          iterate 5 refine WL.qq (by simp only [EN, Nat.reduceEqDiff, reduceIte, qv_move, k11_1, k12_1]; rfl) ?_
          refine WL.qq (by refine Eq.trans (b := some (iV q)) ?_ rfl; simp only [EN, Nat.reduceEqDiff, reduceIte, k6_1, k9_1, k10_1, k11_1, k12_1, k71_1, k72_1, i73_1, i13_1, qv_convert, convv, Tryz.underlying2, Tryz.underlying136]; congr 2; exact w64 (by omega) (by omega)) ?_
          iterate 2 refine WL.qq (by simp only [EN, Nat.reduceEqDiff, reduceIte, qv_move]; rfl) ?_
          refine WL.qq (by refine qv_bld (by simp only [EN, Nat.reduceEqDiff, reduceIte, AR] <;> rfl) (by rw [bl148]; simp [Instr.fill, Value.cells]; rfl)) ?_
          refine WL.qq (by simp only [EN, Nat.reduceEqDiff, reduceIte, qv_indexAddr]; (try simp (disch := omega) only [ix55, Int.toNat_natCast]); rfl) ?_
          obtain ⟨cur, hcur, hle, hput⟩ := ho.putAt (f := natL) (sz := 1) (fun _ => rfl) (rep_len (by omega) shr_len).symm rfl (j := i) (k := 0) (y := 0) (y' := q) (vs := [iV q]) (rep_at (by omega) (by rw [shr_len]; omega)) (by simp) rfl
          rw [rep_set (by omega) hshw] at hput
          have hle2 : 0 + i + 1 ≤ cur.size := (by simpa using hle)
          refine WL.store (off := 0 + i) (by simp only [EN, Nat.reduceEqDiff, reduceIte, k6_1, k9_1, k10_1, k11_1, k12_1, k71_1, k72_1, i73_1, i13_1, Int.toNat_natCast] <;> rfl) sz2 (by simp only [EN, Nat.reduceEqDiff, reduceIte, k6_1, k9_1, k10_1, k11_1, k12_1, k71_1, k72_1, i73_1, i13_1, Value.cells] <;> rfl) rfl hcur hle2 (by simp [Value.oneCell']) ?_
          intro h40 hw40
          have ho40 := hput h40 (by simpa using hw40)
          have hp40 := hp.keep (fun x hx => hw40.same x (fun hh => by subst hh; exact hp.ncell hcur (by decide) hx))
          have hX40 := hw40.ext hX (by omega)
          refine WL.qq (by simp only [EN, Nat.reduceEqDiff, reduceIte, qv_indexAddr]; (try simp (disch := omega) only [ix145, Int.toNat_natCast]); rfl) ?_
          obtain ⟨cu2, hcu2, hle3, hput2⟩ := hp40.putAt (f := spL) (sz := 2) (fun _ => rfl) (rep_len (by omega) rst_len).symm rfl (j := i) (k := 0) (y := ⟨0, 0⟩) (y' := ⟨i, r⟩) (vs := [iV i, uV r]) (rep_at (by omega) (by rw [rst_len]; omega)) (by simp) rfl
          rw [rep_set (by omega) hrsw] at hput2
          have hle4 : 0 + i * 2 + 2 ≤ cu2.size := (by simpa using hle3)
          refine WL.store (off := 0 + i * 2) (by simp only [EN, Nat.reduceEqDiff, reduceIte, k6_1, k9_1, k10_1, k11_1, k12_1, k71_1, k72_1, i73_1, i13_1, Int.toNat_natCast] <;> rfl) sz148 (by simp only [EN, Nat.reduceEqDiff, reduceIte, k6_1, k9_1, k10_1, k11_1, k12_1, k71_1, k72_1, i73_1, i13_1, Value.cells] <;> rfl) rfl hcu2 hle4 (by simp [Value.oneCell']) ?_
          intro h41 hw41
          have hp41 := hput2 h41 (by simpa using hw41)
          have ho41 := ho40.keep (fun x hx => hw41.same x (fun hh => by subst hh; exact ho40.ncell hcu2 (by decide) hx))
          have hX41 := hw41.ext hX40 (by omega)
          refine WL.nil (th_norm (hx_region ?_))
          iterate 2 refine WL.qq (by simp only [EN, Nat.reduceEqDiff, reduceIte, qv_move, i13_1]; rfl) ?_
          refine WL.qq (by simp only [EN, Nat.reduceEqDiff, reduceIte, k6_1, k9_1, k10_1, k11_1, k12_1, k71_1, k72_1, i73_1, i13_1, qv_binOp]; exact subU _ _ (by omega) (by omega)) ?_
          refine WL.qq (by simp only [EN, Nat.reduceEqDiff, reduceIte, qv_assign]; rfl) ?_
          refine WL.nil (bl_norm (th_norm (hx_region ?_)))
          iterate 2 refine WL.qq (by simp only [EN, Nat.reduceEqDiff, reduceIte, qv_binOp, binv_add, i73_1, qv_move]; (try simp (disch := omega) only [w64, w8, wu64]); rfl) ?_
          refine WL.nil (th_norm ?_)
          refine ⟨rfl, ?_, _, ?_, i + 1, rfl, ?_, ?_, ?_, ?_, ?_, ?_⟩
          · (repeat (first | exact Fr.refl _ _ | refine Fr.set rfl ?_ | refine Fr.put rfl ?_ | with_reducible refine Fr.put0 ?_))
          · omega
          · omega
          · exact hX41
          · exact ho41
          · exact hp41
          · simp only [EN, Nat.reduceEqDiff, reduceIte, k6_1, k9_1, k10_1, k11_1, k12_1, k71_1, k72_1, i73_1, i13_1] <;> first | rfl | (congr 1; omega)
          · simp only [EN, Nat.reduceEqDiff, reduceIte, k6_1, k9_1, k10_1, k11_1, k12_1, k71_1, k72_1, i73_1, i13_1] <;> rw [hst, Nat.sub_add_eq]
         ·
          try simp only [BD] at hct74
          obtain rfl : i = ws.length := (by omega)
          rw [Nat.sub_self, List.replicate_zero, List.append_nil, ← shr_len (t := t) (S := S) (ws := ws), List.take_length, shr_len] at ho
          rw [Nat.sub_self, List.replicate_zero, List.append_nil, ← rst_len (t := t) (S := S) (ws := ws), List.take_length, rst_len] at hp
          have hlfe : lftN t ws = t - (shr t S ws).sum := (by rw [hSe]; rfl)
          have htk : (shr t S ws).take ws.length = shr t S ws := List.take_of_length_le (by rw [shr_len]; exact Nat.le_refl _)
          rw [htk, ← hlfe] at i13_1
          refine hx_exit (th_exit (th_exit (bl_hit (th_norm (hx_seq (hx_region ?_))))))
          refine WL.qq (by simp only [EN, Nat.reduceEqDiff, reduceIte, qv_move, k12_1]; rfl) ?_
          refine WL.ce Tryz.call75 (by simp only [EN, Nat.reduceEqDiff, reduceIte, k6_1, k9_1, k10_1, k11_1, k12_1, k71_1, k72_1, i73_1, i13_1, AR]; exact hc_sort Tryz.sortP isAggP szP (fun _ => rfl) spL_one swoP Tryz.call76 c_cmpP hp rst_len.symm (by omega) (by decide)) ?_
          rintro _ h60 ⟨L, hLp, hLs, hLo, hLg⟩
          simp only [put_some]
          have hLe : L = ordP (rst t S ws) := ordP_uni hLp rst_nd (hLs.imp fun hxy => ltP_f.1 hxy)
          subst hLe
          have hX60 := hLg.ext hX (fun x hx => by have h9 := (hp.block x hx).1; omega)
          have ho60 := ho.keep (fun x hx => hLg.same x (ho.block x hx).2 (fun hh => by obtain ⟨cu, hcu⟩ := hp.typ x hh; exact ho.ncell hcu (by decide) hx))
          refine WL.nil (th_norm (hx_seq (hx_seq (hx_region ?_))))
          iterate 2 refine WL.qq (by simp only [EN, Nat.reduceEqDiff, reduceIte, qv_move, k12_1, i13_1]; rfl) ?_
          refine WL.qq (by simp only [EN, Nat.reduceEqDiff, reduceIte, k6_1, k9_1, k10_1, k11_1, k12_1, k71_1, k72_1, i73_1, i13_1, qv_slice, Option.map_some, Option.map_none]; exact (show slicev Tryz.prog 145 (.slice (some ⟨g2, 0, none⟩) ws.length ws.length) none (some (uV (lftN t ws))) none = some (.slice (some ⟨g2, 0, none⟩) (lftN t ws) ws.length) by rw [slicev_h Tryz.underlying145 sz148 _ (fun x hx => by cases hx; rfl) ws.length ws.length .u64 (lftN t ws : Int) (by omega) (by omega), Int.toNat_natCast])) ?_
          iterate 2 refine WL.qq (by simp only [EN, Nat.reduceEqDiff, reduceIte, qv_len, ln145, AR, qv_move]; rfl) ?_
          refine WL.nil (th_norm (hx_block ?_))
          refine hx_loopG [21, 113, 114, 115, 116, 117, 118, 119, 120, 121, 122, 123, 124] (fun k e hL2 => ∃ (k2 : Nat), lftN t ws - k2 = k ∧ (k2 ≤ lftN t ws) ∧ (Ext h hL2) ∧ (Own hL2 g1 tyI 1 (.slice (some ⟨g1, 0, none⟩) ws.length ws.length) ws.length ((splK t S ws k2).flatMap natL)) ∧ (Own hL2 g2 tyPp 2 (.slice (some ⟨g2, 0, none⟩) ws.length ws.length) ws.length ((ordP (rst t S ws)).flatMap spL)) ∧ e 113 = .int .i64 k2) _ ⟨0, rfl, ?_, ?_, ?_, ?_, ?_⟩ ?_
          · omega
          · exact hX60
          · rw [splK_0]; exact ho60
          · exact hLo
          · simp only [EN, Nat.reduceEqDiff, reduceIte, k6_1, k9_1, k10_1, k11_1, k12_1, k71_1, k72_1, i73_1, i13_1] <;> rfl
          ·
           rintro k e2L hL2 hfr2 ⟨k2, rfl, hk2, hX, ho, hp, i113_2⟩
           have k10_2 := hfr2 10 rfl; try simp only [EN, Nat.reduceEqDiff, reduceIte, k10_1] at k10_2
           have k11_2 := hfr2 11 rfl; try simp only [EN, Nat.reduceEqDiff, reduceIte, k11_1] at k11_2
           have k111_2 := hfr2 111 rfl; try simp only [EN, Nat.reduceEqDiff, reduceIte] at k111_2
           have k112_2 := hfr2 112 rfl; try simp only [EN, Nat.reduceEqDiff, reduceIte] at k112_2
           refine hx_seq (hx_region ?_)
           refine WL.qq (by simp only [EN, Nat.reduceEqDiff, reduceIte, qv_binOp, binv_lss, k112_2, i113_2]; rfl) ?_
           refine WL.nil (th_norm (hx_seq ?_))
           refine hx_cond (by simp only [EN, Nat.reduceEqDiff, reduceIte]; rfl) (fun hct114 => ?_) (fun hct114 => ?_)
           ·
            try simp only [BD] at hct114
            obtain ⟨p, hpk⟩ := atG (l := ordP (rst t S ws)) (i := k2) (by rw [ord_len]; omega)
            obtain ⟨w, hw, hsw, hstep⟩ := splK_step hpk
            have hpl := (List.getElem?_eq_some_iff.1 hw).1; have hwl := hwS w (List.mem_of_getElem? hw)
            have hqt : t * w / S ≤ t := (by rw [Nat.div_le_iff_le_mul_add_pred hS]; have := Nat.mul_le_mul_left t hwl; rw [Nat.mul_comm S]; omega)
            obtain ⟨b2, o2, ha2, hr2⟩ := slG_own (f := spL) (sz := 2) (fun _ => rfl) hp (by rw [ord_len]) k2 p hpk; cases ha2
            obtain ⟨b3, o3, ha3, hc3⟩ := ws_at (slG_own (f := natL) (sz := 1) (fun _ => rfl) ho splK_len.symm) hsw; cases ha3
            refine hx_skip (th_norm (hx_seq (hx_block (hx_seq (hx_region ?_)))))
            refine WL.qq (by simp only [EN, Nat.reduceEqDiff, reduceIte, qv_indexAddr, k111_2, i113_2]; (try simp (disch := omega) only [ix145, Int.toNat_natCast]); rfl) ?_
            refine WL.qq (by simp only [EN, Nat.reduceEqDiff, reduceIte, k10_2, k11_2, k111_2, k112_2, i113_2, qv_load, ld148, Int.toNat_natCast, hr2]; rfl) ?_
            refine WL.allocSt zr148 sz148 (fun u => by simp only [EN, Nat.reduceEqDiff, reduceIte, Value.cells]; rfl) ⟨rfl, rfl⟩ (by simp [Value.oneCell']) ?_
            intro h1 B1 hx1 hlt1 hB1
            replace hX := hX.ext hx1
            replace ho := ho.ext hx1
            replace hp := hp.ext hx1
            refine WL.nil (th_norm (hx_region ?_))
            obtain ⟨q, hq⟩ : ∃ q, q = t * w / S := ⟨_, rfl⟩; rw [← hq] at hsw hstep hqt
            obtain ⟨b4, o4, ha4, hc4⟩ := ws_at (slG_own (f := natL) (sz := 1) (fun _ => rfl) ho splK_len.symm) hsw; cases ha4
            iterate 3 refine WL.qq (by simp only [EN, Nat.reduceEqDiff, reduceIte, qv_move, k11_2, hB1.cell, qv_fieldAddr, fa148_0, Nat.zero_add, Nat.reduceAdd, qv_load, ld3, readN, AR]; rfl) ?_
            refine WL.qq (by simp only [EN, Nat.reduceEqDiff, reduceIte, qv_indexAddr, hB1.cell]; (try simp (disch := omega) only [ix55, Int.toNat_natCast]); rfl) ?_
            refine WL.qq (by simp only [EN, Nat.reduceEqDiff, reduceIte, k10_2, k11_2, k111_2, k112_2, i113_2, hB1.cell, qv_load, ld2, Int.toNat_natCast, hc4]; rfl) ?_
            iterate 2 refine WL.qq (by simp only [EN, Nat.reduceEqDiff, reduceIte, qv_binOp, binv_add, hB1.cell, qv_indexAddr]; (try simp (disch := omega) only [w64, w8, wu64, ix55, Int.toNat_natCast]); rfl) ?_
            obtain ⟨cur, hcur, hle, hput⟩ := ho.putAt (f := natL) (sz := 1) (fun _ => rfl) splK_len.symm rfl (j := p.i) (k := 0) (y := q) (y' := q + 1) (vs := [iV ((q : Int) + 1)]) hsw (by simp) rfl
            rw [← hstep] at hput
            have hle2 : 0 + p.i + 1 ≤ cur.size := (by simpa using hle)
            refine WL.store (off := 0 + p.i) (by simp only [EN, Nat.reduceEqDiff, reduceIte, k10_2, k11_2, k111_2, k112_2, i113_2, hB1.cell, Int.toNat_natCast] <;> rfl) sz2 (by simp only [EN, Nat.reduceEqDiff, reduceIte, k10_2, k11_2, k111_2, k112_2, i113_2, hB1.cell, Value.cells] <;> rfl) rfl hcur hle2 (by simp [Value.oneCell']) ?_
            intro h40 hw40
            have ho40 := hput h40 (by simpa using hw40)
            have hp40 := hp.keep (fun x hx => hw40.same x (fun hh => by subst hh; exact hp.ncell hcur (by decide) hx))
            have hX40 := hw40.ext hX (by omega)
            refine WL.nil (bl_norm (th_norm (hx_region ?_)))
            iterate 2 refine WL.qq (by simp only [EN, Nat.reduceEqDiff, reduceIte, qv_binOp, binv_add, i113_2, hB1.cell, qv_move]; (try simp (disch := omega) only [w64, w8, wu64]); rfl) ?_
            refine WL.nil (th_norm ?_)
            refine ⟨rfl, ?_, _, ?_, k2 + 1, rfl, ?_, ?_, ?_, ?_, ?_⟩
            · (repeat (first | exact Fr.refl _ _ | refine Fr.set rfl ?_ | refine Fr.put rfl ?_ | with_reducible refine Fr.put0 ?_))
            · omega
            · omega
            · exact hX40
            · exact ho40
            · exact hp40
            · simp only [EN, Nat.reduceEqDiff, reduceIte, k10_2, k11_2, k111_2, k112_2, i113_2, hB1.cell] <;> first | rfl | (congr 1; omega)
           ·
            try simp only [BD] at hct114
            obtain rfl : k2 = lftN t ws := (by omega)
            refine hx_exit (th_exit (th_exit (bl_hit (th_norm (hx_seq (hx_seq (hx_region ?_)))))))
            refine WL.qq (by simp only [EN, Nat.reduceEqDiff, reduceIte, qv_move, k10_2]; rfl) ?_
            refine WL.nil (th_norm ?_)
            refine hx_cond (by simp only [EN, Nat.reduceEqDiff, reduceIte]; rfl) (fun hct125 => ?_) (fun hct125 => ?_)
            ·
             simp at hct125
            ·
             try simp only [BD] at hct125
             refine hx_skip (th_norm (hx_seq (hx_region ?_)))
             iterate 3 refine WL.qq (by simp only [EN, Nat.reduceEqDiff, reduceIte, qv_move, k11_2, qv_assign]; rfl) ?_
             refine WL.nil (th_norm (hx_ret ?_))
             refine fin_ret [.tmp 4, .tmp 5] rfl rfl (by simp only [EN, Nat.reduceEqDiff, reduceIte, resv, k10_2, k11_2, k111_2, k112_2, i113_2]; rfl) ?_
             exact ⟨hX, _, rfl, by rw [show splL t ws = splK t S ws (lftN t ws) by rw [hSe]; rfl]; exact ho⟩
end GL
namespace GL
open Go Go.Proofs
set_option maxRecDepth 8000
theorem one_at' {α : Type} {f : α → List Value} {h : Heap} {a : Option Addr} {L : List α} (hs : SlG 1 f h a L) {i : Nat} {x : α} {y : Value} (hx : L[i]? = some x) (hf : f x = [y]) : ∃ b off, a = some ⟨b, off, none⟩ ∧ GL.cell h b (off + i) = some y := by
  obtain ⟨b, off, ha, hr⟩ := hs i x hx
  rw [hf] at hr
  have hc := readN_cell hr 0 _ rfl
  rw [Nat.add_zero, Nat.mul_one] at hc
  exact ⟨b, off, ha, hc⟩
end GL
namespace GL
open Go Go.Proofs
set_option maxRecDepth 8000
def chN (E : EL) (s : ByteArray) (k : Nat) : Nat := (chE E s k).toNat
def wsE (E : EL) (k : Nat) : List Nat := E.hs.map fun x => chN E x.s k
def capL (c : Nat) (ws : List Nat) : List Nat := if 0 < c ∧ c < ws.sum then splL c ws else ws
theorem chN_i {E : EL} (hb : BdE E) (s : ByteArray) (k : Nat) : chE E s k = (chN E s k : Int) := by
  have h1 : 0 ≤ chE E s k := (hb.ch ⟨s, k⟩).1
  unfold chN; omega
theorem wsE_len {E : EL} {k : Nat} : (wsE E k).length = E.hs.length := by simp [wsE]
theorem wsE_at {E : EL} {k i : Nat} {x : SI} (hx : E.hs[i]? = some x) : (wsE E k)[i]? = some (chN E x.s k) := by
  unfold wsE; rw [List.getElem?_map, hx]; rfl
theorem splL_len {t : Nat} {ws : List Nat} : (splL t ws).length = ws.length := splK_len
theorem capL_len {c : Nat} {ws : List Nat} : (capL c ws).length = ws.length := by
  unfold capL; split
  · exact splL_len
  · rfl
theorem fm_step' {α : Type} {f : α → List Value} {l : List α} {i : Nat} {x : α} (hx : l[i]? = some x) : (l.take (i + 1)).flatMap f = (l.take i).flatMap f ++ f x := by
  rw [List.take_add_one, hx]; simp
section
variable {N p b : Nat} {vh vo : Value} {E : EL} {h : Heap}
set_option maxHeartbeats 4000000 in
theorem c_accepted (hb : BdE E) (kk c : Nat) (x : SI) (hk : E.os[kk]? = some x) (hc : x.n = (c : Int)) (hc2 : c ≤ 1000000000000000) (hS : (wsE E kk).sum ≤ 1000000000000000) (hE : IsE h N p b vh vo E) :
    HCalls Tryz.prog 41 #[.pointer (some ⟨p, 0, none⟩), iV kk] h fun v h' => Ext h h' ∧ Own h' h.size tyI 1 v E.hs.length ((capL c (wsE E kk)).flatMap natL) := by
  obtain ⟨ao, co, rfl, hso⟩ := hE.so
  obtain ⟨ah, ch, rfl, hsh⟩ := hE.sh
  have hp := hE.blk
  have hno := hb.no
  have hnh := hb.nh
  have hwl := wsE_len (E := E) (k := kk)
  have hkl := (List.getElem?_eq_some_iff.1 hk).1
  refine hcalls2 Tryz.func41 rfl (by decide +kernel) (by simp only [Tryz.ntmps41]; exact of_decide_eq_true rfl) ?_
  intro e hin
  have e0 := hin 0 _ rfl
  have e1 := hin 1 _ rfl
  refine hx_seq (hx_region ?_)
  refine WL.qq (by simp only [EN, Nat.reduceEqDiff, reduceIte, qv_assign, hp.cell]; rfl) ?_
  refine WL.nil (th_norm (hx_seq (hx_region ?_)))
  refine WL.qq (by simp only [EN, Nat.reduceEqDiff, reduceIte, qv_assign, hp.cell]; rfl) ?_
  refine WL.nil (th_norm (hx_seq (hx_region ?_)))
  refine WL.qq (by simp only [EN, Nat.reduceEqDiff, reduceIte, qv_assign, hp.cell]; rfl) ?_
  refine WL.nil (th_norm (hx_seq (hx_seq (hx_region ?_))))
  iterate 6 refine WL.qq (by simp only [EN, Nat.reduceEqDiff, reduceIte, qv_move, e0, hp.cell, qv_nilCheck, qv_fieldAddr, fa85_0, Nat.zero_add, Nat.reduceAdd, qv_load, ld79, readN, AR, qv_len, ln79]; rfl) ?_
  refine WL.nil (th_norm (hx_block ?_))
  refine hx_loopG [5, 6, 8, 9, 16, 17, 18, 19, 20, 21, 22, 23, 24, 25, 26, 27, 28, 29, 30, 31, 32, 33, 34, 35, 36] (fun k e hL0 => ∃ (i : Nat) (v : Value), E.hs.length - i = k ∧ (i ≤ E.hs.length) ∧ (Ext h hL0) ∧ (IsE hL0 N p b (.slice ah E.hs.length ch) (.slice ao E.os.length co) E) ∧ (Has hL0 p (.cells #[.slice ah E.hs.length ch, .slice ao E.os.length co, iV E.d, iV E.dd, iV E.dm, .map (some b), .bool E.cl] tyEl)) ∧ (Own hL0 h.size tyI 1 v i (((wsE E kk).take i).flatMap natL)) ∧ e 16 = .int .i64 i ∧ e 5 = v ∧ e 6 = iV ((wsE E kk).take i).sum) _ ⟨0, .slice none 0 0, rfl, ?_, ?_, ?_, ?_, ?_, ?_, ?_, ?_⟩ ?_
  · omega
  · exact Ext.refl _
  · exact hE
  · exact hE.blk
  · exact Own.nil
  · simp only [EN, Nat.reduceEqDiff, reduceIte, e0, e1, hp.cell] <;> rfl
  · simp only [EN, Nat.reduceEqDiff, reduceIte, e0, e1, hp.cell] <;> rfl
  · simp only [EN, Nat.reduceEqDiff, reduceIte, e0, e1, hp.cell] <;> rfl
  ·
   rintro k e0L hL0 hfr0 ⟨i, v, rfl, hi, hX, hE, hp, ho, i16_0, i5_0, i6_0⟩
   have k0_0 := hfr0 0 rfl; try simp only [EN, Nat.reduceEqDiff, reduceIte, e0, hp.cell] at k0_0
   have k1_0 := hfr0 1 rfl; try simp only [EN, Nat.reduceEqDiff, reduceIte, e1, hp.cell] at k1_0
   have k14_0 := hfr0 14 rfl; try simp only [EN, Nat.reduceEqDiff, reduceIte, hp.cell] at k14_0
   have k15_0 := hfr0 15 rfl; try simp only [EN, Nat.reduceEqDiff, reduceIte, hp.cell] at k15_0
   refine hx_seq (hx_region ?_)
   refine WL.qq (by simp only [EN, Nat.reduceEqDiff, reduceIte, qv_binOp, binv_lss, k15_0, i16_0, hp.cell, hp.cell]; rfl) ?_
   refine WL.nil (th_norm (hx_seq ?_))
   refine hx_cond (by simp only [EN, Nat.reduceEqDiff, reduceIte, hp.cell, hp.cell]; rfl) (fun hct17 => ?_) (fun hct17 => ?_)
   ·
    try simp only [BD] at hct17
    obtain ⟨y, hy⟩ := atG (l := E.hs) (i := i) (by omega)
    obtain ⟨ah2, ch2, hv2, hsh2⟩ := hE.sh; cases hv2; obtain ⟨b1, o1, ha1, hr2, _⟩ := si_rd hsh2 hy
    have hwy := wsE_at (k := kk) hy; have hst := take_sum_step hwy; have hts := take_sum_le (wsE E kk) (i + 1); have hci := chN_i hb y.s kk
    refine hx_skip (th_norm (hx_seq (hx_block (hx_seq (hx_region ?_)))))
    refine WL.qq (by simp only [EN, Nat.reduceEqDiff, reduceIte, qv_indexAddr, k14_0, i16_0, hp.cell, hp.cell, ha1]; (try simp (disch := omega) only [ix79, Int.toNat_natCast]); rfl) ?_
    refine WL.qq (by simp only [EN, Nat.reduceEqDiff, reduceIte, k0_0, k1_0, k14_0, k15_0, i16_0, i5_0, i6_0, hp.cell, hp.cell, qv_load, ld78, Int.toNat_natCast, hr2]; rfl) ?_
    refine WL.allocSt zr78 sz78 (fun u => by simp only [EN, Nat.reduceEqDiff, reduceIte, Value.cells, hp.cell, hp.cell]; rfl) ⟨rfl, rfl⟩ (by simp [Value.oneCell']) ?_
    intro h1 B1 hx1 hlt1 hB1
    replace hX := hX.ext hx1
    replace hE := hE.ext hx1
    replace hp := hp.ext hx1
    replace ho := ho.ext hx1
    refine WL.nil (th_norm (hx_seq ?_))
    apply hx_draw2 Rel.same [] [] [] rfl (by decide +kernel) rfl
    iterate 7 refine LD.qq rfl rfl (by simp only [EN, Nat.reduceEqDiff, reduceIte, qv_move, k0_0, hp.cell, hp.cell, hB1.cell, qv_nilCheck, qv_fieldAddr, fa85_4, Nat.zero_add, Nat.reduceAdd, qv_load, ld83, readN, AR, fa78_0, ld9, k1_0]; rfl) ?_
    refine LD.qq rfl rfl (by refine qv_bld (by simp only [EN, Nat.reduceEqDiff, reduceIte, AR, hp.cell, hp.cell, hB1.cell] <;> rfl) (by rw [bl89]; simp [Instr.fill, Value.cells]; rfl)) ?_
    refine LD.qq rfl rfl (by refine Eq.trans (b := some (iV (chN E y.s kk))) ?_ rfl; simp only [EN, Nat.reduceEqDiff, reduceIte, k0_0, k1_0, k14_0, k15_0, i16_0, i5_0, i6_0, hp.cell, hp.cell, hB1.cell, qv_lookup]; rw [← hci]; exact lkE hE.map ⟨y.s, kk⟩) ?_
    refine LD.qq rfl rfl (by simp only [EN, Nat.reduceEqDiff, reduceIte, qv_assign, hp.cell, hp.cell, hB1.cell]; rfl) ?_
    refine LD.nil ?_
    rintro _ rfl -
    refine WL.nil (th_norm (hx_seq (hx_region ?_)))
    iterate 2 refine WL.qq (by simp only [EN, Nat.reduceEqDiff, reduceIte, qv_move, i5_0, hp.cell, hp.cell, hB1.cell]; rfl) ?_
    refine WL.push (bytes := 8) Tryz.underlying55 (inf_of Tryz.type2) rfl rfl rfl rfl (by decide) (by decide) sz2 zr2 (fun u => by simp only [EN, Nat.reduceEqDiff, reduceIte, k0_0, k1_0, k14_0, k15_0, i16_0, i5_0, i6_0, hp.cell, hp.cell, hB1.cell]) ho (c := #[iV (chN E y.s kk)]) (by simp only [EN, Nat.reduceEqDiff, reduceIte, k0_0, k1_0, k14_0, k15_0, i16_0, i5_0, i6_0, hp.cell, hp.cell, hB1.cell, Value.cells] <;> rfl) rfl (by simp [Value.oneCell']) (by simp only [maxLen]; omega) (by omega) hX.size ?_
    intro h40 v40 B40 ho40 hg40 hp40 hn40
    have hX40 := hg40.ext hX (fun c hc => (ho.block c hc).1)
    replace hE := hE.gs (Gs.ofGr hg40 (S := v.ownBlock.toList) (fun c hc => by rw [hc]; simp)) (by simp; exact ho.ncell hE.blk (by decide)) (by simp; exact ho.nmap hE.map) (fun c hc hh => by simp at hh; obtain ⟨cu, hcu⟩ := hE.oh.typ c hc; exact ho.ncell hcu (by decide) hh) (fun c hc hh => by simp at hh; obtain ⟨cu, hcu⟩ := hE.oo.typ c hc; exact ho.ncell hcu (by decide) hh)
    skip
    refine WL.qq (by simp only [EN, Nat.reduceEqDiff, reduceIte, qv_assign, hp.cell, hp.cell, hB1.cell]; rfl) ?_
    refine WL.nil (th_norm (hx_region ?_))
    iterate 4 refine WL.qq (by simp only [EN, Nat.reduceEqDiff, reduceIte, qv_move, i6_0, hp.cell, hp.cell, hB1.cell, qv_binOp, binv_add, qv_assign]; (try simp (disch := omega) only [w64, w8, wu64]); rfl) ?_
    refine WL.nil (bl_norm (th_norm (hx_region ?_)))
    iterate 2 refine WL.qq (by simp only [EN, Nat.reduceEqDiff, reduceIte, qv_binOp, binv_add, i16_0, hp.cell, hp.cell, hB1.cell, qv_move]; (try simp (disch := omega) only [w64, w8, wu64]); rfl) ?_
    refine WL.nil (th_norm ?_)
    refine ⟨rfl, ?_, _, ?_, i + 1, v40, rfl, ?_, ?_, ?_, ?_, ?_, ?_, ?_, ?_⟩
    · (repeat (first | exact Fr.refl _ _ | refine Fr.set rfl ?_ | refine Fr.put rfl ?_ | with_reducible refine Fr.put0 ?_))
    · omega
    · omega
    · exact hX40
    · exact hE
    · exact hE.blk
    · rw [fm_step' hwy]; exact ho40
    · simp only [EN, Nat.reduceEqDiff, reduceIte, k0_0, k1_0, k14_0, k15_0, i16_0, i5_0, i6_0, hp.cell, hp.cell, hB1.cell] <;> first | rfl | (congr 1; omega)
    · simp only [EN, Nat.reduceEqDiff, reduceIte, k0_0, k1_0, k14_0, k15_0, i16_0, i5_0, i6_0, hp.cell, hp.cell, hB1.cell] <;> first | rfl | (congr 1; omega)
    · simp only [EN, Nat.reduceEqDiff, reduceIte, k0_0, k1_0, k14_0, k15_0, i16_0, i5_0, i6_0, hp.cell, hp.cell, hB1.cell] <;> rw [hst]; rfl
   ·
    try simp only [BD] at hct17
    obtain rfl : i = E.hs.length := (by omega)
    have htk : (wsE E kk).take E.hs.length = wsE E kk := List.take_of_length_le (by omega)
    rw [htk] at ho i6_0
    obtain ⟨ao2, co2, hv2, hso2⟩ := hE.so; cases hv2; obtain ⟨b1, o1, ha1, hr2, hc0, hc1⟩ := si_rd hso2 hk
    refine hx_exit (th_exit (th_exit (bl_hit (th_norm (hx_seq (hx_seq (hx_region ?_)))))))
    iterate 5 refine WL.qq (by simp only [EN, Nat.reduceEqDiff, reduceIte, qv_move, k0_0, hp.cell, hp.cell, qv_nilCheck, qv_fieldAddr, fa85_1, Nat.zero_add, Nat.reduceAdd, qv_load, ld81, readN, AR, k1_0]; rfl) ?_
    refine WL.qq (by simp only [EN, Nat.reduceEqDiff, reduceIte, qv_indexAddr, hp.cell, hp.cell, ha1]; (try simp (disch := omega) only [ix81, Int.toNat_natCast]); rfl) ?_
    refine WL.qq (by simp only [EN, Nat.reduceEqDiff, reduceIte, qv_fieldAddr, fa80_1, Nat.zero_add, Nat.reduceAdd, hp.cell, hp.cell]; rfl) ?_
    refine WL.qq (by refine Eq.trans (b := some (iV c)) ?_ rfl; simp only [EN, Nat.reduceEqDiff, reduceIte, k0_0, k1_0, k14_0, k15_0, i16_0, i5_0, i6_0, hp.cell, hp.cell, qv_load, ld2, Int.toNat_natCast]; rw [← hc]; first | exact hc1 | (rw [hc1]; rfl)) ?_
    refine WL.qq (by simp only [EN, Nat.reduceEqDiff, reduceIte, qv_assign, hp.cell, hp.cell]; rfl) ?_
    refine WL.nil (th_norm (hx_seq (hx_region ?_)))
    iterate 3 refine WL.qq (by simp only [EN, Nat.reduceEqDiff, reduceIte, qv_move, hp.cell, hp.cell, qv_binOp, binv_gtr]; rfl) ?_
    refine WL.cq (gd_at (t := 47) rfl (by simp only [EN, Nat.reduceEqDiff, reduceIte, i6_0, hp.cell, hp.cell] <;> rfl)) (fun hg11_3 => by simp only [EN, Nat.reduceEqDiff, reduceIte, qv_move, i6_0, hp.cell, hp.cell, hg11_3, GR]; rfl) ?_
    refine WL.cq (gd_at (t := 47) rfl (by simp only [EN, Nat.reduceEqDiff, reduceIte, hp.cell, hp.cell] <;> rfl)) (fun hg11_4 => by simp only [EN, Nat.reduceEqDiff, reduceIte, qv_move, hp.cell, hp.cell, hg11_4, GR]; rfl) ?_
    refine WL.cq (gd_at (t := 47) rfl (by simp only [EN, Nat.reduceEqDiff, reduceIte, hp.cell, hp.cell] <;> rfl)) (fun hg11_5 => by simp only [EN, Nat.reduceEqDiff, reduceIte, qv_binOp, binv_gtr, hp.cell, hp.cell, hg11_5, GR]; rfl) ?_
    refine WL.qq (by simp only [EN, Nat.reduceEqDiff, reduceIte, qv_pick, pk_and, pk_or, GR, hp.cell, hp.cell]; rfl) ?_
    refine WL.nil (th_norm ?_)
    refine hx_cond (by simp only [EN, Nat.reduceEqDiff, reduceIte, hp.cell, hp.cell]; rfl) (fun hct51 => ?_) (fun hct51 => ?_)
    ·
     try simp only [BD] at hct51
     have hz0 := hX.size
     obtain ⟨aw, cw, rfl, hcw, _⟩ := ho.shape; have hws := slG_own (f := natL) (sz := 1) (fun _ => rfl) ho hwl.symm
     have hcl : capL c (wsE E kk) = splL c (wsE E kk) := if_pos (by simp at hct51; omega)
     have hcs := c_split c aw (wsE E kk) cw hc2 (by omega) (by simp at hct51; omega) hS hws; rw [hwl] at hcs
     refine hx_region ?_
     iterate 2 refine WL.qq (by simp only [EN, Nat.reduceEqDiff, reduceIte, qv_move, hp.cell, hp.cell, i5_0]; rfl) ?_
     refine WL.ce Tryz.call56 (by simp only [EN, Nat.reduceEqDiff, reduceIte, AR, hp.cell, hp.cell]; exact hcs) ?_
     rintro _ h2 ⟨hx2, u, rfl, hou⟩
     replace hX := hX.ext hx2
     replace hE := hE.ext hx2
     replace hp := hp.ext hx2
     replace ho := ho.ext hx2
     simp only [put_some]
     iterate 4 refine WL.qq (by simp only [EN, Nat.reduceEqDiff, reduceIte, qv_move, hp.cell, hp.cell, qv_extract, AR, qv_assign]; rfl) ?_
     refine WL.nil (th_norm (hx_seq (hx_region ?_)))
     iterate 2 refine WL.qq (by simp only [EN, Nat.reduceEqDiff, reduceIte, qv_move, i5_0, hp.cell, hp.cell, qv_assign]; rfl) ?_
     refine WL.nil (th_norm (hx_ret ?_))
     refine fin_ret [.tmp 4] rfl rfl (by simp only [EN, Nat.reduceEqDiff, reduceIte, resv, k0_0, k1_0, k14_0, k15_0, i16_0, i5_0, i6_0, hp.cell, hp.cell]; rfl) ?_
     exact ⟨hX, by rw [hcl]; exact hou.base hz0⟩
    ·
     try simp only [BD] at hct51
     refine hx_skip (th_norm (hx_seq (hx_region ?_)))
     iterate 2 refine WL.qq (by simp only [EN, Nat.reduceEqDiff, reduceIte, qv_move, i5_0, hp.cell, hp.cell, qv_assign]; rfl) ?_
     refine WL.nil (th_norm (hx_ret ?_))
     refine fin_ret [.tmp 4] rfl rfl (by simp only [EN, Nat.reduceEqDiff, reduceIte, resv, k0_0, k1_0, k14_0, k15_0, i16_0, i5_0, i6_0, hp.cell, hp.cell]; rfl) ?_
     have hcl : capL c (wsE E kk) = wsE E kk := if_neg (by simp at hct51; omega)
     exact ⟨hX, by rw [hcl]; exact ho⟩
end
end GL
namespace GL
open Go Go.Proofs
set_option maxRecDepth 8000
theorem zip_at {α : Type} {l : List α} {i : Nat} {x : α} (hx : l[i]? = some x) : l.zipIdx[i]? = some (x, i) := by
  rw [List.getElem?_zipIdx, hx]; simp
theorem fmap_step {α β : Type} {f : α → Option β} {l : List α} {i : Nat} {x : α} (hx : l[i]? = some x) : (l.take (i + 1)).filterMap f = (l.take i).filterMap f ++ (f x).toList := by
  rw [List.take_add_one, hx, List.filterMap_append]
  cases h : f x <;> simp [h]
theorem fmap_len {α β : Type} (f : α → Option β) (l : List α) (i : Nat) : ((l.take i).filterMap f).length ≤ i :=
  Nat.le_trans (List.length_filterMap_le _ _) (by rw [List.length_take]; omega)
theorem fmp_len {α β : Type} {f : α → List β} {n : Nat} (hf : ∀ x, (f x).length ≤ n) : ∀ l : List α, (l.flatMap f).length ≤ l.length * n
  | [] => by simp
  | x :: l => by
    have h1 := fmp_len hf l
    have h2 := hf x
    rw [List.flatMap_cons, List.length_append, List.length_cons, Nat.add_mul, Nat.one_mul]; omega
theorem fmp_step {α β : Type} {f : α → List β} {l : List α} {i : Nat} {x : α} (hx : l[i]? = some x) : (l.take (i + 1)).flatMap f = (l.take i).flatMap f ++ f x := by
  rw [List.take_add_one, hx]; simp
section
variable {N p b : Nat} {vh vo : Value} {E : EL} {h : Heap}
theorem IsE.grw {h h' : Heap} {v : Value} {n : Nat} {base : Nat} {el : TypeId} {sz : Nat} {xs : List Value} (hE : IsE h N p b vh vo E) (hg : Gr h h' v.ownBlock) (ho : Own h base el sz v n xs) (h1 : el ≠ tyEl) (h2 : el ≠ tyH) (h3 : el ≠ tyO) : IsE h' N p b vh vo E :=
  hE.gs (Gs.ofGr hg (S := v.ownBlock.toList) (fun c hc => by rw [hc]; simp)) (by simp; exact ho.ncell hE.blk h1.symm) (by simp; exact ho.nmap hE.map)
    (fun c hc hh => by simp at hh; obtain ⟨cu, hcu⟩ := hE.oh.typ c hc; exact ho.ncell hcu h2.symm hh) (fun c hc hh => by simp at hh; obtain ⟨cu, hcu⟩ := hE.oo.typ c hc; exact ho.ncell hcu h3.symm hh)
end
end GL
namespace GL
open Go Go.Proofs
set_option maxRecDepth 8000
structure RR where
  o : ByteArray
  p : ByteArray
  c : Int
  a : Int
deriving DecidableEq
abbrev rxL (x : RR) : List Value := [.string x.o, .string x.p, iV x.c, iV x.a]
abbrev tyRx : TypeId := 64
def accE (E : EL) (k : Nat) : List Nat := match E.os[k]? with
  | some o => capL o.n.toNat (wsE E k)
  | none => []
theorem accE_at {E : EL} {k : Nat} {o : SI} (hk : E.os[k]? = some o) : accE E k = capL o.n.toNat (wsE E k) := by unfold accE; rw [hk]
def uE (E : EL) (k2 n2 : Nat) (q : PK) : Int :=
  if 0 ≤ q.k ∧ q.k ≠ E.d ∧ 0 ≤ idxS q.o E.hs ∧ (q.k < k2 ∨ (q.k = k2 ∧ idxS q.o E.hs < n2)) then (((accE E q.k.toNat)[(idxS q.o E.hs).toNat]?.getD 0 : Nat) : Int) else 0
theorem uE_0 {E : EL} (q : PK) : uE E 0 0 q = 0 := by
  unfold uE
  rw [if_neg (by omega)]
theorem uE_d {E : EL} {n : Nat} (q : PK) (hn : E.hs.length ≤ n) : uE E E.d 0 q = uE E (E.d + 1) 0 q := by
  unfold uE
  have := (idxS_lt q.o E.hs).2
  congr 1
  rw [eq_iff_iff]
  omega
theorem uE_row {E : EL} {k2 : Nat} (q : PK) : uE E k2 E.hs.length q = uE E (k2 + 1) 0 q := by
  unfold uE
  have := (idxS_lt q.o E.hs).2
  congr 1
  rw [eq_iff_iff]
  omega
theorem idx_of {hs : List SI} (hnd : (hs.map SI.s).Nodup) {i : Nat} {x : SI} (hx : hs[i]? = some x) : idxS x.s hs = (i : Int) := by
  refine idxS_yes (fun y hy hh => ?_) hx rfl
  obtain ⟨j, hj⟩ := List.getElem?_of_mem hy
  rw [List.getElem?_take] at hj
  split at hj
  · rename_i hji
    have h1 : (hs.map SI.s)[j]? = some y.s := by rw [List.getElem?_map, hj]; rfl
    have h2 : (hs.map SI.s)[i]? = some y.s := by rw [List.getElem?_map, hx, hh]; rfl
    have := nodup_idx hnd h1 h2
    omega
  · cases hj
theorem idx_eq {hs : List SI} {s : ByteArray} {i : Nat} (h : idxS s hs = (i : Int)) {x : SI} (hx : hs[i]? = some x) : x.s = s := by
  rcases idxS_cases s hs with ⟨h1, _⟩ | ⟨j, y, h1, hy, hs2, _⟩
  · omega
  · have : i = j := by omega
    subst this
    rw [hx] at hy; cases hy; exact hs2
theorem uE_step {E : EL} (hnd : (E.hs.map SI.s).Nodup) {k2 n2 : Nat} {x : SI} (hk : k2 ≠ E.d) (hx : E.hs[n2]? = some x) (q : PK) :
    uE E k2 (n2 + 1) q = if (⟨x.s, k2⟩ : PK) = q then (((accE E k2)[n2]?.getD 0 : Nat) : Int) else uE E k2 n2 q := by
  have h1 := idx_of hnd hx
  by_cases h : (⟨x.s, k2⟩ : PK) = q
  · subst h
    rw [if_pos rfl]
    unfold uE
    simp only [h1, Int.toNat_natCast]
    rw [if_pos ⟨by omega, by omega, by omega, .inr ⟨trivial, by omega⟩⟩]
  · rw [if_neg h]
    unfold uE
    congr 1
    rw [eq_iff_iff]
    have h2 : ¬ (q.k = (k2 : Int) ∧ idxS q.o E.hs = (n2 : Int)) := fun hh => h (by
      obtain ⟨qo, qk⟩ := q
      simp only at hh
      rw [pk_eq]
      exact ⟨idx_eq hh.2 hx, hh.1.symm⟩)
    omega
def aE (E : EL) (x : SI) (k : Nat) : Int := uE E E.os.length 0 ⟨x.s, k⟩
def rstE (E : EL) (x : SI) : Int := x.n - sumF (aE E x) (List.range E.os.length)
def acE (E : EL) (x : SI) (k : Nat) : Int := if k = E.d then rstE E x else aE E x k
def rxF (E : EL) (x : SI) (z : SI × Nat) : Option RR := if 0 < tknE E x.s z.2 ∨ 0 < acE E x z.2 then some ⟨x.s, z.1.s, tknE E x.s z.2, acE E x z.2⟩ else none
def rowR (E : EL) (x : SI) : List RR := E.os.zipIdx.filterMap (rxF E x)
def resE (E : EL) : List RR := E.hs.flatMap (rowR E)
structure ClE (E : EL) : Prop where
  b : BdE E
  h40 : E.hs.length ≤ 40
  hnd : (E.hs.map SI.s).Nodup
  ws : ∀ k, (wsE E k).sum ≤ 1000000000000000
  oq : ∀ x ∈ E.os, 0 ≤ x.n ∧ x.n ≤ 1000000000000000
theorem splL_le {t : Nat} {ws : List Nat} (hS : 0 < ws.sum) : ∀ x ∈ splL t ws, x ≤ t + 1 := by
  intro x hx
  unfold splL splK at hx
  obtain ⟨p, hp, rfl⟩ := List.mem_map.1 hx
  have hpw : p.1 ∈ ws := by
    obtain ⟨a, i⟩ := p
    exact (List.mem_zipIdx hp).2.2 ▸ List.getElem_mem _
  have h1 := mem_sum_le hpw
  have h2 : t * p.1 / ws.sum ≤ t := by
    rw [Nat.div_le_iff_le_mul_add_pred hS]
    have := Nat.mul_le_mul_left t h1
    rw [Nat.mul_comm ws.sum]; omega
  split <;> omega
theorem ClE.acc {E : EL} (hc : ClE E) (k : Nat) : ∀ x ∈ accE E k, x ≤ 1000000000000001 := by
  intro x hx
  unfold accE at hx
  split at hx
  · rename_i o ho
    have h1 := hc.oq o (List.mem_of_getElem? ho)
    unfold capL at hx
    split at hx
    · rename_i h2
      have := splL_le (by omega) x hx
      omega
    · have := mem_sum_le hx
      have := hc.ws k
      omega
  · cases hx
theorem ClE.u {E : EL} (hc : ClE E) (k2 n2 : Nat) (q : PK) : 0 ≤ uE E k2 n2 q ∧ uE E k2 n2 q ≤ 1000000000000001 := by
  unfold uE
  split
  · cases h : (accE E q.k.toNat)[(idxS q.o E.hs).toNat]? with
    | none => simp
    | some y => have := hc.acc _ y (List.mem_of_getElem? h); simp only [Option.getD]; omega
  · simp
theorem ClE.part {E : EL} (hc : ClE E) (x : SI) (i : Nat) : 0 ≤ sumF (aE E x) ((List.range E.os.length).take i) ∧ sumF (aE E x) ((List.range E.os.length).take i) ≤ 16000000000000016 := by
  have h1 := sumF_bd (f := aE E x) (B := 1000000000000001) (l := (List.range E.os.length).take i) (fun k _ => hc.u _ _ _)
  have h2 : ((List.range E.os.length).take i).length ≤ 16 := by
    rw [List.length_take, List.length_range]
    have := hc.b.no; omega
  omega
theorem ClE.ac {E : EL} (hc : ClE E) {x : SI} (hx : x ∈ E.hs) (k : Nat) : -16000000000000016 ≤ acE E x k ∧ acE E x k ≤ 1000000000000001 := by
  unfold acE
  split
  · have h1 := hc.part x E.os.length
    rw [List.take_of_length_le (by rw [List.length_range]; exact Nat.le_refl _)] at h1
    have h2 := hc.b.hq x hx
    unfold rstE; omega
  · have := hc.u E.os.length 0 ⟨x.s, k⟩
    unfold aE; omega
end GL
namespace GL
open Go Go.Proofs
set_option maxRecDepth 8000
section
variable {N p b : Nat} {vh vo : Value} {E : EL} {h : Heap}
theorem c_acc2 (hc : ClE E) (kk : Nat) (hk : kk < E.os.length) (hE : IsE h N p b vh vo E) :
    HCalls Tryz.prog 41 #[.pointer (some ⟨p, 0, none⟩), iV kk] h fun v h' => Ext h h' ∧ ∃ a c, v = .slice a E.hs.length c ∧ Own h' h.size tyI 1 (.slice a E.hs.length c) E.hs.length ((accE E kk).flatMap natL) := by
  obtain ⟨o, ho⟩ := atG hk
  have h1 := hc.oq o (List.mem_of_getElem? ho)
  refine (c_accepted hc.b kk o.n.toNat o ho (by omega) (by omega) (hc.ws kk) hE).mono ?_
  rintro v h' ⟨hx, hown⟩
  obtain ⟨a, c, rfl, _⟩ := hown.shape
  exact ⟨hx, a, c, rfl, by rw [accE_at ho]; exact hown⟩
theorem accE_len {kk : Nat} (hk : kk < E.os.length) : (accE E kk).length = E.hs.length := by
  obtain ⟨o, ho⟩ := atG hk
  rw [accE_at ho, capL_len, wsE_len]
theorem IsE.shut {h h' : Heap} (hE : IsE h N p b vh vo E) (hw : Wr h h' p (.cells #[vh, vo, iV E.d, iV E.dd, iV E.dm, .map (some b), .bool true] tyEl)) : IsE h' N p b vh vo { E with cl := true } := by
  refine ⟨hw.at_, hE.oh.keep fun c hc => hw.same c fun hh => by subst hh; exact hE.oh.ncell hE.blk (by decide) hc, hE.oo.keep fun c hc => hw.same c fun hh => by subst hh; exact hE.oo.ncell hE.blk (by decide) hc, ?_, hE.lo⟩
  exact hE.map.gs (Gs.ofWr hw (S := [p]) (by simp)) (by simp; exact (hE.blk.nmap hE.map).symm)
theorem IsE.oth {h h' : Heap} {B : Nat} {o : Obj} {α β : Type} {ek : α → Value} {ev' : β → Value} {U : List (α × β)} (hE : IsE h N p b vh vo E) (hw : Wr h h' B o) (hm : MapT ek ev' h B U) (hb : b ≠ B) : IsE h' N p b vh vo E :=
  hE.gs (Gs.ofWr hw (S := [B]) (by simp)) (by simp; exact hE.blk.nmap hm) (by simpa using hb) (fun c hc hh => by simp at hh; subst hh; exact hE.oh.nmap hm hc) (fun c hc hh => by simp at hh; subst hh; exact hE.oo.nmap hm hc)
abbrev shutE (E : EL) : EL := { E with cl := true }
theorem c_accS (hc : ClE E) (kk : Nat) (hk : kk < E.os.length) (hE : IsE h N p b vh vo (shutE E)) :
    HCalls Tryz.prog 41 #[.pointer (some ⟨p, 0, none⟩), iV kk] h fun v h' => Ext h h' ∧ ∃ a c, v = .slice a E.hs.length c ∧ Own h' h.size tyI 1 (.slice a E.hs.length c) E.hs.length ((accE E kk).flatMap natL) :=
  c_acc2 (E := shutE E) ⟨⟨hc.b.nh, hc.b.no, hc.b.hq, hc.b.ch⟩, hc.h40, hc.hnd, hc.ws, hc.oq⟩ kk hk hE
theorem c_tknS (hb : BdE E) (s : ByteArray) (kk : Nat) (hE : IsE h N p b vh vo (shutE E)) :
    HCalls Tryz.prog 42 #[.pointer (some ⟨p, 0, none⟩), .string s, iV kk] h (Grow (iV (tknE E s kk)) h) :=
  c_taken (E := shutE E) ⟨hb.nh, hb.no, hb.hq, hb.ch⟩ s kk hE
structure CI (h0 hx : Heap) (N p b : Nat) (vh vo : Value) (E : EL) (B : Nat) (U : List (PK × Int)) : Prop where
  g : Gs h0 hx [p]
  e : IsE hx N p b vh vo (shutE E)
  m : MapT pkV iV hx B U
  lo : h0.size ≤ B
  bb : b < h0.size
section
variable {h0 hx hy : Heap} {B : Nat} {U : List (PK × Int)}
theorem CI.ext (hC : CI h0 hx N p b vh vo E B U) (h : Ext hx hy) : CI h0 hy N p b vh vo E B U := ⟨hC.g.ext h, hC.e.ext h, hC.m.ext h, hC.lo, hC.bb⟩
theorem CI.blk (hC : CI h0 hx N p b vh vo E B U) : Has hx p (.cells #[vh, vo, iV E.d, iV E.dd, iV E.dm, .map (some b), .bool true] tyEl) := hC.e.blk
theorem CI.put {o : Obj} {U' : List (PK × Int)} (hC : CI h0 hx N p b vh vo E B U) (hw : Wr hx hy B o) (hm : MapT pkV iV hy B U') : CI h0 hy N p b vh vo E B U' :=
  ⟨hC.g.stp (.inr ⟨_, hw⟩) (.inr hC.lo), hC.e.oth hw hC.m (by have := hC.lo; have := hC.bb; omega), hm, hC.lo, hC.bb⟩
theorem CI.grw {v : Value} {n : Nat} {el : TypeId} {sz : Nat} {xs : List Value} (hC : CI h0 hx N p b vh vo E B U) (hg : Gr hx hy v.ownBlock) (ho : Own hx h0.size el sz v n xs) (h1 : el ≠ tyEl) (h2 : el ≠ tyH) (h3 : el ≠ tyO) : CI h0 hy N p b vh vo E B U :=
  ⟨hC.g.grb hg (fun x hx => .inr (ho.block x hx).1), hC.e.grw hg ho h1 h2 h3, hC.m.gs (Gs.ofGr hg (S := v.ownBlock.toList) (fun c hc => by rw [hc]; simp)) (by simp; exact ho.nmap hC.m), hC.lo, hC.bb⟩
end
def clX (E : EL) (ad am : Int) : Int := if E.cl = true then 21 else if cmpC (ad, am) (E.dd, E.dm) ≤ 0 then 10 else 0
set_option maxHeartbeats 8000000 in
theorem c_close (hc0 : ClE E) (ad am : Int) (hE : IsE h N p b vh vo E) (hb0 : b < h.size) {r : Int} (hr : clX E ad am = r) :
    HCalls Tryz.prog 17 #[.pointer (some ⟨p, 0, none⟩), .agg #[iV ad, iV am]] h fun v h' => Gs h h' [p] ∧ ∃ u, v = .tuple #[u, iV r] ∧ IsE h' N p b vh vo (if r = 0 then { E with cl := true } else E) ∧ if r = 0 then Own h' h.size tyRx 4 u (resE E).length ((resE E).flatMap rxL) else u = .slice none 0 0 := by
  obtain ⟨ao, co, rfl, hso⟩ := hE.so
  obtain ⟨ah, ch, rfl, hsh⟩ := hE.sh
  have hp := hE.blk
  have hno := hc0.b.no
  have hnh := hc0.h40
  refine hcalls2 Tryz.func17 rfl (by decide +kernel) (by simp only [Tryz.ntmps17]; exact of_decide_eq_true rfl) ?_
  intro e hin
  have e0 := hin 0 _ rfl
  have e1 := hin 1 _ rfl
  refine hx_seq (hx_region ?_)
  refine WL.box2 (by simp only [EN, Nat.reduceEqDiff, reduceIte, Value.cells, e1, hp.cell]; rfl) ?_
  intro h1 B1 hx1 hlt1 hB1
  replace hp := hp.ext hx1
  replace hE := hE.ext hx1
  iterate 2 refine WL.qq (by simp only [EN, Nat.reduceEqDiff, reduceIte, qv_assign, hp.cell, hB1.cell]; rfl) ?_
  refine WL.nil (th_norm (hx_seq (hx_block (hx_seq (hx_region ?_)))))
  iterate 3 refine WL.qq (by simp only [EN, Nat.reduceEqDiff, reduceIte, qv_move, e0, hp.cell, hB1.cell, qv_binOp, binv_eql, eqz31, eqn31, eqm31, Option.map_some, qv_assign]; rfl) ?_
  refine WL.nil (th_norm ?_)
  refine hx_cond (by simp only [EN, Nat.reduceEqDiff, reduceIte, hp.cell, hB1.cell]; rfl) (fun hct18 => ?_) (fun hct18 => ?_)
  ·
   simp at hct18
  ·
   try simp only [BD] at hct18
   refine hx_seq (hx_region ?_)
   iterate 5 refine WL.qq (by simp only [EN, Nat.reduceEqDiff, reduceIte, qv_move, e0, hp.cell, hB1.cell, qv_nilCheck, qv_fieldAddr, fa85_5, Nat.zero_add, Nat.reduceAdd, qv_load, ld4, readN, AR, qv_assign]; rfl) ?_
   refine WL.nil (th_norm ?_)
   refine hx_cond (by simp only [EN, Nat.reduceEqDiff, reduceIte, hp.cell, hB1.cell]; rfl) (fun hct21 => ?_) (fun hct21 => ?_)
   ·
    try simp only [BD] at hct21
    refine hx_seq (hx_region ?_)
    iterate 2 refine WL.qq (by simp only [EN, Nat.reduceEqDiff, reduceIte, qv_assign, hp.cell, hB1.cell]; rfl) ?_
    refine WL.nil (th_norm (hx_ret (bl_ret (th_ret ?_))))
    refine fin_ret [.tmp 4, .tmp 5] rfl rfl (by simp only [EN, Nat.reduceEqDiff, reduceIte, resv, e0, e1, hp.cell, hB1.cell]; rfl) ?_
    rw [clX, if_pos (by simpa using hct21)] at hr
    subst hr
    exact ⟨Gs.ofExt (hx1), _, rfl, hE, rfl⟩
   ·
    try simp only [BD] at hct21
    rw [clX, if_neg (by simpa using hct21)] at hr
    refine hx_seq ?_
    apply hx_draw2 Rel.grows [] [5] [(5, Spec.is _)] rfl (by decide +kernel) rfl
    iterate 5 refine LD.qq rfl rfl (by simp only [EN, Nat.reduceEqDiff, reduceIte, qv_load, ld49, readN, AR, Nat.zero_add, Nat.reduceAdd, hp.cell, hB1.cell, qv_move, e0, qv_nilCheck, qv_fieldAddr, fa85_3]; rfl) ?_
    refine LD.ck rfl rfl Tryz.call40 (by intro hD hr; have hx : Ext _ _ := hr; have hp := hp.ext hx; have hE := hE.ext hx; have hB1 := hB1.ext hx; simp only [EN, Nat.reduceEqDiff, reduceIte, AR, hp.cell, hB1.cell]; exact c_cmp ad am E.dd E.dm _) ?_
    iterate 2 refine LD.qq rfl rfl (by simp only [EN, Nat.reduceEqDiff, reduceIte, qv_binOp, binv_leq, hp.cell, hB1.cell, qv_assign]; rfl) ?_
    refine LD.nil ?_
    rintro h2 hx2 hF5
    replace hx2 : Ext _ _ := hx2
    replace hp := hp.ext hx2
    replace hE := hE.ext hx2
    replace hB1 := hB1.ext hx2
    refine WL.nil (th_norm ?_)
    refine hx_cond (by simp only [EN, Nat.reduceEqDiff, reduceIte, hp.cell, hB1.cell]; rfl) (fun hct26 => ?_) (fun hct26 => ?_)
    ·
     try simp only [BD] at hct26
     refine hx_seq (hx_region ?_)
     iterate 2 refine WL.qq (by simp only [EN, Nat.reduceEqDiff, reduceIte, qv_assign, hp.cell, hB1.cell]; rfl) ?_
     refine WL.nil (th_norm (hx_ret (bl_ret (th_ret ?_))))
     refine fin_ret [.tmp 4, .tmp 5] rfl rfl (by simp only [EN, Nat.reduceEqDiff, reduceIte, resv, e0, e1, hp.cell, hB1.cell]; rfl) ?_
     rw [if_pos (by omega)] at hr
     subst hr
     exact ⟨Gs.ofExt ((hx1).trans (hx2)), _, rfl, hE, rfl⟩
    ·
     try simp only [BD] at hct26
     rw [if_neg (by omega)] at hr; subst hr
     have hX7 := ((hx1).trans (hx2))
     refine hx_skip (bl_norm (th_norm (hx_seq (hx_region ?_))))
     iterate 3 refine WL.qq (by simp only [EN, Nat.reduceEqDiff, reduceIte, qv_move, e0, hp.cell, hB1.cell, qv_nilCheck, qv_fieldAddr, fa85_5, Nat.zero_add, Nat.reduceAdd]; rfl) ?_
     refine WL.store (by simp only [EN, Nat.reduceEqDiff, reduceIte, hp.cell, hB1.cell] <;> rfl) sz4 (by simp only [EN, Nat.reduceEqDiff, reduceIte, Value.cells, hp.cell, hB1.cell] <;> rfl) rfl hp (by first | (simp [true_and]; done) | (simp [true_and]; omega) | omega) (by simp [Value.oneCell']) ?_
     intro h3 hw3
     have hw7 := hw3
     try simp only [splc, List.take_succ_cons, List.take_zero, List.take_nil, List.drop_succ_cons, List.drop_zero, List.drop_nil, List.cons_append, List.nil_append, List.length_cons, List.length_nil, Nat.zero_add, Nat.add_zero, Nat.reduceAdd, List.append_nil] at hw7
     have hblt : b < h.size := hb0
     replace hE := hE.shut hw7
     replace hp := hw7.at_
     have hG7 := (Gs.ofExt (S := [p]) hX7).trans (Gs.ofWr hw7 (by simp))
     have hz7 := hG7.size
     refine WL.nil (th_norm (hx_seq (hx_region ?_)))
     refine WL.makeMap2 ?_
     intro h4 B4 hx4 hlt4 hB4
     replace hp := hp.ext hx4
     replace hE := hE.ext hx4
     replace hG7 := hG7.ext hx4
     refine WL.qq (by simp only [EN, Nat.reduceEqDiff, reduceIte, qv_assign, hp.cell, hB1.cell]; rfl) ?_
     refine WL.nil (th_norm (hx_seq (hx_seq (hx_region ?_))))
     iterate 6 refine WL.qq (by simp only [EN, Nat.reduceEqDiff, reduceIte, qv_move, e0, hp.cell, hB1.cell, qv_nilCheck, qv_fieldAddr, fa85_1, Nat.zero_add, Nat.reduceAdd, qv_load, ld81, readN, AR, qv_len, ln81]; rfl) ?_
     refine WL.nil (th_norm (hx_block ?_))
     refine hx_loopG [7, 8, 9, 43, 44, 45, 46, 47, 48, 49, 50, 51, 52, 53, 54, 55, 56, 57, 58, 59, 60, 61, 62, 63, 64, 65, 66, 67, 68, 69, 70, 71, 72, 73, 74] (fun k e hL0 => ∃ (k2 : Nat) (U : List (PK × Int)), E.os.length - k2 = k ∧ (k2 ≤ E.os.length) ∧ (CI h hL0 N p b (.slice ah E.hs.length ch) (.slice ao E.os.length co) E B4 U) ∧ (Has hL0 p (.cells #[.slice ah E.hs.length ch, .slice ao E.os.length co, iV E.d, iV E.dd, iV E.dm, .map (some b), .bool true] tyEl)) ∧ (∀ q, lk U q = uE E k2 0 q) ∧ e 43 = .int .i64 k2) _ ⟨0, [], rfl, ?_, ?_, ?_, ?_, ?_⟩ ?_
     · omega
     · exact ⟨hG7, hE, MapT.new hB4, by have := hG7.size; omega, hblt⟩
     · exact hp
     · intro q; rw [uE_0]; rfl
     · simp only [EN, Nat.reduceEqDiff, reduceIte, e0, e1, hp.cell, hB1.cell] <;> rfl
     ·
      rintro k e0L hL0 hfr0 ⟨k2, U, rfl, hk2, hC, hp, hU, i43_0⟩
      have k0_0 := hfr0 0 rfl; try simp only [EN, Nat.reduceEqDiff, reduceIte, e0, hp.cell, hB1.cell] at k0_0
      have k6_0 := hfr0 6 rfl; try simp only [EN, Nat.reduceEqDiff, reduceIte, hp.cell, hB1.cell] at k6_0
      have k42_0 := hfr0 42 rfl; try simp only [EN, Nat.reduceEqDiff, reduceIte, hp.cell, hB1.cell] at k42_0
      refine hx_seq (hx_region ?_)
      refine WL.qq (by simp only [EN, Nat.reduceEqDiff, reduceIte, qv_binOp, binv_lss, k42_0, i43_0, hp.cell, hB1.cell, hp.cell]; rfl) ?_
      refine WL.nil (th_norm (hx_seq ?_))
      refine hx_cond (by simp only [EN, Nat.reduceEqDiff, reduceIte, hp.cell, hB1.cell, hp.cell]; rfl) (fun hct44 => ?_) (fun hct44 => ?_)
      ·
       try simp only [BD] at hct44
       refine hx_skip (th_norm (hx_seq (hx_block (hx_seq (hx_region ?_)))))
       iterate 2 refine WL.qq (by simp only [EN, Nat.reduceEqDiff, reduceIte, qv_move, i43_0, hp.cell, hB1.cell, hp.cell, qv_assign]; rfl) ?_
       refine WL.nil (th_norm (hx_seq (hx_seq (hx_region ?_))))
       iterate 6 refine WL.qq (by simp only [EN, Nat.reduceEqDiff, reduceIte, qv_move, hp.cell, hB1.cell, hp.cell, k0_0, qv_nilCheck, qv_fieldAddr, fa85_2, Nat.zero_add, Nat.reduceAdd, qv_load, ld3, readN, AR, qv_binOp, binv_eql, eq3, Option.map_some]; rfl) ?_
       refine WL.nil (th_norm ?_)
       refine hx_cond (by simp only [EN, Nat.reduceEqDiff, reduceIte, hp.cell, hB1.cell, hp.cell]; rfl) (fun hct51 => ?_) (fun hct51 => ?_)
       ·
        try simp only [BD] at hct51
        refine hx_exit (th_exit (bl_hit (th_norm (hx_region ?_))))
        iterate 2 refine WL.qq (by simp only [EN, Nat.reduceEqDiff, reduceIte, qv_binOp, binv_add, i43_0, hp.cell, hB1.cell, hp.cell, qv_move]; (try simp (disch := omega) only [w64, w8, wu64]); rfl) ?_
        refine WL.nil (th_norm ?_)
        refine ⟨rfl, ?_, _, ?_, k2 + 1, U, rfl, ?_, ?_, ?_, ?_, ?_⟩
        · (repeat (first | exact Fr.refl _ _ | refine Fr.set rfl ?_ | refine Fr.put rfl ?_ | with_reducible refine Fr.put0 ?_))
        · omega
        · omega
        · exact hC
        · exact hC.blk
        · have h9 : k2 = E.d := (by omega); subst h9; intro q; rw [hU q]; exact uE_d q (Nat.le_refl _)
        · simp only [EN, Nat.reduceEqDiff, reduceIte, k0_0, k6_0, k42_0, i43_0, hp.cell, hB1.cell, hp.cell] <;> first | rfl | (congr 1; omega)
       ·
        try simp only [BD] at hct51
        have hkl := accE_len (E := E) (kk := k2) (by omega); have hz9 := hC.g.size
        refine hx_skip (th_norm (hx_seq (hx_region ?_)))
        iterate 2 refine WL.qq (by simp only [EN, Nat.reduceEqDiff, reduceIte, qv_move, k0_0, hp.cell, hB1.cell, hp.cell]; rfl) ?_
        refine WL.ce Tryz.call41 (by simp only [EN, Nat.reduceEqDiff, reduceIte, AR, hp.cell, hB1.cell, hp.cell]; exact c_accS hc0 k2 (by omega) hC.e) ?_
        rintro _ h5 ⟨hx5, av, cv, rfl, ho⟩
        replace hC := hC.ext hx5
        replace hp := hp.ext hx5
        simp only [put_some]
        iterate 2 refine WL.qq (by simp only [EN, Nat.reduceEqDiff, reduceIte, qv_len, ln55, AR, hp.cell, hB1.cell, hp.cell, qv_move]; rfl) ?_
        refine WL.nil (th_norm (hx_block ?_))
        refine hx_loopG [8, 9, 56, 57, 58, 59, 60, 61, 62, 63, 64, 65, 66, 67, 68, 69, 70, 71, 72, 73] (fun k e hL1 => ∃ (n2 : Nat) (U2 : List (PK × Int)), E.hs.length - n2 = k ∧ (n2 ≤ E.hs.length) ∧ (CI h hL1 N p b (.slice ah E.hs.length ch) (.slice ao E.os.length co) E B4 U2) ∧ (Has hL1 p (.cells #[.slice ah E.hs.length ch, .slice ao E.os.length co, iV E.d, iV E.dd, iV E.dm, .map (some b), .bool true] tyEl)) ∧ (Own hL1 h.size tyI 1 (.slice av E.hs.length cv) E.hs.length ((accE E k2).flatMap natL)) ∧ (∀ q, lk U2 q = uE E k2 n2 q) ∧ e 56 = .int .i64 n2) _ ⟨0, U, rfl, ?_, ?_, ?_, ?_, ?_, ?_⟩ ?_
        · omega
        · exact hC
        · exact hC.blk
        · exact ho.base hz9
        · exact hU
        · simp only [EN, Nat.reduceEqDiff, reduceIte, k0_0, k6_0, k42_0, i43_0, hp.cell, hB1.cell, hp.cell] <;> rfl
        ·
         rintro k e1L hL1 hfr1 ⟨n2, U2, rfl, hn2, hC, hp, ho, hU2, i56_1⟩
         have k0_1 := hfr1 0 rfl; try simp only [EN, Nat.reduceEqDiff, reduceIte, k0_0, hp.cell, hB1.cell, hp.cell] at k0_1
         have k6_1 := hfr1 6 rfl; try simp only [EN, Nat.reduceEqDiff, reduceIte, k6_0, hp.cell, hB1.cell, hp.cell] at k6_1
         have k7_1 := hfr1 7 rfl; try simp only [EN, Nat.reduceEqDiff, reduceIte, hp.cell, hB1.cell, hp.cell] at k7_1
         have k42_1 := hfr1 42 rfl; try simp only [EN, Nat.reduceEqDiff, reduceIte, k42_0, hp.cell, hB1.cell, hp.cell] at k42_1
         have k43_1 := hfr1 43 rfl; try simp only [EN, Nat.reduceEqDiff, reduceIte, i43_0, hp.cell, hB1.cell, hp.cell] at k43_1
         have k54_1 := hfr1 54 rfl; try simp only [EN, Nat.reduceEqDiff, reduceIte, hp.cell, hB1.cell, hp.cell] at k54_1
         have k55_1 := hfr1 55 rfl; try simp only [EN, Nat.reduceEqDiff, reduceIte, hp.cell, hB1.cell, hp.cell] at k55_1
         refine hx_seq (hx_region ?_)
         refine WL.qq (by simp only [EN, Nat.reduceEqDiff, reduceIte, qv_binOp, binv_lss, k55_1, i56_1, hp.cell, hB1.cell, hp.cell, hp.cell]; rfl) ?_
         refine WL.nil (th_norm (hx_seq ?_))
         refine hx_cond (by simp only [EN, Nat.reduceEqDiff, reduceIte, hp.cell, hB1.cell, hp.cell, hp.cell]; rfl) (fun hct57 => ?_) (fun hct57 => ?_)
         ·
          try simp only [BD] at hct57
          obtain ⟨y, hy⟩ := atG (l := accE E k2) (i := n2) (by omega)
          obtain ⟨x, hx⟩ := atG (l := E.hs) (i := n2) (by omega)
          obtain ⟨ah2, ch2, hv2, hsh2⟩ := hC.e.sh; cases hv2; obtain ⟨b1, o1, ha1, hr2, hcs, _⟩ := si_rd hsh2 hx
          obtain ⟨b8, o8, ha8, hc8⟩ := one_at' (slG_own (f := natL) (sz := 1) (fun _ => rfl) ho hkl.symm) hy rfl
          refine hx_skip (th_norm (hx_seq (hx_block (hx_seq (hx_region ?_)))))
          iterate 2 refine WL.qq (by simp only [EN, Nat.reduceEqDiff, reduceIte, qv_move, i56_1, hp.cell, hB1.cell, hp.cell, hp.cell, qv_indexAddr, k54_1, ha8]; (try simp (disch := omega) only [ix55, Int.toNat_natCast]); rfl) ?_
          refine WL.qq (by simp only [EN, Nat.reduceEqDiff, reduceIte, k0_1, k6_1, k7_1, k42_1, k43_1, k54_1, k55_1, i56_1, hp.cell, hB1.cell, hp.cell, hp.cell, qv_load, ld2, Int.toNat_natCast, hc8]; rfl) ?_
          iterate 2 refine WL.qq (by simp only [EN, Nat.reduceEqDiff, reduceIte, qv_assign, hp.cell, hB1.cell, hp.cell, hp.cell]; rfl) ?_
          refine WL.nil (th_norm (hx_region ?_))
          iterate 6 refine WL.qq (by simp only [EN, Nat.reduceEqDiff, reduceIte, qv_move, k6_1, hp.cell, hB1.cell, hp.cell, hp.cell, k0_1, qv_nilCheck, qv_fieldAddr, fa85_0, Nat.zero_add, Nat.reduceAdd, qv_load, ld79, readN, AR]; rfl) ?_
          refine WL.qq (by simp only [EN, Nat.reduceEqDiff, reduceIte, qv_indexAddr, hp.cell, hB1.cell, hp.cell, hp.cell, ha1]; (try simp (disch := omega) only [ix79, Int.toNat_natCast]); rfl) ?_
          refine WL.qq (by simp only [EN, Nat.reduceEqDiff, reduceIte, qv_fieldAddr, fa78_0, Nat.zero_add, Nat.reduceAdd, hp.cell, hB1.cell, hp.cell, hp.cell]; rfl) ?_
          refine WL.qq (by simp only [EN, Nat.reduceEqDiff, reduceIte, k0_1, k6_1, k7_1, k42_1, k43_1, k54_1, k55_1, i56_1, hp.cell, hB1.cell, hp.cell, hp.cell, qv_load, ld9, Int.toNat_natCast, Nat.add_zero, hcs]; rfl) ?_
          refine WL.qq (by simp only [EN, Nat.reduceEqDiff, reduceIte, qv_move, k7_1, hp.cell, hB1.cell, hp.cell, hp.cell]; rfl) ?_
          refine WL.qq (by refine qv_bld (by simp only [EN, Nat.reduceEqDiff, reduceIte, AR, hp.cell, hB1.cell, hp.cell, hp.cell] <;> rfl) (by rw [bl89]; simp [Instr.fill, Value.cells]; rfl)) ?_
          refine WL.qq (by simp only [EN, Nat.reduceEqDiff, reduceIte, qv_move, hp.cell, hB1.cell, hp.cell, hp.cell]; rfl) ?_
          refine WL.ef _ (e_mapUpdate (x := (⟨x.s, k2⟩ : PK)) (v := (y : Int)) ktE Tryz.underlying83 hC.m (by simp only [EN, Nat.reduceEqDiff, reduceIte, k0_1, k6_1, k7_1, k42_1, k43_1, k54_1, k55_1, i56_1, hp.cell, hB1.cell, hp.cell, hp.cell]) (by simp only [EN, Nat.reduceEqDiff, reduceIte, k0_1, k6_1, k7_1, k42_1, k43_1, k54_1, k55_1, i56_1, hp.cell, hB1.cell, hp.cell, hp.cell] <;> rfl) (by simp only [EN, Nat.reduceEqDiff, reduceIte, k0_1, k6_1, k7_1, k42_1, k43_1, k54_1, k55_1, i56_1, hp.cell, hB1.cell, hp.cell, hp.cell] <;> rfl)) ?_
          rintro _ h40 ⟨⟨o40, hw40⟩, hm40⟩
          simp only [put_none]
          replace ho := ho.keep (fun c hc => hw40.same c fun hh => by subst hh; exact ho.nmap hC.m hc)
          replace hC := hC.put hw40 hm40
          replace hp := hC.blk
          refine WL.nil (bl_norm (th_norm (hx_region ?_)))
          iterate 2 refine WL.qq (by simp only [EN, Nat.reduceEqDiff, reduceIte, qv_binOp, binv_add, i56_1, hp.cell, hB1.cell, hp.cell, hp.cell, qv_move]; (try simp (disch := omega) only [w64, w8, wu64]); rfl) ?_
          refine WL.nil (th_norm ?_)
          refine ⟨rfl, ?_, _, ?_, n2 + 1, mset U2 ⟨x.s, k2⟩ y, rfl, ?_, ?_, ?_, ?_, ?_, ?_⟩
          · (repeat (first | exact Fr.refl _ _ | refine Fr.set rfl ?_ | refine Fr.put rfl ?_ | with_reducible refine Fr.put0 ?_))
          · omega
          · omega
          · exact hC
          · exact hC.blk
          · exact ho
          · intro q; rw [lk_mset, hU2 q, uE_step hc0.hnd (by omega) hx q, hy]; rfl
          · simp only [EN, Nat.reduceEqDiff, reduceIte, k0_1, k6_1, k7_1, k42_1, k43_1, k54_1, k55_1, i56_1, hp.cell, hB1.cell, hp.cell, hp.cell] <;> first | rfl | (congr 1; omega)
         ·
          try simp only [BD] at hct57
          obtain rfl : n2 = E.hs.length := (by omega)
          refine hx_exit (th_exit (th_exit (bl_hit (bl_norm (th_norm (hx_region ?_))))))
          iterate 2 refine WL.qq (by simp only [EN, Nat.reduceEqDiff, reduceIte, qv_binOp, binv_add, k43_1, hp.cell, hB1.cell, hp.cell, hp.cell, qv_move]; (try simp (disch := omega) only [w64, w8, wu64]); rfl) ?_
          refine WL.nil (th_norm ?_)
          refine ⟨rfl, ?_, _, ?_, k2 + 1, U2, rfl, ?_, ?_, ?_, ?_, ?_⟩
          · (repeat (first | exact Fr.refl _ _ | refine Fr.set rfl ?_ | refine Fr.put rfl ?_ | with_reducible refine Fr.put0 ?_ | refine Fr.trans ?_ (Fr.of hfr1 rfl)))
          · omega
          · omega
          · exact hC
          · exact hC.blk
          · intro q; rw [hU2 q]; exact uE_row q
          · simp only [EN, Nat.reduceEqDiff, reduceIte, k0_1, k6_1, k7_1, k42_1, k43_1, k54_1, k55_1, i56_1, hp.cell, hB1.cell, hp.cell, hp.cell] <;> first | rfl | (congr 1; omega)
      ·
       try simp only [BD] at hct44
       obtain rfl : k2 = E.os.length := (by omega)
       refine hx_exit (th_exit (th_exit (bl_hit (th_norm (hx_seq (hx_region ?_))))))
       refine WL.qq (by simp only [EN, Nat.reduceEqDiff, reduceIte, qv_assign, hp.cell, hB1.cell, hp.cell]; rfl) ?_
       refine WL.nil (th_norm (hx_seq (hx_seq (hx_region ?_))))
       iterate 6 refine WL.qq (by simp only [EN, Nat.reduceEqDiff, reduceIte, qv_move, k0_0, hp.cell, hB1.cell, hp.cell, qv_nilCheck, qv_fieldAddr, fa85_0, Nat.zero_add, Nat.reduceAdd, qv_load, ld79, readN, AR, qv_len, ln79]; rfl) ?_
       refine WL.nil (th_norm (hx_block ?_))
       refine hx_loopG [10, 12, 13, 14, 15, 16, 17, 80, 81, 82, 83, 84, 85, 86, 87, 88, 89, 90, 91, 92, 93, 94, 95, 96, 97, 98, 99, 100, 101, 102, 103, 104, 105, 106, 107, 108, 109, 110, 111, 112, 113, 114, 115, 116, 117, 118, 119, 120, 121, 122, 123, 124, 125, 126, 127, 128, 129, 130, 131, 132, 133, 134, 135, 136, 137, 138, 139, 140, 141, 142, 143, 144, 145, 146, 147, 148, 149, 150, 151] (fun k e hL2 => ∃ (i : Nat) (v : Value) (L : List RR) (U : List (PK × Int)), E.hs.length - i = k ∧ (i ≤ E.hs.length) ∧ (CI h hL2 N p b (.slice ah E.hs.length ch) (.slice ao E.os.length co) E B4 U) ∧ (Has hL2 p (.cells #[.slice ah E.hs.length ch, .slice ao E.os.length co, iV E.d, iV E.dd, iV E.dm, .map (some b), .bool true] tyEl)) ∧ ((∀ q, (i : Int) ≤ idxS q.o E.hs → lk U q = uE E E.os.length 0 q)) ∧ (L = (E.hs.take i).flatMap (rowR E)) ∧ (Own hL2 h.size tyRx 4 v L.length (L.flatMap rxL)) ∧ e 80 = .int .i64 i ∧ e 10 = v) _ ⟨0, .slice none 0 0, [], U, rfl, ?_, ?_, ?_, ?_, ?_, ?_, ?_, ?_⟩ ?_
       · omega
       · exact hC
       · exact hC.blk
       · exact fun q _ => hU q
       · rfl
       · exact Own.nil
       · simp only [EN, Nat.reduceEqDiff, reduceIte, k0_0, k6_0, k42_0, i43_0, hp.cell, hB1.cell, hp.cell] <;> rfl
       · simp only [EN, Nat.reduceEqDiff, reduceIte, k0_0, k6_0, k42_0, i43_0, hp.cell, hB1.cell, hp.cell] <;> rfl
       ·
        rintro k e2L hL2 hfr2 ⟨i, v, L, U, rfl, hi, hC, hp, hU, hL, ho, i80_2, i10_2⟩
        have k0_2 := hfr2 0 rfl; try simp only [EN, Nat.reduceEqDiff, reduceIte, k0_0, hp.cell, hB1.cell, hp.cell] at k0_2
        have k6_2 := hfr2 6 rfl; try simp only [EN, Nat.reduceEqDiff, reduceIte, k6_0, hp.cell, hB1.cell, hp.cell] at k6_2
        have k78_2 := hfr2 78 rfl; try simp only [EN, Nat.reduceEqDiff, reduceIte, hp.cell, hB1.cell, hp.cell] at k78_2
        have k79_2 := hfr2 79 rfl; try simp only [EN, Nat.reduceEqDiff, reduceIte, hp.cell, hB1.cell, hp.cell] at k79_2
        refine hx_seq (hx_region ?_)
        refine WL.qq (by simp only [EN, Nat.reduceEqDiff, reduceIte, qv_binOp, binv_lss, k79_2, i80_2, hp.cell, hB1.cell, hp.cell, hp.cell]; rfl) ?_
        refine WL.nil (th_norm (hx_seq ?_))
        refine hx_cond (by simp only [EN, Nat.reduceEqDiff, reduceIte, hp.cell, hB1.cell, hp.cell, hp.cell]; rfl) (fun hct81 => ?_) (fun hct81 => ?_)
        ·
         try simp only [BD] at hct81
         obtain ⟨x, hx⟩ := atG (l := E.hs) (i := i) (by omega)
         obtain ⟨ah2, ch2, hv2, hsh2⟩ := hC.e.sh; cases hv2; obtain ⟨b1, o1, ha1, hr2, _⟩ := si_rd hsh2 hx
         have hix := idx_of hc0.hnd hx; have hxm := List.mem_of_getElem? hx; have hxq := hc0.b.hq x hxm
         have hLb : L.length ≤ 40 * 16 := (by rw [hL]; have h8 := fmp_len (f := rowR E) (n := 16) (fun x => Nat.le_trans (List.length_filterMap_le _ _) (by rw [List.length_zipIdx]; omega)) (E.hs.take i); rw [List.length_take] at h8; have h9 : min i E.hs.length * 16 ≤ 40 * 16 := Nat.mul_le_mul_right _ (by omega); omega)
         refine hx_skip (th_norm (hx_seq (hx_block (hx_seq (hx_region ?_)))))
         refine WL.qq (by simp only [EN, Nat.reduceEqDiff, reduceIte, qv_indexAddr, k78_2, i80_2, hp.cell, hB1.cell, hp.cell, hp.cell, ha1]; (try simp (disch := omega) only [ix79, Int.toNat_natCast]); rfl) ?_
         refine WL.qq (by simp only [EN, Nat.reduceEqDiff, reduceIte, k0_2, k6_2, k78_2, k79_2, i80_2, i10_2, hp.cell, hB1.cell, hp.cell, hp.cell, qv_load, ld78, Int.toNat_natCast, hr2]; rfl) ?_
         refine WL.allocSt zr78 sz78 (fun u => by simp only [EN, Nat.reduceEqDiff, reduceIte, Value.cells, hp.cell, hB1.cell, hp.cell, hp.cell]; rfl) ⟨rfl, rfl⟩ (by simp [Value.oneCell']) ?_
         intro h6 B6 hx6 hlt6 hB6
         replace hC := hC.ext hx6
         replace hp := hp.ext hx6
         replace ho := ho.ext hx6
         refine WL.nil (th_norm (hx_seq (hx_region ?_)))
         iterate 3 refine WL.qq (by simp only [EN, Nat.reduceEqDiff, reduceIte, qv_fieldAddr, fa78_1, Nat.zero_add, Nat.reduceAdd, hp.cell, hB1.cell, hp.cell, hp.cell, hB6.cell, qv_load, ld2, readN, AR, qv_assign]; rfl) ?_
         refine WL.nil (th_norm (hx_seq (hx_seq (hx_region ?_))))
         iterate 6 refine WL.qq (by simp only [EN, Nat.reduceEqDiff, reduceIte, qv_move, k0_2, hp.cell, hB1.cell, hp.cell, hp.cell, hB6.cell, qv_nilCheck, qv_fieldAddr, fa85_1, Nat.zero_add, Nat.reduceAdd, qv_load, ld81, readN, AR, qv_len, ln81]; rfl) ?_
         refine WL.nil (th_norm (hx_block ?_))
         refine hx_loopS [13, 14, 91, 92, 93, 94, 95, 96, 97, 98, 99, 100, 101, 102] (fun k e => ∃ (j : Nat) (r : Int), E.os.length - j = k ∧ (j ≤ E.os.length) ∧ (r = x.n - sumF (aE E x) ((List.range E.os.length).take j)) ∧ e 91 = .int .i64 j ∧ e 13 = iV r) _ ⟨0, x.n, rfl, ?_, ?_, ?_, ?_⟩ ?_
         · omega
         · rw [List.take_zero, sumF, Int.sub_zero]
         · simp only [EN, Nat.reduceEqDiff, reduceIte, k0_2, k6_2, k78_2, k79_2, i80_2, i10_2, hp.cell, hB1.cell, hp.cell, hp.cell, hB6.cell] <;> rfl
         · simp only [EN, Nat.reduceEqDiff, reduceIte, k0_2, k6_2, k78_2, k79_2, i80_2, i10_2, hp.cell, hB1.cell, hp.cell, hp.cell, hB6.cell] <;> rfl
         ·
          rintro k e3L hfr3 ⟨j, r, rfl, hj, hr, i91_3, i13_3⟩
          have k0_3 := hfr3 0 rfl; try simp only [EN, Nat.reduceEqDiff, reduceIte, k0_2, hp.cell, hB1.cell, hp.cell, hp.cell, hB6.cell] at k0_3
          have k6_3 := hfr3 6 rfl; try simp only [EN, Nat.reduceEqDiff, reduceIte, k6_2, hp.cell, hB1.cell, hp.cell, hp.cell, hB6.cell] at k6_3
          have k10_3 := hfr3 10 rfl; try simp only [EN, Nat.reduceEqDiff, reduceIte, i10_2, hp.cell, hB1.cell, hp.cell, hp.cell, hB6.cell] at k10_3
          have k12_3 := hfr3 12 rfl; try simp only [EN, Nat.reduceEqDiff, reduceIte, hp.cell, hB1.cell, hp.cell, hp.cell, hB6.cell] at k12_3
          have k78_3 := hfr3 78 rfl; try simp only [EN, Nat.reduceEqDiff, reduceIte, k78_2, hp.cell, hB1.cell, hp.cell, hp.cell, hB6.cell] at k78_3
          have k79_3 := hfr3 79 rfl; try simp only [EN, Nat.reduceEqDiff, reduceIte, k79_2, hp.cell, hB1.cell, hp.cell, hp.cell, hB6.cell] at k79_3
          have k80_3 := hfr3 80 rfl; try simp only [EN, Nat.reduceEqDiff, reduceIte, i80_2, hp.cell, hB1.cell, hp.cell, hp.cell, hB6.cell] at k80_3
          have k90_3 := hfr3 90 rfl; try simp only [EN, Nat.reduceEqDiff, reduceIte, hp.cell, hB1.cell, hp.cell, hp.cell, hB6.cell] at k90_3
          refine hx_seq (hx_region ?_)
          refine WL.qq (by simp only [EN, Nat.reduceEqDiff, reduceIte, qv_binOp, binv_lss, k90_3, i91_3, hp.cell, hB1.cell, hp.cell, hp.cell, hB6.cell]; rfl) ?_
          refine WL.nil (th_norm (hx_seq ?_))
          refine hx_cond (by simp only [EN, Nat.reduceEqDiff, reduceIte, hp.cell, hB1.cell, hp.cell, hp.cell, hB6.cell]; rfl) (fun hct92 => ?_) (fun hct92 => ?_)
          ·
           try simp only [BD] at hct92
           have hst := sumF_step (f := aE E x) (l := List.range E.os.length) (i := j) (x := j) (by rw [List.getElem?_range (by omega)]); have hb1 := hc0.part x (j + 1); have hb0 := hc0.part x j; rw [hst] at hb1; have hua : lk U ⟨x.s, j⟩ = aE E x j := hU ⟨x.s, j⟩ (by simp only; omega)
           refine hx_skip (th_norm (hx_seq (hx_block (hx_seq (hx_region ?_)))))
           iterate 2 refine WL.qq (by simp only [EN, Nat.reduceEqDiff, reduceIte, qv_move, i91_3, hp.cell, hB1.cell, hp.cell, hp.cell, hB6.cell, qv_assign]; rfl) ?_
           refine WL.nil (th_norm (hx_region ?_))
           iterate 5 refine WL.qq (by simp only [EN, Nat.reduceEqDiff, reduceIte, qv_move, i13_3, hp.cell, hB1.cell, hp.cell, hp.cell, hB6.cell, k6_3, qv_fieldAddr, fa78_0, Nat.zero_add, Nat.reduceAdd, k12_3, qv_load, ld9, readN, AR]; rfl) ?_
           refine WL.qq (by refine qv_bld (by simp only [EN, Nat.reduceEqDiff, reduceIte, AR, hp.cell, hB1.cell, hp.cell, hp.cell, hB6.cell] <;> rfl) (by rw [bl89]; simp [Instr.fill, Value.cells]; rfl)) ?_
           refine WL.qq (by refine Eq.trans (b := some (iV (aE E x j))) ?_ rfl; simp only [EN, Nat.reduceEqDiff, reduceIte, k0_3, k6_3, k10_3, k12_3, k78_3, k79_3, k80_3, k90_3, i91_3, i13_3, hp.cell, hB1.cell, hp.cell, hp.cell, hB6.cell, qv_lookup]; rw [← hua]; exact lkE hC.m ⟨x.s, j⟩) ?_
           iterate 2 refine WL.qq (by simp only [EN, Nat.reduceEqDiff, reduceIte, qv_binOp, binv_sub, hp.cell, hB1.cell, hp.cell, hp.cell, hB6.cell, qv_assign]; (try simp (disch := omega) only [w64, w8, wu64]); rfl) ?_
           refine WL.nil (bl_norm (th_norm (hx_region ?_)))
           iterate 2 refine WL.qq (by simp only [EN, Nat.reduceEqDiff, reduceIte, qv_binOp, binv_add, i91_3, hp.cell, hB1.cell, hp.cell, hp.cell, hB6.cell, qv_move]; (try simp (disch := omega) only [w64, w8, wu64]); rfl) ?_
           refine WL.nil (th_norm ?_)
           refine ⟨rfl, rfl, ?_, _, ?_, j + 1, r - aE E x j, rfl, ?_, ?_, ?_, ?_⟩
           · (repeat (first | exact Fr.refl _ _ | refine Fr.set rfl ?_ | refine Fr.put rfl ?_ | with_reducible refine Fr.put0 ?_))
           · omega
           · omega
           · rw [hst, hr]; omega
           · simp only [EN, Nat.reduceEqDiff, reduceIte, k0_3, k6_3, k10_3, k12_3, k78_3, k79_3, k80_3, k90_3, i91_3, i13_3, hp.cell, hB1.cell, hp.cell, hp.cell, hB6.cell] <;> first | rfl | (congr 1; omega)
           · simp only [EN, Nat.reduceEqDiff, reduceIte, k0_3, k6_3, k10_3, k12_3, k78_3, k79_3, k80_3, k90_3, i91_3, i13_3, hp.cell, hB1.cell, hp.cell, hp.cell, hB6.cell] <;> first | rfl | (congr 1; omega)
          ·
           try simp only [BD] at hct92
           have htk : (List.range E.os.length).take j = List.range E.os.length := List.take_of_length_le (by rw [List.length_range]; omega)
           rw [htk] at hr; have hrst : r = rstE E x := hr; subst hrst
           refine hx_exit (th_exit (th_exit (bl_hit (th_norm (hx_seq ?_)))))
           apply hx_draw2 Rel.grows [9] [] [] rfl (by decide +kernel) rfl
           iterate 7 refine LD.qq rfl rfl (by simp only [EN, Nat.reduceEqDiff, reduceIte, qv_move, k6_3, hp.cell, hB1.cell, hp.cell, hp.cell, hB6.cell, qv_fieldAddr, fa78_0, Nat.zero_add, Nat.reduceAdd, k12_3, qv_load, ld9, readN, AR, k0_3, qv_nilCheck, fa85_2, ld3]; rfl) ?_
           refine LD.qq rfl rfl (by refine qv_bld (by simp only [EN, Nat.reduceEqDiff, reduceIte, AR, hp.cell, hB1.cell, hp.cell, hp.cell, hB6.cell] <;> rfl) (by rw [bl89]; simp [Instr.fill, Value.cells]; rfl)) ?_
           refine LD.qq rfl rfl (by simp only [EN, Nat.reduceEqDiff, reduceIte, qv_move, i13_3, hp.cell, hB1.cell, hp.cell, hp.cell, hB6.cell]; rfl) ?_
           refine LD.skip rfl ?_
           refine LD.nil ?_
           rintro h7 hx7 hF29
           replace hx7 : Ext _ _ := hx7
           replace hC := hC.ext hx7
           replace hp := hp.ext hx7
           replace ho := ho.ext hx7
           replace hB6 := hB6.ext hx7
           refine WL.ef _ (e_mapUpdate (x := (⟨x.s, E.d⟩ : PK)) (v := rstE E x) ktE Tryz.underlying83 hC.m (by simp only [EN, Nat.reduceEqDiff, reduceIte, k0_3, k6_3, k10_3, k12_3, k78_3, k79_3, k80_3, k90_3, i91_3, i13_3, hp.cell, hB1.cell, hp.cell, hp.cell, hB6.cell]) (by simp only [EN, Nat.reduceEqDiff, reduceIte, k0_3, k6_3, k10_3, k12_3, k78_3, k79_3, k80_3, k90_3, i91_3, i13_3, hp.cell, hB1.cell, hp.cell, hp.cell, hB6.cell] <;> rfl) (by simp only [EN, Nat.reduceEqDiff, reduceIte, k0_3, k6_3, k10_3, k12_3, k78_3, k79_3, k80_3, k90_3, i91_3, i13_3, hp.cell, hB1.cell, hp.cell, hp.cell, hB6.cell] <;> rfl)) ?_
           rintro _ h40 ⟨⟨o40, hw40⟩, hm40⟩
           simp only [put_none]
           replace ho := ho.keep (fun c hc => hw40.same c fun hh => by subst hh; exact ho.nmap hC.m hc)
           replace hB6 := hB6.wr hw40 (hB6.nmap hC.m)
           replace hC := hC.put hw40 hm40
           replace hp := hC.blk
           refine WL.nil (th_norm (hx_seq (hx_region ?_)))
           iterate 6 refine WL.qq (by simp only [EN, Nat.reduceEqDiff, reduceIte, qv_move, k0_3, hp.cell, hB1.cell, hp.cell, hp.cell, hB6.cell, qv_nilCheck, qv_fieldAddr, fa85_1, Nat.zero_add, Nat.reduceAdd, qv_load, ld81, readN, AR, qv_len, ln81]; rfl) ?_
           refine WL.nil (th_norm (hx_block ?_))
           refine hx_loopG [10, 15, 16, 17, 117, 118, 119, 120, 121, 122, 123, 124, 125, 126, 127, 128, 129, 130, 131, 132, 133, 134, 135, 136, 137, 138, 139, 140, 141, 142, 143, 144, 145, 146, 147, 148, 149, 150] (fun k e hL4 => ∃ (j : Nat) (v : Value) (M : List RR), E.os.length - j = k ∧ (j ≤ E.os.length) ∧ (CI h hL4 N p b (.slice ah E.hs.length ch) (.slice ao E.os.length co) E B4 (mset U ⟨x.s, E.d⟩ (rstE E x))) ∧ (Has hL4 p (.cells #[.slice ah E.hs.length ch, .slice ao E.os.length co, iV E.d, iV E.dd, iV E.dm, .map (some b), .bool true] tyEl)) ∧ (M = L ++ (E.os.zipIdx.take j).filterMap (rxF E x)) ∧ (Own hL4 h.size tyRx 4 v M.length (M.flatMap rxL)) ∧ (Has hL4 B6 (.cells #[.string x.s, iV x.n] tyH)) ∧ e 117 = .int .i64 j ∧ e 10 = v) _ ⟨0, v, L, rfl, ?_, ?_, ?_, ?_, ?_, ?_, ?_, ?_⟩ ?_
           · omega
           · exact hC
           · exact hC.blk
           · simp
           · exact ho
           · exact hB6
           · simp only [EN, Nat.reduceEqDiff, reduceIte, k0_3, k6_3, k10_3, k12_3, k78_3, k79_3, k80_3, k90_3, i91_3, i13_3, hp.cell, hB1.cell, hp.cell, hp.cell, hB6.cell] <;> rfl
           · simp only [EN, Nat.reduceEqDiff, reduceIte, k0_3, k6_3, k10_3, k12_3, k78_3, k79_3, k80_3, k90_3, i91_3, i13_3, hp.cell, hB1.cell, hp.cell, hp.cell, hB6.cell] <;> rfl
           ·
            rintro k e4L hL4 hfr4 ⟨j, v, M, rfl, hj, hC, hp, hM, ho, hB, i117_4, i10_4⟩
            have k0_4 := hfr4 0 rfl; try simp only [EN, Nat.reduceEqDiff, reduceIte, k0_3, hp.cell, hB1.cell, hp.cell, hp.cell, hB6.cell] at k0_4
            have k6_4 := hfr4 6 rfl; try simp only [EN, Nat.reduceEqDiff, reduceIte, k6_3, hp.cell, hB1.cell, hp.cell, hp.cell, hB6.cell] at k6_4
            have k12_4 := hfr4 12 rfl; try simp only [EN, Nat.reduceEqDiff, reduceIte, k12_3, hp.cell, hB1.cell, hp.cell, hp.cell, hB6.cell] at k12_4
            have k78_4 := hfr4 78 rfl; try simp only [EN, Nat.reduceEqDiff, reduceIte, k78_3, hp.cell, hB1.cell, hp.cell, hp.cell, hB6.cell] at k78_4
            have k79_4 := hfr4 79 rfl; try simp only [EN, Nat.reduceEqDiff, reduceIte, k79_3, hp.cell, hB1.cell, hp.cell, hp.cell, hB6.cell] at k79_4
            have k80_4 := hfr4 80 rfl; try simp only [EN, Nat.reduceEqDiff, reduceIte, k80_3, hp.cell, hB1.cell, hp.cell, hp.cell, hB6.cell] at k80_4
            have k115_4 := hfr4 115 rfl; try simp only [EN, Nat.reduceEqDiff, reduceIte, hp.cell, hB1.cell, hp.cell, hp.cell, hB6.cell] at k115_4
            have k116_4 := hfr4 116 rfl; try simp only [EN, Nat.reduceEqDiff, reduceIte, hp.cell, hB1.cell, hp.cell, hp.cell, hB6.cell] at k116_4
            refine hx_seq (hx_region ?_)
            refine WL.qq (by simp only [EN, Nat.reduceEqDiff, reduceIte, qv_binOp, binv_lss, k116_4, i117_4, hp.cell, hB1.cell, hp.cell, hp.cell, hB6.cell, hp.cell, hB.cell]; rfl) ?_
            refine WL.nil (th_norm (hx_seq ?_))
            refine hx_cond (by simp only [EN, Nat.reduceEqDiff, reduceIte, hp.cell, hB1.cell, hp.cell, hp.cell, hB6.cell, hp.cell, hB.cell]; rfl) (fun hct118 => ?_) (fun hct118 => ?_)
            ·
             try simp only [BD] at hct118
             obtain ⟨z, hz⟩ := atG (l := E.os) (i := j) (by omega)
             obtain ⟨ao2, co2, hv2, hso2⟩ := hC.e.so; cases hv2; obtain ⟨b2, o2, ha2, hr3, _⟩ := si_rd hso2 hz
             have hst := fmap_step (f := rxF E x) (zip_at hz); have hMb : M.length ≤ 40 * 16 + 16 := (by rw [hM, List.length_append]; have := fmap_len (rxF E x) E.os.zipIdx j; omega)
             have hlu : lk (mset U ⟨x.s, E.d⟩ (rstE E x)) ⟨x.s, j⟩ = acE E x j := (by rw [lk_mset]; unfold acE; by_cases h9 : j = E.d; (rw [if_pos (by rw [h9]), if_pos h9]); (rw [if_neg (fun hh => h9 (by have := (pk_eq.1 hh).2; simp only at this; omega)), if_neg h9]; exact hU ⟨x.s, j⟩ (by simp only; omega)))
             refine hx_skip (th_norm (hx_seq (hx_block (hx_seq (hx_region ?_)))))
             have hC0 := hC; have ho0 := ho; have hBo := hB
             iterate 2 refine WL.qq (by simp only [EN, Nat.reduceEqDiff, reduceIte, qv_move, i117_4, hp.cell, hB1.cell, hp.cell, hp.cell, hB6.cell, hp.cell, hB.cell, qv_indexAddr, k115_4, ha2]; (try simp (disch := omega) only [ix81, Int.toNat_natCast]); rfl) ?_
             refine WL.qq (by simp only [EN, Nat.reduceEqDiff, reduceIte, k0_4, k6_4, k12_4, k78_4, k79_4, k80_4, k115_4, k116_4, i117_4, i10_4, hp.cell, hB1.cell, hp.cell, hp.cell, hB6.cell, hp.cell, hB.cell, qv_load, ld80, Int.toNat_natCast, hr3]; rfl) ?_
             refine WL.alloc2 zr80 ?_
             intro h8 B8 hx8 hlt8 hB8
             replace hC := hC.ext hx8
             replace hp := hp.ext hx8
             replace ho := ho.ext hx8
             replace hB := hB.ext hx8
             simp only [Value.cells] at hB8
             refine WL.qq (by simp only [EN, Nat.reduceEqDiff, reduceIte, qv_assign, hp.cell, hB1.cell, hp.cell, hp.cell, hB6.cell, hp.cell, hB.cell, hB8.cell]; rfl) ?_
             refine WL.store (by simp only [EN, Nat.reduceEqDiff, reduceIte, hp.cell, hB1.cell, hp.cell, hp.cell, hB6.cell, hp.cell, hB.cell, hB8.cell] <;> rfl) sz80 (by simp only [EN, Nat.reduceEqDiff, reduceIte, Value.cells, hp.cell, hB1.cell, hp.cell, hp.cell, hB6.cell, hp.cell, hB.cell, hB8.cell] <;> rfl) rfl hB8 (by first | (simp [true_and]; done) | (simp [true_and]; omega) | omega) (by simp [Value.oneCell']) ?_
             intro h9 hw9
             have hx9 := hw9.ext hx8 hlt8
             replace hC := hC0.ext hx9
             replace hp := hC.blk
             replace ho := ho0.ext hx9
             replace hB := hBo.ext hx9
             replace hB8 := hw9.at_
             try simp only [splc, List.take_succ_cons, List.take_zero, List.take_nil, List.drop_succ_cons, List.drop_zero, List.drop_nil, List.cons_append, List.nil_append, List.length_cons, List.length_nil, Nat.zero_add, Nat.add_zero, Nat.reduceAdd, List.append_nil] at hB8
             refine WL.nil (th_norm (hx_seq ?_))
             apply hx_draw2 Rel.grows [17] [8, 16] [(8, Spec.is _), (16, Spec.blk _ _ 64)] rfl (by decide +kernel) rfl
             have hC1 := hC; have ho1 := ho; have hBo1 := hB; have hBo4 := hB8
             iterate 8 refine LD.qq rfl rfl (by simp only [EN, Nat.reduceEqDiff, reduceIte, qv_fieldAddr, fa78_0, Nat.zero_add, Nat.reduceAdd, k12_4, hp.cell, hB1.cell, hp.cell, hp.cell, hB6.cell, hp.cell, hB.cell, hB8.cell, qv_load, ld9, readN, AR, fa80_0, qv_move, k0_4]; rfl) ?_
             refine LD.ck rfl rfl Tryz.call42 (by intro hD hr; have hx : Ext _ _ := hr; have hC := hC.ext hx; have hp := hp.ext hx; have ho := ho.ext hx; have hB := hB.ext hx; have hB8 := hB8.ext hx; simp only [EN, Nat.reduceEqDiff, reduceIte, AR, hp.cell, hB1.cell, hp.cell, hp.cell, hB6.cell, hp.cell, hB.cell, hB8.cell]; exact c_tknS hc0.b x.s j hC.e) ?_
             iterate 4 refine LD.qq rfl rfl (by simp only [EN, Nat.reduceEqDiff, reduceIte, qv_move, k6_4, hp.cell, hB1.cell, hp.cell, hp.cell, hB6.cell, hp.cell, hB.cell, hB8.cell, qv_fieldAddr, fa78_0, Nat.zero_add, Nat.reduceAdd, k12_4, qv_load, ld9, readN, AR]; rfl) ?_
             refine LD.qq rfl rfl (by refine qv_bld (by simp only [EN, Nat.reduceEqDiff, reduceIte, AR, hp.cell, hB1.cell, hp.cell, hp.cell, hB6.cell, hp.cell, hB.cell, hB8.cell] <;> rfl) (by rw [bl89]; simp [Instr.fill, Value.cells]; rfl)) ?_
             refine LD.qq rfl rfl (by refine Eq.trans (b := some (iV (acE E x j))) ?_ rfl; simp only [EN, Nat.reduceEqDiff, reduceIte, k0_4, k6_4, k12_4, k78_4, k79_4, k80_4, k115_4, k116_4, i117_4, i10_4, hp.cell, hB1.cell, hp.cell, hp.cell, hB6.cell, hp.cell, hB.cell, hB8.cell, qv_lookup]; rw [← hlu]; exact lkE hC.m ⟨x.s, j⟩) ?_
             refine LD.qq rfl rfl (by refine qv_bld (by simp only [EN, Nat.reduceEqDiff, reduceIte, AR, hp.cell, hB1.cell, hp.cell, hp.cell, hB6.cell, hp.cell, hB.cell, hB8.cell] <;> rfl) (by rw [bl64]; simp [Instr.fill, Value.cells]; rfl)) ?_
             refine LD.al rfl rfl zr64 (Nat.le_refl _) ?_
             intro B10 hlt10
             refine LD.skip rfl ?_
             refine LD.nil ?_
             rintro h11 hx11 hF33
             replace hx11 : Ext _ _ := hx11
             replace hC := hC.ext hx11
             replace hp := hp.ext hx11
             replace ho := ho.ext hx11
             replace hB := hB.ext hx11
             replace hB8 := hB8.ext hx11
             have hB10 := hF33 (16, .pointer (some ⟨B10, 0, none⟩)) (by simp) _ rfl B10 rfl
             simp only [Value.cells] at hB10
             refine WL.store (by simp only [EN, Nat.reduceEqDiff, reduceIte, hp.cell, hB1.cell, hp.cell, hp.cell, hB6.cell, hp.cell, hB.cell, hB8.cell, hB10.cell] <;> rfl) sz64 (by simp only [EN, Nat.reduceEqDiff, reduceIte, Value.cells, hp.cell, hB1.cell, hp.cell, hp.cell, hB6.cell, hp.cell, hB.cell, hB8.cell, hB10.cell] <;> rfl) rfl hB10 (by first | (simp [true_and]; done) | (simp [true_and]; omega) | omega) (by simp [Value.oneCell']) ?_
             intro h12 hw12
             have hx12 := hw12.ext hx11 hlt10
             replace hC := hC1.ext hx12
             replace hp := hC.blk
             replace ho := ho1.ext hx12
             replace hB := hBo1.ext hx12
             replace hB8 := hBo4.ext hx12
             replace hB10 := hw12.at_
             try simp only [splc, List.take_succ_cons, List.take_zero, List.take_nil, List.drop_succ_cons, List.drop_zero, List.drop_nil, List.cons_append, List.nil_append, List.length_cons, List.length_nil, Nat.zero_add, Nat.add_zero, Nat.reduceAdd, List.append_nil] at hB10
             refine WL.nil (th_norm (hx_seq (hx_region ?_)))
             iterate 4 refine WL.qq (by simp only [EN, Nat.reduceEqDiff, reduceIte, qv_fieldAddr, fa64_2, Nat.zero_add, Nat.reduceAdd, hp.cell, hB1.cell, hp.cell, hp.cell, hB6.cell, hp.cell, hB.cell, hB8.cell, hB10.cell, qv_load, ld2, readN, AR, qv_binOp, binv_gtr, qv_move]; rfl) ?_
             refine WL.cq (gd_at (t := 141) rfl (by simp only [EN, Nat.reduceEqDiff, reduceIte, hp.cell, hB1.cell, hp.cell, hp.cell, hB6.cell, hp.cell, hB.cell, hB8.cell, hB10.cell] <;> rfl)) (fun hg34_4 => by simp only [EN, Nat.reduceEqDiff, reduceIte, qv_fieldAddr, fa64_3, Nat.zero_add, Nat.reduceAdd, hp.cell, hB1.cell, hp.cell, hp.cell, hB6.cell, hp.cell, hB.cell, hB8.cell, hB10.cell, hg34_4, GR]; rfl) ?_
             refine WL.cq (gd_at (t := 141) rfl (by simp only [EN, Nat.reduceEqDiff, reduceIte, hp.cell, hB1.cell, hp.cell, hp.cell, hB6.cell, hp.cell, hB.cell, hB8.cell, hB10.cell] <;> rfl)) (fun hg34_5 => by simp only [EN, Nat.reduceEqDiff, reduceIte, qv_load, ld2, readN, AR, Nat.zero_add, Nat.reduceAdd, hp.cell, hB1.cell, hp.cell, hp.cell, hB6.cell, hp.cell, hB.cell, hB8.cell, hB10.cell, hg34_5, GR]; rfl) ?_
             refine WL.cq (gd_at (t := 141) rfl (by simp only [EN, Nat.reduceEqDiff, reduceIte, hp.cell, hB1.cell, hp.cell, hp.cell, hB6.cell, hp.cell, hB.cell, hB8.cell, hB10.cell] <;> rfl)) (fun hg34_6 => by simp only [EN, Nat.reduceEqDiff, reduceIte, qv_binOp, binv_gtr, hp.cell, hB1.cell, hp.cell, hp.cell, hB6.cell, hp.cell, hB.cell, hB8.cell, hB10.cell, hg34_6, GR]; rfl) ?_
             refine WL.qq (by simp only [EN, Nat.reduceEqDiff, reduceIte, qv_pick, pk_and, pk_or, GR, hp.cell, hB1.cell, hp.cell, hp.cell, hB6.cell, hp.cell, hB.cell, hB8.cell, hB10.cell]; rfl) ?_
             refine WL.nil (th_norm ?_)
             refine hx_cond (by simp only [EN, Nat.reduceEqDiff, reduceIte, hp.cell, hB1.cell, hp.cell, hp.cell, hB6.cell, hp.cell, hB.cell, hB8.cell, hB10.cell]; rfl) (fun hct145 => ?_) (fun hct145 => ?_)
             ·
              try simp only [BD] at hct145
              refine hx_region ?_
              iterate 2 refine WL.qq (by simp only [EN, Nat.reduceEqDiff, reduceIte, qv_move, i10_4, hp.cell, hB1.cell, hp.cell, hp.cell, hB6.cell, hp.cell, hB.cell, hB8.cell, hB10.cell, qv_load, ld64, readN, AR, Nat.zero_add, Nat.reduceAdd]; rfl) ?_
              refine WL.push (bytes := 48) Tryz.underlying45 (inf_of Tryz.type64) rfl rfl rfl rfl (by decide) (by decide) sz64 zr64 (fun u => by simp only [EN, Nat.reduceEqDiff, reduceIte, k0_4, k6_4, k12_4, k78_4, k79_4, k80_4, k115_4, k116_4, i117_4, i10_4, hp.cell, hB1.cell, hp.cell, hp.cell, hB6.cell, hp.cell, hB.cell, hB8.cell, hB10.cell]) ho (c := (rxL ⟨x.s, z.s, tknE E x.s j, acE E x j⟩).toArray) (by simp only [EN, Nat.reduceEqDiff, reduceIte, k0_4, k6_4, k12_4, k78_4, k79_4, k80_4, k115_4, k116_4, i117_4, i10_4, hp.cell, hB1.cell, hp.cell, hp.cell, hB6.cell, hp.cell, hB.cell, hB8.cell, hB10.cell, Value.cells] <;> rfl) rfl (by simp [Value.oneCell']) (by simp only [maxLen]; omega) (by omega) (by have := hC.g.size; omega) ?_
              intro h40 v40 B40 ho40 hg40 hp40 hn40
              replace hC := hC.grw hg40 ho (by decide) (by decide) (by decide)
              replace hB := hB.gr hg40 (fun hh => ho.ncell hB (by decide) hh)
              replace hp := hC.blk
              skip
              refine WL.qq (by simp only [EN, Nat.reduceEqDiff, reduceIte, qv_assign, hp.cell, hB1.cell, hp.cell, hp.cell, hB6.cell, hp.cell, hB.cell, hB8.cell, hB10.cell]; rfl) ?_
              refine WL.nil (bl_norm (th_norm (hx_region ?_)))
              iterate 2 refine WL.qq (by simp only [EN, Nat.reduceEqDiff, reduceIte, qv_binOp, binv_add, i117_4, hp.cell, hB1.cell, hp.cell, hp.cell, hB6.cell, hp.cell, hB.cell, hB8.cell, hB10.cell, qv_move]; (try simp (disch := omega) only [w64, w8, wu64]); rfl) ?_
              refine WL.nil (th_norm ?_)
              refine ⟨rfl, ?_, _, ?_, j + 1, v40, M ++ [⟨x.s, z.s, tknE E x.s j, acE E x j⟩], rfl, ?_, ?_, ?_, ?_, ?_, ?_, ?_, ?_⟩
              · (repeat (first | exact Fr.refl _ _ | refine Fr.set rfl ?_ | refine Fr.put rfl ?_ | with_reducible refine Fr.put0 ?_))
              · omega
              · omega
              · exact hC
              · exact hC.blk
              · rw [hst, hM, List.append_assoc]; simp only [rxF]; rw [if_pos (by simpa using hct145)]; rfl
              · rw [List.length_append, List.flatMap_append]; exact ho40
              · exact hB
              · simp only [EN, Nat.reduceEqDiff, reduceIte, k0_4, k6_4, k12_4, k78_4, k79_4, k80_4, k115_4, k116_4, i117_4, i10_4, hp.cell, hB1.cell, hp.cell, hp.cell, hB6.cell, hp.cell, hB.cell, hB8.cell, hB10.cell] <;> first | rfl | (congr 1; omega)
              · simp only [EN, Nat.reduceEqDiff, reduceIte, k0_4, k6_4, k12_4, k78_4, k79_4, k80_4, k115_4, k116_4, i117_4, i10_4, hp.cell, hB1.cell, hp.cell, hp.cell, hB6.cell, hp.cell, hB.cell, hB8.cell, hB10.cell] <;> first | rfl | (congr 1; omega)
             ·
              try simp only [BD] at hct145
              refine hx_skip (bl_norm (th_norm (hx_region ?_)))
              iterate 2 refine WL.qq (by simp only [EN, Nat.reduceEqDiff, reduceIte, qv_binOp, binv_add, i117_4, hp.cell, hB1.cell, hp.cell, hp.cell, hB6.cell, hp.cell, hB.cell, hB8.cell, hB10.cell, qv_move]; (try simp (disch := omega) only [w64, w8, wu64]); rfl) ?_
              refine WL.nil (th_norm ?_)
              refine ⟨rfl, ?_, _, ?_, j + 1, v, M, rfl, ?_, ?_, ?_, ?_, ?_, ?_, ?_, ?_⟩
              · (repeat (first | exact Fr.refl _ _ | refine Fr.set rfl ?_ | refine Fr.put rfl ?_ | with_reducible refine Fr.put0 ?_))
              · omega
              · omega
              · exact hC
              · exact hC.blk
              · rw [hst, hM]; simp only [rxF]; rw [if_neg (by simpa using hct145)]; simp
              · exact ho
              · exact hB
              · simp only [EN, Nat.reduceEqDiff, reduceIte, k0_4, k6_4, k12_4, k78_4, k79_4, k80_4, k115_4, k116_4, i117_4, i10_4, hp.cell, hB1.cell, hp.cell, hp.cell, hB6.cell, hp.cell, hB.cell, hB8.cell, hB10.cell] <;> first | rfl | (congr 1; omega)
              · simp only [EN, Nat.reduceEqDiff, reduceIte, k0_4, k6_4, k12_4, k78_4, k79_4, k80_4, k115_4, k116_4, i117_4, i10_4, hp.cell, hB1.cell, hp.cell, hp.cell, hB6.cell, hp.cell, hB.cell, hB8.cell, hB10.cell] <;> first | rfl | (congr 1; omega)
            ·
             try simp only [BD] at hct118
             obtain rfl : j = E.os.length := (by omega)
             rw [List.take_of_length_le (by rw [List.length_zipIdx]; exact Nat.le_refl _)] at hM
             refine hx_exit (th_exit (th_exit (bl_hit (bl_norm (th_norm (hx_region ?_))))))
             iterate 2 refine WL.qq (by simp only [EN, Nat.reduceEqDiff, reduceIte, qv_binOp, binv_add, k80_4, hp.cell, hB1.cell, hp.cell, hp.cell, hB6.cell, hp.cell, hB.cell, qv_move]; (try simp (disch := omega) only [w64, w8, wu64]); rfl) ?_
             refine WL.nil (th_norm ?_)
             refine ⟨rfl, ?_, _, ?_, i + 1, v, M, mset U ⟨x.s, E.d⟩ (rstE E x), rfl, ?_, ?_, ?_, ?_, ?_, ?_, ?_, ?_⟩
             · (repeat (first | exact Fr.refl _ _ | refine Fr.set rfl ?_ | refine Fr.put rfl ?_ | with_reducible refine Fr.put0 ?_ | refine Fr.trans ?_ (Fr.of hfr4 rfl) | refine Fr.trans ?_ (Fr.of hfr3 rfl)))
             · omega
             · omega
             · exact hC
             · exact hC.blk
             · intro q hq; rw [lk_mset, if_neg (fun hh => by subst hh; simp only at hq; omega)]; exact hU q (by omega)
             · rw [fmp_step hx, hM, hL]; rfl
             · exact ho
             · simp only [EN, Nat.reduceEqDiff, reduceIte, k0_4, k6_4, k12_4, k78_4, k79_4, k80_4, k115_4, k116_4, i117_4, i10_4, hp.cell, hB1.cell, hp.cell, hp.cell, hB6.cell, hp.cell, hB.cell] <;> first | rfl | (congr 1; omega)
             · simp only [EN, Nat.reduceEqDiff, reduceIte, k0_4, k6_4, k12_4, k78_4, k79_4, k80_4, k115_4, k116_4, i117_4, i10_4, hp.cell, hB1.cell, hp.cell, hp.cell, hB6.cell, hp.cell, hB.cell] <;> first | rfl | (congr 1; omega)
        ·
         try simp only [BD] at hct81
         obtain rfl : i = E.hs.length := (by omega)
         rw [List.take_length] at hL; subst hL
         refine hx_exit (th_exit (th_exit (bl_hit (th_norm (hx_seq (hx_region ?_))))))
         iterate 3 refine WL.qq (by simp only [EN, Nat.reduceEqDiff, reduceIte, qv_move, i10_2, hp.cell, hB1.cell, hp.cell, hp.cell, qv_assign]; rfl) ?_
         refine WL.nil (th_norm (hx_ret ?_))
         refine fin_ret [.tmp 4, .tmp 5] rfl rfl (by simp only [EN, Nat.reduceEqDiff, reduceIte, resv, k0_2, k6_2, k78_2, k79_2, i80_2, i10_2, hp.cell, hB1.cell, hp.cell, hp.cell]; rfl) ?_
         exact ⟨hC.g, _, rfl, hC.e, ho⟩
end
end GL
namespace GL
open Go Go.Proofs
set_option maxRecDepth 8000
theorem c_clO (a : Option Addr) (cap : Nat) (l : List SI) (hlen : l.length ≤ 1000000) {h : Heap} (hs : SlG 2 siL h a l) (hn : a = none → cap = 0) :
    HCalls Tryz.prog 31 #[.slice a l.length cap] h fun v h' => Ext h h' ∧ Own h' h.size 80 2 v l.length (l.flatMap siL) := by
  cases a with
  | none =>
    obtain rfl := hs.emp
    refine hcalls2 Tryz.func31 rfl (by decide +kernel) (by simp only [Tryz.ntmps31]; exact of_decide_eq_true rfl) ?_
    intro e hin
    have e0 := hin 0 _ rfl
    refine hx_seq (hx_region ?_)
    refine WL.qq (by simp only [EN, Nat.reduceEqDiff, reduceIte, qv_assign]; rfl) ?_
    refine WL.nil (th_norm (hx_seq (hx_seq (hx_region ?_))))
    refine WL.qq (by simp only [EN, Nat.reduceEqDiff, reduceIte, qv_move, e0]; rfl) ?_
    refine WL.qq (by simp only [EN, Nat.reduceEqDiff, reduceIte, e0, qv_binOp, binv_eql, eqz81, Option.map_some]; rfl) ?_
    refine WL.nil (th_norm ?_)
    refine hx_cond (by simp only [EN, Nat.reduceEqDiff, reduceIte]; rfl) (fun hct4 => ?_) (fun hct4 => ?_)
    ·
     try simp only [BD] at hct4
     refine hx_seq (hx_region ?_)
     refine WL.qq (by simp only [EN, Nat.reduceEqDiff, reduceIte, qv_assign]; rfl) ?_
     refine WL.nil (th_norm (hx_ret (th_ret ?_)))
     refine fin_ret [.tmp 2] rfl rfl (by simp only [EN, Nat.reduceEqDiff, reduceIte, resv, e0]; rfl) ?_
     exact ⟨Ext.refl _, Own.nil⟩
    ·
     cases hct4
  | some ad =>
    refine hcalls2 Tryz.func31 rfl (by decide +kernel) (by simp only [Tryz.ntmps31]; exact of_decide_eq_true rfl) ?_
    intro e hin
    have e0 := hin 0 _ rfl
    refine hx_seq (hx_region ?_)
    refine WL.qq (by simp only [EN, Nat.reduceEqDiff, reduceIte, qv_assign]; rfl) ?_
    refine WL.nil (th_norm (hx_seq (hx_seq (hx_region ?_))))
    refine WL.qq (by simp only [EN, Nat.reduceEqDiff, reduceIte, qv_move, e0]; rfl) ?_
    refine WL.qq (by simp only [EN, Nat.reduceEqDiff, reduceIte, e0, qv_binOp, binv_eql, eqn81, Option.map_some]; rfl) ?_
    refine WL.nil (th_norm ?_)
    refine hx_cond (by simp only [EN, Nat.reduceEqDiff, reduceIte]; rfl) (fun hct4 => ?_) (fun hct4 => ?_)
    ·
     cases hct4
    ·
     try simp only [BD] at hct4
     refine hx_skip (th_norm (hx_seq (hx_region ?_)))
     refine WL.lit0 Tryz.underlying81 sz80 ?_
     intro h1 B1 hx1 hlt1 hB1
     replace hs := hs.ext hx1
     refine WL.qq (by simp only [EN, Nat.reduceEqDiff, reduceIte, qv_move, e0]; rfl) ?_
     refine WL.appG (f := siL) (base := h.size) (n := 0) (xs := []) (bytes := 24) (sz := 2) (L := l) Tryz.underlying81 (inf_of Tryz.type80) rfl rfl rfl rfl (by decide) (fun _ => rfl) siL_one (by simp only [EN, Nat.reduceEqDiff, reduceIte, e0] <;> rfl) (Own.lit0 hB1 hlt1) (by simp only [EN, Nat.reduceEqDiff, reduceIte, e0] <;> rfl) rfl (fun hh => by cases hh) hs (by simp only [maxLen]; omega) (by omega) (by have := hx1.size; omega) ?_
     intro h4 v4 ho4 hg4 hp4 hn4
     have hE4 := hg4.ext hx1 (fun c hc => by cases hc; exact hlt1)
     refine WL.qq (by simp only [EN, Nat.reduceEqDiff, reduceIte, qv_assign]; rfl) ?_
     refine WL.nil (th_norm (hx_ret ?_))
     refine fin_ret [.tmp 2] rfl rfl (by simp only [EN, Nat.reduceEqDiff, reduceIte, resv, e0]; rfl) ?_
     exact ⟨hE4, by simpa [retOf] using ho4⟩
end GL
namespace GL
open Go Go.Proofs
set_option maxRecDepth 8000
def Spec.mN {κ β : Type} (ek : κ → Value) (ev' : β → Value) (N : Nat) (l : List (κ × β)) : Spec := ⟨fun v => ∃ B, N ≤ B ∧ v = .map (some B), fun v h => ∀ B, v = .map (some B) → MapT ek ev' h B l, ⟨.map (some N), N, Nat.le_refl _, rfl⟩, fun _ _ _ hx hm B hB => (hm B hB).ext hx⟩
section
variable {N p b N' p' b' : Nat} {vh vo vh' vo' : Value} {E F : EL} {h : Heap}
def eqE (E F : EL) : Prop := E.hs = F.hs ∧ E.os = F.os ∧ E.d = F.d ∧ E.dd = F.dd ∧ E.dm = F.dm ∧ mapEq E.m F.m ∧ E.cl = F.cl
instance (E F : EL) : Decidable (eqE E F) := inferInstanceAs (Decidable (_ ∧ _))
end
end GL
namespace GL
open Go Go.Proofs
set_option maxRecDepth 8000
theorem ktS : KT Tryz.prog 9 Value.string := kt_plain Tryz.underlying9 (fun a => trivial) (fun h => by cases h; rfl)
abbrev tyMs : TypeId := 129
def lb {κ : Type} [DecidableEq κ] (l : List (κ × Bool)) (q : κ) : Bool := (l.lookup q).getD false
theorem lb_mset {κ : Type} [DecidableEq κ] (l : List (κ × Bool)) (x q : κ) (v : Bool) : lb (mset l x v) q = if q = x then v else lb l q := by
  unfold lb
  rw [lookup_mset]
  split <;> rfl
theorem lkMs {h : Heap} {b : Nat} {l : List (ByteArray × Bool)} (hm : MapT Value.string Value.bool h b l) (q : ByteArray) : GL.lookv Tryz.prog tyMs (.map (some b)) (.string q) false h = some (.bool (lb l q)) := by
  rw [hm.lookv (z := false) ktS Tryz.underlying129 zr4 q false]; rfl
def ckH (pre : List SI) (x : SI) : Int := if x.s = em then 6 else if pre.any (fun y => decide (y.s = x.s)) then 7 else if x.n < 1 ∨ 1000000000000000 < x.n then 2 else 0
def goH : List SI → List SI → Int
  | _, [] => 0
  | pre, x :: l => if ckH pre x = 0 then goH (pre ++ [x]) l else ckH pre x
def erH (l : List SI) : Int := if l.length = 0 ∨ 1024 < l.length then 8 else if goH [] l ≠ 0 then goH [] l else if 1000000000000000 < sumF SI.n l then 12 else 0
def ltS (s : ByteArray) : Bool := s.toList.all fun c => (65 ≤ c && c ≤ 90) || (48 ≤ c && c ≤ 57)
def ckO (pre : List SI) (x : SI) : Int := if x.s = em ∨ 16 < x.s.size ∨ ltS x.s = false then 3 else if 0 ≤ idxS x.s pre then 7 else if x.n < 0 ∨ 1000000000000000 < x.n then 2 else 0
def goO : List SI → List SI → Int
  | _, [] => 0
  | pre, x :: l => if ckO pre x = 0 then goO (pre ++ [x]) l else ckO pre x
def erO (l : List SI) : Int := if l.length = 0 ∨ 16 < l.length then 8 else goO [] l
theorem goH_step {l : List SI} {i : Nat} {x : SI} (hx : l[i]? = some x) : goH (l.take i) (l.drop i) = if ckH (l.take i) x = 0 then goH (l.take (i + 1)) (l.drop (i + 1)) else ckH (l.take i) x := by
  rw [drop_atG hx, goH, List.take_add_one, hx]; rfl
theorem goO_step {l : List SI} {i : Nat} {x : SI} (hx : l[i]? = some x) : goO (l.take i) (l.drop i) = if ckO (l.take i) x = 0 then goO (l.take (i + 1)) (l.drop (i + 1)) else ckO (l.take i) x := by
  rw [drop_atG hx, goO, List.take_add_one, hx]; rfl
theorem lookS_step {M : List (ByteArray × Bool)} {l : List SI} {i : Nat} {x : SI} (hx : l[i]? = some x) (hM : ∀ s, lb M s = (l.take i).any fun y => decide (y.s = s)) (s : ByteArray) : lb (mset M x.s true) s = (l.take (i + 1)).any fun y => decide (y.s = s) := by
  rw [lb_mset, List.take_add_one, hx, List.any_append, ← hM s]
  by_cases h : s = x.s
  · subst h; simp
  · rw [if_neg h]
    have : ¬ x.s = s := fun hh => h hh.symm
    simp [this]
set_option maxHeartbeats 2000000 in
theorem c_chkH (a : Option Addr) (l : List SI) (c : Nat) (hl : l.length ≤ 1000000) {h : Heap} (hs : SlG 2 siL h a l) :
    HCalls Tryz.prog 47 #[.slice a l.length c] h (Grow (iV (erH l)) h) := by
  refine hcalls2 Tryz.func47 rfl (by decide +kernel) (by simp only [Tryz.ntmps47]; exact of_decide_eq_true rfl) ?_
  intro e hin
  have e0 := hin 0 _ rfl
  refine hx_seq (hx_region ?_)
  refine WL.qq (by simp only [EN, Nat.reduceEqDiff, reduceIte, qv_assign]; rfl) ?_
  refine WL.nil (th_norm (hx_seq (hx_seq (hx_region ?_))))
  iterate 4 refine WL.qq (by simp only [EN, Nat.reduceEqDiff, reduceIte, qv_move, e0, qv_len, ln79, AR, qv_binOp, binv_eql, eq3, Option.map_some]; rfl) ?_
  refine WL.cq (gd_at (t := 10) rfl (by simp only [EN, Nat.reduceEqDiff, reduceIte, e0] <;> rfl)) (fun hg1_4 => by simp only [EN, Nat.reduceEqDiff, reduceIte, qv_move, e0, hg1_4, GR]; rfl) ?_
  refine WL.cq (gd_at (t := 10) rfl (by simp only [EN, Nat.reduceEqDiff, reduceIte] <;> rfl)) (fun hg1_5 => by simp only [EN, Nat.reduceEqDiff, reduceIte, qv_len, ln79, AR, hg1_5, GR]; rfl) ?_
  refine WL.cq (gd_at (t := 10) rfl (by simp only [EN, Nat.reduceEqDiff, reduceIte] <;> rfl)) (fun hg1_6 => by simp only [EN, Nat.reduceEqDiff, reduceIte, qv_binOp, binv_gtr, hg1_6, GR]; rfl) ?_
  refine WL.qq (by simp only [EN, Nat.reduceEqDiff, reduceIte, qv_pick, pk_and, pk_or, GR]; rfl) ?_
  refine WL.nil (th_norm ?_)
  refine hx_cond (by simp only [EN, Nat.reduceEqDiff, reduceIte]; rfl) (fun hct14 => ?_) (fun hct14 => ?_)
  ·
   try simp only [BD] at hct14
   refine hx_seq (hx_region ?_)
   refine WL.qq (by simp only [EN, Nat.reduceEqDiff, reduceIte, qv_assign]; rfl) ?_
   refine WL.nil (th_norm (hx_ret (th_ret ?_)))
   refine fin_ret [.tmp 2] rfl rfl (by simp only [EN, Nat.reduceEqDiff, reduceIte, resv, e0]; rfl) ?_
   exact ⟨by rw [erH, if_pos (by omega)]; rfl, (Ext.refl _)⟩
  ·
   try simp only [BD] at hct14
   have hne : ¬ (l.length = 0 ∨ 1024 < l.length) := (by omega)
   have her : erH l = if goH [] l ≠ 0 then goH [] l else if 1000000000000000 < sumF SI.n l then 12 else 0 := if_neg hne
   refine hx_skip (th_norm (hx_seq (hx_region ?_)))
   refine WL.makeMap2 ?_
   intro h1 B1 hx1 hlt1 hB1
   refine WL.qq (by simp only [EN, Nat.reduceEqDiff, reduceIte, qv_assign]; rfl) ?_
   refine WL.nil (th_norm (hx_seq (hx_region ?_)))
   refine WL.qq (by simp only [EN, Nat.reduceEqDiff, reduceIte, qv_assign]; rfl) ?_
   refine WL.nil (th_norm (hx_seq (hx_seq (hx_region ?_))))
   iterate 3 refine WL.qq (by simp only [EN, Nat.reduceEqDiff, reduceIte, qv_move, e0, qv_len, ln79, AR]; rfl) ?_
   refine WL.nil (th_norm (hx_block ?_))
   refine hx_loopG [2, 4, 6, 18, 19, 20, 21, 22, 23, 24, 25, 26, 27, 28, 29, 30, 31, 32, 33, 34, 35, 36, 37, 38, 39, 40, 41, 42, 43, 44, 45, 46, 47] (fun k e hL0 => ∃ (i : Nat) (M : List (ByteArray × Bool)), l.length - i = k ∧ (i ≤ l.length) ∧ (Ext h hL0) ∧ (MapT Value.string Value.bool hL0 B1 M) ∧ ((∀ s, lb M s = (l.take i).any fun y => decide (y.s = s))) ∧ (goH (l.take i) (l.drop i) = goH [] l) ∧ (∀ y ∈ l.take i, 0 ≤ y.n ∧ y.n ≤ 1000000000000000) ∧ e 18 = .int .i64 i ∧ e 4 = iV (sumF SI.n (l.take i))) _ ⟨0, [], rfl, ?_, ?_, ?_, ?_, ?_, ?_, ?_, ?_⟩ ?_
   · omega
   · exact (hx1)
   · exact MapT.new hB1
   · intro s; rfl
   · rfl
   · intro y hy; simp at hy
   · simp only [EN, Nat.reduceEqDiff, reduceIte, e0] <;> rfl
   · simp only [EN, Nat.reduceEqDiff, reduceIte, e0] <;> rfl
   ·
    rintro k e0L hL0 hfr0 ⟨i, M, rfl, hi, hX, hm, hM, hg, hq, i18_0, i4_0⟩
    have k3_0 := hfr0 3 rfl; try simp only [EN, Nat.reduceEqDiff, reduceIte] at k3_0
    have k16_0 := hfr0 16 rfl; try simp only [EN, Nat.reduceEqDiff, reduceIte] at k16_0
    have k17_0 := hfr0 17 rfl; try simp only [EN, Nat.reduceEqDiff, reduceIte] at k17_0
    refine hx_seq (hx_region ?_)
    refine WL.qq (by simp only [EN, Nat.reduceEqDiff, reduceIte, qv_binOp, binv_lss, k17_0, i18_0]; rfl) ?_
    refine WL.nil (th_norm (hx_seq ?_))
    refine hx_cond (by simp only [EN, Nat.reduceEqDiff, reduceIte]; rfl) (fun hct19 => ?_) (fun hct19 => ?_)
    ·
     try simp only [BD] at hct19
     obtain ⟨x, hx⟩ := atG (l := l) (i := i) (by omega)
     obtain ⟨b1, o1, ha1, hr2, _⟩ := si_rd (hs.ext hX) hx
     have hst := goH_step hx; rw [hg] at hst; have hsu := sumF_step (f := SI.n) hx; have hsb := sumF_bd hq; have hln : (l.take i).length ≤ 1024 := (by rw [List.length_take]; omega)
     refine hx_skip (th_norm (hx_seq (hx_block (hx_seq (hx_region ?_)))))
     refine WL.qq (by simp only [EN, Nat.reduceEqDiff, reduceIte, qv_indexAddr, k16_0, i18_0, ha1]; (try simp (disch := omega) only [ix79, Int.toNat_natCast]); rfl) ?_
     refine WL.qq (by simp only [EN, Nat.reduceEqDiff, reduceIte, k3_0, k16_0, k17_0, i18_0, i4_0, qv_load, ld78, Int.toNat_natCast, hr2]; rfl) ?_
     refine WL.allocSt zr78 sz78 (fun u => by simp only [EN, Nat.reduceEqDiff, reduceIte, Value.cells]; rfl) ⟨rfl, rfl⟩ (by simp [Value.oneCell']) ?_
     intro h2 B2 hx2 hlt2 hB2
     replace hX := hX.ext hx2
     replace hm := hm.ext hx2
     refine WL.nil (th_norm (hx_seq (hx_block (hx_seq (hx_region ?_)))))
     iterate 4 refine WL.qq (by simp only [EN, Nat.reduceEqDiff, reduceIte, qv_fieldAddr, fa78_0, Nat.zero_add, Nat.reduceAdd, hB2.cell, qv_load, ld9, readN, AR, qv_binOp, binv_eql, eq9, Option.map_some, strEq, qv_assign]; rfl) ?_
     refine WL.nil (th_norm ?_)
     refine hx_cond (by simp only [EN, Nat.reduceEqDiff, reduceIte, hB2.cell]; rfl) (fun hct22 => ?_) (fun hct22 => ?_)
     ·
      try simp only [BD] at hct22
      refine hx_seq (hx_region ?_)
      refine WL.qq (by simp only [EN, Nat.reduceEqDiff, reduceIte, qv_assign, hB2.cell]; rfl) ?_
      refine WL.nil (th_norm (hx_ret (bl_ret (th_ret (bl_ret (th_ret (th_ret (bl_ret (th_ret ?_)))))))))
      refine fin_ret [.tmp 2] rfl rfl (by simp only [EN, Nat.reduceEqDiff, reduceIte, resv, k3_0, k16_0, k17_0, i18_0, i4_0, hB2.cell]; rfl) ?_
      have hz : ckH (l.take i) x = 6 := if_pos (by simpa using hct22)
      exact ⟨by rw [her, hst, hz]; rfl, hX⟩
     ·
      try simp only [BD] at hct22
      have c1 : ¬ x.s = em := (by simpa using hct22)
      refine hx_seq (hx_region ?_)
      iterate 3 refine WL.qq (by simp only [EN, Nat.reduceEqDiff, reduceIte, qv_move, k3_0, hB2.cell, qv_fieldAddr, fa78_0, Nat.zero_add, Nat.reduceAdd, qv_load, ld9, readN, AR]; rfl) ?_
      refine WL.qq (by simp only [EN, Nat.reduceEqDiff, reduceIte, k3_0, k16_0, k17_0, i18_0, i4_0, hB2.cell, qv_lookup]; rw [lkMs hm, hM]) ?_
      refine WL.qq (by simp only [EN, Nat.reduceEqDiff, reduceIte, qv_assign, hB2.cell]; rfl) ?_
      refine WL.nil (th_norm ?_)
      refine hx_cond (by simp only [EN, Nat.reduceEqDiff, reduceIte, hB2.cell]; rfl) (fun hct26 => ?_) (fun hct26 => ?_)
      ·
       try simp only [BD] at hct26
       refine hx_seq (hx_region ?_)
       refine WL.qq (by simp only [EN, Nat.reduceEqDiff, reduceIte, qv_assign, hB2.cell]; rfl) ?_
       refine WL.nil (th_norm (hx_ret (bl_ret (th_ret (bl_ret (th_ret (th_ret (bl_ret (th_ret ?_)))))))))
       refine fin_ret [.tmp 2] rfl rfl (by simp only [EN, Nat.reduceEqDiff, reduceIte, resv, k3_0, k16_0, k17_0, i18_0, i4_0, hB2.cell]; rfl) ?_
       have hz : ckH (l.take i) x = 7 := (by unfold ckH; rw [if_neg c1, if_pos (by simpa using hct26)])
       exact ⟨by rw [her, hst, hz]; rfl, hX⟩
      ·
       try simp only [BD] at hct26
       have c2 : ¬ (l.take i).any (fun y => decide (y.s = x.s)) = true := (by simpa using hct26)
       refine hx_seq (hx_region ?_)
       iterate 4 refine WL.qq (by simp only [EN, Nat.reduceEqDiff, reduceIte, qv_fieldAddr, fa78_1, Nat.zero_add, Nat.reduceAdd, hB2.cell, qv_load, ld2, readN, AR, qv_binOp, binv_lss, qv_move]; rfl) ?_
       refine WL.cq (gd_at (t := 35) rfl (by simp only [EN, Nat.reduceEqDiff, reduceIte, hB2.cell] <;> rfl)) (fun hg12_4 => by simp only [EN, Nat.reduceEqDiff, reduceIte, qv_fieldAddr, fa78_1, Nat.zero_add, Nat.reduceAdd, hB2.cell, hg12_4, GR]; rfl) ?_
       refine WL.cq (gd_at (t := 35) rfl (by simp only [EN, Nat.reduceEqDiff, reduceIte, hB2.cell] <;> rfl)) (fun hg12_5 => by simp only [EN, Nat.reduceEqDiff, reduceIte, qv_load, ld2, readN, AR, Nat.zero_add, Nat.reduceAdd, hB2.cell, hg12_5, GR]; rfl) ?_
       refine WL.cq (gd_at (t := 35) rfl (by simp only [EN, Nat.reduceEqDiff, reduceIte, hB2.cell] <;> rfl)) (fun hg12_6 => by simp only [EN, Nat.reduceEqDiff, reduceIte, qv_binOp, binv_gtr, hB2.cell, hg12_6, GR]; rfl) ?_
       iterate 2 refine WL.qq (by simp only [EN, Nat.reduceEqDiff, reduceIte, qv_pick, pk_and, pk_or, GR, hB2.cell, qv_assign]; rfl) ?_
       refine WL.nil (th_norm ?_)
       refine hx_cond (by simp only [EN, Nat.reduceEqDiff, reduceIte, hB2.cell]; rfl) (fun hct31 => ?_) (fun hct31 => ?_)
       ·
        try simp only [BD] at hct31
        refine hx_seq (hx_region ?_)
        refine WL.qq (by simp only [EN, Nat.reduceEqDiff, reduceIte, qv_assign, hB2.cell]; rfl) ?_
        refine WL.nil (th_norm (hx_ret (bl_ret (th_ret (bl_ret (th_ret (th_ret (bl_ret (th_ret ?_)))))))))
        refine fin_ret [.tmp 2] rfl rfl (by simp only [EN, Nat.reduceEqDiff, reduceIte, resv, k3_0, k16_0, k17_0, i18_0, i4_0, hB2.cell]; rfl) ?_
        have hz : ckH (l.take i) x = 2 := (by unfold ckH; rw [if_neg c1, if_neg c2, if_pos (by omega)])
        exact ⟨by rw [her, hst, hz]; rfl, hX⟩
       ·
        try simp only [BD] at hct31
        have c3 : ¬ (x.n < 1 ∨ 1000000000000000 < x.n) := (by omega)
        have hz : ckH (l.take i) x = 0 := (by unfold ckH; rw [if_neg c1, if_neg c2, if_neg c3]); rw [if_pos hz] at hst
        refine hx_skip (bl_norm (th_norm (hx_seq (hx_region ?_))))
        iterate 3 refine WL.qq (by simp only [EN, Nat.reduceEqDiff, reduceIte, qv_move, k3_0, hB2.cell, qv_fieldAddr, fa78_0, Nat.zero_add, Nat.reduceAdd, qv_load, ld9, readN, AR]; rfl) ?_
        refine WL.ef _ (e_mapUpdate (x := x.s) (v := true) ktS Tryz.underlying129 hm (by simp only [EN, Nat.reduceEqDiff, reduceIte, k3_0, k16_0, k17_0, i18_0, i4_0, hB2.cell]) (by simp only [EN, Nat.reduceEqDiff, reduceIte, k3_0, k16_0, k17_0, i18_0, i4_0, hB2.cell] <;> rfl) (by simp only [EN, Nat.reduceEqDiff, reduceIte, k3_0, k16_0, k17_0, i18_0, i4_0, hB2.cell] <;> rfl)) ?_
        rintro _ h40 ⟨⟨o40, hw40⟩, hm40⟩
        simp only [put_none]
        replace hB2 := hB2.wr hw40 (hB2.nmap hm)
        replace hX := hw40.ext hX (by omega)
        replace hm := hm40
        refine WL.nil (th_norm (hx_region ?_))
        iterate 5 refine WL.qq (by simp only [EN, Nat.reduceEqDiff, reduceIte, qv_move, i4_0, hB2.cell, qv_fieldAddr, fa78_1, Nat.zero_add, Nat.reduceAdd, qv_load, ld2, readN, AR, qv_binOp, binv_add, qv_assign]; (try simp (disch := omega) only [w64, w8, wu64]); rfl) ?_
        refine WL.nil (bl_norm (th_norm (hx_region ?_)))
        iterate 2 refine WL.qq (by simp only [EN, Nat.reduceEqDiff, reduceIte, qv_binOp, binv_add, i18_0, hB2.cell, qv_move]; (try simp (disch := omega) only [w64, w8, wu64]); rfl) ?_
        refine WL.nil (th_norm ?_)
        refine ⟨rfl, ?_, _, ?_, i + 1, mset M x.s true, rfl, ?_, ?_, ?_, ?_, ?_, ?_, ?_, ?_⟩
        · (repeat (first | exact Fr.refl _ _ | refine Fr.set rfl ?_ | refine Fr.put rfl ?_ | with_reducible refine Fr.put0 ?_))
        · omega
        · omega
        · exact hX
        · exact hm
        · exact lookS_step hx hM
        · exact hst.symm
        · exact all_take (p := fun y => 0 ≤ y.n ∧ y.n ≤ 1000000000000000) hq hx (by omega)
        · simp only [EN, Nat.reduceEqDiff, reduceIte, k3_0, k16_0, k17_0, i18_0, i4_0, hB2.cell] <;> first | rfl | (congr 1; omega)
        · simp only [EN, Nat.reduceEqDiff, reduceIte, k3_0, k16_0, k17_0, i18_0, i4_0, hB2.cell] <;> rw [hsu]
    ·
     try simp only [BD] at hct19
     obtain rfl : i = l.length := (by omega)
     rw [List.drop_length, List.take_length] at hg; have hg0 : goH [] l = 0 := hg.symm; rw [List.take_length] at i4_0; rw [hg0, if_neg (by decide)] at her
     refine hx_exit (th_exit (th_exit (bl_hit (th_norm (hx_seq (hx_seq (hx_region ?_)))))))
     iterate 2 refine WL.qq (by simp only [EN, Nat.reduceEqDiff, reduceIte, qv_move, i4_0, qv_binOp, binv_gtr]; rfl) ?_
     refine WL.nil (th_norm ?_)
     refine hx_cond (by simp only [EN, Nat.reduceEqDiff, reduceIte]; rfl) (fun hct49 => ?_) (fun hct49 => ?_)
     ·
      try simp only [BD] at hct49
      refine hx_seq (hx_region ?_)
      refine WL.qq (by simp only [EN, Nat.reduceEqDiff, reduceIte, qv_assign]; rfl) ?_
      refine WL.nil (th_norm (hx_ret (th_ret ?_)))
      refine fin_ret [.tmp 2] rfl rfl (by simp only [EN, Nat.reduceEqDiff, reduceIte, resv, k3_0, k16_0, k17_0, i18_0, i4_0]; rfl) ?_
      exact ⟨by rw [her, if_pos (by omega)]; rfl, hX⟩
     ·
      try simp only [BD] at hct49
      refine hx_skip (th_norm (hx_seq (hx_region ?_)))
      refine WL.qq (by simp only [EN, Nat.reduceEqDiff, reduceIte, qv_assign]; rfl) ?_
      refine WL.nil (th_norm (hx_ret ?_))
      refine fin_ret [.tmp 2] rfl rfl (by simp only [EN, Nat.reduceEqDiff, reduceIte, resv, k3_0, k16_0, k17_0, i18_0, i4_0]; rfl) ?_
      exact ⟨by rw [her, if_neg (by omega)]; rfl, hX⟩
end GL
namespace GL
open Go Go.Proofs
set_option maxRecDepth 8000
abbrev tyAs : TypeId := 156
theorem ba_at {a : ByteArray} {i : Nat} (h : i < a.size) : ∃ x, a[i]? = some x ∧ a.toList[i]? = some x := by
  refine ⟨a[i], by simp [h], ?_⟩
  rw [ByteArray.toList_eq]
  have h2 : i < a.data.size := h
  rw [Array.getElem?_toList, Array.getElem?_eq_getElem h2]
  rfl
theorem ba_len (a : ByteArray) : a.toList.length = a.size := by rw [ByteArray.toList_eq, Array.length_toList]; rfl
theorem ba_cut (s : ByteArray) (a b : Nat) : (s.extract a b).toList = (s.toList.drop a).take (b - a) := by
  rw [ByteArray.toList_eq s]; exact Lib.extract_toList s a b
def setC (cs : List UInt8) : Array Value := Array.ofFn (n := 256) fun c => .bool (cs.any fun x => decide (x.toNat = c.1))
theorem setC_at (cs : List UInt8) (c : UInt8) : (setC cs)[c.toNat]? = some (.bool (cs.contains c)) := by
  have h : c.toNat < 256 := c.toNat_lt
  unfold setC
  rw [Array.getElem?_ofFn, dif_pos h]
  congr 2
  rw [Bool.eq_iff_iff, List.any_eq_true, List.contains_iff_mem]
  constructor
  · rintro ⟨x, hx, he⟩
    rw [decide_eq_true_iff] at he
    rwa [← UInt8.toNat_inj.1 he]
  · intro hc
    exact ⟨c, hc, by simp⟩
theorem c_contains (B : Nat) (cs : List UInt8) (c : UInt8) {h : Heap} (hB : Has h B (.cells (setC cs) tyAs)) : HCalls Tryz.prog 95 #[.pointer (some ⟨B, 0, none⟩), .int .u8 c.toNat] h (Pure (.bool (cs.contains c)) h) := by
  have hc : c.toNat < 256 := c.toNat_lt
  have hcl : GL.cell h B (0 + c.toNat) = some (.bool (cs.contains c)) := by rw [hB.cell, Nat.zero_add]; exact setC_at cs c
  refine hcalls2 Tryz.func95 rfl (by decide +kernel) (by simp only [Tryz.ntmps95]; exact of_decide_eq_true rfl) ?_
  intro e hin
  have e0 := hin 0 _ rfl
  have e1 := hin 1 _ rfl
  refine hx_seq (hx_region ?_)
  refine WL.qq (by simp only [EN, Nat.reduceEqDiff, reduceIte, qv_assign]; rfl) ?_
  refine WL.nil (th_norm (hx_seq (hx_region ?_)))
  iterate 3 refine WL.qq (by simp only [EN, Nat.reduceEqDiff, reduceIte, qv_move, e0, e1, qv_nilCheck]; rfl) ?_
  refine WL.qq (by simp only [EN, Nat.reduceEqDiff, reduceIte, e0, e1, qv_indexAddr]; rw [ix156 _ _ _ _ (by omega) (by omega)]) ?_
  refine WL.qq (by simp only [EN, Nat.reduceEqDiff, reduceIte, e0, e1, qv_load, ld4, Int.toNat_natCast, hcl]; rfl) ?_
  refine WL.qq (by simp only [EN, Nat.reduceEqDiff, reduceIte, qv_assign]; rfl) ?_
  refine WL.nil (th_norm (hx_ret ?_))
  refine fin_ret [.tmp 4] rfl rfl (by simp only [EN, Nat.reduceEqDiff, reduceIte, resv, e0, e1]; rfl) ?_
  exact ⟨rfl, rfl⟩
theorem slS_lo {s : ByteArray} (a : Nat) (ha : a ≤ s.size) : slicev Tryz.prog 9 (.string s) (some (iV a)) none none = some (.string (s.extract a s.size)) := by
  simp [slicev, Tryz.underlying9, bnd, ha]
theorem slS_hi {s : ByteArray} (a : Nat) (ha : a ≤ s.size) : slicev Tryz.prog 9 (.string s) none (some (iV a)) none = some (.string (s.extract 0 a)) := by
  simp [slicev, Tryz.underlying9, bnd, ha]
theorem cut_r {r : ByteArray} {x : UInt8} (hx : r.toList[r.size - 1]? = some x) (h0 : 0 < r.size) : (r.extract 0 (r.size - 1)).size = r.size - 1 ∧ r.toList = (r.extract 0 (r.size - 1)).toList ++ [x] := by
  have h1 := ba_cut r 0 (r.size - 1)
  have hl := ba_len r
  rw [List.drop_zero, Nat.sub_zero] at h1
  refine ⟨by rw [← ba_len, h1, List.length_take, hl]; omega, ?_⟩
  rw [h1]
  have h2 := List.take_add_one (l := r.toList) (i := r.size - 1)
  rw [hx, List.take_of_length_le (by omega)] at h2
  exact h2
theorem cut_l {r : ByteArray} {x : UInt8} (hx : r.toList[0]? = some x) (h0 : 0 < r.size) : (r.extract 1 r.size).size = r.size - 1 ∧ r.toList = x :: (r.extract 1 r.size).toList := by
  have h1 := ba_cut r 1 r.size
  have hl := ba_len r
  rw [List.take_of_length_le (by rw [List.length_drop]; omega)] at h1
  refine ⟨by rw [← ba_len, h1, List.length_drop, hl], ?_⟩
  rw [h1, ← List.drop_zero (l := r.toList), drop_atG hx]
  simp
set_option maxHeartbeats 1000000 in
theorem c_trimR (s : ByteArray) (hs : s.size ≤ 9223372036854775807) (B : Nat) (cs : List UInt8) {h : Heap} (hB : Has h B (.cells (setC cs) tyAs)) : HCalls Tryz.prog 84 #[.string s, .pointer (some ⟨B, 0, none⟩)] h fun v h' => Ext h h' ∧ ∃ r : ByteArray, v = .string r ∧ r.size ≤ s.size ∧ ∃ t, s.toList = r.toList ++ t ∧ ∀ c ∈ t, c ∈ cs := by
  refine hcalls2 Tryz.func84 rfl (by decide +kernel) (by simp only [Tryz.ntmps84]; exact of_decide_eq_true rfl) ?_
  intro e hin
  have e0 := hin 0 _ rfl
  have e1 := hin 1 _ rfl
  refine hx_seq (hx_region ?_)
  refine WL.qq (by simp only [EN, Nat.reduceEqDiff, reduceIte, qv_assign]; rfl) ?_
  refine WL.nil (th_norm (hx_seq (hx_block ?_)))
  refine hx_loopS [0, 5, 6, 7, 8, 9, 10, 11, 12, 13, 14, 15, 16, 17, 18, 19, 20] (fun k e => ∃ (r : ByteArray), r.size = k ∧ (r.size ≤ s.size) ∧ (∃ t, s.toList = r.toList ++ t ∧ ∀ c ∈ t, c ∈ cs) ∧ e 0 = .string r) _ ⟨s, rfl, ?_, ?_, ?_⟩ ?_
  · exact Nat.le_refl _
  · exact ⟨[], by simp, by simp⟩
  · simp only [EN, Nat.reduceEqDiff, reduceIte, e0, e1] <;> rfl
  ·
   rintro k e0L hfr0 ⟨r, rfl, hr, ht, i0_0⟩
   have k1_0 := hfr0 1 rfl; try simp only [EN, Nat.reduceEqDiff, reduceIte, e1] at k1_0
   refine hx_seq (hx_seq (hx_region ?_))
   iterate 3 refine WL.qq (by simp only [EN, Nat.reduceEqDiff, reduceIte, qv_move, i0_0, qv_len, ln9, AR, qv_binOp, binv_gtr]; rfl) ?_
   refine WL.nil (th_norm ?_)
   refine hx_cond (by simp only [EN, Nat.reduceEqDiff, reduceIte]; rfl) (fun hct7 => ?_) (fun hct7 => ?_)
   ·
    try simp only [BD] at hct7
    have hlt : r.size - 1 < r.size := (by omega)
    obtain ⟨x, hx, hx2⟩ := ba_at hlt
    refine hx_skip (th_norm (hx_block (hx_seq (hx_seq (hx_region ?_)))))
    iterate 5 refine WL.qq (by simp only [EN, Nat.reduceEqDiff, reduceIte, qv_move, k1_0, i0_0, qv_len, ln9, AR, qv_binOp, binv_sub]; (try simp (disch := omega) only [w64, w8, wu64]); rfl) ?_
    refine WL.qq (by simp only [EN, Nat.reduceEqDiff, reduceIte, k1_0, i0_0, qv_index]; rw [el9 _ _ _ (by omega), show ((r.size : Int) - 1).toNat = r.size - 1 by omega, hx]; rfl) ?_
    refine WL.ck Tryz.call95 (by simp only [EN, Nat.reduceEqDiff, reduceIte, AR]; exact c_contains B cs x hB) ?_
    refine WL.qq (by simp only [EN, Nat.reduceEqDiff, reduceIte, qv_unOp, unv_not]; rfl) ?_
    refine WL.nil (th_norm ?_)
    refine hx_cond (by simp only [EN, Nat.reduceEqDiff, reduceIte]; rfl) (fun hct15 => ?_) (fun hct15 => ?_)
    ·
     try simp only [BD] at hct15
     refine hx_exit (th_exit (bl_miss rfl (th_exit (bl_hit (th_norm (hx_seq (hx_region ?_)))))))
     iterate 2 refine WL.qq (by simp only [EN, Nat.reduceEqDiff, reduceIte, qv_move, i0_0, qv_assign]; rfl) ?_
     refine WL.nil (th_norm (hx_ret ?_))
     refine fin_ret [.tmp 4] rfl rfl (by simp only [EN, Nat.reduceEqDiff, reduceIte, resv, k1_0, i0_0]; rfl) ?_
     exact ⟨Ext.refl _, r, rfl, hr, ht⟩
    ·
     try simp only [BD] at hct15
     have hxc : x ∈ cs := (by simpa using hct15)
     obtain ⟨hsz, hcat⟩ := cut_r hx2 (by omega)
     refine hx_skip (th_norm (hx_region ?_))
     iterate 4 refine WL.qq (by simp only [EN, Nat.reduceEqDiff, reduceIte, qv_move, i0_0, qv_len, ln9, AR, qv_binOp, binv_sub]; (try simp (disch := omega) only [w64, w8, wu64]); rfl) ?_
     refine WL.qq (by simp only [EN, Nat.reduceEqDiff, reduceIte, k1_0, i0_0, qv_slice, Option.map_some, Option.map_none]; rw [show (r.size : Int) - 1 = ((r.size - 1 : Nat) : Int) by omega]; exact slS_hi (r.size - 1) (by omega)) ?_
     refine WL.qq (by simp only [EN, Nat.reduceEqDiff, reduceIte, qv_assign]; rfl) ?_
     refine WL.nil (bl_norm (th_norm ?_))
     refine ⟨rfl, rfl, ?_, _, ?_, r.extract 0 (r.size - 1), rfl, ?_, ?_, ?_⟩
     · (repeat (first | exact Fr.refl _ _ | refine Fr.set rfl ?_ | refine Fr.put rfl ?_ | with_reducible refine Fr.put0 ?_))
     · omega
     · omega
     · obtain ⟨t, h1, h2⟩ := ht; exact ⟨x :: t, by rw [h1, hcat]; simp, fun c hc => by rcases List.mem_cons.1 hc with rfl | hc; exact hxc; exact h2 c hc⟩
     · simp only [EN, Nat.reduceEqDiff, reduceIte, k1_0, i0_0] <;> first | rfl | (congr 1; omega)
   ·
    try simp only [BD] at hct7
    refine hx_exit (th_exit (th_exit (bl_hit (th_norm (hx_seq (hx_region ?_))))))
    iterate 2 refine WL.qq (by simp only [EN, Nat.reduceEqDiff, reduceIte, qv_move, i0_0, qv_assign]; rfl) ?_
    refine WL.nil (th_norm (hx_ret ?_))
    refine fin_ret [.tmp 4] rfl rfl (by simp only [EN, Nat.reduceEqDiff, reduceIte, resv, k1_0, i0_0]; rfl) ?_
    exact ⟨Ext.refl _, r, rfl, hr, ht⟩
set_option maxHeartbeats 1000000 in
theorem c_trimL (s : ByteArray) (hs : s.size ≤ 9223372036854775807) (B : Nat) (cs : List UInt8) {h : Heap} (hB : Has h B (.cells (setC cs) tyAs)) : HCalls Tryz.prog 83 #[.string s, .pointer (some ⟨B, 0, none⟩)] h fun v h' => Ext h h' ∧ ∃ r : ByteArray, v = .string r ∧ (∃ u, s.toList = u ++ r.toList ∧ ∀ c ∈ u, c ∈ cs) ∧ ∀ x, r.toList[0]? = some x → x ∉ cs := by
  refine hcalls2 Tryz.func83 rfl (by decide +kernel) (by simp only [Tryz.ntmps83]; exact of_decide_eq_true rfl) ?_
  intro e hin
  have e0 := hin 0 _ rfl
  have e1 := hin 1 _ rfl
  refine hx_seq (hx_region ?_)
  refine WL.qq (by simp only [EN, Nat.reduceEqDiff, reduceIte, qv_assign]; rfl) ?_
  refine WL.nil (th_norm (hx_seq (hx_block ?_)))
  refine hx_loopS [0, 5, 6, 7, 8, 9, 10, 11, 12, 13, 14] (fun k e => ∃ (r : ByteArray), r.size = k ∧ (r.size ≤ s.size) ∧ (∃ u, s.toList = u ++ r.toList ∧ ∀ c ∈ u, c ∈ cs) ∧ e 0 = .string r) _ ⟨s, rfl, ?_, ?_, ?_⟩ ?_
  · exact Nat.le_refl _
  · exact ⟨[], by simp, by simp⟩
  · simp only [EN, Nat.reduceEqDiff, reduceIte, e0, e1] <;> rfl
  ·
   rintro k e0L hfr0 ⟨r, rfl, hr, ht, i0_0⟩
   have k1_0 := hfr0 1 rfl; try simp only [EN, Nat.reduceEqDiff, reduceIte, e1] at k1_0
   refine hx_seq (hx_seq (hx_region ?_))
   iterate 3 refine WL.qq (by simp only [EN, Nat.reduceEqDiff, reduceIte, qv_move, i0_0, qv_len, ln9, AR, qv_binOp, binv_gtr]; rfl) ?_
   refine WL.nil (th_norm ?_)
   refine hx_cond (by simp only [EN, Nat.reduceEqDiff, reduceIte]; rfl) (fun hct7 => ?_) (fun hct7 => ?_)
   ·
    try simp only [BD] at hct7
    have hlt : 0 < r.size := (by omega)
    obtain ⟨x, hx, hx2⟩ := ba_at hlt
    refine hx_skip (th_norm (hx_block (hx_seq (hx_seq (hx_region ?_)))))
    iterate 2 refine WL.qq (by simp only [EN, Nat.reduceEqDiff, reduceIte, qv_move, k1_0, i0_0]; rfl) ?_
    refine WL.qq (by simp only [EN, Nat.reduceEqDiff, reduceIte, k1_0, i0_0, qv_index]; rw [el9 _ _ _ (by omega), show (0 : Int).toNat = 0 by rfl, hx]; rfl) ?_
    refine WL.ck Tryz.call95 (by simp only [EN, Nat.reduceEqDiff, reduceIte, AR]; exact c_contains B cs x hB) ?_
    refine WL.qq (by simp only [EN, Nat.reduceEqDiff, reduceIte, qv_unOp, unv_not]; rfl) ?_
    refine WL.nil (th_norm ?_)
    refine hx_cond (by simp only [EN, Nat.reduceEqDiff, reduceIte]; rfl) (fun hct12 => ?_) (fun hct12 => ?_)
    ·
     try simp only [BD] at hct12
     refine hx_exit (th_exit (bl_miss rfl (th_exit (bl_hit (th_norm (hx_seq (hx_region ?_)))))))
     iterate 2 refine WL.qq (by simp only [EN, Nat.reduceEqDiff, reduceIte, qv_move, i0_0, qv_assign]; rfl) ?_
     refine WL.nil (th_norm (hx_ret ?_))
     refine fin_ret [.tmp 4] rfl rfl (by simp only [EN, Nat.reduceEqDiff, reduceIte, resv, k1_0, i0_0]; rfl) ?_
     exact ⟨Ext.refl _, r, rfl, ht, fun y hy => by rw [hx2] at hy; cases hy; simpa using hct12⟩
    ·
     try simp only [BD] at hct12
     have hxc : x ∈ cs := (by simpa using hct12)
     obtain ⟨hsz, hcat⟩ := cut_l hx2 (by omega)
     refine hx_skip (th_norm (hx_region ?_))
     refine WL.qq (by simp only [EN, Nat.reduceEqDiff, reduceIte, qv_move, i0_0]; rfl) ?_
     refine WL.qq (by simp only [EN, Nat.reduceEqDiff, reduceIte, k1_0, i0_0, qv_slice, Option.map_some, Option.map_none]; exact slS_lo 1 (by omega)) ?_
     refine WL.qq (by simp only [EN, Nat.reduceEqDiff, reduceIte, qv_assign]; rfl) ?_
     refine WL.nil (bl_norm (th_norm ?_))
     refine ⟨rfl, rfl, ?_, _, ?_, r.extract 1 r.size, rfl, ?_, ?_, ?_⟩
     · (repeat (first | exact Fr.refl _ _ | refine Fr.set rfl ?_ | refine Fr.put rfl ?_ | with_reducible refine Fr.put0 ?_))
     · omega
     · omega
     · obtain ⟨u, h1, h2⟩ := ht; exact ⟨u ++ [x], by rw [h1, hcat]; simp, fun c hc => by rcases List.mem_append.1 hc with hc | hc; exact h2 c hc; (simp at hc; subst hc; exact hxc)⟩
     · simp only [EN, Nat.reduceEqDiff, reduceIte, k1_0, i0_0] <;> first | rfl | (congr 1; omega)
   ·
    try simp only [BD] at hct7
    refine hx_exit (th_exit (th_exit (bl_hit (th_norm (hx_seq (hx_region ?_))))))
    iterate 2 refine WL.qq (by simp only [EN, Nat.reduceEqDiff, reduceIte, qv_move, i0_0, qv_assign]; rfl) ?_
    refine WL.nil (th_norm (hx_ret ?_))
    refine fin_ret [.tmp 4] rfl rfl (by simp only [EN, Nat.reduceEqDiff, reduceIte, resv, k1_0, i0_0]; rfl) ?_
    exact ⟨Ext.refl _, r, rfl, ht, fun y hy => by have h9 := (List.getElem?_eq_some_iff.1 hy).1; rw [ba_len] at h9; omega⟩
end GL
namespace GL
open Go Go.Proofs
set_option maxRecDepth 8000
theorem setC_nil : (Array.replicate 256 (Value.bool false)) = setC [] := by
  apply Array.ext_getElem?
  intro i
  unfold setC
  rw [Array.getElem?_replicate, Array.getElem?_ofFn]
  by_cases h : i < 256
  · rw [if_pos h, dif_pos h]; simp
  · rw [if_neg h, dif_neg h]
theorem zr156 : zeroB Tryz.prog 156 = some (.agg (setC [])) := by
  rw [← setC_nil]
  exact (zr_of Tryz.type156).trans (by kernel_rfl)
theorem setC_size (cs : List UInt8) : (setC cs).size = 256 := by simp [setC]
theorem setC_get (cs : List UInt8) (i : Nat) : (setC cs).toList[i]? = if i < 256 then some (.bool (cs.any fun x => decide (x.toNat = i))) else none := by
  unfold setC
  rw [Array.getElem?_toList, Array.getElem?_ofFn]
  split <;> rfl
theorem setC_put (cs : List UInt8) (c : UInt8) : splc (setC cs) (0 + c.toNat) [.bool true] = setC (cs ++ [c]) := by
  have hc : c.toNat < 256 := c.toNat_lt
  have hl : (setC cs).toList.length = 256 := by rw [Array.length_toList, setC_size]
  have h1 : splc (setC cs) (0 + c.toNat) [.bool true] = ((setC cs).toList.set c.toNat (.bool true)).toArray := by
    rw [List.set_eq_take_append_cons_drop, if_pos (by omega)]
    simp [splc]
  rw [h1]
  apply Array.toList_inj.1
  apply List.ext_getElem?
  intro i
  rw [setC_get]
  by_cases hi : c.toNat = i
  · subst hi
    rw [List.getElem?_set_self (by omega), if_pos hc]
    simp
  · rw [List.getElem?_set_ne hi, setC_get]
    split
    · simp [hi]
    · rfl
theorem setC_one (cs : List UInt8) : ∀ v ∈ (setC cs).toList, v.oneCell' = true := by
  intro v hv
  obtain ⟨i, hi⟩ := List.getElem?_of_mem hv
  rw [setC_get] at hi
  split at hi
  · cases hi; rfl
  · cases hi
theorem setC_self (cs : List UInt8) : splc (setC cs) 0 (setC cs).toList = setC cs := by
  apply Array.toList_inj.1
  simp [splc]
theorem ldC {h : Heap} {B : Nat} {cs : List UInt8} (hB : Has h B (.cells (setC cs) tyAs)) : loadv Tryz.prog tyAs h B 0 = some (.agg (setC cs)) := by
  have h1 := readN_block (h := h) (b := B) (el := tyAs) (f := (0, 0)) hB 256 0 (by rw [setC_size]; omega)
  have h2 : ((setC cs).toList.drop 0).take 256 = (setC cs).toList := by
    rw [List.drop_zero]
    exact List.take_of_length_le (by rw [Array.length_toList, setC_size]; exact Nat.le_refl _)
  rw [h2] at h1
  rw [ld156, h1]
set_option maxHeartbeats 1000000 in
theorem c_mkSet (s : ByteArray) (hs : s.size ≤ 9223372036854775807) (ha : ∀ c ∈ s.toList, c.toNat < 128) (h : Heap) : HCalls Tryz.prog 82 #[.string s] h (Grow (.tuple #[.agg (setC s.toList), .bool true]) h) := by
  have hl := ba_len s
  refine hcalls2 Tryz.func82 rfl (by decide +kernel) (by simp only [Tryz.ntmps82]; exact of_decide_eq_true rfl) ?_
  intro e hin
  have e0 := hin 0 _ rfl
  refine hx_seq (hx_region ?_)
  refine WL.alloc2 zr156 ?_
  intro h1 B1 hx1 hlt1 hB1
  simp only [Value.cells] at hB1
  refine WL.qq (by simp only [EN, Nat.reduceEqDiff, reduceIte, qv_assign, hB1.cell]; rfl) ?_
  refine WL.nil (th_norm (hx_seq (hx_seq (hx_region ?_))))
  refine WL.qq (by simp only [EN, Nat.reduceEqDiff, reduceIte, qv_assign, hB1.cell]; rfl) ?_
  refine WL.nil (th_norm (hx_block ?_))
  refine hx_loopG [3, 4, 5, 6, 7, 8, 9, 10, 11, 12, 13, 14, 15, 16, 17, 18, 19] (fun k e hL0 => ∃ (i : Nat), s.size - i = k ∧ (i ≤ s.size) ∧ (Ext h hL0) ∧ (Has hL0 B1 (.cells (setC (s.toList.take i)) tyAs)) ∧ e 4 = .int .i64 i) _ ⟨0, rfl, ?_, ?_, ?_, ?_⟩ ?_
  · omega
  · exact (hx1)
  · exact hB1
  · simp only [EN, Nat.reduceEqDiff, reduceIte, e0, hB1.cell] <;> rfl
  ·
   rintro k e0L hL0 hfr0 ⟨i, rfl, hi, hX, hB, i4_0⟩
   have k0_0 := hfr0 0 rfl; try simp only [EN, Nat.reduceEqDiff, reduceIte, e0, hB1.cell] at k0_0
   have k2_0 := hfr0 2 rfl; try simp only [EN, Nat.reduceEqDiff, reduceIte, hB1.cell] at k2_0
   refine hx_seq (hx_seq (hx_region ?_))
   iterate 4 refine WL.qq (by simp only [EN, Nat.reduceEqDiff, reduceIte, qv_move, i4_0, hB1.cell, hB.cell, k0_0, qv_len, ln9, AR, qv_binOp, binv_lss]; rfl) ?_
   refine WL.nil (th_norm ?_)
   refine hx_cond (by simp only [EN, Nat.reduceEqDiff, reduceIte, hB1.cell, hB.cell]; rfl) (fun hct9 => ?_) (fun hct9 => ?_)
   ·
    try simp only [BD] at hct9
    obtain ⟨x, hx, hx2⟩ := ba_at (a := s) (i := i) (by omega)
    have hxa := ha x (List.mem_of_getElem? hx2)
    refine hx_skip (th_norm (hx_seq (hx_block (hx_seq (hx_region ?_)))))
    iterate 2 refine WL.qq (by simp only [EN, Nat.reduceEqDiff, reduceIte, qv_move, k0_0, hB1.cell, hB.cell, i4_0]; rfl) ?_
    refine WL.qq (by simp only [EN, Nat.reduceEqDiff, reduceIte, k0_0, k2_0, i4_0, hB1.cell, hB.cell, qv_index]; rw [el9 _ _ _ (by omega), Int.toNat_natCast, hx]; rfl) ?_
    refine WL.qq (by simp only [EN, Nat.reduceEqDiff, reduceIte, qv_assign, hB1.cell, hB.cell]; rfl) ?_
    refine WL.nil (th_norm (hx_seq (hx_seq (hx_region ?_))))
    iterate 2 refine WL.qq (by simp only [EN, Nat.reduceEqDiff, reduceIte, qv_move, hB1.cell, hB.cell, qv_binOp, binv_geq]; rfl) ?_
    refine WL.nil (th_norm ?_)
    refine hx_cond (by simp only [EN, Nat.reduceEqDiff, reduceIte, hB1.cell, hB.cell]; rfl) (fun hct16 => ?_) (fun hct16 => ?_)
    ·
     simp at hct16; omega
    ·
     try simp only [BD] at hct16
     refine hx_skip (th_norm (hx_region ?_))
     refine WL.qq (by simp only [EN, Nat.reduceEqDiff, reduceIte, qv_move, hB1.cell, hB.cell]; rfl) ?_
     refine WL.qq (by simp only [EN, Nat.reduceEqDiff, reduceIte, k0_0, k2_0, i4_0, hB1.cell, hB.cell, qv_indexAddr]; rw [ix156 _ _ _ _ (by omega) (by omega)]) ?_
     refine WL.store (off := 0 + x.toNat) (by simp only [EN, Nat.reduceEqDiff, reduceIte, k0_0, k2_0, i4_0, hB1.cell, hB.cell, Int.toNat_natCast] <;> rfl) sz4 (by simp only [EN, Nat.reduceEqDiff, reduceIte, k0_0, k2_0, i4_0, hB1.cell, hB.cell, Value.cells] <;> rfl) rfl hB (by rw [setC_size]; omega) (by simp [Value.oneCell']) ?_
     intro h40 hw40
     have hw41 : Wr _ h40 B1 (.cells (setC (s.toList.take (i + 1))) tyAs) := (by rw [List.take_add_one, hx2]; have h9 := setC_put (s.toList.take i) x; show Wr _ h40 B1 (.cells (setC (s.toList.take i ++ [x])) tyAs); rw [← h9]; exact hw40)
     have hX40 := hw41.ext hX (by omega)
     refine WL.nil (bl_norm (th_norm (hx_region ?_)))
     iterate 3 refine WL.qq (by simp only [EN, Nat.reduceEqDiff, reduceIte, qv_move, i4_0, hB1.cell, hB.cell, qv_binOp, binv_add, qv_assign]; (try simp (disch := omega) only [w64, w8, wu64]); rfl) ?_
     refine WL.nil (th_norm ?_)
     refine ⟨rfl, ?_, _, ?_, i + 1, rfl, ?_, ?_, ?_, ?_⟩
     · (repeat (first | exact Fr.refl _ _ | refine Fr.set rfl ?_ | refine Fr.put rfl ?_ | with_reducible refine Fr.put0 ?_))
     · omega
     · omega
     · exact hX40
     · exact hw41.at_
     · simp only [EN, Nat.reduceEqDiff, reduceIte, k0_0, k2_0, i4_0, hB1.cell, hB.cell] <;> first | rfl | (congr 1; omega)
   ·
    try simp only [BD] at hct9
    obtain rfl : i = s.size := (by omega)
    rw [← hl, List.take_length] at hB
    refine hx_exit (th_exit (th_exit (bl_hit (th_norm (hx_seq (hx_region ?_))))))
    refine WL.qq (by refine Eq.trans (b := some (.agg (setC s.toList))) ?_ rfl; simp only [EN, Nat.reduceEqDiff, reduceIte, k0_0, k2_0, i4_0, hB1.cell, hB.cell, qv_load]; exact ldC hB) ?_
    refine WL.store (off := 0) (vs := setC s.toList) (by simp only [EN, Nat.reduceEqDiff, reduceIte, k0_0, k2_0, i4_0, hB1.cell, hB.cell] <;> rfl) sz156 (by simp only [EN, Nat.reduceEqDiff, reduceIte, k0_0, k2_0, i4_0, hB1.cell, hB.cell]; rfl) (setC_size _) hB (by rw [setC_size]; exact Nat.le_refl _) (setC_one _) ?_
    intro h41 hw41
    rw [setC_self] at hw41
    have hX41 := hw41.ext hX (by omega)
    have hl41 := ldC hw41.at_
    refine WL.qq (by simp only [EN, Nat.reduceEqDiff, reduceIte, qv_assign, hB1.cell, hB.cell]; rfl) ?_
    refine WL.nil (th_norm (hx_ret ?_))
    refine fin_ret [.cell 2 156, .tmp 3] (l := [.agg (setC s.toList), .bool true]) rfl rfl ?_ ⟨rfl, hX41⟩
    simp only [EN, Nat.reduceEqDiff, reduceIte, k0_0, k2_0, i4_0, hB1.cell, hB.cell, resv]
    first | exact (by rw [hl41]) | (rw [hl41]; rfl)
abbrev lettS : ByteArray := ⟨#[65, 66, 67, 68, 69, 70, 71, 72, 73, 74, 75, 76, 77, 78, 79, 80, 81, 82, 83, 84, 85, 86, 87, 88, 89, 90, 48, 49, 50, 51, 52, 53, 54, 55, 56, 57]⟩
theorem lett_mem (c : UInt8) : c ∈ lettS.toList ↔ ((65 ≤ c && c ≤ 90) || (48 ≤ c && c ≤ 57)) = true := by
  have h : ∀ n : Fin 256, (lettS.data.toList.contains (UInt8.ofNat n.1)) = ((65 ≤ UInt8.ofNat n.1 && UInt8.ofNat n.1 ≤ 90) || (48 ≤ UInt8.ofNat n.1 && UInt8.ofNat n.1 ≤ 57)) := by decide +kernel
  have h1 := h ⟨c.toNat, c.toNat_lt⟩
  simp only [UInt8.ofNat_toNat] at h1
  rw [ByteArray.toList_eq, ← List.contains_iff_mem, h1]
theorem ltS_iff (s : ByteArray) : ltS s = true ↔ ∀ c ∈ s.toList, c ∈ lettS.toList := by
  unfold ltS
  rw [List.all_eq_true]
  exact forall_congr' fun c => imp_congr_right fun _ => (lett_mem c).symm
set_option maxHeartbeats 1000000 in
theorem c_trim (s : ByteArray) (hs : s.size ≤ 9223372036854775807) (h : Heap) : HCalls Tryz.prog 62 #[.string s, .string lettS] h fun v h' => Ext h h' ∧ ∃ r : ByteArray, v = .string r ∧ (r = em ↔ ltS s = true) := by
  refine hcalls2 Tryz.func62 rfl (by decide +kernel) (by simp only [Tryz.ntmps62]; exact of_decide_eq_true rfl) ?_
  intro e hin
  have e0 := hin 0 _ rfl
  have e1 := hin 1 _ rfl
  refine hx_seq (hx_region ?_)
  refine WL.qq (by simp only [EN, Nat.reduceEqDiff, reduceIte, qv_assign, strEq]; rfl) ?_
  refine WL.nil (th_norm (hx_seq (hx_seq (hx_region ?_))))
  iterate 3 refine WL.qq (by simp only [EN, Nat.reduceEqDiff, reduceIte, qv_move, e0, strEq, qv_binOp, binv_eql, eq9, Option.map_some]; rfl) ?_
  refine WL.cq (gd_at (t := 9) rfl (by simp only [EN, Nat.reduceEqDiff, reduceIte, e1, strEq] <;> rfl)) (fun hg1_3 => by simp only [EN, Nat.reduceEqDiff, reduceIte, qv_move, e1, strEq, hg1_3, GR]; rfl) ?_
  refine WL.cq (gd_at (t := 9) rfl (by simp only [EN, Nat.reduceEqDiff, reduceIte, strEq] <;> rfl)) (fun hg1_4 => by simp only [EN, Nat.reduceEqDiff, reduceIte, qv_binOp, binv_eql, eq9, Option.map_some, strEq, hg1_4, GR]; rfl) ?_
  refine WL.qq (by simp only [EN, Nat.reduceEqDiff, reduceIte, qv_pick, pk_and, pk_or, GR, strEq]; rfl) ?_
  refine WL.nil (th_norm ?_)
  refine hx_cond (by simp only [EN, Nat.reduceEqDiff, reduceIte, strEq]; rfl) (fun hct12 => ?_) (fun hct12 => ?_)
  ·
   try simp only [BD] at hct12
   obtain rfl : s = em := (by simpa using hct12)
   refine hx_seq (hx_region ?_)
   iterate 2 refine WL.qq (by simp only [EN, Nat.reduceEqDiff, reduceIte, qv_move, e0, strEq, qv_assign]; rfl) ?_
   refine WL.nil (th_norm (hx_ret (th_ret ?_)))
   refine fin_ret [.tmp 4] rfl rfl (by simp only [EN, Nat.reduceEqDiff, reduceIte, resv, e0, e1, strEq]; rfl) ?_
   exact ⟨(Ext.refl _), em, rfl, by simp [ltS_iff]⟩
  ·
   try simp only [BD] at hct12
   refine hx_skip (th_norm (hx_seq (hx_seq (hx_region ?_))))
   iterate 4 refine WL.qq (by simp only [EN, Nat.reduceEqDiff, reduceIte, qv_move, e1, strEq, qv_len, ln9, AR, qv_binOp, binv_eql, eq3, Option.map_some]; rfl) ?_
   refine WL.cq (gd_at (t := 17) rfl (by simp only [EN, Nat.reduceEqDiff, reduceIte, e1, strEq] <;> rfl)) (fun hg3_4 => by simp only [EN, Nat.reduceEqDiff, reduceIte, qv_move, e1, strEq, hg3_4, GR]; rfl) ?_
   refine WL.cq (gd_at (t := 17) rfl (by simp only [EN, Nat.reduceEqDiff, reduceIte, strEq] <;> rfl)) (fun hg3_5 => by have hq0 := hg3_5; (try simp only [BD] at hq0); simp only [EN, Nat.reduceEqDiff, reduceIte, qv_index, strEq, hg3_5, GR]; (try simp (disch := omega) only [el9, Int.toNat_natCast]); rfl) ?_
   refine WL.cq (gd_at (t := 17) rfl (by simp only [EN, Nat.reduceEqDiff, reduceIte, strEq] <;> rfl)) (fun hg3_6 => by simp only [EN, Nat.reduceEqDiff, reduceIte, qv_binOp, binv_lss, strEq, hg3_6, GR]; rfl) ?_
   refine WL.qq (by simp only [EN, Nat.reduceEqDiff, reduceIte, qv_pick, pk_and, pk_or, GR, strEq]; rfl) ?_
   refine WL.nil (th_norm ?_)
   refine hx_cond (by simp only [EN, Nat.reduceEqDiff, reduceIte, strEq]; rfl) (fun hct21 => ?_) (fun hct21 => ?_)
   ·
    exact absurd hct21 (by decide +kernel)
   ·
    try simp only [BD] at hct21
    refine hx_skip (th_norm (hx_seq (hx_seq (hx_region ?_))))
    refine WL.qq (by simp only [EN, Nat.reduceEqDiff, reduceIte, qv_move, e1, strEq]; rfl) ?_
    refine WL.cg Tryz.call82 (by simp only [EN, Nat.reduceEqDiff, reduceIte, AR, strEq]; exact c_mkSet lettS (by decide) (by decide +kernel) _) ?_
    intro h1 hx1
    iterate 3 refine WL.qq (by simp only [EN, Nat.reduceEqDiff, reduceIte, qv_move, strEq, qv_extract, AR]; rfl) ?_
    refine WL.allocSt (z := .agg (setC [])) zr156 sz156 (vs := setC lettS.toList) (fun u => by simp only [EN, Nat.reduceEqDiff, reduceIte, e0, e1, strEq]; rfl) ⟨setC_size _, setC_size _⟩ (setC_one _) ?_
    intro h20 B20 hx20 hlt20 hB20
    skip
    refine WL.qq (by simp only [EN, Nat.reduceEqDiff, reduceIte, qv_assign, strEq]; rfl) ?_
    refine WL.nil (th_norm (hx_seq (hx_region ?_)))
    refine WL.qq (by simp only [EN, Nat.reduceEqDiff, reduceIte, qv_move, strEq]; rfl) ?_
    refine WL.nil (th_norm ?_)
    refine hx_cond (by simp only [EN, Nat.reduceEqDiff, reduceIte, strEq]; rfl) (fun hct34 => ?_) (fun hct34 => ?_)
    ·
     try simp only [BD] at hct34
     refine hx_seq (hx_region ?_)
     have hX20 := hx1.trans hx20
     refine WL.qq (by simp only [EN, Nat.reduceEqDiff, reduceIte, qv_move, e0, strEq]; rfl) ?_
     refine WL.ce Tryz.call84 (by simp only [EN, Nat.reduceEqDiff, reduceIte, AR, strEq]; exact c_trimR s hs B20 lettS.toList hB20) ?_
     rintro _ h2 ⟨hx2, r1, rfl, hr1, t1, ht1, ht2⟩
     simp only [put_some]
     refine WL.ce Tryz.call83 (by simp only [EN, Nat.reduceEqDiff, reduceIte, AR, strEq]; exact c_trimL r1 (by omega) B20 lettS.toList (hB20.ext hx2)) ?_
     rintro _ h3 ⟨hx3, r2, rfl, ⟨u1, hu1, hu2⟩, hl⟩
     simp only [put_some]
     refine WL.qq (by simp only [EN, Nat.reduceEqDiff, reduceIte, qv_assign, strEq]; rfl) ?_
     refine WL.nil (th_norm (hx_ret (th_ret ?_)))
     refine fin_ret [.tmp 4] rfl rfl (by simp only [EN, Nat.reduceEqDiff, reduceIte, resv, e0, e1, strEq]; rfl) ?_
     exact ⟨hX20.trans (hx2.trans hx3), r2, rfl, by rw [ltS_iff, ht1, hu1]; constructor; (rintro rfl; intro c hc; simp at hc; rcases hc with hc | hc; exact hu2 c hc; exact ht2 c hc); (intro hall; cases hr2 : r2.toList with | nil => exact toList_inj (by rw [hr2]; decide +kernel) | cons x l => exact absurd (hall x (by simp [hr2])) (hl x (by rw [hr2]; rfl)))⟩
    ·
     simp at hct34
end GL
namespace GL
open Go Go.Proofs
set_option maxRecDepth 8000
set_option maxHeartbeats 2000000 in
theorem c_chkO (a : Option Addr) (l : List SI) (c : Nat) (hl : l.length ≤ 1000000) (hlc : l.length ≤ c) (hb : ∀ x ∈ l, x.s.size ≤ 9223372036854775807) {h : Heap} (hs : SlG 2 siL h a l) :
    HCalls Tryz.prog 48 #[.slice a l.length c] h (Grow (iV (erO l)) h) := by
  refine hcalls2 Tryz.func48 rfl (by decide +kernel) (by simp only [Tryz.ntmps48]; exact of_decide_eq_true rfl) ?_
  intro e hin
  have e0 := hin 0 _ rfl
  refine hx_seq (hx_region ?_)
  refine WL.qq (by simp only [EN, Nat.reduceEqDiff, reduceIte, qv_assign, strEq]; rfl) ?_
  refine WL.nil (th_norm (hx_seq (hx_seq (hx_region ?_))))
  iterate 4 refine WL.qq (by simp only [EN, Nat.reduceEqDiff, reduceIte, qv_move, e0, strEq, qv_len, ln81, AR, qv_binOp, binv_eql, eq3, Option.map_some]; rfl) ?_
  refine WL.cq (gd_at (t := 8) rfl (by simp only [EN, Nat.reduceEqDiff, reduceIte, e0, strEq] <;> rfl)) (fun hg1_4 => by simp only [EN, Nat.reduceEqDiff, reduceIte, qv_move, e0, strEq, hg1_4, GR]; rfl) ?_
  refine WL.cq (gd_at (t := 8) rfl (by simp only [EN, Nat.reduceEqDiff, reduceIte, strEq] <;> rfl)) (fun hg1_5 => by simp only [EN, Nat.reduceEqDiff, reduceIte, qv_len, ln81, AR, strEq, hg1_5, GR]; rfl) ?_
  refine WL.cq (gd_at (t := 8) rfl (by simp only [EN, Nat.reduceEqDiff, reduceIte, strEq] <;> rfl)) (fun hg1_6 => by simp only [EN, Nat.reduceEqDiff, reduceIte, qv_binOp, binv_gtr, strEq, hg1_6, GR]; rfl) ?_
  refine WL.qq (by simp only [EN, Nat.reduceEqDiff, reduceIte, qv_pick, pk_and, pk_or, GR, strEq]; rfl) ?_
  refine WL.nil (th_norm ?_)
  refine hx_cond (by simp only [EN, Nat.reduceEqDiff, reduceIte, strEq]; rfl) (fun hct12 => ?_) (fun hct12 => ?_)
  ·
   try simp only [BD] at hct12
   refine hx_seq (hx_region ?_)
   refine WL.qq (by simp only [EN, Nat.reduceEqDiff, reduceIte, qv_assign, strEq]; rfl) ?_
   refine WL.nil (th_norm (hx_ret (th_ret ?_)))
   refine fin_ret [.tmp 2] rfl rfl (by simp only [EN, Nat.reduceEqDiff, reduceIte, resv, e0, strEq]; rfl) ?_
   exact ⟨by rw [erO, if_pos (by omega)]; rfl, (Ext.refl _)⟩
  ·
   try simp only [BD] at hct12
   have hne : ¬ (l.length = 0 ∨ 16 < l.length) := (by omega)
   have her : erO l = goO [] l := if_neg hne
   refine hx_skip (th_norm (hx_seq (hx_seq (hx_region ?_))))
   iterate 3 refine WL.qq (by simp only [EN, Nat.reduceEqDiff, reduceIte, qv_move, e0, strEq, qv_len, ln81, AR]; rfl) ?_
   refine WL.nil (th_norm (hx_block ?_))
   refine hx_loopG [2, 3, 4, 15, 16, 17, 18, 19, 20, 21, 22, 23, 24, 25, 26, 27, 28, 29, 30, 31, 32, 33, 34, 35, 36, 37, 38, 39, 40, 41, 42, 43, 44, 45, 46, 47, 48, 49, 50, 51, 52, 53] (fun k e hL0 => ∃ (i : Nat), l.length - i = k ∧ (i ≤ l.length) ∧ (Ext h hL0) ∧ (goO (l.take i) (l.drop i) = goO [] l) ∧ e 15 = .int .i64 i) _ ⟨0, rfl, ?_, ?_, ?_, ?_⟩ ?_
   · omega
   · exact (Ext.refl _)
   · rfl
   · simp only [EN, Nat.reduceEqDiff, reduceIte, e0, strEq] <;> rfl
   ·
    rintro k e0L hL0 hfr0 ⟨i, rfl, hi, hX, hg, i15_0⟩
    have k0_0 := hfr0 0 rfl; try simp only [EN, Nat.reduceEqDiff, reduceIte, e0, strEq] at k0_0
    have k13_0 := hfr0 13 rfl; try simp only [EN, Nat.reduceEqDiff, reduceIte, strEq] at k13_0
    have k14_0 := hfr0 14 rfl; try simp only [EN, Nat.reduceEqDiff, reduceIte, strEq] at k14_0
    refine hx_seq (hx_region ?_)
    refine WL.qq (by simp only [EN, Nat.reduceEqDiff, reduceIte, qv_binOp, binv_lss, k14_0, i15_0, strEq]; rfl) ?_
    refine WL.nil (th_norm (hx_seq ?_))
    refine hx_cond (by simp only [EN, Nat.reduceEqDiff, reduceIte, strEq]; rfl) (fun hct16 => ?_) (fun hct16 => ?_)
    ·
     try simp only [BD] at hct16
     obtain ⟨x, hx⟩ := atG (l := l) (i := i) (by omega)
     obtain ⟨b1, o1, ha1, hr2, _⟩ := si_rd (hs.ext hX) hx
     have hst := goO_step hx; rw [hg] at hst; have hXo := hX
     refine hx_skip (th_norm (hx_seq (hx_block (hx_seq (hx_region ?_)))))
     iterate 2 refine WL.qq (by simp only [EN, Nat.reduceEqDiff, reduceIte, qv_move, i15_0, strEq, qv_indexAddr, k13_0, ha1]; (try simp (disch := omega) only [ix81, Int.toNat_natCast]); rfl) ?_
     refine WL.qq (by simp only [EN, Nat.reduceEqDiff, reduceIte, k0_0, k13_0, k14_0, i15_0, strEq, qv_load, ld80, Int.toNat_natCast, hr2]; rfl) ?_
     refine WL.alloc2 zr80 ?_
     intro h1 B1 hx1 hlt1 hB1
     replace hX := hX.ext hx1
     simp only [Value.cells] at hB1
     refine WL.qq (by simp only [EN, Nat.reduceEqDiff, reduceIte, qv_assign, strEq, hB1.cell]; rfl) ?_
     refine WL.store (by simp only [EN, Nat.reduceEqDiff, reduceIte, strEq, hB1.cell] <;> rfl) sz80 (by simp only [EN, Nat.reduceEqDiff, reduceIte, Value.cells, strEq, hB1.cell] <;> rfl) rfl hB1 (by first | (simp [true_and]; done) | (simp [true_and]; omega) | omega) (by simp [Value.oneCell']) ?_
     intro h2 hw2
     have hx9 := hw2.ext hx1 hlt1
     replace hX := hXo.ext hx9
     replace hB1 := hw2.at_
     try simp only [splc, List.take_succ_cons, List.take_zero, List.take_nil, List.drop_succ_cons, List.drop_zero, List.drop_nil, List.cons_append, List.nil_append, List.length_cons, List.length_nil, Nat.zero_add, Nat.add_zero, Nat.reduceAdd, List.append_nil] at hB1
     refine WL.nil (th_norm (hx_block (hx_seq ?_)))
     by_cases c1 : x.s = em
     ·
      have k1 : decide (x.s = ({ data := #[] } : ByteArray)) = true := decide_eq_true c1
      have hz3 : ckO (l.take i) x = 3 := if_pos (.inl c1)
      refine hx_region ?_
      iterate 4 refine WL.qq (by simp only [EN, Nat.reduceEqDiff, reduceIte, qv_fieldAddr, fa80_0, Nat.zero_add, Nat.reduceAdd, strEq, hB1.cell, qv_load, ld9, readN, AR, qv_binOp, binv_eql, eq9, Option.map_some, k1, qv_move]; rfl) ?_
      refine WL.offS (by first | (rw [gOk_s (gd_at (t := 24) rfl (by simp only [EN, Nat.reduceEqDiff, reduceIte, strEq, hB1.cell] <;> rfl))]; rfl) | exact gOk_z (gd_un (t := 24) rfl (by simp only [EN, Nat.reduceEqDiff, reduceIte, strEq, hB1.cell] <;> rfl))) ?_
      refine WL.offS (by first | (rw [gOk_s (gd_at (t := 24) rfl (by simp only [EN, Nat.reduceEqDiff, reduceIte, strEq, hB1.cell] <;> rfl))]; rfl) | exact gOk_z (gd_un (t := 24) rfl (by simp only [EN, Nat.reduceEqDiff, reduceIte, strEq, hB1.cell] <;> rfl))) ?_
      refine WL.offS (by first | (rw [gOk_s (gd_at (t := 24) rfl (by simp only [EN, Nat.reduceEqDiff, reduceIte, strEq, hB1.cell] <;> rfl))]; rfl) | exact gOk_z (gd_un (t := 24) rfl (by simp only [EN, Nat.reduceEqDiff, reduceIte, strEq, hB1.cell] <;> rfl))) ?_
      refine WL.offS (by first | (rw [gOk_s (gd_at (t := 24) rfl (by simp only [EN, Nat.reduceEqDiff, reduceIte, strEq, hB1.cell] <;> rfl))]; rfl) | exact gOk_z (gd_un (t := 24) rfl (by simp only [EN, Nat.reduceEqDiff, reduceIte, strEq, hB1.cell] <;> rfl))) ?_
      iterate 2 refine WL.qq (by simp only [EN, Nat.reduceEqDiff, reduceIte, qv_pick, pk_and, pk_or, GR, strEq, hB1.cell, qv_move]; rfl) ?_
      refine WL.offS (by first | (rw [gOk_s (gd_at (t := 30) rfl (by simp only [EN, Nat.reduceEqDiff, reduceIte, strEq, hB1.cell] <;> rfl))]; rfl) | exact gOk_z (gd_un (t := 30) rfl (by simp only [EN, Nat.reduceEqDiff, reduceIte, strEq, hB1.cell] <;> rfl))) ?_
      refine WL.offS (by first | (rw [gOk_s (gd_at (t := 30) rfl (by simp only [EN, Nat.reduceEqDiff, reduceIte, strEq, hB1.cell] <;> rfl))]; rfl) | exact gOk_z (gd_un (t := 30) rfl (by simp only [EN, Nat.reduceEqDiff, reduceIte, strEq, hB1.cell] <;> rfl))) ?_
      refine WL.offS (by first | (rw [gOk_s (gd_at (t := 30) rfl (by simp only [EN, Nat.reduceEqDiff, reduceIte, strEq, hB1.cell] <;> rfl))]; rfl) | exact gOk_z (gd_un (t := 30) rfl (by simp only [EN, Nat.reduceEqDiff, reduceIte, strEq, hB1.cell] <;> rfl))) ?_
      refine WL.offS (by first | (rw [gOk_s (gd_at (t := 30) rfl (by simp only [EN, Nat.reduceEqDiff, reduceIte, strEq, hB1.cell] <;> rfl))]; rfl) | exact gOk_z (gd_un (t := 30) rfl (by simp only [EN, Nat.reduceEqDiff, reduceIte, strEq, hB1.cell] <;> rfl))) ?_
      iterate 2 refine WL.qq (by simp only [EN, Nat.reduceEqDiff, reduceIte, qv_pick, pk_and, pk_or, GR, strEq, hB1.cell, qv_assign]; rfl) ?_
      refine WL.nil (th_norm ?_)
      refine hx_cond (by simp only [EN, Nat.reduceEqDiff, reduceIte, strEq, hB1.cell]; rfl) (fun hct20 => ?_) (fun hct20 => ?_)
      ·
       try simp only [BD] at hct20
       refine hx_seq (hx_region ?_)
       refine WL.qq (by simp only [EN, Nat.reduceEqDiff, reduceIte, qv_assign, strEq, hB1.cell]; rfl) ?_
       refine WL.nil (th_norm (hx_ret (bl_ret (bl_ret (th_ret (th_ret (bl_ret (th_ret ?_))))))))
       refine fin_ret [.tmp 2] rfl rfl (by simp only [EN, Nat.reduceEqDiff, reduceIte, resv, k0_0, k13_0, k14_0, i15_0, strEq, hB1.cell]; rfl) ?_
       exact ⟨by rw [her, hst, hz3]; rfl, hX⟩
      ·
       simp at hct20
     ·
      have k1 : decide (x.s = ({ data := #[] } : ByteArray)) = false := decide_eq_false c1
      by_cases c2 : 16 < x.s.size
      ·
       have hz3 : ckO (l.take i) x = 3 := if_pos (.inr (.inl c2))
       have k2 : decide ((16 : Int) < (x.s.size : Int)) = true := decide_eq_true (by omega)
       refine hx_region ?_
       iterate 4 refine WL.qq (by simp only [EN, Nat.reduceEqDiff, reduceIte, qv_fieldAddr, fa80_0, Nat.zero_add, Nat.reduceAdd, strEq, hB1.cell, qv_load, ld9, readN, AR, qv_binOp, binv_eql, eq9, Option.map_some, k1, qv_move]; rfl) ?_
       refine WL.on (by rw [gOk_s (gd_at (t := 24) rfl (by simp only [EN, Nat.reduceEqDiff, reduceIte, strEq, hB1.cell] <;> rfl))]; rfl) ?_
       refine WL.qq (by simp only [EN, Nat.reduceEqDiff, reduceIte, qv_fieldAddr, fa80_0, Nat.zero_add, Nat.reduceAdd, strEq, hB1.cell]; rfl) ?_
       refine WL.on (by rw [gOk_s (gd_at (t := 24) rfl (by simp only [EN, Nat.reduceEqDiff, reduceIte, strEq, hB1.cell] <;> rfl))]; rfl) ?_
       refine WL.qq (by simp only [EN, Nat.reduceEqDiff, reduceIte, qv_load, ld9, readN, AR, Nat.zero_add, Nat.reduceAdd, strEq, hB1.cell]; rfl) ?_
       refine WL.on (by rw [gOk_s (gd_at (t := 24) rfl (by simp only [EN, Nat.reduceEqDiff, reduceIte, strEq, hB1.cell] <;> rfl))]; rfl) ?_
       refine WL.qq (by simp only [EN, Nat.reduceEqDiff, reduceIte, qv_len, ln9, AR, strEq, hB1.cell]; rfl) ?_
       refine WL.on (by rw [gOk_s (gd_at (t := 24) rfl (by simp only [EN, Nat.reduceEqDiff, reduceIte, strEq, hB1.cell] <;> rfl))]; rfl) ?_
       iterate 3 refine WL.qq (by simp only [EN, Nat.reduceEqDiff, reduceIte, qv_binOp, binv_gtr, strEq, hB1.cell, k2, qv_pick, pk_and, pk_or, GR, qv_move]; rfl) ?_
       refine WL.offS (by first | (rw [gOk_s (gd_at (t := 30) rfl (by simp only [EN, Nat.reduceEqDiff, reduceIte, strEq, hB1.cell] <;> rfl))]; rfl) | exact gOk_z (gd_un (t := 30) rfl (by simp only [EN, Nat.reduceEqDiff, reduceIte, strEq, hB1.cell] <;> rfl))) ?_
       refine WL.offS (by first | (rw [gOk_s (gd_at (t := 30) rfl (by simp only [EN, Nat.reduceEqDiff, reduceIte, strEq, hB1.cell] <;> rfl))]; rfl) | exact gOk_z (gd_un (t := 30) rfl (by simp only [EN, Nat.reduceEqDiff, reduceIte, strEq, hB1.cell] <;> rfl))) ?_
       refine WL.offS (by first | (rw [gOk_s (gd_at (t := 30) rfl (by simp only [EN, Nat.reduceEqDiff, reduceIte, strEq, hB1.cell] <;> rfl))]; rfl) | exact gOk_z (gd_un (t := 30) rfl (by simp only [EN, Nat.reduceEqDiff, reduceIte, strEq, hB1.cell] <;> rfl))) ?_
       refine WL.offS (by first | (rw [gOk_s (gd_at (t := 30) rfl (by simp only [EN, Nat.reduceEqDiff, reduceIte, strEq, hB1.cell] <;> rfl))]; rfl) | exact gOk_z (gd_un (t := 30) rfl (by simp only [EN, Nat.reduceEqDiff, reduceIte, strEq, hB1.cell] <;> rfl))) ?_
       iterate 2 refine WL.qq (by simp only [EN, Nat.reduceEqDiff, reduceIte, qv_pick, pk_and, pk_or, GR, strEq, hB1.cell, qv_assign]; rfl) ?_
       refine WL.nil (th_norm ?_)
       refine hx_cond (by simp only [EN, Nat.reduceEqDiff, reduceIte, strEq, hB1.cell]; rfl) (fun hct20 => ?_) (fun hct20 => ?_)
       ·
        try simp only [BD] at hct20
        refine hx_seq (hx_region ?_)
        refine WL.qq (by simp only [EN, Nat.reduceEqDiff, reduceIte, qv_assign, strEq, hB1.cell]; rfl) ?_
        refine WL.nil (th_norm (hx_ret (bl_ret (bl_ret (th_ret (th_ret (bl_ret (th_ret ?_))))))))
        refine fin_ret [.tmp 2] rfl rfl (by simp only [EN, Nat.reduceEqDiff, reduceIte, resv, k0_0, k13_0, k14_0, i15_0, strEq, hB1.cell]; rfl) ?_
        exact ⟨by rw [her, hst, hz3]; rfl, hX⟩
       ·
        simp at hct20
      ·
       have k2 : decide ((16 : Int) < (x.s.size : Int)) = false := decide_eq_false (by omega)
       refine hx_region ?_
       iterate 4 refine WL.qq (by simp only [EN, Nat.reduceEqDiff, reduceIte, qv_fieldAddr, fa80_0, Nat.zero_add, Nat.reduceAdd, strEq, hB1.cell, qv_load, ld9, readN, AR, qv_binOp, binv_eql, eq9, Option.map_some, k1, qv_move]; rfl) ?_
       refine WL.on (by rw [gOk_s (gd_at (t := 24) rfl (by simp only [EN, Nat.reduceEqDiff, reduceIte, strEq, hB1.cell] <;> rfl))]; rfl) ?_
       refine WL.qq (by simp only [EN, Nat.reduceEqDiff, reduceIte, qv_fieldAddr, fa80_0, Nat.zero_add, Nat.reduceAdd, strEq, hB1.cell]; rfl) ?_
       refine WL.on (by rw [gOk_s (gd_at (t := 24) rfl (by simp only [EN, Nat.reduceEqDiff, reduceIte, strEq, hB1.cell] <;> rfl))]; rfl) ?_
       refine WL.qq (by simp only [EN, Nat.reduceEqDiff, reduceIte, qv_load, ld9, readN, AR, Nat.zero_add, Nat.reduceAdd, strEq, hB1.cell]; rfl) ?_
       refine WL.on (by rw [gOk_s (gd_at (t := 24) rfl (by simp only [EN, Nat.reduceEqDiff, reduceIte, strEq, hB1.cell] <;> rfl))]; rfl) ?_
       refine WL.qq (by simp only [EN, Nat.reduceEqDiff, reduceIte, qv_len, ln9, AR, strEq, hB1.cell]; rfl) ?_
       refine WL.on (by rw [gOk_s (gd_at (t := 24) rfl (by simp only [EN, Nat.reduceEqDiff, reduceIte, strEq, hB1.cell] <;> rfl))]; rfl) ?_
       iterate 3 refine WL.qq (by simp only [EN, Nat.reduceEqDiff, reduceIte, qv_binOp, binv_gtr, strEq, hB1.cell, k2, qv_pick, pk_and, pk_or, GR, qv_move]; rfl) ?_
       refine WL.on (by rw [gOk_s (gd_at (t := 30) rfl (by simp only [EN, Nat.reduceEqDiff, reduceIte, strEq, hB1.cell] <;> rfl))]; rfl) ?_
       refine WL.qq (by simp only [EN, Nat.reduceEqDiff, reduceIte, qv_fieldAddr, fa80_0, Nat.zero_add, Nat.reduceAdd, strEq, hB1.cell]; rfl) ?_
       refine WL.on (by rw [gOk_s (gd_at (t := 30) rfl (by simp only [EN, Nat.reduceEqDiff, reduceIte, strEq, hB1.cell] <;> rfl))]; rfl) ?_
       refine WL.qq (by simp only [EN, Nat.reduceEqDiff, reduceIte, qv_load, ld9, readN, AR, Nat.zero_add, Nat.reduceAdd, strEq, hB1.cell]; rfl) ?_
       refine WL.on (by rw [gOk_s (gd_at (t := 30) rfl (by simp only [EN, Nat.reduceEqDiff, reduceIte, strEq, hB1.cell] <;> rfl))]; rfl) ?_
       refine WL.ce Tryz.call62 (by simp only [EN, Nat.reduceEqDiff, reduceIte, AR, strEq, hB1.cell]; exact c_trim x.s (hb x (List.mem_of_getElem? hx)) _) ?_
       rintro _ h3 ⟨hx3, r, rfl, hr⟩
       replace hX := hX.ext hx3
       replace hB1 := hB1.ext hx3
       simp only [put_some]
       refine WL.on (by rw [gOk_s (gd_at (t := 30) rfl (by simp only [EN, Nat.reduceEqDiff, reduceIte, strEq, hB1.cell] <;> rfl))]; rfl) ?_
       iterate 3 refine WL.qq (by simp only [EN, Nat.reduceEqDiff, reduceIte, qv_binOp, binv_neq, eq9, Option.map_some, strEq, hB1.cell, qv_pick, pk_and, pk_or, GR, qv_assign]; rfl) ?_
       refine WL.nil (th_norm ?_)
       refine hx_cond (by simp only [EN, Nat.reduceEqDiff, reduceIte, strEq, hB1.cell]; rfl) (fun hct20 => ?_) (fun hct20 => ?_)
       ·
        try simp only [BD] at hct20
        have hz3 : ckO (l.take i) x = 3 := if_pos (.inr (.inr (by have h9 : ¬ r = em := (by simpa using hct20); rw [hr] at h9; simpa using h9)))
        refine hx_seq (hx_region ?_)
        refine WL.qq (by simp only [EN, Nat.reduceEqDiff, reduceIte, qv_assign, strEq, hB1.cell]; rfl) ?_
        refine WL.nil (th_norm (hx_ret (bl_ret (bl_ret (th_ret (th_ret (bl_ret (th_ret ?_))))))))
        refine fin_ret [.tmp 2] rfl rfl (by simp only [EN, Nat.reduceEqDiff, reduceIte, resv, k0_0, k13_0, k14_0, i15_0, strEq, hB1.cell]; rfl) ?_
        exact ⟨by rw [her, hst, hz3]; rfl, hX⟩
       ·
        try simp only [BD] at hct20
        have c3 : ltS x.s = true := hr.1 (by simpa using hct20); have c4 : ¬ (x.s = em ∨ 16 < x.s.size ∨ ltS x.s = false) := (by rintro (h | h | h); exact c1 h; exact c2 h; rw [c3] at h; cases h)
        refine hx_seq ?_
        apply hx_draw2 Rel.grows [] [5] [(5, Spec.is _)] rfl (by decide +kernel) rfl
        iterate 2 refine LD.qq rfl rfl (by simp only [EN, Nat.reduceEqDiff, reduceIte, qv_move, k0_0, strEq, hB1.cell]; rfl) ?_
        refine LD.qq rfl rfl (by simp only [EN, Nat.reduceEqDiff, reduceIte, k0_0, k13_0, k14_0, i15_0, strEq, hB1.cell, qv_slice, Option.map_some, Option.map_none]; exact (slicev_h Tryz.underlying81 sz80 a (fun y hy => by subst hy; obtain ⟨b5, o5, h5, _⟩ := si_rd hs hx; cases h5; rfl) l.length c .i64 (i : Int) (by omega) (by omega))) ?_
        iterate 2 refine LD.qq rfl rfl (by simp only [EN, Nat.reduceEqDiff, reduceIte, qv_fieldAddr, fa80_0, Nat.zero_add, Nat.reduceAdd, strEq, hB1.cell, qv_load, ld9, readN, AR]; rfl) ?_
        refine LD.ck rfl rfl Tryz.call44 (by intro hD hr; have hx : Ext _ _ := hr; have hX := hX.ext hx; have hB1 := hB1.ext hx; simp only [EN, Nat.reduceEqDiff, reduceIte, AR, strEq, hB1.cell]; exact (by have h9 := c_find x.s a (l.take i) c (by rw [List.length_take]; omega) ((hs.ext hX).pre i); rw [List.length_take, Nat.min_eq_left (by omega)] at h9; exact h9)) ?_
        iterate 2 refine LD.qq rfl rfl (by simp only [EN, Nat.reduceEqDiff, reduceIte, qv_binOp, binv_geq, strEq, hB1.cell, qv_assign]; rfl) ?_
        refine LD.nil ?_
        rintro h4 hx4 hF8
        replace hx4 : Ext _ _ := hx4
        replace hX := hX.ext hx4
        replace hB1 := hB1.ext hx4
        refine WL.nil (th_norm ?_)
        refine hx_cond (by simp only [EN, Nat.reduceEqDiff, reduceIte, strEq, hB1.cell]; rfl) (fun hct36 => ?_) (fun hct36 => ?_)
        ·
         try simp only [BD] at hct36
         refine hx_seq (hx_region ?_)
         refine WL.qq (by simp only [EN, Nat.reduceEqDiff, reduceIte, qv_assign, strEq, hB1.cell]; rfl) ?_
         refine WL.nil (th_norm (hx_ret (bl_ret (bl_ret (th_ret (th_ret (bl_ret (th_ret ?_))))))))
         refine fin_ret [.tmp 2] rfl rfl (by simp only [EN, Nat.reduceEqDiff, reduceIte, resv, k0_0, k13_0, k14_0, i15_0, strEq, hB1.cell]; rfl) ?_
         have hz : ckO (l.take i) x = 7 := (by unfold ckO; rw [if_neg c4, if_pos (by omega)])
         exact ⟨by rw [her, hst, hz]; rfl, hX⟩
        ·
         try simp only [BD] at hct36
         refine hx_seq (hx_region ?_)
         iterate 4 refine WL.qq (by simp only [EN, Nat.reduceEqDiff, reduceIte, qv_fieldAddr, fa80_1, Nat.zero_add, Nat.reduceAdd, strEq, hB1.cell, qv_load, ld2, readN, AR, qv_binOp, binv_lss, qv_move]; rfl) ?_
         refine WL.cq (gd_at (t := 48) rfl (by simp only [EN, Nat.reduceEqDiff, reduceIte, strEq, hB1.cell] <;> rfl)) (fun hg10_4 => by simp only [EN, Nat.reduceEqDiff, reduceIte, qv_fieldAddr, fa80_1, Nat.zero_add, Nat.reduceAdd, strEq, hB1.cell, hg10_4, GR]; rfl) ?_
         refine WL.cq (gd_at (t := 48) rfl (by simp only [EN, Nat.reduceEqDiff, reduceIte, strEq, hB1.cell] <;> rfl)) (fun hg10_5 => by simp only [EN, Nat.reduceEqDiff, reduceIte, qv_load, ld2, readN, AR, Nat.zero_add, Nat.reduceAdd, strEq, hB1.cell, hg10_5, GR]; rfl) ?_
         refine WL.cq (gd_at (t := 48) rfl (by simp only [EN, Nat.reduceEqDiff, reduceIte, strEq, hB1.cell] <;> rfl)) (fun hg10_6 => by simp only [EN, Nat.reduceEqDiff, reduceIte, qv_binOp, binv_gtr, strEq, hB1.cell, hg10_6, GR]; rfl) ?_
         iterate 2 refine WL.qq (by simp only [EN, Nat.reduceEqDiff, reduceIte, qv_pick, pk_and, pk_or, GR, strEq, hB1.cell, qv_assign]; rfl) ?_
         refine WL.nil (th_norm ?_)
         refine hx_cond (by simp only [EN, Nat.reduceEqDiff, reduceIte, strEq, hB1.cell]; rfl) (fun hct44 => ?_) (fun hct44 => ?_)
         ·
          try simp only [BD] at hct44
          refine hx_seq (hx_region ?_)
          refine WL.qq (by simp only [EN, Nat.reduceEqDiff, reduceIte, qv_assign, strEq, hB1.cell]; rfl) ?_
          refine WL.nil (th_norm (hx_ret (bl_ret (bl_ret (th_ret (th_ret (bl_ret (th_ret ?_))))))))
          refine fin_ret [.tmp 2] rfl rfl (by simp only [EN, Nat.reduceEqDiff, reduceIte, resv, k0_0, k13_0, k14_0, i15_0, strEq, hB1.cell]; rfl) ?_
          have hz : ckO (l.take i) x = 2 := (by unfold ckO; rw [if_neg c4, if_neg (by omega), if_pos (by omega)])
          exact ⟨by rw [her, hst, hz]; rfl, hX⟩
         ·
          try simp only [BD] at hct44
          refine hx_skip (bl_norm (bl_norm (th_norm (hx_region ?_))))
          iterate 2 refine WL.qq (by simp only [EN, Nat.reduceEqDiff, reduceIte, qv_binOp, binv_add, i15_0, strEq, hB1.cell, qv_move]; (try simp (disch := omega) only [w64, w8, wu64]); rfl) ?_
          refine WL.nil (th_norm ?_)
          refine ⟨rfl, ?_, _, ?_, i + 1, rfl, ?_, ?_, ?_, ?_⟩
          · (repeat (first | exact Fr.refl _ _ | refine Fr.set rfl ?_ | refine Fr.put rfl ?_ | with_reducible refine Fr.put0 ?_))
          · omega
          · omega
          · exact hX
          · have hz : ckO (l.take i) x = 0 := (by unfold ckO; rw [if_neg c4, if_neg (by omega), if_neg (by omega)]); rw [if_pos hz] at hst; exact hst.symm
          · simp only [EN, Nat.reduceEqDiff, reduceIte, k0_0, k13_0, k14_0, i15_0, strEq, hB1.cell] <;> first | rfl | (congr 1; omega)
    ·
     try simp only [BD] at hct16
     refine hx_exit (th_exit (th_exit (bl_hit (th_norm (hx_seq (hx_region ?_))))))
     refine WL.qq (by simp only [EN, Nat.reduceEqDiff, reduceIte, qv_assign, strEq]; rfl) ?_
     refine WL.nil (th_norm (hx_ret ?_))
     refine fin_ret [.tmp 2] rfl rfl (by simp only [EN, Nat.reduceEqDiff, reduceIte, resv, k0_0, k13_0, k14_0, i15_0, strEq]; rfl) ?_
     exact ⟨by obtain rfl : i = l.length := (by omega); rw [List.drop_length, List.take_length] at hg; rw [her, ← hg]; rfl, hX⟩
end GL
namespace GL
open Go Go.Proofs
set_option maxRecDepth 8000
def cmpS (a b : ByteArray) : Int := if sLt a b = true then -1 else if sLt b a = true then 1 else 0
theorem c_isNaNS (a : ByteArray) (h : Heap) : HCalls Tryz.prog 68 #[.string a] h (Pure (.bool false) h) := by
  refine hcalls2 Tryz.func68 rfl (by decide +kernel) (by simp only [Tryz.ntmps68]; exact of_decide_eq_true rfl) ?_
  intro e hin
  have e0 := hin 0 _ rfl
  refine hx_seq (hx_region ?_)
  refine WL.qq (by simp only [EN, Nat.reduceEqDiff, reduceIte, qv_assign]; rfl) ?_
  refine WL.nil (th_norm (hx_seq (hx_region ?_)))
  iterate 4 refine WL.qq (by simp only [EN, Nat.reduceEqDiff, reduceIte, qv_move, e0, qv_binOp, binv_neq, eq9, Option.map_some, qv_assign]; rfl) ?_
  refine WL.nil (th_norm (hx_ret ?_))
  refine fin_ret [.tmp 2] rfl rfl (by simp only [EN, Nat.reduceEqDiff, reduceIte, resv, e0]; rfl) ?_
  exact ⟨by simp [retOf], rfl⟩
theorem c_cmpS (a b : ByteArray) (h : Heap) : HCalls Tryz.prog 53 #[.string a, .string b] h (Pure (iV (cmpS a b)) h) := by
  refine hcalls2 Tryz.func53 rfl (by decide +kernel) (by simp only [Tryz.ntmps53]; exact of_decide_eq_true rfl) ?_
  intro e hin
  have e0 := hin 0 _ rfl
  have e1 := hin 1 _ rfl
  refine hx_seq (hx_region ?_)
  refine WL.qq (by simp only [EN, Nat.reduceEqDiff, reduceIte, qv_assign]; rfl) ?_
  refine WL.nil (th_norm (hx_seq (hx_region ?_)))
  refine WL.qq (by simp only [EN, Nat.reduceEqDiff, reduceIte, qv_move, e0]; rfl) ?_
  refine WL.ck Tryz.call68 (by simp only [EN, Nat.reduceEqDiff, reduceIte, AR]; exact c_isNaNS _ _) ?_
  refine WL.qq (by simp only [EN, Nat.reduceEqDiff, reduceIte, qv_assign]; rfl) ?_
  refine WL.nil (th_norm (hx_seq (hx_region ?_)))
  refine WL.qq (by simp only [EN, Nat.reduceEqDiff, reduceIte, qv_move, e1]; rfl) ?_
  refine WL.ck Tryz.call68 (by simp only [EN, Nat.reduceEqDiff, reduceIte, AR]; exact c_isNaNS _ _) ?_
  refine WL.qq (by simp only [EN, Nat.reduceEqDiff, reduceIte, qv_assign]; rfl) ?_
  refine WL.nil (th_norm (hx_seq (hx_seq (hx_region ?_))))
  refine WL.qq (by simp only [EN, Nat.reduceEqDiff, reduceIte, qv_move]; rfl) ?_
  refine WL.nil (th_norm ?_)
  refine hx_cond (by simp only [EN, Nat.reduceEqDiff, reduceIte]; rfl) (fun hct11 => ?_) (fun hct11 => ?_)
  ·
   simp at hct11
  ·
   try simp only [BD] at hct11
   refine hx_skip (th_norm (hx_seq (hx_seq (hx_region ?_))))
   refine WL.qq (by simp only [EN, Nat.reduceEqDiff, reduceIte, qv_move]; rfl) ?_
   refine WL.nil (th_norm ?_)
   refine hx_cond (by simp only [EN, Nat.reduceEqDiff, reduceIte]; rfl) (fun hct13 => ?_) (fun hct13 => ?_)
   ·
    simp at hct13
   ·
    try simp only [BD] at hct13
    refine hx_skip (th_norm (hx_seq (hx_seq (hx_region ?_))))
    iterate 2 refine WL.qq (by simp only [EN, Nat.reduceEqDiff, reduceIte, qv_move, e0, e1]; rfl) ?_
    refine WL.qq (by simp only [EN, Nat.reduceEqDiff, reduceIte, e0, e1, qv_binOp, binv_lssS]; rfl) ?_
    refine WL.nil (th_norm ?_)
    refine hx_cond (by simp only [EN, Nat.reduceEqDiff, reduceIte]; rfl) (fun hct16 => ?_) (fun hct16 => ?_)
    ·
     try simp only [BD] at hct16
     refine hx_seq (hx_region ?_)
     refine WL.qq (by simp only [EN, Nat.reduceEqDiff, reduceIte, qv_assign]; rfl) ?_
     refine WL.nil (th_norm (hx_ret (th_ret ?_)))
     refine fin_ret [.tmp 4] rfl rfl (by simp only [EN, Nat.reduceEqDiff, reduceIte, resv, e0, e1]; rfl) ?_
     exact ⟨by simp [retOf, cmpS, hct16], rfl⟩
    ·
     try simp only [BD] at hct16
     refine hx_skip (th_norm (hx_seq (hx_seq (hx_region ?_))))
     iterate 2 refine WL.qq (by simp only [EN, Nat.reduceEqDiff, reduceIte, qv_move, e0, e1]; rfl) ?_
     refine WL.qq (by simp only [EN, Nat.reduceEqDiff, reduceIte, e0, e1, qv_binOp, binv_gtrS]; rfl) ?_
     refine WL.nil (th_norm ?_)
     refine hx_cond (by simp only [EN, Nat.reduceEqDiff, reduceIte]; rfl) (fun hct19 => ?_) (fun hct19 => ?_)
     ·
      try simp only [BD] at hct19
      refine hx_seq (hx_region ?_)
      refine WL.qq (by simp only [EN, Nat.reduceEqDiff, reduceIte, qv_assign]; rfl) ?_
      refine WL.nil (th_norm (hx_ret (th_ret ?_)))
      refine fin_ret [.tmp 4] rfl rfl (by simp only [EN, Nat.reduceEqDiff, reduceIte, resv, e0, e1]; rfl) ?_
      exact ⟨by simp [retOf, cmpS, hct16, hct19], rfl⟩
     ·
      try simp only [BD] at hct19
      refine hx_skip (th_norm (hx_seq (hx_region ?_)))
      refine WL.qq (by simp only [EN, Nat.reduceEqDiff, reduceIte, qv_assign]; rfl) ?_
      refine WL.nil (th_norm (hx_ret ?_))
      refine fin_ret [.tmp 4] rfl rfl (by simp only [EN, Nat.reduceEqDiff, reduceIte, resv, e0, e1]; rfl) ?_
      exact ⟨by simp [retOf, cmpS, hct16, hct19], rfl⟩
theorem cmpS_lt {a b : ByteArray} : cmpS a b < 0 ↔ sLt a b = true := by
  unfold cmpS
  constructor
  · intro h; split at h
    · assumption
    · split at h <;> omega
  · intro h; rw [if_pos h]; decide
def cmpH (x y : SI) : Int := cmpS x.s y.s
theorem c_new1 (x y : SI) (h : Heap) : HCalls Tryz.prog 52 #[siV x, siV y] h (Grow (iV (cmpH x y)) h) := by
  refine hcalls2 Tryz.func52 rfl (by decide +kernel) (by simp only [Tryz.ntmps52]; exact of_decide_eq_true rfl) ?_
  intro e hin
  have e0 := hin 0 _ rfl
  have e1 := hin 1 _ rfl
  refine hx_seq (hx_region ?_)
  refine WL.box2 (by simp only [EN, Nat.reduceEqDiff, reduceIte, Value.cells, e0]; rfl) ?_
  intro h1 B1 hx1 hlt1 hB1
  refine WL.box2 (by simp only [EN, Nat.reduceEqDiff, reduceIte, Value.cells, e1, hB1.cell]; rfl) ?_
  intro h2 B2 hx2 hlt2 hB2
  replace hB1 := hB1.ext hx2
  refine WL.qq (by simp only [EN, Nat.reduceEqDiff, reduceIte, qv_assign, hB1.cell, hB2.cell]; rfl) ?_
  refine WL.nil (th_norm (hx_seq (hx_region ?_)))
  iterate 4 refine WL.qq (by simp only [EN, Nat.reduceEqDiff, reduceIte, qv_fieldAddr, fa78_0, Nat.zero_add, Nat.reduceAdd, hB1.cell, hB2.cell, qv_load, ld9, readN, AR]; rfl) ?_
  refine WL.ck Tryz.call53 (by simp only [EN, Nat.reduceEqDiff, reduceIte, AR, hB1.cell, hB2.cell]; exact c_cmpS x.s y.s _) ?_
  refine WL.qq (by simp only [EN, Nat.reduceEqDiff, reduceIte, qv_assign, hB1.cell, hB2.cell]; rfl) ?_
  refine WL.nil (th_norm (hx_ret ?_))
  refine fin_ret [.tmp 4] rfl rfl (by simp only [EN, Nat.reduceEqDiff, reduceIte, resv, e0, e1, hB1.cell, hB2.cell]; rfl) ?_
  exact ⟨rfl, ((hx1).trans (hx2))⟩
end GL
namespace GL
open Go Go.Proofs
set_option maxRecDepth 8000
def OwnM (h : Heap) (base : Nat) (el : TypeId) (v : Value) (n : Nat) (xs : List Value) : Prop :=
  xs.length = n ∧ ((v = .slice none 0 0 ∧ n = 0) ∨ ∃ g cap cur fz, v = .slice (some ⟨g, 0, none⟩) n cap ∧ base ≤ g ∧ Has h g (.cells cur el fz) ∧ (cur.size ≤ fz.1 ∨ fz.2 = 0) ∧ n ≤ cap ∧ cap ≤ maxLen ∧ cur.size = cap ∧ cur.toList.take n = xs)
theorem OwnM.nil {h : Heap} {base : Nat} {el : TypeId} : OwnM h base el (.slice none 0 0) 0 [] := ⟨rfl, .inl ⟨rfl, rfl⟩⟩
theorem OwnM.of {h : Heap} {base : Nat} {el : TypeId} {v : Value} {n : Nat} {xs : List Value} (ho : Own h base el 1 v n xs) : OwnM h base el v n xs := by
  refine ⟨by have := ho.1; omega, ?_⟩
  rcases ho.2 with hn | ⟨g, cap, cur, hv, hb, hg, hc, hm, hs, ht⟩
  · exact .inl hn
  · exact .inr ⟨g, cap, cur, (0, 0), hv, hb, hg, .inr rfl, hc, hm, by omega, by simpa using ht⟩
theorem OwnM.ext {h h' : Heap} {base : Nat} {el : TypeId} {v : Value} {n : Nat} {xs : List Value} (ho : OwnM h base el v n xs) (hx : Ext h h') : OwnM h' base el v n xs := by
  refine ⟨ho.1, ?_⟩
  rcases ho.2 with hn | ⟨g, cap, cur, fz, hv, hb, hg, rest⟩
  · exact .inl hn
  · exact .inr ⟨g, cap, cur, fz, hv, hb, hg.ext hx, rest⟩
theorem OwnM.block {h : Heap} {base : Nat} {el : TypeId} {v : Value} {n : Nat} {xs : List Value} (ho : OwnM h base el v n xs) : ∀ c, v.ownBlock = some c → base ≤ c ∧ c < h.size := by
  intro c hc
  rcases ho.2 with ⟨rfl, _⟩ | ⟨g, cap, cur, fz, rfl, hb, hg, _⟩
  · cases hc
  · cases hc
    exact ⟨hb, (Array.getElem?_eq_some_iff.1 hg).1⟩
theorem OwnM.base {h : Heap} {base base' : Nat} {el : TypeId} {v : Value} {n : Nat} {xs : List Value} (ho : OwnM h base el v n xs) (hb : base' ≤ base) : OwnM h base' el v n xs := by
  refine ⟨ho.1, ?_⟩
  rcases ho.2 with hn | ⟨g, cap, cur, fz, hv, hb2, rest⟩
  · exact .inl hn
  · exact .inr ⟨g, cap, cur, fz, hv, Nat.le_trans hb hb2, rest⟩
theorem run_storeCells_atM (P : Program) (g o : Nat) (t : TypeId) (fz : Nat × Nat) (v : Value) (cur : Array Value) (w : World) (hg : w.heap[g]? = some (.cells cur t fz)) (hfz : cur.size ≤ fz.1 ∨ fz.2 = 0) (hi : o < cur.size) (h1 : v.oneCell' = true) :
    (storeCells ⟨g, o, none⟩ [v] 0).run P w = .ok () (w.setRow g (cur.setIfInBounds o v)) := by
  have hadd : (⟨g, o, none⟩ : Addr).add 0 = ⟨g, o, none⟩ := by unfold Addr.add; split <;> simp_all
  have hcell : w.cell? ⟨g, o, none⟩ = some cur[o] := by simp [World.cell?, hg, hi]
  have hfro : w.frozen? ⟨g, o, none⟩ = false := by
    obtain ⟨lo, hi'⟩ := fz
    simp only [World.frozen?, hg, Bool.and_eq_false_iff, decide_eq_false_iff_not]
    simp only at hfz
    omega
  have hst : (store ((⟨g, o, none⟩ : Addr).add 0) v).run P w = .ok () (w.setRow g (cur.setIfInBounds o v)) := by
    rw [hadd, run_store P w _ v _ h1, hcell]
    simp [hfro, setCell_eq_setRow w g o cur t fz v hg]
  simp only [storeCells, Sem.run_bind, hst, Result.andThen_ok]
  rfl
theorem OwnM.holds {w : World} {base : Nat} {el : TypeId} {n g cap : Nat} {xs : List Value} {cur : Array Value} {fz : Nat × Nat} (hg : w.heap[g]? = some (.cells cur el fz)) (ht : cur.toList.take n = xs) : ∀ j u, xs[j]? = some u → w.cell? ((⟨g, 0, none⟩ : Addr).add j) = some u := by
  intro j u hu
  have hadd : (⟨g, 0, none⟩ : Addr).add j = ⟨g, j, none⟩ := by unfold Addr.add; split <;> simp_all
  rw [hadd]
  rw [← ht, List.getElem?_take] at hu
  split at hu
  · simp only [World.cell?, hg, Option.isSome_none, Bool.false_eq_true, if_false, id]
    simpa using hu
  · cases hu
section
variable {P : Program} {e : Env} {h : Heap}
theorem e_appM {t ty el : TypeId} {base n c' : Nat} {s x : Operand} {i : TypeInfo} {z v u : Value} {xs : List Value} {a : Addr}
    (hu : P.underlying t = some (.slice el)) (hi : P.info? el = some i) (hz : i.zero = some z) (hsz : i.size = 1) (hby : i.bytes = 1) (hzs : z.cells.size = 1)
    (hv : ev e s = v) (hown : OwnM h base el v n xs) (hx : ev e x = .slice (some a) 1 c') (hnew : ({ (default : World) with heap := h } : World).cell? a = some u) (h1 : u.oneCell' = true)
    (h63 : n + 1 ≤ 1000000) (hbase : base ≤ h.size) :
    EOp P (.call ⟨.builtin .append, #[s, x], #[t, t]⟩) ty e h fun v' h' => OwnM h' base el v' (n + 1) (xs ++ [u]) ∧ Gr h h' v.ownBlock := by
  have hadd0 : a.add 0 = a := by unfold Addr.add; split <;> simp_all
  have hnews : ∀ j y, [u][j]? = some y → ({ (default : World) with heap := h } : World).cell? (a.add j) = some y := by
    intro j y hj
    cases j with
    | zero => simp at hj; subst hj; rw [hadd0]; exact hnew
    | succ j => simp at hj
  have hone : ∀ y ∈ [u], y.oneCell' = true := fun y hy => by simp at hy; subst hy; exact h1
  rcases hown.2 with ⟨hvn, hn⟩ | ⟨g, cap, cur, fz, hvg, hb, hg, hfz, hnc, hcm, hcs, ht⟩
  · subst hn
    obtain rfl : xs = [] := List.length_eq_zero_iff.1 hown.1
    have ho : Own h base el 1 v 0 [] := by rw [hvn]; exact Own.nil
    refine (e_append (h := h) (base := base) (n := 0) (xs := []) (m := 1) (news := [u]) hu hi hz hsz hby hzs (by decide) hv ho hx rfl hnews hone (by simp only [maxLen]; omega) (by omega) hbase).mono ?_
    rintro v' h' ⟨h2, h3, _⟩
    exact ⟨OwnM.of h2, h3⟩
  · refine ⟨rfl, rfl, fun w hw => ?_⟩
    subst hw
    subst hvg
    have hgw : w.heap[g]? = some (.cells cur el fz) := hg
    have hnw : ∀ j y, [u][j]? = some y → w.cell? (a.add j) = some y := fun j y hj => hnews j y hj
    have hlt : g < w.heap.size := (Array.getElem?_eq_some_iff.1 hgw).1
    by_cases hroom : n + 1 ≤ cap
    · have hf := run_firstCells_some (P := P) w i.size 1 a 1 c' [u] (by rw [hsz]; rfl) hnw
      have hst := run_storeCells_atM P g n el fz u cur w hgw hfz (by omega) h1
      have hr : (Builtin.append_ #[t, t] ty #[.slice (some ⟨g, 0, none⟩) n cap, .slice (some a) 1 c']).run P w = .ok (.slice (some ⟨g, 0, none⟩) (n + 1) cap) (w.setRow g (cur.setIfInBounds n u)) := by
        rw [hsz] at hf
        simp [Builtin.append_, run_underlying hu, Go.sizeOf, typeInfo, hi, hsz, Builtin.lenOf, hroom, hf, Addr.add_lit, hst]
      have h2 : (execOp (ev e) { (default : Oper) with op := .call ⟨.builtin .append, #[s, x], #[t, t]⟩, type := ty }).run P w = .ok (.value (.slice (some ⟨g, 0, none⟩) (n + 1) cap)) (w.setRow g (cur.setIfInBounds n u)) := by
        simp [execOp, resolve, invoke, builtin, hv, hx, hr]
      rw [h2]
      refine ⟨⟨rfl, rfl, rfl, Nat.le_refl _⟩, ⟨by rw [List.length_append, hown.1]; rfl, .inr ⟨g, cap, _, fz, rfl, hb, setRow_heap w g cur _ el _ hgw, by simpa using hfz, hroom, hcm, by simpa using hcs, ?_⟩⟩, ⟨by simp, fun k _ hk => setRow_other w g k _ (fun e => hk (by simp [Value.ownBlock, e]))⟩⟩
      rw [Array.toList_setIfInBounds, List.take_add_one, List.take_set_of_le (Nat.le_refl n), ht, List.getElem?_set_self (by rw [Array.length_toList]; omega)]
      rfl
    · have hr := run_append_grow (P := P) w t ty el i z hu hi hz ⟨g, 0, none⟩ n cap xs (by rw [hsz, hown.1]; omega) (OwnM.holds (base := base) (cap := cap) hgw ht) a 1 c' [u] (by rw [hsz]; rfl) hnw (by omega) (by omega) (growslice_fits (by omega) (by rw [hby]; omega))
      have h2 : (execOp (ev e) { (default : Oper) with op := .call ⟨.builtin .append, #[s, x], #[t, t]⟩, type := ty }).run P w = .ok (.value (.slice (some ⟨w.heap.size, 0, none⟩) (n + 1) (grownCap w (n + 1) cap el)))
          (w.drew.alloc (.cells (xs.toArray ++ [u].toArray ++ Builtin.zeroCells z.cells (grownCap w (n + 1) cap el - (n + 1))) el)) := by
        simp [execOp, resolve, invoke, builtin, hv, hx, hr]
      rw [h2]
      have hge := grownCap_ge w (n + 1) cap el
      have hcm2 : grownCap w (n + 1) cap el ≤ maxLen := grownCap_le_maxLen w (n + 1) cap el (by simp only [maxLen]; omega)
      have hlen : (xs ++ [u]).length = n + 1 := by rw [List.length_append, hown.1]; rfl
      refine ⟨⟨rfl, rfl, rfl, Nat.le_succ _⟩, ⟨hlen, .inr ⟨w.heap.size, _, _, (0, 0), rfl, hbase, heap_alloc_new w.drew _, .inr rfl, hge, hcm2, ?_, ?_⟩⟩, ⟨by simp, fun k hk _ => heap_alloc_old w.drew _ hk⟩⟩
      · simp only [Array.size_append, List.size_toArray, size_zeroCells, hzs, hown.1, List.length_singleton]
        omega
      · simp only [Array.toList_append, List.append_assoc]
        rw [← List.append_assoc, ← hlen]
        exact List.take_left
end
section
variable {P : Program} {e : Env} {ds : List Deferred} {h : Heap} {ops : Array Oper} {K : Kont}
theorem WL.pushM {base n : Nat} {d1 d2 : Nat} {t ty1 ty2 el : TypeId} {s x : Operand} {pos1 pos2 : String} {aft1 aft2 : Array Edge} {rest : List Oper} {i : TypeInfo} {z v u : Value} {xs : List Value}
    (hu : P.underlying t = some (.slice el)) (hi : P.info? el = some i) (hz : i.zero = some z) (hsz : i.size = 1) (hby : i.bytes = 1) (hzs : z.cells.size = 1) (hs : sizeB P el = some 1) (hzB : zeroB P el = some z)
    (hv : ∀ y, ev (Env.set e d1 y) s = v) (hown : OwnM h base el v n xs) (hc : (ev e x).cells = #[u]) (h1 : u.oneCell' = true) (h63 : n + 1 ≤ 1000000) (hbase : base ≤ h.size)
    (hk : ∀ h' v' B, OwnM h' base el v' (n + 1) (xs ++ [u]) → Gr h h' v.ownBlock → WL P ops rest (Env.set (Env.set e d1 (.slice (some ⟨B, 0, none⟩) 1 1)) d2 v') ds h' K) :
    WL P ops (⟨some d1, .buildSlice t 1 #[(0, x)], ty1, pos1, aft1, none⟩ :: ⟨some d2, .call ⟨.builtin .append, #[s, .tmp d1], #[t, t]⟩, ty2, pos2, aft2, none⟩ :: rest) e ds h K := by
  refine WL.lit1 hu hs hzB (by decide) hc rfl ?_
  intro h1' B hx1 hlt hB1 hsz1 hB
  refine WL.ef _ (e_appM (u := u) (c' := 1) (a := ⟨B, 0, none⟩) hu hi hz hsz hby hzs (hv _) (hown.ext hx1) (by simp [ev, set_get]) ?_ h1 h63 (by have := hx1.size; omega)) ?_
  · rw [cell_eq]
    exact (cell_k hB).trans rfl
  · rintro v' h2 ⟨ho, hg⟩
    simp only [put_some]
    exact hk h2 v' B ho (Gr.trans' hx1 hg)
end
abbrev u8V (c : UInt8) : Value := .int .u8 (c.toNat : Int)
theorem bytesv_map : ∀ l : List UInt8, bytesv (l.map u8V) = some l
  | [] => rfl
  | c :: l => by
    simp only [List.map_cons, bytesv, bytesv_map l, Option.map_some, Int.toNat_natCast, UInt8.ofNat_toNat]
section
variable {P : Program} {e : Env} {h : Heap}
theorem OwnM.rd {base : Nat} {el : TypeId} {n : Nat} {v : Value} {bs : List UInt8} (ho : OwnM h base el v n (bs.map u8V)) (hn : n ≠ 0) : ∃ g cap, v = .slice (some ⟨g, 0, none⟩) n cap ∧ GL.readN h g 0 n = some (bs.map u8V) := by
  rcases ho.2 with ⟨_, h0⟩ | ⟨g, cap, cur, fz, rfl, hb, hg, hfz, hnc, hcm, hcs, ht⟩
  · exact absurd h0 hn
  · refine ⟨g, cap, rfl, ?_⟩
    have := readN_block hg n 0 (by omega)
    rw [this, List.drop_zero, ht]
theorem convM {base : Nat} {src dst el : TypeId} {n : Nat} {v : Value} {bs : List UInt8} (ho : OwnM h base el v n (bs.map u8V)) (hn : n ≠ 0) (hs : P.underlying src = some (.slice el)) (he : P.underlying el = some (.int .u8)) (hd : P.underlying dst = some .string) :
    convv P src dst v h = some (.string ⟨bs.toArray⟩) := by
  obtain ⟨g, cap, rfl, hr⟩ := ho.rd hn
  simp only [convv, hs, hd, he, hr, bytesv_map, Option.map_some]
theorem e_conv {src dst ty el : TypeId} {x : Operand} {s : ByteArray} (hs : P.underlying src = some .string) (hd : P.underlying dst = some (.slice el)) (he : P.underlying el = some (.int .u8)) (hx : ev e x = .string s) (hl : s.size ≤ 1000000) :
    EOp P (.convert src dst x) ty e h fun v h' => Ext h h' ∧ OwnM h' h.size el v s.size (s.data.toList.map u8V) := by
  refine ⟨rfl, rfl, fun w hw => ?_⟩
  subst hw
  have h1 := run_bytes_of_string (P := P) w src dst el s hs hd he
  have hr : (execOp (ev e) { (default : Oper) with op := .convert src dst x, type := ty }).run P w = .ok (.value (.slice (some ⟨w.heap.size, 0, none⟩) s.size (grownCap w s.size 0 el)))
      (w.drew.alloc (.cells (bytesRow s (grownCap w s.size 0 el)) el ((bytesRow s (grownCap w s.size 0 el)).size, (bytesRow s (grownCap w s.size 0 el)).size + 1))) := by
    simp [execOp, hx, h1]
  rw [hr]
  have hge := grownCap_ge w s.size 0 el
  have hsz : s.data.size = s.size := rfl
  refine ⟨⟨rfl, rfl, rfl, Nat.le_succ _⟩, Ext.push _ _, by rw [List.length_map, Array.length_toList]; rfl, .inr ⟨w.heap.size, _, _, _, rfl, Nat.le_refl _, heap_alloc_new w.drew _, .inl (Nat.le_refl _), hge, grownCap_le_maxLen w s.size 0 el (by simp only [maxLen]; omega), ?_, ?_⟩⟩
  · simp only [bytesRow, Array.size_append, Array.size_map, Array.size_replicate]
    omega
  · simp only [bytesRow, Array.toList_append, Array.toList_map]
    rw [List.take_append_of_le_length (by rw [List.length_map, Array.length_toList]; exact Nat.le_refl _)]
    exact List.take_of_length_le (by rw [List.length_map, Array.length_toList]; exact Nat.le_refl _)
end
end GL
namespace GL
open Go Go.Proofs
set_option maxRecDepth 8000
abbrev tyB8 : TypeId := 5
theorem c_digits {h0 : Heap} : ∀ (f : Nat) (w m : Int) (v : Value) (n : Nat) (xs : List UInt8) {h : Heap}, f ≤ 8 → w ≤ f + 1 → -100 ≤ w - f → 0 ≤ m → m < 10 ^ (f + 1) → n ≤ 1000 → Ext h0 h → OwnM h h0.size tyB8 v n (xs.map u8V) →
    HCalls Tryz.prog 64 #[v, iV m, iV w] h fun v' h' => Ext h0 h' ∧ ∃ (n' : Nat) (xs' : List UInt8), OwnM h' h0.size tyB8 v' n' (xs'.map u8V) ∧ n' ≤ n + f + 1 ∧ n' ≠ 0
  | f, w, m, v, n, xs, h, hf, hw, hw2, hm, hm2, hn, hX, ho => by
    have ih := fun g (hg : f = g + 1) => c_digits (h0 := h0) g (w - 1) (m / 10) v n xs (h := h)
    have hq : Int.tdiv m 10 = m / 10 := Int.tdiv_eq_ediv_of_nonneg hm
    have hr := Int.emod_nonneg m (show (10 : Int) ≠ 0 by decide); have hr2 := Int.emod_lt_of_pos m (show (0 : Int) < 10 by decide)
    obtain ⟨cc, hcc⟩ : ∃ cc : UInt8, (cc.toNat : Int) = 48 + m % 10 := ⟨UInt8.ofNat (48 + m % 10).toNat, by simp; omega⟩
    have hp9 : (10 : Int) ^ (f + 1) ≤ 1000000000 := by
      have : f = 0 ∨ f = 1 ∨ f = 2 ∨ f = 3 ∨ f = 4 ∨ f = 5 ∨ f = 6 ∨ f = 7 ∨ f = 8 := by omega
      rcases this with rfl | rfl | rfl | rfl | rfl | rfl | rfl | rfl | rfl <;> decide
    refine hcalls2 Tryz.func64 rfl (by decide +kernel) (by simp only [Tryz.ntmps64]; exact of_decide_eq_true rfl) ?_
    intro e hin
    have e0 := hin 0 _ rfl
    have e1 := hin 1 _ rfl
    have e2 := hin 2 _ rfl
    refine hx_seq (hx_region ?_)
    refine WL.qq (by simp only [EN, Nat.reduceEqDiff, reduceIte, qv_assign]; rfl) ?_
    refine WL.nil (th_norm (hx_seq (hx_seq (hx_region ?_))))
    iterate 3 refine WL.qq (by simp only [EN, Nat.reduceEqDiff, reduceIte, qv_move, e2, qv_binOp, binv_gtr]; rfl) ?_
    refine WL.cq (gd_at (t := 9) rfl (by simp only [EN, Nat.reduceEqDiff, reduceIte, e1] <;> rfl)) (fun hg1_3 => by simp only [EN, Nat.reduceEqDiff, reduceIte, qv_move, e1, hg1_3, GR]; rfl) ?_
    refine WL.cq (gd_at (t := 9) rfl (by simp only [EN, Nat.reduceEqDiff, reduceIte] <;> rfl)) (fun hg1_4 => by simp only [EN, Nat.reduceEqDiff, reduceIte, qv_binOp, binv_gtr, hg1_4, GR]; rfl) ?_
    refine WL.qq (by simp only [EN, Nat.reduceEqDiff, reduceIte, qv_pick, pk_and, pk_or, GR]; rfl) ?_
    refine WL.nil (th_norm ?_)
    refine hx_cond (by simp only [EN, Nat.reduceEqDiff, reduceIte]; rfl) (fun hct12 => ?_) (fun hct12 => ?_)
    ·
     try simp only [BD] at hct12
     obtain ⟨g, rfl⟩ : ∃ g, f = g + 1 := ⟨f - 1, by rcases Nat.eq_zero_or_pos f with h9 | h9; (subst h9; simp at hm2; omega); omega⟩
     have hmg : m / 10 < 10 ^ (g + 1) := (by rw [Int.pow_succ] at hm2; generalize (10 : Int) ^ (g + 1) = z at hm2 ⊢; omega)
     refine hx_region ?_
     iterate 2 refine WL.qq (by simp only [EN, Nat.reduceEqDiff, reduceIte, qv_move, e0, e1]; rfl) ?_
     refine WL.qq (by refine Eq.trans (b := some (iV (m / 10))) ?_ rfl; simp only [EN, Nat.reduceEqDiff, reduceIte, e0, e1, e2, qv_binOp]; rw [binv_quo (by decide), hq, w64 (by omega) (by omega)]) ?_
     iterate 2 refine WL.qq (by simp only [EN, Nat.reduceEqDiff, reduceIte, qv_move, e2, qv_binOp, binv_sub]; (try simp (disch := omega) only [w64, w8, wu64]); rfl) ?_
     refine WL.ce Tryz.call64 (by simp only [EN, Nat.reduceEqDiff, reduceIte, e0, e1, e2, AR]; exact ih g rfl (by omega) (by omega) (by omega) (by omega) hmg hn hX ho) ?_
     rintro _ h20 ⟨hX20, n20, xs20, ho20, hn2, _⟩
     simp only [put_some]
     replace hX := hX20
     clear ho
     have ho := ho20
     refine WL.qq (by simp only [EN, Nat.reduceEqDiff, reduceIte, qv_assign]; rfl) ?_
     refine WL.nil (th_norm (hx_seq (hx_region ?_)))
     iterate 4 refine WL.qq (by simp only [EN, Nat.reduceEqDiff, reduceIte, qv_move, e0, e1, qv_binOp, binv_add]; (try simp (disch := omega) only [binv_rem, w64, w8, wu64]); rfl) ?_
     refine WL.qq (by refine Eq.trans (b := some (u8V cc)) ?_ rfl; simp only [EN, Nat.reduceEqDiff, reduceIte, e0, e1, e2, qv_convert, convv, Tryz.underlying3, Tryz.underlying5]; rw [show m.tmod 10 = m % 10 from Int.tmod_eq_emod_of_nonneg hm, w64 (by omega) (by omega), w8 (by omega) (by omega), ← hcc]) ?_
     refine WL.pushM (n := _) Tryz.underlying132 (inf_of Tryz.type5) rfl rfl rfl rfl sz5 zr5 (fun u => by simp only [EN, Nat.reduceEqDiff, reduceIte, e0, e1, e2]) ho (u := u8V cc) (by simp only [EN, Nat.reduceEqDiff, reduceIte, e0, e1, e2, Value.cells]) rfl (by omega) hX.size ?_
     intro h40 v40 B40 ho40 hg40
     have hX40 := hg40.ext hX (fun c hc => (ho.block c hc).1)
     skip
     refine WL.qq (by simp only [EN, Nat.reduceEqDiff, reduceIte, qv_assign]; rfl) ?_
     refine WL.nil (th_norm (hx_ret ?_))
     refine fin_ret [.tmp 6] rfl rfl (by simp only [EN, Nat.reduceEqDiff, reduceIte, resv, e0, e1, e2]; rfl) ?_
     exact ⟨hX40, _, _ ++ [cc], by rw [List.map_append]; exact ho40, by omega, by omega⟩
    ·
     try simp only [BD] at hct12
     have hn2 : n ≤ n + f := Nat.le_add_right _ _
     refine hx_skip (th_norm (hx_seq (hx_region ?_)))
     iterate 4 refine WL.qq (by simp only [EN, Nat.reduceEqDiff, reduceIte, qv_move, e0, e1, qv_binOp, binv_add]; (try simp (disch := omega) only [binv_rem, w64, w8, wu64]); rfl) ?_
     refine WL.qq (by refine Eq.trans (b := some (u8V cc)) ?_ rfl; simp only [EN, Nat.reduceEqDiff, reduceIte, e0, e1, e2, qv_convert, convv, Tryz.underlying3, Tryz.underlying5]; rw [show m.tmod 10 = m % 10 from Int.tmod_eq_emod_of_nonneg hm, w64 (by omega) (by omega), w8 (by omega) (by omega), ← hcc]) ?_
     refine WL.pushM (n := _) Tryz.underlying132 (inf_of Tryz.type5) rfl rfl rfl rfl sz5 zr5 (fun u => by simp only [EN, Nat.reduceEqDiff, reduceIte, e0, e1, e2]) ho (u := u8V cc) (by simp only [EN, Nat.reduceEqDiff, reduceIte, e0, e1, e2, Value.cells]) rfl (by omega) hX.size ?_
     intro h40 v40 B40 ho40 hg40
     have hX40 := hg40.ext hX (fun c hc => (ho.block c hc).1)
     skip
     refine WL.qq (by simp only [EN, Nat.reduceEqDiff, reduceIte, qv_assign]; rfl) ?_
     refine WL.nil (th_norm (hx_ret ?_))
     refine fin_ret [.tmp 6] rfl rfl (by simp only [EN, Nat.reduceEqDiff, reduceIte, resv, e0, e1, e2]; rfl) ?_
     exact ⟨hX40, _, _ ++ [cc], by rw [List.map_append]; exact ho40, by omega, by omega⟩
end GL
namespace GL
open Go Go.Proofs
set_option maxRecDepth 8000
def validM (m : Int) : Bool := decide (0 ≤ m) && decide (m ≤ 73048)
theorem c_validD (m : Int) (h : Heap) : HCalls Tryz.prog 99 #[.int .i64 m] h (Pure (.bool (validM m)) h) := by
  refine hcalls2 Tryz.func99 rfl (by decide +kernel) (by simp only [Tryz.ntmps99]; exact of_decide_eq_true rfl) ?_
  intro e hin
  have e0 := hin 0 _ rfl
  refine hx_seq (hx_region ?_)
  refine WL.qq (by simp only [EN, Nat.reduceEqDiff, reduceIte, qv_assign]; rfl) ?_
  refine WL.nil (th_norm (hx_seq (hx_region ?_)))
  iterate 3 refine WL.qq (by simp only [EN, Nat.reduceEqDiff, reduceIte, qv_move, e0, qv_binOp, binv_geq]; rfl) ?_
  refine WL.cq (gd_at (t := 5) rfl (by simp only [EN, Nat.reduceEqDiff, reduceIte, e0] <;> rfl)) (fun hg1_3 => by simp only [EN, Nat.reduceEqDiff, reduceIte, qv_move, e0, hg1_3, GR]; rfl) ?_
  refine WL.cq (gd_at (t := 5) rfl (by simp only [EN, Nat.reduceEqDiff, reduceIte] <;> rfl)) (fun hg1_4 => by simp only [EN, Nat.reduceEqDiff, reduceIte, qv_binOp, binv_leq, hg1_4, GR]; rfl) ?_
  iterate 2 refine WL.qq (by simp only [EN, Nat.reduceEqDiff, reduceIte, qv_pick, pk_and, pk_or, GR, qv_assign]; rfl) ?_
  refine WL.nil (th_norm (hx_ret ?_))
  refine fin_ret [.tmp 2] rfl rfl (by simp only [EN, Nat.reduceEqDiff, reduceIte, resv, e0]; rfl) ?_
  exact ⟨rfl, rfl⟩
def leapM (y : Int) : Bool := decide (y % 4 = 0) && (decide (y % 100 ≠ 0) || decide (y % 400 = 0))
def lenM (y m : Int) : Int :=
  if y < 2000 ∨ 2199 < y ∨ m < 1 ∨ 12 < m then 0
  else if m = 4 ∨ m = 6 ∨ m = 9 ∨ m = 11 then 30 else if m = 2 then (if leapM y = true then 29 else 28) else 31
def ylenM (y : Int) : Int := if leapM y = true then 366 else 365
def ysM (y : Int) : Int := if y < 2000 then -365 else 365 * (y - 2000) + ((y - 2000 + 3) / 4 - (y - 2000 + 99) / 100 + (y - 2000 + 399) / 400)
theorem leap_iff (y : Int) : leapM y = true ↔ y % 4 = 0 ∧ (y % 100 ≠ 0 ∨ y % 400 = 0) := by simp [leapM]
theorem ys_step (y : Int) (b : 2000 ≤ y) : ysM (y + 1) = ysM y + ylenM y := by
  unfold ysM ylenM
  rw [if_neg (by omega), if_neg (by omega)]
  by_cases hl : leapM y = true
  · rw [if_pos hl]
    rw [leap_iff] at hl
    omega
  · rw [if_neg hl]
    rw [leap_iff] at hl
    omega
theorem ylen_bd (y : Int) : 365 ≤ ylenM y ∧ ylenM y ≤ 366 := by unfold ylenM; split <;> omega
theorem ys_mono (y : Int) (b : 2000 ≤ y) : ∀ k : Nat, ysM y + 365 * k ≤ ysM (y + k)
  | 0 => by simp
  | k + 1 => by
    have h1 := ys_mono y b k
    have h2 := ys_step (y + k) (by omega)
    have h3 := ylen_bd (y + k)
    have e : y + ((k + 1 : Nat) : Int) = y + k + 1 := by omega
    rw [e, h2]
    omega
theorem ys_le {a b : Int} (ha : 2000 ≤ a) (hab : a ≤ b) : ysM a ≤ ysM b := by
  have := ys_mono a ha (b - a).toNat
  have e : a + ((b - a).toNat : Int) = b := by omega
  rw [e] at this
  omega
theorem ys_lt {a b : Int} (ha : 2000 ≤ a) (hab : a < b) : ysM (a + 1) ≤ ysM b := ys_le (by omega) (by omega)
noncomputable def yrM (n : Int) : Int := open Classical in if hx : ∃ y, 2000 ≤ y ∧ ysM y ≤ n ∧ n < ysM (y + 1) then Classical.choose hx else 2000
theorem yr_eq {n y : Int} (b : 2000 ≤ y) (h1 : ysM y ≤ n) (h2 : n < ysM (y + 1)) : yrM n = y := by
  have hx : ∃ y, 2000 ≤ y ∧ ysM y ≤ n ∧ n < ysM (y + 1) := ⟨y, b, h1, h2⟩
  unfold yrM
  rw [dif_pos hx]
  have h3 := Classical.choose_spec hx
  generalize Classical.choose hx = z at h3
  rcases Int.lt_trichotomy z y with h4 | h4 | h4
  · have := ys_lt h3.1 h4; omega
  · exact h4
  · have := ys_lt b h4; omega
def moM : Nat → Int → Int → Int → Int × Int
  | 0, _, m, r => (m, r)
  | f + 1, y, m, r => if r < lenM y m then (m, r) else moM f y (m + 1) (r - lenM y m)
def remM : Nat → Int → Int → Int
  | 0, _, _ => 0
  | f + 1, y, m => lenM y m + remM f y (m + 1)
theorem rem_year (y : Int) (b1 : 2000 ≤ y) (b2 : y ≤ 2199) : remM 12 y 1 = ylenM y := by
  have e : ∀ m, 1 ≤ m → m ≤ 12 → lenM y m = if m = 4 ∨ m = 6 ∨ m = 9 ∨ m = 11 then 30 else if m = 2 then (if leapM y = true then 29 else 28) else 31 := fun m h1 h2 => by
    unfold lenM; rw [if_neg (by omega)]
  simp only [remM, Int.reduceAdd]
  rw [e 1, e 2, e 3, e 4, e 5, e 6, e 7, e 8, e 9, e 10, e 11, e 12] <;> try omega
  unfold ylenM
  cases leapM y <;> simp
theorem len_bd (y m : Int) (b1 : 2000 ≤ y) (b2 : y ≤ 2199) (c1 : 1 ≤ m) (c2 : m ≤ 12) : 28 ≤ lenM y m ∧ lenM y m ≤ 31 := by
  unfold lenM
  rw [if_neg (by omega)]
  repeat' split
  all_goals omega
theorem tmod_pos {x : Int} (k : Int) (hx : 0 ≤ x) : x.tmod k = x % k := Int.tmod_eq_emod_of_nonneg hx
theorem tdiv_pos {x : Int} (k : Int) (hx : 0 ≤ x) : x.tdiv k = x / k := Int.tdiv_eq_ediv_of_nonneg hx
theorem c_isLeap (y : Int) (b : 0 ≤ y) (h : Heap) : HCalls Tryz.prog 123 #[.int .i64 y] h (Pure (.bool (leapM y)) h) := by
  refine hcalls2 Tryz.func123 rfl (by decide +kernel) (by simp only [Tryz.ntmps123]; exact of_decide_eq_true rfl) ?_
  intro e hin
  have e0 := hin 0 _ rfl
  refine hx_seq (hx_region ?_)
  refine WL.qq (by simp only [EN, Nat.reduceEqDiff, reduceIte, qv_assign]; rfl) ?_
  refine WL.nil (th_norm (hx_seq (hx_region ?_)))
  iterate 4 refine WL.qq (by simp only [EN, Nat.reduceEqDiff, reduceIte, qv_move, e0, qv_binOp, binv_eql, eq3, Option.map_some]; (try simp (disch := omega) only [binv_rem, w64, w8, wu64]); rfl) ?_
  refine WL.cq (gd_at (t := 6) rfl (by simp only [EN, Nat.reduceEqDiff, reduceIte, e0] <;> rfl)) (fun hg1_4 => by simp only [EN, Nat.reduceEqDiff, reduceIte, qv_move, e0, hg1_4, GR]; rfl) ?_
  refine WL.cq (gd_at (t := 6) rfl (by simp only [EN, Nat.reduceEqDiff, reduceIte] <;> rfl)) (fun hg1_5 => by have hq0 := hg1_5; (try simp only [BD] at hq0); simp only [EN, Nat.reduceEqDiff, reduceIte, qv_binOp, hg1_5, GR]; (try simp (disch := omega) only [binv_rem, w64, w8, wu64]); rfl) ?_
  refine WL.cq (gd_at (t := 6) rfl (by simp only [EN, Nat.reduceEqDiff, reduceIte] <;> rfl)) (fun hg1_6 => by simp only [EN, Nat.reduceEqDiff, reduceIte, qv_binOp, binv_neq, eq3, Option.map_some, hg1_6, GR]; rfl) ?_
  iterate 2 refine WL.qq (by simp only [EN, Nat.reduceEqDiff, reduceIte, qv_pick, pk_and, pk_or, GR, qv_move]; rfl) ?_
  refine WL.cq (gd_at (t := 11) rfl (by simp only [EN, Nat.reduceEqDiff, reduceIte, e0] <;> rfl)) (fun hg1_9 => by simp only [EN, Nat.reduceEqDiff, reduceIte, qv_move, e0, hg1_9, GR]; rfl) ?_
  refine WL.cq (gd_at (t := 11) rfl (by simp only [EN, Nat.reduceEqDiff, reduceIte] <;> rfl)) (fun hg1_10 => by have hq0 := hg1_10; (try simp only [BD] at hq0); simp only [EN, Nat.reduceEqDiff, reduceIte, qv_binOp, hg1_10, GR]; (try simp (disch := omega) only [binv_rem, w64, w8, wu64]); rfl) ?_
  refine WL.cq (gd_at (t := 11) rfl (by simp only [EN, Nat.reduceEqDiff, reduceIte] <;> rfl)) (fun hg1_11 => by simp only [EN, Nat.reduceEqDiff, reduceIte, qv_binOp, binv_eql, eq3, Option.map_some, hg1_11, GR]; rfl) ?_
  iterate 2 refine WL.qq (by simp only [EN, Nat.reduceEqDiff, reduceIte, qv_pick, pk_and, pk_or, GR, qv_assign]; rfl) ?_
  refine WL.nil (th_norm (hx_ret ?_))
  refine fin_ret [.tmp 2] rfl rfl (by simp only [EN, Nat.reduceEqDiff, reduceIte, resv, e0]; rfl) ?_
  refine ⟨?_, rfl⟩
  simp only [retOf]; rw [tmod_pos _ b, tmod_pos _ b, tmod_pos _ b]; congr 1; rw [Bool.eq_iff_iff, leap_iff]; simp; omega
theorem c_yearStart (y : Int) (b : 1999 ≤ y) (b2 : y ≤ 1000000) (h : Heap) : HCalls Tryz.prog 100 #[.int .i64 y] h (Pure (.int .i64 (ysM y)) h) := by
  refine hcalls2 Tryz.func100 rfl (by decide +kernel) (by simp only [Tryz.ntmps100]; exact of_decide_eq_true rfl) ?_
  intro e hin
  have e0 := hin 0 _ rfl
  refine hx_seq (hx_region ?_)
  refine WL.qq (by simp only [EN, Nat.reduceEqDiff, reduceIte, qv_assign]; rfl) ?_
  refine WL.nil (th_norm (hx_seq (hx_seq (hx_region ?_))))
  iterate 2 refine WL.qq (by simp only [EN, Nat.reduceEqDiff, reduceIte, qv_move, e0, qv_binOp, binv_lss]; rfl) ?_
  refine WL.nil (th_norm ?_)
  refine hx_cond (by simp only [EN, Nat.reduceEqDiff, reduceIte]; rfl) (fun hct6 => ?_) (fun hct6 => ?_)
  ·
   try simp only [BD] at hct6
   refine hx_seq (hx_region ?_)
   refine WL.qq (by simp only [EN, Nat.reduceEqDiff, reduceIte, qv_assign]; rfl) ?_
   refine WL.nil (th_norm (hx_ret (th_ret ?_)))
   refine fin_ret [.tmp 2] rfl rfl (by simp only [EN, Nat.reduceEqDiff, reduceIte, resv, e0]; rfl) ?_
   exact ⟨by unfold ysM; rw [if_pos hct6]; rfl, rfl⟩
  ·
   try simp only [BD] at hct6
   refine hx_skip (th_norm (hx_seq (hx_region ?_)))
   iterate 3 refine WL.qq (by simp only [EN, Nat.reduceEqDiff, reduceIte, qv_move, e0, qv_binOp, binv_sub, qv_assign]; (try simp (disch := omega) only [w64, w8, wu64]); rfl) ?_
   refine WL.nil (th_norm (hx_seq (hx_region ?_)))
   iterate 2 refine WL.qq (by simp only [EN, Nat.reduceEqDiff, reduceIte, qv_move, qv_binOp, binv_add]; (try simp (disch := omega) only [w64, w8, wu64]); rfl) ?_
   refine WL.qq (by simp only [EN, Nat.reduceEqDiff, reduceIte, e0, qv_binOp]; rw [binv_quo (by decide), tdiv_pos _ (by omega), w64 (by omega) (by omega)]) ?_
   iterate 2 refine WL.qq (by simp only [EN, Nat.reduceEqDiff, reduceIte, qv_move, qv_binOp, binv_add]; (try simp (disch := omega) only [w64, w8, wu64]); rfl) ?_
   refine WL.qq (by simp only [EN, Nat.reduceEqDiff, reduceIte, e0, qv_binOp]; rw [binv_quo (by decide), tdiv_pos _ (by omega), w64 (by omega) (by omega)]) ?_
   iterate 3 refine WL.qq (by simp only [EN, Nat.reduceEqDiff, reduceIte, qv_binOp, binv_sub, qv_move, binv_add]; (try simp (disch := omega) only [w64, w8, wu64]); rfl) ?_
   refine WL.qq (by simp only [EN, Nat.reduceEqDiff, reduceIte, e0, qv_binOp]; rw [binv_quo (by decide), tdiv_pos _ (by omega), w64 (by omega) (by omega)]) ?_
   iterate 2 refine WL.qq (by simp only [EN, Nat.reduceEqDiff, reduceIte, qv_binOp, binv_add, qv_assign]; (try simp (disch := omega) only [w64, w8, wu64]); rfl) ?_
   refine WL.nil (th_norm (hx_seq (hx_region ?_)))
   iterate 5 refine WL.qq (by simp only [EN, Nat.reduceEqDiff, reduceIte, qv_move, qv_binOp, binv_mul, binv_add, qv_assign]; (try simp (disch := omega) only [w64, w8, wu64]); rfl) ?_
   refine WL.nil (th_norm (hx_ret ?_))
   refine fin_ret [.tmp 2] rfl rfl (by simp only [EN, Nat.reduceEqDiff, reduceIte, resv, e0]; rfl) ?_
   exact ⟨by unfold ysM; rw [if_neg hct6]; rfl, rfl⟩
theorem dim_cell (m : Int) (b1 : 1 ≤ m) (b2 : m ≤ 12) :
    (#[.int .i64 31, .int .i64 28, .int .i64 31, .int .i64 30, .int .i64 31, .int .i64 30, .int .i64 31, .int .i64 31, .int .i64 30, .int .i64 31, .int .i64 30, .int .i64 31] : Array Value)[(m - 1).toNat]? =
      some (.int .i64 (if m = 4 ∨ m = 6 ∨ m = 9 ∨ m = 11 then 30 else if m = 2 then 28 else 31)) := by
  have : m = 1 ∨ m = 2 ∨ m = 3 ∨ m = 4 ∨ m = 5 ∨ m = 6 ∨ m = 7 ∨ m = 8 ∨ m = 9 ∨ m = 10 ∨ m = 11 ∨ m = 12 := by omega
  rcases this with rfl | rfl | rfl | rfl | rfl | rfl | rfl | rfl | rfl | rfl | rfl | rfl <;> rfl
theorem c_dim (y m : Int) (h : Heap) : HCalls Tryz.prog 101 #[.int .i64 y, .int .i64 m] h (Grow (.int .i64 (lenM y m)) h) := by
  refine hcalls2 Tryz.func101 rfl (by decide +kernel) (by simp only [Tryz.ntmps101]; exact of_decide_eq_true rfl) ?_
  intro e hin
  have e0 := hin 0 _ rfl
  have e1 := hin 1 _ rfl
  refine hx_seq (hx_region ?_)
  refine WL.qq (by simp only [EN, Nat.reduceEqDiff, reduceIte, qv_assign]; rfl) ?_
  refine WL.nil (th_norm (hx_seq (hx_seq (hx_region ?_))))
  iterate 3 refine WL.qq (by simp only [EN, Nat.reduceEqDiff, reduceIte, qv_move, e0, qv_binOp, binv_lss]; rfl) ?_
  refine WL.cq (gd_at (t := 9) rfl (by simp only [EN, Nat.reduceEqDiff, reduceIte, e0] <;> rfl)) (fun hg1_3 => by simp only [EN, Nat.reduceEqDiff, reduceIte, qv_move, e0, hg1_3, GR]; rfl) ?_
  refine WL.cq (gd_at (t := 9) rfl (by simp only [EN, Nat.reduceEqDiff, reduceIte] <;> rfl)) (fun hg1_4 => by simp only [EN, Nat.reduceEqDiff, reduceIte, qv_binOp, binv_gtr, hg1_4, GR]; rfl) ?_
  iterate 2 refine WL.qq (by simp only [EN, Nat.reduceEqDiff, reduceIte, qv_pick, pk_and, pk_or, GR, qv_move]; rfl) ?_
  refine WL.cq (gd_at (t := 13) rfl (by simp only [EN, Nat.reduceEqDiff, reduceIte, e1] <;> rfl)) (fun hg1_7 => by simp only [EN, Nat.reduceEqDiff, reduceIte, qv_move, e1, hg1_7, GR]; rfl) ?_
  refine WL.cq (gd_at (t := 13) rfl (by simp only [EN, Nat.reduceEqDiff, reduceIte] <;> rfl)) (fun hg1_8 => by simp only [EN, Nat.reduceEqDiff, reduceIte, qv_binOp, binv_lss, hg1_8, GR]; rfl) ?_
  iterate 2 refine WL.qq (by simp only [EN, Nat.reduceEqDiff, reduceIte, qv_pick, pk_and, pk_or, GR, qv_move]; rfl) ?_
  refine WL.cq (gd_at (t := 17) rfl (by simp only [EN, Nat.reduceEqDiff, reduceIte, e1] <;> rfl)) (fun hg1_11 => by simp only [EN, Nat.reduceEqDiff, reduceIte, qv_move, e1, hg1_11, GR]; rfl) ?_
  refine WL.cq (gd_at (t := 17) rfl (by simp only [EN, Nat.reduceEqDiff, reduceIte] <;> rfl)) (fun hg1_12 => by simp only [EN, Nat.reduceEqDiff, reduceIte, qv_binOp, binv_gtr, hg1_12, GR]; rfl) ?_
  refine WL.qq (by simp only [EN, Nat.reduceEqDiff, reduceIte, qv_pick, pk_and, pk_or, GR]; rfl) ?_
  refine WL.nil (th_norm ?_)
  refine hx_cond (by simp only [EN, Nat.reduceEqDiff, reduceIte]; rfl) (fun hct20 => ?_) (fun hct20 => ?_)
  ·
   try simp only [BD] at hct20
   refine hx_seq (hx_region ?_)
   refine WL.qq (by simp only [EN, Nat.reduceEqDiff, reduceIte, qv_assign]; rfl) ?_
   refine WL.nil (th_norm (hx_ret (th_ret ?_)))
   refine fin_ret [.tmp 4] rfl rfl (by simp only [EN, Nat.reduceEqDiff, reduceIte, resv, e0, e1]; rfl) ?_
   exact ⟨by unfold lenM; rw [if_pos (by omega)]; rfl, (Ext.refl _)⟩
  ·
   try simp only [BD] at hct20
   have hr : ¬ (y < 2000 ∨ 2199 < y ∨ m < 1 ∨ 12 < m) := by omega
   refine hx_skip (th_norm (hx_seq (hx_region ?_)))
   refine WL.qq (by refine qv_bld (by simp only [EN, Nat.reduceEqDiff, reduceIte, AR] <;> rfl) (by rw [bl197]; simp [Instr.fill, Value.cells]; rfl)) ?_
   refine WL.allocSt zr197 sz197 (fun u => by simp only [EN, Nat.reduceEqDiff, reduceIte, Value.cells]; rfl) ⟨rfl, rfl⟩ (by simp [Value.oneCell']) ?_
   intro h1 B1 hx1 hlt1 hB1
   refine WL.nil (th_norm (hx_seq (hx_region ?_)))
   iterate 3 refine WL.qq (by simp only [EN, Nat.reduceEqDiff, reduceIte, qv_move, e1, hB1.cell, qv_binOp, binv_sub, qv_indexAddr]; (try simp (disch := omega) only [w64, w8, wu64, ix197, Int.toNat_natCast]); rfl) ?_
   refine WL.qq (by simp only [EN, Nat.reduceEqDiff, reduceIte, e0, e1, hB1.cell, qv_load, ld3, Nat.zero_add]; rw [dim_cell m (by omega) (by omega)]) ?_
   refine WL.qq (by simp only [EN, Nat.reduceEqDiff, reduceIte, qv_assign, hB1.cell]; rfl) ?_
   refine WL.nil (th_norm (hx_seq (hx_seq (hx_region ?_))))
   iterate 3 refine WL.qq (by simp only [EN, Nat.reduceEqDiff, reduceIte, qv_move, e1, hB1.cell, qv_binOp, binv_eql, eq3, Option.map_some]; rfl) ?_
   refine WL.cq (gd_at (t := 28) rfl (by simp only [EN, Nat.reduceEqDiff, reduceIte, e0, hB1.cell] <;> rfl)) (fun hg5_3 => by simp only [EN, Nat.reduceEqDiff, reduceIte, qv_move, e0, hB1.cell, hg5_3, GR]; rfl) ?_
   refine WL.cck (gd_at (t := 28) rfl (by simp only [EN, Nat.reduceEqDiff, reduceIte, hB1.cell] <;> rfl)) Tryz.call123 (fun hg5_4 => by simp only [EN, Nat.reduceEqDiff, reduceIte, AR, hB1.cell, hg5_4, GR]; exact c_isLeap _ (by omega) _) ?_
   refine WL.qq (by simp only [EN, Nat.reduceEqDiff, reduceIte, qv_pick, pk_and, pk_or, GR, hB1.cell]; rfl) ?_
   refine WL.nil (th_norm ?_)
   refine hx_cond (by simp only [EN, Nat.reduceEqDiff, reduceIte, hB1.cell]; rfl) (fun hct31 => ?_) (fun hct31 => ?_)
   ·
    try simp only [BD] at hct31
    refine hx_region ?_
    iterate 3 refine WL.qq (by simp only [EN, Nat.reduceEqDiff, reduceIte, qv_move, hB1.cell, qv_binOp, binv_add, qv_assign]; (try simp (disch := omega) only [w64, w8, wu64]); rfl) ?_
    refine WL.nil (th_norm (hx_seq (hx_region ?_)))
    iterate 2 refine WL.qq (by simp only [EN, Nat.reduceEqDiff, reduceIte, qv_move, hB1.cell, qv_assign]; rfl) ?_
    refine WL.nil (th_norm (hx_ret ?_))
    refine fin_ret [.tmp 4] rfl rfl (by simp only [EN, Nat.reduceEqDiff, reduceIte, resv, e0, e1, hB1.cell]; rfl) ?_
    exact ⟨by unfold lenM; rw [if_neg hr]; obtain ⟨rfl, hl⟩ := hct31; simp [hl, retOf], (hx1)⟩
   ·
    try simp only [BD] at hct31
    refine hx_skip (th_norm (hx_seq (hx_region ?_)))
    iterate 2 refine WL.qq (by simp only [EN, Nat.reduceEqDiff, reduceIte, qv_move, hB1.cell, qv_assign]; rfl) ?_
    refine WL.nil (th_norm (hx_ret ?_))
    refine fin_ret [.tmp 4] rfl rfl (by simp only [EN, Nat.reduceEqDiff, reduceIte, resv, e0, e1, hB1.cell]; rfl) ?_
    exact ⟨by unfold lenM; rw [if_neg hr]; rcases hct31 with q | q <;> simp [q, retOf], (hx1)⟩
theorem ys_2200 : ysM 2200 = 73049 := by decide
theorem moM_stop (f : Nat) (y m r : Int) (hr : r < lenM y m) : moM f y m r = (m, r) := by
  cases f with
  | zero => rfl
  | succ f => simp [moM, hr]
theorem c_toCivil (n : Int) (h : Heap) : HCalls Tryz.prog 87 #[.int .i64 n] h fun v h' => Ext h h' ∧ ∃ y m d r : Int, v = .tuple #[.agg #[iV y, iV m, iV d], iV r] ∧ r = (if validM n = true then 0 else 2) ∧ 0 ≤ y ∧ y ≤ 2199 ∧ 0 ≤ m ∧ m ≤ 13 ∧ 0 ≤ d ∧ d ≤ 400 := by
  refine hcalls2 Tryz.func87 rfl (by decide +kernel) (by simp only [Tryz.ntmps87]; exact of_decide_eq_true rfl) ?_
  intro e hin
  have e0 := hin 0 _ rfl
  have hE : Ext h h := Ext.refl h
  refine hx_seq (hx_region ?_)
  refine WL.alloc2 zr162 ?_
  intro h1 B1 hx1 hlt1 hB1
  have hb0_1 := Nat.le_trans hE.size hlt1
  replace hE := hE.trans hx1
  have hEo1 := hx1
  simp only [Value.cells] at hB1
  refine WL.qq (by simp only [EN, Nat.reduceEqDiff, reduceIte, qv_assign, hB1.cell]; rfl) ?_
  refine WL.nil (th_norm (hx_seq (hx_seq (hx_region ?_))))
  refine WL.qq (by simp only [EN, Nat.reduceEqDiff, reduceIte, qv_move, e0, hB1.cell]; rfl) ?_
  refine WL.ck Tryz.call99 (by simp only [EN, Nat.reduceEqDiff, reduceIte, AR, hB1.cell]; exact c_validD _ _) ?_
  refine WL.qq (by simp only [EN, Nat.reduceEqDiff, reduceIte, qv_unOp, unv_not, hB1.cell]; rfl) ?_
  refine WL.nil (th_norm ?_)
  refine hx_cond (by simp only [EN, Nat.reduceEqDiff, reduceIte, hB1.cell]; rfl) (fun hct9 => ?_) (fun hct9 => ?_)
  ·
   try simp only [BD] at hct9
   refine hx_seq (hx_region ?_)
   refine WL.qq (by refine qv_bld (by simp only [EN, Nat.reduceEqDiff, reduceIte, AR, hB1.cell] <;> rfl) (by rw [bl162]; simp [Instr.fill, Value.cells]; rfl)) ?_
   refine WL.store (by simp only [EN, Nat.reduceEqDiff, reduceIte, hB1.cell] <;> rfl) sz162 (by simp only [EN, Nat.reduceEqDiff, reduceIte, Value.cells, hB1.cell] <;> rfl) rfl hB1 (by first | decide | (simp; done) | (simp; omega)) (by simp [Value.oneCell']) ?_
   intro h2 hw2
   replace hE := hw2.ext hE hb0_1
   replace hEo1 := hw2.ext hEo1 hlt1
   replace hB1 := hw2.at_
   try simp only [splc, List.take_succ_cons, List.take_zero, List.take_nil, List.drop_succ_cons, List.drop_zero, List.drop_nil, List.cons_append, List.nil_append, List.length_cons, List.length_nil, Nat.zero_add, Nat.add_zero, Nat.reduceAdd, List.append_nil] at hB1
   refine WL.qq (by simp only [EN, Nat.reduceEqDiff, reduceIte, qv_assign, hB1.cell]; rfl) ?_
   refine WL.nil (th_norm (hx_ret (th_ret ?_)))
   refine fin_ret [.cell 2 162, .tmp 3] rfl rfl (by simp only [EN, Nat.reduceEqDiff, reduceIte, resv, ld162, readN, AR, Nat.zero_add, Nat.reduceAdd, e0, hB1.cell]; rfl) ?_
   exact ⟨hE, 0, 0, 0, 2, rfl, by simp [hct9], by decide⟩
  ·
   try simp only [BD] at hct9
   have hv := hct9; simp only [validM, Bool.and_eq_true, decide_eq_true_eq] at hv
   refine hx_skip (th_norm (hx_seq (hx_region ?_)))
   refine WL.qq (by simp only [EN, Nat.reduceEqDiff, reduceIte, qv_move, e0, hB1.cell]; rfl) ?_
   refine WL.qq (by simp only [EN, Nat.reduceEqDiff, reduceIte, e0, hB1.cell, qv_binOp]; rw [binv_quo (by decide), tdiv_pos _ hv.1, w64 (by omega) (by omega)]) ?_
   iterate 2 refine WL.qq (by simp only [EN, Nat.reduceEqDiff, reduceIte, qv_binOp, binv_add, hB1.cell, qv_assign]; (try simp (disch := omega) only [w64, w8, wu64]); rfl) ?_
   refine WL.nil (th_norm (hx_seq (hx_block ?_)))
   refine hx_loopS [4, 14, 15, 16, 17, 18, 19, 20] (fun k e => ∃ (y : Int), (2300 - y).toNat = k ∧ (2000 ≤ y ∧ y ≤ 2199) ∧ (ysM y ≤ n) ∧ e 4 = .int .i64 y) _ ⟨2000 + n / 366, rfl, ?_, ?_, ?_⟩ ?_
   · omega
   · unfold ysM; rw [if_neg (by omega)]; omega
   · simp only [EN, Nat.reduceEqDiff, reduceIte, e0, hB1.cell] <;> rfl
   ·
    rintro k e0L hfr0 ⟨y, rfl, hy, hys, i4_0⟩
    have k0_0 := hfr0 0 rfl; try simp only [EN, Nat.reduceEqDiff, reduceIte, e0, hB1.cell] at k0_0
    have k2_0 := hfr0 2 rfl; try simp only [EN, Nat.reduceEqDiff, reduceIte, hB1.cell] at k2_0
    refine hx_seq (hx_seq (hx_region ?_))
    iterate 2 refine WL.qq (by simp only [EN, Nat.reduceEqDiff, reduceIte, qv_move, i4_0, hB1.cell, qv_binOp, binv_add]; (try simp (disch := omega) only [w64, w8, wu64]); rfl) ?_
    refine WL.ck Tryz.call100 (by simp only [EN, Nat.reduceEqDiff, reduceIte, AR, hB1.cell]; exact c_yearStart _ (by omega) (by omega) _) ?_
    iterate 2 refine WL.qq (by simp only [EN, Nat.reduceEqDiff, reduceIte, qv_move, k0_0, hB1.cell, qv_binOp, binv_leq]; rfl) ?_
    refine WL.nil (th_norm ?_)
    refine hx_cond (by simp only [EN, Nat.reduceEqDiff, reduceIte, hB1.cell]; rfl) (fun hct18 => ?_) (fun hct18 => ?_)
    ·
     try simp only [BD] at hct18
     refine hx_skip (th_norm (hx_block (hx_region ?_)))
     iterate 3 refine WL.qq (by simp only [EN, Nat.reduceEqDiff, reduceIte, qv_move, i4_0, hB1.cell, qv_binOp, binv_add, qv_assign]; (try simp (disch := omega) only [w64, w8, wu64]); rfl) ?_
     refine WL.nil (bl_norm (th_norm ?_))
     refine ⟨rfl, rfl, ?_, _, ?_, y + 1, rfl, ?_, ?_, ?_⟩
     · (repeat (first | exact Fr.refl _ _ | refine Fr.set rfl ?_ | refine Fr.put rfl ?_ | with_reducible refine Fr.put0 ?_))
     · omega
     · have hle := @ys_le 2200 (y + 1) (by omega); have := ys_2200; omega
     · exact hct18
     · simp only [EN, Nat.reduceEqDiff, reduceIte, k0_0, k2_0, i4_0, hB1.cell] <;> first | rfl | (congr 1; omega)
    ·
     try simp only [BD] at hct18
     have hlt : n < ysM (y + 1) := by omega
     have hyr := yr_eq hy.1 hys hlt
     have hst := ys_step y hy.1
     have hyl := ylen_bd y
     have hrem : n - ysM y < remM 12 y 1 := by { rw [rem_year y hy.1 hy.2]; omega }
     refine hx_exit (th_exit (th_exit (bl_hit (th_norm (hx_seq (hx_region ?_))))))
     iterate 2 refine WL.qq (by simp only [EN, Nat.reduceEqDiff, reduceIte, qv_move, k0_0, hB1.cell, i4_0]; rfl) ?_
     refine WL.ck Tryz.call100 (by simp only [EN, Nat.reduceEqDiff, reduceIte, AR, hB1.cell]; exact c_yearStart _ (by omega) (by omega) _) ?_
     iterate 2 refine WL.qq (by simp only [EN, Nat.reduceEqDiff, reduceIte, qv_binOp, binv_sub, hB1.cell, qv_assign]; (try simp (disch := omega) only [w64, w8, wu64]); rfl) ?_
     refine WL.nil (th_norm (hx_seq (hx_region ?_)))
     refine WL.qq (by simp only [EN, Nat.reduceEqDiff, reduceIte, qv_assign, hB1.cell]; rfl) ?_
     refine WL.nil (th_norm (hx_seq (hx_block ?_)))
     refine hx_loopX [5, 6, 25, 26, 27, 28, 29, 30, 31, 32, 33, 34, 35, 36] (fun k e => ∃ (f : Nat) (m : Int) (r : Int), f = k ∧ (1 ≤ m ∧ f + m = 13) ∧ (0 ≤ r ∧ r ≤ 366) ∧ (moM f y m r = moM 12 y 1 (n - ysM y)) ∧ (r < remM f y m) ∧ e 5 = .int .i64 r ∧ e 6 = .int .i64 m) _ ⟨12, 1, n - ysM y, rfl, ?_, ?_, ?_, ?_, ?_, ?_⟩ ?_
     · omega
     · omega
     · rfl
     · exact hrem
     · simp only [EN, Nat.reduceEqDiff, reduceIte, k0_0, k2_0, i4_0, hB1.cell] <;> rfl
     · simp only [EN, Nat.reduceEqDiff, reduceIte, k0_0, k2_0, i4_0, hB1.cell] <;> rfl
     ·
      rintro k e1L hL1 hX1 hfr1 ⟨f, m, r, rfl, hm, hr, hmo, hre, i5_1, i6_1⟩
      replace hE := hE.trans hX1
      replace hEo1 := hEo1.trans hX1
      replace hB1 := hB1.ext hX1
      have hEL1 : Ext hL1 hL1 := Ext.refl _
      have k2_1 := hfr1 2 rfl; try simp only [EN, Nat.reduceEqDiff, reduceIte, k2_0, hB1.cell] at k2_1
      have k4_1 := hfr1 4 rfl; try simp only [EN, Nat.reduceEqDiff, reduceIte, i4_0, hB1.cell] at k4_1
      have hf : ∃ g, f = g + 1 := by { cases f with | zero => (simp [remM] at hre; omega) | succ g => exact ⟨g, rfl⟩ }
      obtain ⟨g, rfl⟩ := hf
      have hll := len_bd y m hy.1 hy.2 hm.1 (by omega)
      refine hx_seq (hx_seq (hx_region ?_))
      iterate 3 refine WL.qq (by simp only [EN, Nat.reduceEqDiff, reduceIte, qv_move, i5_1, hB1.cell, k4_1, i6_1]; rfl) ?_
      refine WL.cg Tryz.call101 (by simp only [EN, Nat.reduceEqDiff, reduceIte, AR, hB1.cell]; exact c_dim _ _ _) ?_
      intro h3 hx3
      replace hE := hE.trans hx3
      replace hEo1 := hEo1.trans hx3
      replace hEL1 := hEL1.trans hx3
      replace hB1 := hB1.ext hx3
      refine WL.qq (by simp only [EN, Nat.reduceEqDiff, reduceIte, qv_binOp, binv_geq, hB1.cell]; rfl) ?_
      refine WL.nil (th_norm ?_)
      refine hx_cond (by simp only [EN, Nat.reduceEqDiff, reduceIte, hB1.cell]; rfl) (fun hct29 => ?_) (fun hct29 => ?_)
      ·
       try simp only [BD] at hct29
       refine hx_skip (th_norm (hx_block (hx_seq (hx_region ?_))))
       iterate 3 refine WL.qq (by simp only [EN, Nat.reduceEqDiff, reduceIte, qv_move, i5_1, hB1.cell, k4_1, i6_1]; rfl) ?_
       refine WL.cg Tryz.call101 (by simp only [EN, Nat.reduceEqDiff, reduceIte, AR, hB1.cell]; exact c_dim _ _ _) ?_
       intro h4 hx4
       replace hE := hE.trans hx4
       replace hEo1 := hEo1.trans hx4
       replace hEL1 := hEL1.trans hx4
       replace hB1 := hB1.ext hx4
       iterate 2 refine WL.qq (by simp only [EN, Nat.reduceEqDiff, reduceIte, qv_binOp, binv_sub, hB1.cell, qv_assign]; (try simp (disch := omega) only [w64, w8, wu64]); rfl) ?_
       refine WL.nil (th_norm (hx_region ?_))
       iterate 3 refine WL.qq (by simp only [EN, Nat.reduceEqDiff, reduceIte, qv_move, i6_1, hB1.cell, qv_binOp, binv_add, qv_assign]; (try simp (disch := omega) only [w64, w8, wu64]); rfl) ?_
       refine WL.nil (bl_norm (th_norm ?_))
       refine ⟨rfl, ?_, ?_, _, ?_, g, m + 1, r - lenM y m, rfl, ?_, ?_, ?_, ?_, ?_, ?_⟩
       · exact hEL1
       · (repeat (first | exact Fr.refl _ _ | refine Fr.set rfl ?_ | refine Fr.put rfl ?_ | with_reducible refine Fr.put0 ?_))
       · omega
       · omega
       · omega
       · rw [← hmo]; simp only [moM]; rw [if_neg (by omega)]
       · simp only [remM] at hre; omega
       · simp only [EN, Nat.reduceEqDiff, reduceIte, k2_1, k4_1, i5_1, i6_1, hB1.cell] <;> first | rfl | (congr 1; omega)
       · simp only [EN, Nat.reduceEqDiff, reduceIte, k2_1, k4_1, i5_1, i6_1, hB1.cell] <;> first | rfl | (congr 1; omega)
      ·
       try simp only [BD] at hct29
       have hfin := moM_stop (g + 1) y m r (by omega)
       refine hx_exit (th_exit (th_exit (bl_hit (th_norm (hx_seq (hx_region ?_))))))
       iterate 4 refine WL.qq (by simp only [EN, Nat.reduceEqDiff, reduceIte, qv_move, k4_1, hB1.cell, i6_1, i5_1, qv_binOp, binv_add]; (try simp (disch := omega) only [w64, w8, wu64]); rfl) ?_
       refine WL.qq (by refine qv_bld (by simp only [EN, Nat.reduceEqDiff, reduceIte, AR, hB1.cell] <;> rfl) (by rw [bl162]; simp [Instr.fill, Value.cells]; rfl)) ?_
       refine WL.store (by simp only [EN, Nat.reduceEqDiff, reduceIte, k2_1, hB1.cell] <;> rfl) sz162 (by simp only [EN, Nat.reduceEqDiff, reduceIte, Value.cells, k2_1, hB1.cell] <;> rfl) rfl hB1 (by first | decide | (simp; done) | (simp; omega)) (by simp [Value.oneCell']) ?_
       intro h5 hw5
       replace hE := hw5.ext hE hb0_1
       replace hEo1 := hw5.ext hEo1 hlt1
       replace hB1 := hw5.at_
       try simp only [splc, List.take_succ_cons, List.take_zero, List.take_nil, List.drop_succ_cons, List.drop_zero, List.drop_nil, List.cons_append, List.nil_append, List.length_cons, List.length_nil, Nat.zero_add, Nat.add_zero, Nat.reduceAdd, List.append_nil] at hB1
       refine WL.qq (by simp only [EN, Nat.reduceEqDiff, reduceIte, qv_assign, hB1.cell]; rfl) ?_
       refine WL.nil (th_norm (hx_ret ?_))
       refine fin_ret [.cell 2 162, .tmp 3] rfl rfl (by simp only [EN, Nat.reduceEqDiff, reduceIte, resv, ld162, readN, AR, Nat.zero_add, Nat.reduceAdd, k2_1, k4_1, i5_1, i6_1, hB1.cell]; rfl) ?_
       exact ⟨hE, y, m, r + 1, 0, rfl, by simp [hct9], by omega⟩
end GL
namespace GL
open Go Go.Proofs
set_option maxRecDepth 8000
theorem bsz {n : Nat} {h : Heap} {b : Nat} {el : TypeId} {v : Value} {bs : List UInt8} (ho : OwnM h b el v n (bs.map u8V)) : (⟨bs.toArray⟩ : ByteArray).size = n := by
  have := ho.1
  rw [List.length_map] at this
  rw [← this]; rfl
theorem c_format (n : Int) (h : Heap) : HCalls Tryz.prog 63 #[.int .i64 n] h fun v h' => Ext h h' ∧ ∃ s : ByteArray, v = .tuple #[.string s, iV (if validM n = true then 0 else 2)] ∧ s.size ≤ 100 := by
  refine hcalls2 Tryz.func63 rfl (by decide +kernel) (by simp only [Tryz.ntmps63]; exact of_decide_eq_true rfl) ?_
  intro e hin
  have e0 := hin 0 _ rfl
  refine hx_seq (hx_region ?_)
  iterate 2 refine WL.qq (by simp only [EN, Nat.reduceEqDiff, reduceIte, qv_assign]; rfl) ?_
  refine WL.nil (th_norm (hx_seq (hx_region ?_)))
  refine WL.qq (by simp only [EN, Nat.reduceEqDiff, reduceIte, qv_move, e0]; rfl) ?_
  refine WL.ce Tryz.call87 (by simp only [EN, Nat.reduceEqDiff, reduceIte, AR]; exact c_toCivil n _) ?_
  rintro _ h1 ⟨hx1, y, m, d, r, rfl, hr, hy1, hy2, hm1, hm2, hd1, hd2⟩
  simp only [put_some]
  iterate 3 refine WL.qq (by simp only [EN, Nat.reduceEqDiff, reduceIte, qv_move, qv_extract, AR]; rfl) ?_
  refine WL.allocSt zr162 sz162 (fun u => by simp only [EN, Nat.reduceEqDiff, reduceIte, Value.cells]; rfl) ⟨rfl, rfl⟩ (by simp [Value.oneCell']) ?_
  intro h2 B2 hx2 hlt2 hB2
  refine WL.qq (by simp only [EN, Nat.reduceEqDiff, reduceIte, qv_assign, hB2.cell]; rfl) ?_
  refine WL.nil (th_norm (hx_seq (hx_seq (hx_region ?_))))
  iterate 2 refine WL.qq (by simp only [EN, Nat.reduceEqDiff, reduceIte, qv_move, hB2.cell, qv_binOp, binv_neq, eq46, Option.map_some]; rfl) ?_
  refine WL.nil (th_norm ?_)
  refine hx_cond (by simp only [EN, Nat.reduceEqDiff, reduceIte, hB2.cell]; rfl) (fun hct13 => ?_) (fun hct13 => ?_)
  ·
   try simp only [BD] at hct13
   refine hx_seq (hx_region ?_)
   iterate 3 refine WL.qq (by simp only [EN, Nat.reduceEqDiff, reduceIte, qv_move, hB2.cell, qv_assign]; rfl) ?_
   refine WL.nil (th_norm (hx_ret (th_ret ?_)))
   refine fin_ret [.tmp 2, .tmp 3] rfl rfl (by simp only [EN, Nat.reduceEqDiff, reduceIte, resv, e0, hB2.cell]; rfl) ?_
   have hv : ¬ validM n = true := (fun hh => by rw [if_pos hh] at hr; omega)
   rw [if_neg hv] at hr ⊢
   exact ⟨((hx1).trans (hx2)), em, by rw [hr]; rfl, by decide⟩
  ·
   try simp only [BD] at hct13
   have hv : validM n = true := (by by_cases hh : validM n = true; exact hh; rw [if_neg hh] at hr; omega)
   have hX0 := ((hx1).trans (hx2)); have hBo := hB2; obtain ⟨hN, hNe⟩ : ∃ q, q = h2 := ⟨_, rfl⟩
   refine hx_skip (th_norm (hx_seq (hx_region ?_)))
   iterate 2 refine WL.qq (by simp only [EN, Nat.reduceEqDiff, reduceIte, qv_fieldAddr, fa162_0, Nat.zero_add, Nat.reduceAdd, hB2.cell, qv_load, ld3, readN, AR]; rfl) ?_
   refine WL.ce Tryz.call64 (by simp only [EN, Nat.reduceEqDiff, reduceIte, e0, hB2.cell, AR]; exact c_digits (h0 := h2) 3 4 y _ 0 [] (by omega) (by omega) (by omega) hy1 (by have : (10 : Int) ^ (3 + 1) = 10000 := (by decide); omega) (by omega) (Ext.refl _) OwnM.nil) ?_
   rintro _ h20 ⟨hX20, n20, xs20, ho20, hn20, hz20⟩
   simp only [put_some]
   rw [← hNe] at hX20 ho20 hX0 hBo
   refine WL.pushM (n := n20) Tryz.underlying132 (inf_of Tryz.type5) rfl rfl rfl rfl sz5 zr5 (fun u => by simp only [EN, Nat.reduceEqDiff, reduceIte, e0, hB2.cell]) ho20 (u := u8V 45) (by simp only [EN, Nat.reduceEqDiff, reduceIte, e0, hB2.cell, Value.cells] <;> rfl) rfl (by omega) hX20.size ?_
   intro h21 v21 B21 ho21 hg21
   have hX21 := hg21.ext hX20 (fun c hc => (ho20.block c hc).1)
   replace hB2 := hBo.ext hX21
   skip
   refine WL.qq (by simp only [EN, Nat.reduceEqDiff, reduceIte, qv_assign, hB2.cell]; rfl) ?_
   refine WL.nil (th_norm (hx_seq (hx_region ?_)))
   iterate 3 refine WL.qq (by simp only [EN, Nat.reduceEqDiff, reduceIte, qv_move, hB2.cell, qv_fieldAddr, fa162_1, Nat.zero_add, Nat.reduceAdd, qv_load, ld3, readN, AR]; rfl) ?_
   refine WL.ce Tryz.call64 (by simp only [EN, Nat.reduceEqDiff, reduceIte, e0, hB2.cell, AR]; exact c_digits (h0 := hN) 1 2 m _ (n20 + 1) (xs20 ++ [45]) (by omega) (by omega) (by omega) hm1 (by have : (10 : Int) ^ (1 + 1) = 100 := (by decide); omega) (by omega) hX21 (by rw [List.map_append]; exact ho21)) ?_
   rintro _ h22 ⟨hX22, n22, xs22, ho22, hn22, hz22⟩
   simp only [put_some]
   replace hB2 := hBo.ext hX22
   refine WL.pushM (n := n22) Tryz.underlying132 (inf_of Tryz.type5) rfl rfl rfl rfl sz5 zr5 (fun u => by simp only [EN, Nat.reduceEqDiff, reduceIte, e0, hB2.cell]) ho22 (u := u8V 45) (by simp only [EN, Nat.reduceEqDiff, reduceIte, e0, hB2.cell, Value.cells] <;> rfl) rfl (by omega) hX22.size ?_
   intro h23 v23 B23 ho23 hg23
   have hX23 := hg23.ext hX22 (fun c hc => (ho22.block c hc).1)
   replace hB2 := hBo.ext hX23
   skip
   refine WL.qq (by simp only [EN, Nat.reduceEqDiff, reduceIte, qv_assign, hB2.cell]; rfl) ?_
   refine WL.nil (th_norm (hx_seq (hx_region ?_)))
   iterate 3 refine WL.qq (by simp only [EN, Nat.reduceEqDiff, reduceIte, qv_move, hB2.cell, qv_fieldAddr, fa162_2, Nat.zero_add, Nat.reduceAdd, qv_load, ld3, readN, AR]; rfl) ?_
   refine WL.ce Tryz.call64 (by simp only [EN, Nat.reduceEqDiff, reduceIte, e0, hB2.cell, AR]; exact c_digits (h0 := hN) 2 2 d _ (n22 + 1) (xs22 ++ [45]) (by omega) (by omega) (by omega) hd1 (by have : (10 : Int) ^ (2 + 1) = 1000 := (by decide); omega) (by omega) hX23 (by rw [List.map_append]; exact ho23)) ?_
   rintro _ h24 ⟨hX24, n24, xs24, ho24, hn24, hz24⟩
   simp only [put_some]
   refine WL.qq (by simp only [EN, Nat.reduceEqDiff, reduceIte, e0, hB2.cell, qv_convert]; exact convM ho24 hz24 Tryz.underlying132 Tryz.underlying5 Tryz.underlying9) ?_
   iterate 2 refine WL.qq (by simp only [EN, Nat.reduceEqDiff, reduceIte, qv_assign, hB2.cell]; rfl) ?_
   refine WL.nil (th_norm (hx_ret ?_))
   refine fin_ret [.tmp 2, .tmp 3] rfl rfl (by simp only [EN, Nat.reduceEqDiff, reduceIte, resv, e0, hB2.cell]; rfl) ?_
   have hsz := bsz ho24
   exact ⟨hX0.trans hX24, _, by rw [if_pos hv]; rfl, by omega⟩
def clkE (d m : Int) : Int := if validM d = true ∧ 0 ≤ m ∧ m ≤ 1439 then 0 else 2
theorem c_fclock (d m : Int) (h : Heap) : HCalls Tryz.prog 49 #[.agg #[.int .i64 d, .int .i64 m]] h fun v h' => Ext h h' ∧ ∃ s : ByteArray, v = .tuple #[.string s, iV (clkE d m)] := by
  refine hcalls2 Tryz.func49 rfl (by decide +kernel) (by simp only [Tryz.ntmps49]; exact of_decide_eq_true rfl) ?_
  intro e hin
  have e0 := hin 0 _ rfl
  refine hx_seq (hx_region ?_)
  refine WL.box2 (by simp only [EN, Nat.reduceEqDiff, reduceIte, Value.cells, e0]; rfl) ?_
  intro h1 B1 hx1 hlt1 hB1
  iterate 2 refine WL.qq (by simp only [EN, Nat.reduceEqDiff, reduceIte, qv_assign, hB1.cell]; rfl) ?_
  refine WL.nil (th_norm (hx_seq (hx_region ?_)))
  iterate 2 refine WL.qq (by simp only [EN, Nat.reduceEqDiff, reduceIte, qv_fieldAddr, fa49_0, Nat.zero_add, Nat.reduceAdd, hB1.cell, qv_load, ld3, readN, AR]; rfl) ?_
  refine WL.ce Tryz.call63 (by simp only [EN, Nat.reduceEqDiff, reduceIte, AR, hB1.cell]; exact c_format d _) ?_
  rintro _ h2 ⟨hx2, s, rfl, hsl⟩
  replace hB1 := hB1.ext hx2
  simp only [put_some]
  iterate 5 refine WL.qq (by simp only [EN, Nat.reduceEqDiff, reduceIte, qv_move, hB1.cell, qv_extract, AR, qv_assign]; rfl) ?_
  refine WL.nil (th_norm (hx_seq (hx_seq (hx_region ?_))))
  iterate 3 refine WL.qq (by simp only [EN, Nat.reduceEqDiff, reduceIte, qv_move, hB1.cell, qv_binOp, binv_neq, eq46, Option.map_some]; rfl) ?_
  refine WL.cq (gd_at (t := 15) rfl (by simp only [EN, Nat.reduceEqDiff, reduceIte, hB1.cell] <;> rfl)) (fun hg2_3 => by simp only [EN, Nat.reduceEqDiff, reduceIte, qv_fieldAddr, fa49_1, Nat.zero_add, Nat.reduceAdd, hB1.cell, hg2_3, GR]; rfl) ?_
  refine WL.cq (gd_at (t := 15) rfl (by simp only [EN, Nat.reduceEqDiff, reduceIte, hB1.cell] <;> rfl)) (fun hg2_4 => by simp only [EN, Nat.reduceEqDiff, reduceIte, qv_load, ld3, readN, AR, Nat.zero_add, Nat.reduceAdd, hB1.cell, hg2_4, GR]; rfl) ?_
  refine WL.cq (gd_at (t := 15) rfl (by simp only [EN, Nat.reduceEqDiff, reduceIte, hB1.cell] <;> rfl)) (fun hg2_5 => by simp only [EN, Nat.reduceEqDiff, reduceIte, qv_binOp, binv_lss, hB1.cell, hg2_5, GR]; rfl) ?_
  iterate 2 refine WL.qq (by simp only [EN, Nat.reduceEqDiff, reduceIte, qv_pick, pk_and, pk_or, GR, hB1.cell, qv_move]; rfl) ?_
  refine WL.cq (gd_at (t := 20) rfl (by simp only [EN, Nat.reduceEqDiff, reduceIte, hB1.cell] <;> rfl)) (fun hg2_8 => by simp only [EN, Nat.reduceEqDiff, reduceIte, qv_fieldAddr, fa49_1, Nat.zero_add, Nat.reduceAdd, hB1.cell, hg2_8, GR]; rfl) ?_
  refine WL.cq (gd_at (t := 20) rfl (by simp only [EN, Nat.reduceEqDiff, reduceIte, hB1.cell] <;> rfl)) (fun hg2_9 => by simp only [EN, Nat.reduceEqDiff, reduceIte, qv_load, ld3, readN, AR, Nat.zero_add, Nat.reduceAdd, hB1.cell, hg2_9, GR]; rfl) ?_
  refine WL.cq (gd_at (t := 20) rfl (by simp only [EN, Nat.reduceEqDiff, reduceIte, hB1.cell] <;> rfl)) (fun hg2_10 => by simp only [EN, Nat.reduceEqDiff, reduceIte, qv_binOp, binv_gtr, hB1.cell, hg2_10, GR]; rfl) ?_
  refine WL.qq (by simp only [EN, Nat.reduceEqDiff, reduceIte, qv_pick, pk_and, pk_or, GR, hB1.cell]; rfl) ?_
  refine WL.nil (th_norm ?_)
  refine hx_cond (by simp only [EN, Nat.reduceEqDiff, reduceIte, hB1.cell]; rfl) (fun hct24 => ?_) (fun hct24 => ?_)
  ·
   try simp only [BD] at hct24
   refine hx_seq (hx_region ?_)
   iterate 2 refine WL.qq (by simp only [EN, Nat.reduceEqDiff, reduceIte, qv_assign, hB1.cell]; rfl) ?_
   refine WL.nil (th_norm (hx_ret (th_ret ?_)))
   refine fin_ret [.tmp 2, .tmp 3] rfl rfl (by simp only [EN, Nat.reduceEqDiff, reduceIte, resv, e0, hB1.cell]; rfl) ?_
   have hv : ¬ (validM d = true ∧ 0 ≤ m ∧ m ≤ 1439) := (fun hh => by rw [if_pos hh.1] at hct24; omega)
   exact ⟨((hx1).trans (hx2)), em, by rw [clkE, if_neg hv]; rfl⟩
  ·
   try simp only [BD] at hct24
   have hv : validM d = true := (by by_cases hh : validM d = true; exact hh; rw [if_neg hh] at hct24; omega)
   have hX0 := ((hx1).trans (hx2)); have hBo := hB1; obtain ⟨hN, hNe⟩ : ∃ q, q = h2 := ⟨_, rfl⟩
   refine hx_skip (th_norm (hx_seq (hx_region ?_)))
   refine WL.qq (by simp only [EN, Nat.reduceEqDiff, reduceIte, qv_move, hB1.cell]; rfl) ?_
   refine WL.ef _ (e_conv Tryz.underlying9 Tryz.underlying132 Tryz.underlying5 (by simp only [EN, Nat.reduceEqDiff, reduceIte, e0, hB1.cell] <;> rfl) (by omega)) ?_
   rintro v20 h20 ⟨hX20, ho20⟩
   simp only [put_some]
   have hn20 : s.size ≤ 100 := hsl
   rw [← hNe] at hX20 ho20 hX0 hBo
   refine WL.pushM (n := s.size) Tryz.underlying132 (inf_of Tryz.type5) rfl rfl rfl rfl sz5 zr5 (fun u => by simp only [EN, Nat.reduceEqDiff, reduceIte, e0, hB1.cell]) ho20 (u := u8V 32) (by simp only [EN, Nat.reduceEqDiff, reduceIte, e0, hB1.cell, Value.cells] <;> rfl) rfl (by omega) hX20.size ?_
   intro h21 v21 B21 ho21 hg21
   have hX21 := hg21.ext hX20 (fun c hc => (ho20.block c hc).1)
   replace hB1 := hBo.ext hX21
   skip
   refine WL.qq (by simp only [EN, Nat.reduceEqDiff, reduceIte, qv_assign, hB1.cell]; rfl) ?_
   refine WL.nil (th_norm (hx_seq (hx_region ?_)))
   iterate 3 refine WL.qq (by simp only [EN, Nat.reduceEqDiff, reduceIte, qv_move, hB1.cell, qv_fieldAddr, fa49_1, Nat.zero_add, Nat.reduceAdd, qv_load, ld3, readN, AR]; rfl) ?_
   refine WL.qq (by refine Eq.trans (b := some (iV (m / 60))) ?_ rfl; simp only [EN, Nat.reduceEqDiff, reduceIte, e0, hB1.cell, qv_binOp]; rw [binv_quo (by decide), Int.tdiv_eq_ediv_of_nonneg (by omega), w64 (by omega) (by omega)]) ?_
   refine WL.ce Tryz.call64 (by simp only [EN, Nat.reduceEqDiff, reduceIte, e0, hB1.cell, AR]; exact c_digits (h0 := hN) 1 2 (m / 60) _ (s.size + 1) (s.data.toList ++ [32]) (by omega) (by omega) (by omega) (by omega) (by have : (10 : Int) ^ (1 + 1) = 100 := (by decide); omega) (by omega) hX21 (by rw [List.map_append]; exact ho21)) ?_
   rintro _ h22 ⟨hX22, n22, xs22, ho22, hn22, hz22⟩
   simp only [put_some]
   replace hB1 := hBo.ext hX22
   refine WL.pushM (n := n22) Tryz.underlying132 (inf_of Tryz.type5) rfl rfl rfl rfl sz5 zr5 (fun u => by simp only [EN, Nat.reduceEqDiff, reduceIte, e0, hB1.cell]) ho22 (u := u8V 58) (by simp only [EN, Nat.reduceEqDiff, reduceIte, e0, hB1.cell, Value.cells] <;> rfl) rfl (by omega) hX22.size ?_
   intro h23 v23 B23 ho23 hg23
   have hX23 := hg23.ext hX22 (fun c hc => (ho22.block c hc).1)
   replace hB1 := hBo.ext hX23
   skip
   refine WL.qq (by simp only [EN, Nat.reduceEqDiff, reduceIte, qv_assign, hB1.cell]; rfl) ?_
   refine WL.nil (th_norm (hx_seq (hx_region ?_)))
   iterate 3 refine WL.qq (by simp only [EN, Nat.reduceEqDiff, reduceIte, qv_move, hB1.cell, qv_fieldAddr, fa49_1, Nat.zero_add, Nat.reduceAdd, qv_load, ld3, readN, AR]; rfl) ?_
   refine WL.qq (by refine Eq.trans (b := some (iV (m % 60))) ?_ rfl; simp only [EN, Nat.reduceEqDiff, reduceIte, e0, hB1.cell, qv_binOp]; rw [binv_rem (by decide), Int.tmod_eq_emod_of_nonneg (by omega)]) ?_
   refine WL.ce Tryz.call64 (by simp only [EN, Nat.reduceEqDiff, reduceIte, e0, hB1.cell, AR]; exact c_digits (h0 := hN) 1 2 (m % 60) _ (n22 + 1) (xs22 ++ [58]) (by omega) (by omega) (by omega) (by omega) (by have : (10 : Int) ^ (1 + 1) = 100 := (by decide); omega) (by omega) hX23 (by rw [List.map_append]; exact ho23)) ?_
   rintro _ h24 ⟨hX24, n24, xs24, ho24, hn24, hz24⟩
   simp only [put_some]
   refine WL.qq (by simp only [EN, Nat.reduceEqDiff, reduceIte, e0, hB1.cell, qv_convert]; exact convM ho24 hz24 Tryz.underlying132 Tryz.underlying5 Tryz.underlying9) ?_
   iterate 2 refine WL.qq (by simp only [EN, Nat.reduceEqDiff, reduceIte, qv_assign, hB1.cell]; rfl) ?_
   refine WL.nil (th_norm (hx_ret ?_))
   refine fin_ret [.tmp 2, .tmp 3] rfl rfl (by simp only [EN, Nat.reduceEqDiff, reduceIte, resv, e0, hB1.cell]; rfl) ?_
   exact ⟨hX0.trans hX24, _, by rw [clkE, if_pos ⟨hv, by omega⟩]; rfl⟩
end GL
namespace GL
open Go Go.Proofs
set_option maxRecDepth 8000
theorem c_hValues (a : Option Addr) (cap : Nat) (l : List SI) (h : Heap) :
    HCalls Tryz.prog 51 #[.slice a l.length cap] h fun v h' => Ext h h' ∧ ∃ B, v = .func (.func 67) #[] #[.pointer (some ⟨B, 0, none⟩)] ∧ Has h' B (.cells #[.slice a l.length cap] 79) := by
  refine hcalls2 Tryz.func51 rfl (by decide +kernel) (by simp only [Tryz.ntmps51]; exact of_decide_eq_true rfl) ?_
  intro e hin
  have e0 := hin 0 _ rfl
  refine hx_seq (hx_region ?_)
  refine WL.box2 (by simp only [EN, Nat.reduceEqDiff, reduceIte, Value.cells, e0]; rfl) ?_
  intro h1 B1 hx1 hlt1 hB1
  refine WL.qq (by simp only [EN, Nat.reduceEqDiff, reduceIte, qv_assign, hB1.cell]; rfl) ?_
  refine WL.nil (th_norm (hx_seq (hx_region ?_)))
  iterate 2 refine WL.qq (by simp only [EN, Nat.reduceEqDiff, reduceIte, qv_makeFunc, AR, hB1.cell, qv_assign]; rfl) ?_
  refine WL.nil (th_norm (hx_ret ?_))
  refine fin_ret [.tmp 2] rfl rfl (by simp only [EN, Nat.reduceEqDiff, reduceIte, resv, e0, hB1.cell]; rfl) ?_
  exact ⟨(hx1), B1, rfl, hB1⟩
theorem c_vYield {h0 : Heap} (B : Nat) (a : Option Addr) (cap : Nat) (l : List SI) (lp : Nat) (J : Nat → Heap → Prop) (hlen : l.length ≤ 1000000) (hX : ∀ i h h', J i h → Ext h h' → J i h')
    (hJs : ∀ i h, J i h → SlG 2 siL h a l) (hy : ∀ i x h, l[i]? = some x → J i h → HY Tryz.prog lp #[siV x] h fun v h' => v = .bool true ∧ J (i + 1) h')
    (hB : Has h0 B (.cells #[.slice a l.length cap] 79)) (h00 : J 0 h0) :
    HCalls Tryz.prog 67 #[.func (.yield lp) #[] #[], .pointer (some ⟨B, 0, none⟩)] h0 fun _ h' => J l.length h' := by
  refine hcalls2 Tryz.func67 rfl (by decide +kernel) (by simp only [Tryz.ntmps67]; exact of_decide_eq_true rfl) ?_
  intro e hin
  have e0 := hin 0 _ rfl
  have e1 := hin 1 _ rfl
  refine hx_seq (hx_region ?_)
  iterate 3 refine WL.qq (by simp only [EN, Nat.reduceEqDiff, reduceIte, qv_load, ld79, readN, AR, Nat.zero_add, Nat.reduceAdd, e1, hB.cell, qv_len, ln79, qv_move]; rfl) ?_
  refine WL.nil (th_norm (hx_block ?_))
  refine hx_loopG [4, 7, 8, 9, 10, 11, 12, 13, 14, 15] (fun k e hL0 => ∃ (i : Nat), l.length - i = k ∧ (i ≤ l.length) ∧ (KJ J hX i hL0) ∧ e 7 = .int .i64 i) _ ⟨0, rfl, ?_, ?_, ?_⟩ ?_
  · omega
  · exact ⟨h00⟩
  · simp only [EN, Nat.reduceEqDiff, reduceIte, e0, e1, hB.cell] <;> rfl
  ·
   rintro k e0L hL0 hfr0 ⟨i, rfl, hi, hJ, i7_0⟩
   have k0_0 := hfr0 0 rfl; try simp only [EN, Nat.reduceEqDiff, reduceIte, e0, hB.cell] at k0_0
   have k5_0 := hfr0 5 rfl; try simp only [EN, Nat.reduceEqDiff, reduceIte, hB.cell] at k5_0
   have k6_0 := hfr0 6 rfl; try simp only [EN, Nat.reduceEqDiff, reduceIte, hB.cell] at k6_0
   refine hx_seq (hx_region ?_)
   refine WL.qq (by simp only [EN, Nat.reduceEqDiff, reduceIte, qv_binOp, binv_lss, k6_0, i7_0, hB.cell]; rfl) ?_
   refine WL.nil (th_norm (hx_seq ?_))
   refine hx_cond (by simp only [EN, Nat.reduceEqDiff, reduceIte, hB.cell]; rfl) (fun hct8 => ?_) (fun hct8 => ?_)
   ·
    try simp only [BD] at hct8
    obtain ⟨x, hx⟩ := atG (l := l) (i := i) (by omega)
    obtain ⟨b1, o1, ha1, hr2, _⟩ := si_rd (hJs i _ hJ.j) hx
    refine hx_skip (th_norm (hx_seq (hx_block (hx_seq (hx_region ?_)))))
    refine WL.qq (by simp only [EN, Nat.reduceEqDiff, reduceIte, qv_indexAddr, k5_0, i7_0, hB.cell, ha1]; (try simp (disch := omega) only [ix79, Int.toNat_natCast]); rfl) ?_
    refine WL.qq (by simp only [EN, Nat.reduceEqDiff, reduceIte, k0_0, k5_0, k6_0, i7_0, hB.cell, qv_load, ld78, Int.toNat_natCast, hr2]; rfl) ?_
    refine WL.allocSt zr78 sz78 (fun u => by simp only [EN, Nat.reduceEqDiff, reduceIte, Value.cells, hB.cell]; rfl) ⟨rfl, rfl⟩ (by simp [Value.oneCell']) ?_
    intro h1 B1 hx1 hlt1 hB1
    replace hJ := hJ.ext hx1
    refine WL.nil (th_norm (hx_seq (hx_region ?_)))
    iterate 2 refine WL.qq (by simp only [EN, Nat.reduceEqDiff, reduceIte, qv_move, k0_0, hB.cell, hB1.cell, qv_load, ld78, readN, AR, Nat.zero_add, Nat.reduceAdd]; rfl) ?_
    refine WL.ef _ (e_yield (l := lp) (by simp only [EN, Nat.reduceEqDiff, reduceIte, k0_0, k5_0, k6_0, i7_0, hB.cell, hB1.cell]) (by simp only [EN, Nat.reduceEqDiff, reduceIte, k0_0, k5_0, k6_0, i7_0, hB.cell, hB1.cell, AR]; exact hy i x _ hx hJ.j)) ?_
    rintro _ h22 ⟨rfl, hJ2⟩
    simp only [put_some]
    refine WL.qq (by simp only [EN, Nat.reduceEqDiff, reduceIte, qv_unOp, unv_not, hB.cell, hB1.cell]; rfl) ?_
    refine WL.nil (th_norm ?_)
    refine hx_cond (by simp only [EN, Nat.reduceEqDiff, reduceIte, hB.cell, hB1.cell]; rfl) (fun hct14 => ?_) (fun hct14 => ?_)
    ·
     simp at hct14
    ·
     try simp only [BD] at hct14
     refine hx_skip (bl_norm (th_norm (hx_region ?_)))
     iterate 2 refine WL.qq (by simp only [EN, Nat.reduceEqDiff, reduceIte, qv_binOp, binv_add, i7_0, hB.cell, hB1.cell, qv_move]; (try simp (disch := omega) only [w64, w8, wu64]); rfl) ?_
     refine WL.nil (th_norm ?_)
     refine ⟨rfl, ?_, _, ?_, i + 1, rfl, ?_, ?_, ?_⟩
     · (repeat (first | exact Fr.refl _ _ | refine Fr.set rfl ?_ | refine Fr.put rfl ?_ | with_reducible refine Fr.put0 ?_))
     · omega
     · omega
     · exact ⟨hJ2⟩
     · simp only [EN, Nat.reduceEqDiff, reduceIte, k0_0, k5_0, k6_0, i7_0, hB.cell, hB1.cell] <;> first | rfl | (congr 1; omega)
   ·
    try simp only [BD] at hct8
    obtain rfl : i = l.length := (by omega)
    refine hx_exit (th_exit (th_exit (bl_hit ?_)))
    refine fin_end [] rfl rfl (by simp only [EN, Nat.reduceEqDiff, reduceIte, resv, k0_0, k5_0, k6_0, i7_0, hB.cell]; rfl) ?_
    exact hJ.j
set_option maxHeartbeats 1000000 in
theorem c_hAppend (Bm : Nat) (a : Option Addr) (cap : Nat) (l : List SI) (hlen : l.length ≤ 1000000) {h : Heap} (hB : Has h Bm (.cells #[.slice a l.length cap] 79)) (hs : SlG 2 siL h a l) :
    HCalls Tryz.prog 88 #[.slice none 0 0, .func (.func 67) #[] #[.pointer (some ⟨Bm, 0, none⟩)]] h
      fun v h' => Ext h h' ∧ Own h' h.size tyH 2 v l.length (l.flatMap siL) := by
  have hs0 := hs
  refine hcalls2 Tryz.func88 rfl (by decide +kernel) (by simp only [Tryz.ntmps88]; exact of_decide_eq_true rfl) ?_
  intro e hin
  have e0 := hin 0 _ rfl
  have e1 := hin 1 _ rfl
  refine hx_seq (hx_region ?_)
  refine WL.box2 (by simp only [EN, Nat.reduceEqDiff, reduceIte, Value.cells, e0]; rfl) ?_
  intro h1 B1 hx1 hlt1 hB1
  replace hB := hB.ext hx1
  replace hs := hs.ext hx1
  refine WL.qq (by simp only [EN, Nat.reduceEqDiff, reduceIte, qv_assign, hB1.cell]; rfl) ?_
  refine WL.nil (th_norm (hx_seq (hx_seq (hx_region ?_))))
  refine WL.qq (by simp only [EN, Nat.reduceEqDiff, reduceIte, qv_move, e1, hB1.cell]; rfl) ?_
  refine WL.nil (th_norm (hx_block ?_))
  refine hx_range (by simp only [EN, Nat.reduceEqDiff, reduceIte, e0, e1, hB1.cell]; rfl) Tryz.call67 ?_
  intro fnR0 hR0 hxR0 hsR0 hdR0 hrR0
  have hlt : B1 < h1.size := (Array.getElem?_eq_some_iff.1 hB1).1
  generalize hrec : recOf _ _ _ _ _ _ _ = rec at hrR0
  refine (c_vYield Bm a cap l (h1.size + 1) (fun i hx => ∃ v, RC h h1 B1 79 tyH 2 rec v i ((l.take i).flatMap siL) hx) hlen ?_ ?_ ?_ (hB.ext hxR0) ?_).mono ?_
  · rintro i h1 h2 ⟨v, q1⟩ he; exact ⟨v, q1.ext he⟩
  · rintro i hx ⟨v, q1⟩; exact hs0.ext q1.ex
  rotate_left
  · exact ⟨.slice none 0 0, RC.start hB1 hxR0 hsR0 hdR0 hrR0 hx1 hlt1⟩
  rotate_left
  ·
   rintro i x hx hix ⟨v, hC⟩
   have hsz := hC.size
   have hil := (List.getElem?_eq_some_iff.1 hix).1
   subst hrec
   refine hy_body (vs := [siV x]) (ps := [7]) hC.rc rfl rfl rfl (by decide) rfl rfl ?_
   simp only [pars, List.zip_cons_cons, List.zip_nil_left, List.foldl_cons, List.foldl_nil]
   refine hx_region ?_
   refine WL.allocSt zr78 sz78 (fun u => by simp only [EN, Nat.reduceEqDiff, reduceIte, Value.cells, hB1.cell]; rfl) ⟨rfl, rfl⟩ (by simp [Value.oneCell']) ?_
   intro h2 B2 hx2 hlt2 hB2
   replace hC := hC.ext hx2
   refine WL.nil (th_norm ?_)
   refine ⟨_, hC.rc, rfl, ?_⟩
   intro h20 hw20
   replace hC := hC.turn hw20
   have hT := hC.out
   replace hB2 := hB2.wr hw20 (by omega)
   refine hx_block (hx_region ?_)
   iterate 2 refine WL.qq (by simp only [EN, Nat.reduceEqDiff, reduceIte, qv_load, ld79, readN, AR, Nat.zero_add, Nat.reduceAdd, hB1.cell, hB2.cell, hT.cell, ld78]; rfl) ?_
   refine WL.push (bytes := 24) Tryz.underlying79 (inf_of Tryz.type78) rfl rfl rfl rfl (by decide) (by decide) sz78 zr78 (fun u => by simp only [EN, Nat.reduceEqDiff, reduceIte, e0, e1, hB1.cell, hB2.cell]) hC.own (c := (siL x).toArray) (by simp only [EN, Nat.reduceEqDiff, reduceIte, e0, e1, hB1.cell, hB2.cell, Value.cells] <;> rfl) rfl (by simp [Value.oneCell']) (by simp only [maxLen]; omega) (by omega) hC.size ?_
   intro h40 v40 B40 ho40 hg40 hp40 hn40
   skip
   refine WL.store (by simp only [EN, Nat.reduceEqDiff, reduceIte, e0, e1, hB1.cell, hB2.cell] <;> rfl) sz79 (by simp only [EN, Nat.reduceEqDiff, reduceIte, e0, e1, hB1.cell, hB2.cell]; exact ho40.cells) rfl (hC.out.gr hg40 (hC.own.ncell hC.out (by decide))) (by simp) (by simp [ho40.one]) ?_
   intro h41 hw41
   have hC2 := hC.app ho40 hg40 hw41 rfl
   refine WL.nil (bl_norm ?_)
   refine ⟨_, hC2.rc, ?_⟩
   intro h30 hw30
   refine ⟨rfl, v40, ?_⟩
   rw [fm_step' hix]; exact hC2.turn hw30
  ·
   rintro v0 h3 ⟨v, hC⟩
   rw [List.take_length] at hC
   refine after_any hC.rc (by subst hrec; rfl) (.inl ⟨by subst hrec; rfl, ?_⟩)
   intro h31 o hw31
   have hs9 := hC.base
   have ho31 := (hC.own.keep (h' := h31) (fun c hc => hw31.same c (by have := (hC.own.block c hc).1; omega)))
   have hO := hC.out.wr hw31 (by have := hC.hi; omega)
   have hd31 : h31[h1.size]? = some (.deferred (some [])) := by rw [hw31.same _ (by omega)]; exact hC.df
   have hE31 := hw31.ext hC.ex (by omega)
   refine bl_norm (th_norm (hx_seq (hx_region ?_)))
   iterate 2 refine WL.qq (by simp only [EN, Nat.reduceEqDiff, reduceIte, qv_load, ld79, readN, AR, Nat.zero_add, Nat.reduceAdd, hB1.cell, hO.cell, qv_assign]; rfl) ?_
   refine WL.nil (th_norm (hx_ret ?_))
   refine fin_mark (.inr rfl) [.tmp 4] rfl rfl hd31 ?_
   intro h5 hw5
   refine ⟨[v], by simp only [resv, EN, Nat.reduceEqDiff, reduceIte, e0, e1, hB1.cell, hO.cell] <;> rfl, hw5.ext hE31 (by omega), ?_⟩
   exact (ho31.keep (h' := h5) (fun c hc => hw5.same c (by have := (ho31.block c hc).1; omega))).base (by omega)
theorem c_hCollect (Bm : Nat) (a : Option Addr) (cap : Nat) (l : List SI) (hlen : l.length ≤ 1000000) {h : Heap} (hB : Has h Bm (.cells #[.slice a l.length cap] 79)) (hs : SlG 2 siL h a l) :
    HCalls Tryz.prog 65 #[.func (.func 67) #[] #[.pointer (some ⟨Bm, 0, none⟩)]] h
      fun v h' => Ext h h' ∧ Own h' h.size tyH 2 v l.length (l.flatMap siL) := by
  refine hcalls2 Tryz.func65 rfl (by decide +kernel) (by simp only [Tryz.ntmps65]; exact of_decide_eq_true rfl) ?_
  intro e hin
  have e0 := hin 0 _ rfl
  refine hx_seq (hx_region ?_)
  refine WL.qq (by simp only [EN, Nat.reduceEqDiff, reduceIte, qv_assign]; rfl) ?_
  refine WL.nil (th_norm (hx_seq (hx_region ?_)))
  refine WL.qq (by simp only [EN, Nat.reduceEqDiff, reduceIte, qv_move, e0]; rfl) ?_
  refine WL.ce Tryz.call88 (by simp only [EN, Nat.reduceEqDiff, reduceIte, AR]; exact c_hAppend Bm a cap l hlen hB hs) ?_
  rintro _ h1 ⟨hx1, ho⟩
  simp only [put_some]
  refine WL.qq (by simp only [EN, Nat.reduceEqDiff, reduceIte, qv_assign]; rfl) ?_
  refine WL.nil (th_norm (hx_ret ?_))
  refine fin_ret [.tmp 2] rfl rfl (by simp only [EN, Nat.reduceEqDiff, reduceIte, resv, e0]; rfl) ?_
  exact ⟨hx1, ho⟩
def nLt (x y : SI) : Prop := sLt x.s y.s = true
theorem ltOf_h {x y : SI} : ltOf cmpH x y = true ↔ nLt x y := by rw [ltOf_iff, cmpH, cmpS_lt]; rfl
theorem ltOf_hf {x y : SI} : ltOf cmpH x y = false ↔ ¬ nLt x y := by rw [← ltOf_h, Bool.not_eq_true]
theorem nLt_irrefl (x : SI) : ¬ nLt x x := by unfold nLt; rw [sLt_irrefl]; decide
theorem nLt_trans {x y z : SI} (h1 : nLt x y) (h2 : nLt y z) : nLt x z := sLt_trans h1 h2
theorem nLt_tri {x y : SI} (h1 : ¬ nLt x y) (h2 : ¬ nLt y x) : x.s = y.s := sLt_tri (by simpa [nLt] using h1) (by simpa [nLt] using h2)
theorem swoH : Go.Sort.SWO (ltOf cmpH) where
  irrefl x := ltOf_hf.2 (nLt_irrefl _)
  trans x y z h1 h2 := ltOf_h.2 (nLt_trans (ltOf_h.1 h1) (ltOf_h.1 h2))
  ntrans x y z h1 h2 := by
    rw [ltOf_hf] at *
    intro h
    by_cases h3 : nLt y x
    · exact h2 (nLt_trans h3 h)
    · have h4 := nLt_tri h1 h3
      unfold nLt at h h2
      rw [h4] at h; exact h2 h
theorem isAggH (w : World) : (isAgg (Tryz.sortH_ren.t 24)).run Tryz.prog w = .ok true w := run_isAgg_of (by kernel_rfl) w
theorem szH (w : World) : (Go.sizeOf (Tryz.sortH_ren.t 24)).run Tryz.prog w = .ok 2 w := run_sizeOf_of (by kernel_rfl) w
theorem c_hSorted (Bm : Nat) (a : Option Addr) (cap : Nat) (l : List SI) (hlen : l.length ≤ 1000000) {h : Heap} (hB : Has h Bm (.cells #[.slice a l.length cap] 79)) (hs : SlG 2 siL h a l) :
    HCalls Tryz.prog 50 #[.func (.func 67) #[] #[.pointer (some ⟨Bm, 0, none⟩)], .func (.func 52) #[] #[]] h
      fun v h' => Ext h h' ∧ ∃ s : List SI, s.Perm l ∧ s.Pairwise (fun x y => ¬ nLt y x) ∧ Own h' h.size tyH 2 v s.length (s.flatMap siL) := by
  refine hcalls2 Tryz.func50 rfl (by decide +kernel) (by simp only [Tryz.ntmps50]; exact of_decide_eq_true rfl) ?_
  intro e hin
  have e0 := hin 0 _ rfl
  have e1 := hin 1 _ rfl
  refine hx_seq (hx_region ?_)
  refine WL.qq (by simp only [EN, Nat.reduceEqDiff, reduceIte, qv_assign]; rfl) ?_
  refine WL.nil (th_norm (hx_seq (hx_region ?_)))
  refine WL.qq (by simp only [EN, Nat.reduceEqDiff, reduceIte, qv_move, e0]; rfl) ?_
  refine WL.ce Tryz.call65 (by simp only [EN, Nat.reduceEqDiff, reduceIte, AR]; exact c_hCollect Bm a cap l hlen hB hs) ?_
  rintro _ h1 ⟨hx1, ho⟩
  simp only [put_some]
  refine WL.qq (by simp only [EN, Nat.reduceEqDiff, reduceIte, qv_assign]; rfl) ?_
  refine WL.nil (th_norm (hx_seq (hx_region ?_)))
  iterate 2 refine WL.qq (by simp only [EN, Nat.reduceEqDiff, reduceIte, qv_move, e1]; rfl) ?_
  refine WL.ce Tryz.call66 (by simp only [EN, Nat.reduceEqDiff, reduceIte, e0, e1, AR]; exact hc_sort Tryz.sortH isAggH szH (fun _ => rfl) siL_one swoH Tryz.call52 c_new1 ho rfl (by omega) (by decide)) ?_
  rintro _ h60 ⟨L, hLp, hLs, hLo, hLg⟩
  simp only [put_some]
  have hE60 := hLg.ext hx1 (fun c hc => (ho.block c hc).1)
  refine WL.nil (th_norm (hx_seq (hx_region ?_)))
  iterate 2 refine WL.qq (by simp only [EN, Nat.reduceEqDiff, reduceIte, qv_move, qv_assign]; rfl) ?_
  refine WL.nil (th_norm (hx_ret ?_))
  refine fin_ret [.tmp 4] rfl rfl (by simp only [EN, Nat.reduceEqDiff, reduceIte, resv, e0, e1]; rfl) ?_
  exact ⟨hE60, L, hLp, hLs.imp (fun hxy => ltOf_hf.1 hxy), by rw [hLp.length_eq]; exact hLo⟩
end GL
namespace GL
open Go Go.Proofs
set_option maxRecDepth 8000
def atH (x : SI) (out : List SI) : Nat → Nat
  | 0 => 0
  | n + 1 => match out[n]? with
    | some y => if sLt x.s y.s = true then atH x out n else n + 1
    | none => n + 1
def insH (x : SI) (out : List SI) : List SI := out.take (atH x out out.length) ++ x :: out.drop (atH x out out.length)
def ordH (l : List SI) : List SI := l.foldl (fun out x => insH x out) []
theorem atH_spec (x : SI) (out : List SI) : ∀ n, n ≤ out.length → atH x out n ≤ n ∧ (∀ j y, atH x out n ≤ j → j < n → out[j]? = some y → nLt x y) ∧ (∀ k y, atH x out n = k + 1 → out[k]? = some y → ¬ nLt x y)
  | 0, _ => ⟨Nat.le_refl _, fun j y _ h => absurd h (Nat.not_lt_zero _), fun k y h => by simp [atH] at h⟩
  | n + 1, hn => by
    obtain ⟨y, hy⟩ := atG (l := out) (i := n) (by omega)
    have ih := atH_spec x out n (by omega)
    unfold atH
    rw [hy]
    simp only
    split
    · rename_i hlt
      refine ⟨by omega, fun j z hj hj2 hz => ?_, ih.2.2⟩
      by_cases hjn : j = n
      · subst hjn; rw [hy] at hz; cases hz; exact hlt
      · exact ih.2.1 j z hj (by omega) hz
    · rename_i hlt
      refine ⟨by omega, fun j z hj hj2 hz => by omega, fun k z hk hz => ?_⟩
      obtain rfl : k = n := by omega
      rw [hy] at hz; cases hz; exact hlt
theorem insH_perm (x : SI) (out : List SI) : (insH x out).Perm (x :: out) := by
  unfold insH
  refine List.perm_middle.trans ?_
  rw [List.take_append_drop]
theorem insH_sorted {x : SI} {out : List SI} (hs : out.Pairwise nLt) (hx : ∀ y ∈ out, y.s ≠ x.s) : (insH x out).Pairwise nLt := by
  obtain ⟨h1, h2, h3⟩ := atH_spec x out out.length (Nat.le_refl _)
  unfold insH
  generalize hk : atH x out out.length = k at h1 h2 h3 ⊢
  have hp := List.pairwise_iff_getElem.1 hs
  have hlow : ∀ y ∈ out.take k, nLt y x := by
    intro y hy
    obtain ⟨j, hj⟩ := List.getElem?_of_mem hy
    rw [List.getElem?_take] at hj
    split at hj
    · rename_i hjk
      obtain ⟨k', rfl⟩ : ∃ k', k = k' + 1 := ⟨k - 1, by omega⟩
      obtain ⟨z, hz⟩ := atG (l := out) (i := k') (by omega)
      have hz2 := h3 k' z rfl hz
      have hzx : nLt z x := by
        by_cases h4 : nLt z x
        · exact h4
        · exact absurd (nLt_tri hz2 h4).symm (hx z (List.mem_of_getElem? hz))
      by_cases hjk2 : j = k'
      · subst hjk2; rw [hz] at hj; cases hj; exact hzx
      · obtain ⟨a1, rfl⟩ := List.getElem?_eq_some_iff.1 hj
        obtain ⟨a2, rfl⟩ := List.getElem?_eq_some_iff.1 hz
        exact nLt_trans (hp j k' a1 a2 (by omega)) hzx
    · cases hj
  have hhigh : ∀ y ∈ out.drop k, nLt x y := by
    intro y hy
    obtain ⟨j, hj⟩ := List.getElem?_of_mem hy
    rw [List.getElem?_drop] at hj
    exact h2 (k + j) y (by omega) (List.getElem?_eq_some_iff.1 hj).1 hj
  rw [List.pairwise_append, List.pairwise_cons]
  refine ⟨hs.sublist (List.take_sublist _ _), ⟨hhigh, hs.sublist (List.drop_sublist _ _)⟩, fun a ha b hb => ?_⟩
  rcases List.mem_cons.1 hb with rfl | hb
  · exact hlow a ha
  · exact nLt_trans (hlow a ha) (hhigh b hb)
theorem ordH_go : ∀ (l out : List SI), out.Pairwise nLt → ((out ++ l).map SI.s).Nodup → (l.foldl (fun out x => insH x out) out).Pairwise nLt ∧ (l.foldl (fun out x => insH x out) out).Perm (out ++ l)
  | [], out, hs, _ => ⟨hs, by simp⟩
  | x :: l, out, hs, hn => by
    have hp := insH_perm x out
    have hx : ∀ y ∈ out, y.s ≠ x.s := by
      intro y hy hh
      rw [List.map_append, List.nodup_append] at hn
      exact hn.2.2 y.s (List.mem_map_of_mem hy) x.s (by simp) hh
    have hp2 : (insH x out ++ l).Perm (out ++ x :: l) := (hp.append_right l).trans (by simpa using (List.perm_middle (a := x) (l₁ := out) (l₂ := l)).symm)
    have hn2 : ((insH x out ++ l).map SI.s).Nodup := ((hp2.map SI.s).nodup_iff).2 hn
    have ih := ordH_go l (insH x out) (insH_sorted hs hx) hn2
    exact ⟨ih.1, ih.2.trans hp2⟩
theorem ordH_spec {l : List SI} (hn : (l.map SI.s).Nodup) : (ordH l).Pairwise nLt ∧ (ordH l).Perm l := by
  have h := ordH_go l [] List.Pairwise.nil (by simpa using hn)
  exact ⟨h.1, by have h2 := h.2; rw [List.nil_append] at h2; exact h2⟩
theorem ordH_uni {l m : List SI} (hp : m.Perm l) (hn : (l.map SI.s).Nodup) (hs : m.Pairwise fun x y => ¬ nLt y x) : m = ordH l := by
  have ho := ordH_spec hn
  have hn2 : (m.map SI.s).Nodup := ((hp.map SI.s).nodup_iff).2 hn
  have hs2 : m.Pairwise nLt := by
    refine (List.Pairwise.and hs (List.pairwise_map.1 hn2)).imp fun {a b} h => ?_
    by_cases h3 : nLt a b
    · exact h3
    · exact absurd (nLt_tri h3 h.1) h.2
  exact srt_uni nLt_irrefl (fun _ _ _ => nLt_trans) hs2 ho.1 fun q => by rw [hp.mem_iff, ho.2.mem_iff]
theorem ordH_perm {l m : List SI} (hp : m.Perm l) (hn : (l.map SI.s).Nodup) : ordH m = ordH l := by
  have hn2 : (m.map SI.s).Nodup := ((hp.map SI.s).nodup_iff).2 hn
  have h1 := ordH_spec hn2
  refine ordH_uni (h1.2.trans hp) hn (h1.1.imp fun {a b} h hh => ?_)
  exact nLt_irrefl _ (nLt_trans h hh)
structure OkH (l : List SI) : Prop where
  ne : l.length ≠ 0
  le : l.length ≤ 1024
  q : ∀ x ∈ l, x.s ≠ em ∧ 1 ≤ x.n ∧ x.n ≤ 1000000000000000
  nd : (l.map SI.s).Nodup
  su : sumF SI.n l ≤ 1000000000000000
theorem ckH_0 {pre : List SI} {x : SI} : ckH pre x = 0 ↔ x.s ≠ em ∧ (∀ y ∈ pre, y.s ≠ x.s) ∧ 1 ≤ x.n ∧ x.n ≤ 1000000000000000 := by
  unfold ckH
  constructor
  · intro h
    split at h
    · omega
    rename_i h1
    split at h
    · omega
    rename_i h2
    split at h
    · omega
    rename_i h3
    refine ⟨h1, fun y hy hh => h2 (List.any_eq_true.2 ⟨y, hy, by simpa using hh⟩), by omega⟩
  · rintro ⟨h1, h2, h3⟩
    rw [if_neg h1, if_neg (by
      intro h4
      obtain ⟨y, hy, hh⟩ := List.any_eq_true.1 h4
      exact h2 y hy (by simpa using hh)), if_neg (by omega)]
theorem goH_0 : ∀ (l pre : List SI), goH pre l = 0 ↔ (∀ x ∈ l, x.s ≠ em ∧ (∀ y ∈ pre, y.s ≠ x.s) ∧ 1 ≤ x.n ∧ x.n ≤ 1000000000000000) ∧ (l.map SI.s).Nodup
  | [], pre => by simp [goH]
  | x :: l, pre => by
    unfold goH
    have ih := goH_0 l (pre ++ [x])
    constructor
    · intro h
      split at h
      · rename_i h1
        rw [ckH_0] at h1
        rw [ih] at h
        refine ⟨fun y hy => ?_, ?_⟩
        · rcases List.mem_cons.1 hy with rfl | hy
          · exact h1
          · have h2 := h.1 y hy
            exact ⟨h2.1, fun z hz => h2.2.1 z (List.mem_append_left _ hz), h2.2.2⟩
        · rw [List.map_cons, List.nodup_cons]
          refine ⟨fun hm => ?_, h.2⟩
          obtain ⟨y, hy, hh⟩ := List.mem_map.1 hm
          exact (h.1 y hy).2.1 x (by simp) hh.symm
      · rename_i h1; exact absurd h h1
    · rintro ⟨h1, h2⟩
      rw [List.map_cons, List.nodup_cons] at h2
      have h3 := h1 x (by simp)
      rw [if_pos (ckH_0.2 h3), ih]
      refine ⟨fun y hy => ?_, h2.2⟩
      have h4 := h1 y (by simp [hy])
      refine ⟨h4.1, fun z hz => ?_, h4.2.2⟩
      rcases List.mem_append.1 hz with hz | hz
      · exact h4.2.1 z hz
      · simp at hz; subst hz
        intro hh; exact h2.1 (List.mem_map.2 ⟨y, hy, hh.symm⟩)
theorem erH_0 {l : List SI} : erH l = 0 ↔ OkH l := by
  have hg := goH_0 l []
  unfold erH
  constructor
  · intro h
    split at h
    · omega
    rename_i h1
    split at h
    · rename_i h2; exact absurd h h2
    rename_i h2
    split at h
    · omega
    rename_i h3
    have h4 := hg.1 (by simpa using h2)
    exact ⟨by omega, by omega, fun x hx => ⟨(h4.1 x hx).1, (h4.1 x hx).2.2⟩, h4.2, by omega⟩
  · intro h
    have h1 := h.ne; have h2 := h.le; have h3 := h.su
    have h4 := hg.2 ⟨fun x hx => ⟨(h.q x hx).1, (fun y hy => by cases hy), (h.q x hx).2⟩, h.nd⟩
    rw [if_neg (by omega), if_neg (by simpa using h4), if_neg (by omega)]
theorem OkH.perm {l m : List SI} (h : OkH l) (hp : m.Perm l) : OkH m :=
  ⟨by rw [hp.length_eq]; exact h.ne, by rw [hp.length_eq]; exact h.le, fun x hx => h.q x (hp.mem_iff.1 hx), ((hp.map SI.s).nodup_iff).2 h.nd, by rw [sumF_perm hp]; exact h.su⟩
structure OkO (l : List SI) : Prop where
  ne : l.length ≠ 0
  le : l.length ≤ 16
  q : ∀ x ∈ l, 0 ≤ x.n ∧ x.n ≤ 1000000000000000
  nd : (l.map SI.s).Nodup
theorem goO_0 : ∀ (l pre : List SI), goO pre l = 0 → (∀ x ∈ l, (∀ y ∈ pre, y.s ≠ x.s) ∧ 0 ≤ x.n ∧ x.n ≤ 1000000000000000) ∧ (l.map SI.s).Nodup
  | [], pre, _ => by simp
  | x :: l, pre, h => by
    have ih := goO_0 l (pre ++ [x])
    unfold goO at h
    split at h
    · rename_i h1
      have h2 := ih h
      have h3 : (∀ y ∈ pre, y.s ≠ x.s) ∧ 0 ≤ x.n ∧ x.n ≤ 1000000000000000 := by
        unfold ckO at h1
        split at h1
        · omega
        split at h1
        · omega
        rename_i h4
        split at h1
        · omega
        rename_i h5
        refine ⟨?_, by omega⟩
        rcases idxS_cases x.s pre with ⟨_, h6⟩ | ⟨i, y, h6, _⟩
        · exact h6
        · omega
      refine ⟨fun y hy => ?_, ?_⟩
      · rcases List.mem_cons.1 hy with rfl | hy
        · exact h3
        · have h4 := h2.1 y hy
          exact ⟨fun z hz => h4.1 z (List.mem_append_left _ hz), h4.2⟩
      · rw [List.map_cons, List.nodup_cons]
        refine ⟨fun hm => ?_, h2.2⟩
        obtain ⟨y, hy, hh⟩ := List.mem_map.1 hm
        exact (h2.1 y hy).1 x (by simp) hh.symm
    · rename_i h1; exact absurd h h1
theorem erO_0 {l : List SI} (h : erO l = 0) : OkO l := by
  unfold erO at h
  split at h
  · omega
  rename_i h1
  have h2 := goO_0 l [] h
  exact ⟨by omega, by omega, fun x hx => (h2.1 x hx).2, h2.2⟩
def capE (os : List SI) (i : Int) : Int := (os[i.toNat]?.getD ⟨em, 0⟩).n
def erN (l os : List SI) (s : ByteArray) (d m : Int) : Int :=
  if erH l ≠ 0 then erH l else if erO os ≠ 0 then erO os else if idxS s os < 0 then 9 else if capE os (idxS s os) ≠ 0 then 11 else if clkE d m ≠ 0 then 28 else 0
def newE (l os : List SI) (s : ByteArray) (d m : Int) : EL := ⟨ordH l, os, (idxS s os).toNat, d, m, [], false⟩
structure GoodE (E : EL) : Prop where
  hn : 1 ≤ E.hs.length ∧ E.hs.length ≤ 1024
  srt : E.hs.Pairwise nLt
  hq : ∀ x ∈ E.hs, 1 ≤ x.n ∧ x.n ≤ 1000000000000000
  hsum : sumF SI.n E.hs ≤ 1000000000000000
  on : 1 ≤ E.os.length ∧ E.os.length ≤ 16
  ond : (E.os.map SI.s).Nodup
  oq : ∀ x ∈ E.os, 0 ≤ x.n ∧ x.n ≤ 1000000000000000
  dft : ∃ x, E.os[E.d]? = some x ∧ x.n = 0
  dl : 0 ≤ E.dd ∧ E.dd ≤ 73048 ∧ 0 ≤ E.dm ∧ E.dm ≤ 1439
  mnd : (E.m.map Prod.fst).Nodup
  mks : ∀ p ∈ E.m, (∃ x ∈ E.hs, x.s = p.1.o) ∧ 0 ≤ p.1.k ∧ p.1.k < E.os.length ∧ 1 ≤ p.2 ∧ p.2 ≤ 1000000000000000
  su : ∀ x ∈ E.hs, sumE E x.s ≤ x.n
theorem lk_look {κ : Type} [DecidableEq κ] {l : List (κ × Int)} {q : κ} : lk l q = 0 ∨ ∃ p ∈ l, p.1 = q ∧ lk l q = p.2 := by
  unfold lk
  cases h : l.lookup q with
  | none => exact .inl rfl
  | some v => exact .inr ⟨(q, v), mem_lookup h, rfl, rfl⟩
section
variable {E : EL}
theorem GoodE.nd (g : GoodE E) : (E.hs.map SI.s).Nodup := by
  rw [List.Nodup, List.pairwise_map]
  refine g.srt.imp fun {a b} h hh => ?_
  unfold nLt at h
  rw [hh, sLt_irrefl] at h; cases h
theorem GoodE.ch (g : GoodE E) (q : PK) : 0 ≤ lk E.m q ∧ lk E.m q ≤ 1000000000000000 := by
  rcases lk_look (l := E.m) (q := q) with h | ⟨p, hp, _, h⟩
  · omega
  · have := g.mks p hp; omega
theorem GoodE.b (g : GoodE E) : BdE E := ⟨g.hn.2, g.on.2, g.hq, g.ch⟩
theorem GoodE.che (g : GoodE E) (s : ByteArray) (k : Nat) : 0 ≤ chE E s k ∧ chE E s k ≤ 1000000000000000 := g.ch _
theorem sumF_part {α : Type} {f : α → Int} {l : List α} (h : ∀ x ∈ l, 0 ≤ f x) : 0 ≤ sumF f l ∧ ∀ x ∈ l, f x ≤ sumF f l := by
  induction l with
  | nil => exact ⟨Int.le_refl _, fun x hx => by cases hx⟩
  | cons y l ih =>
    have h1 := ih fun z hz => h z (by simp [hz])
    have h2 := h y (by simp)
    simp only [sumF]
    refine ⟨by omega, fun x hx => ?_⟩
    rcases List.mem_cons.1 hx with rfl | hx
    · omega
    · have := h1.2 x hx; omega
theorem sumF_mono {α : Type} {f g : α → Int} {l : List α} (h : ∀ x ∈ l, f x ≤ g x) : sumF f l ≤ sumF g l := by
  induction l with
  | nil => exact Int.le_refl _
  | cons y l ih =>
    have h1 := ih fun z hz => h z (by simp [hz])
    have h2 := h y (by simp)
    simp only [sumF]; omega
theorem GoodE.chle (g : GoodE E) (s : ByteArray) {k : Nat} (hk : k < E.os.length) : chE E s k ≤ sumE E s :=
  (sumF_part (f := chE E s) (l := List.range E.os.length) fun j _ => (g.che s j).1).2 k (List.mem_range.2 hk)
theorem GoodE.ch0 (g : GoodE E) {s : ByteArray} {k : Nat} (hk : E.os.length ≤ k) : chE E s k = 0 := by
  rcases lk_look (l := E.m) (q := ⟨s, k⟩) with h | ⟨p, hp, h1, h⟩
  · exact h
  · have h2 := g.mks p hp
    rw [h1] at h2
    simp only at h2
    omega
theorem GoodE.chx (g : GoodE E) {x : SI} (hx : x ∈ E.hs) (k : Nat) : chE E x.s k ≤ x.n := by
  by_cases hk : k < E.os.length
  · have := g.chle x.s hk; have := g.su x hx; omega
  · rw [g.ch0 (by omega)]; have := g.hq x hx; omega
theorem wsE_sum (g : GoodE E) (k : Nat) : ((wsE E k).sum : Int) = sumF (fun x => chE E x.s k) E.hs := by
  unfold wsE
  have : ∀ l : List SI, (((l.map fun x => chN E x.s k).sum : Nat) : Int) = sumF (fun x => chE E x.s k) l := by
    intro l
    induction l with
    | nil => rfl
    | cons x l ih =>
      rw [List.map_cons, List.sum_cons, Int.natCast_add, ih, sumF, chN_i g.b]
  exact this _
theorem GoodE.cl (g : GoodE E) (h40 : E.hs.length ≤ 40) : ClE E := by
  refine ⟨g.b, h40, g.nd, fun k => ?_, g.oq⟩
  have h1 := wsE_sum g k
  have h2 := sumF_mono (f := fun x : SI => chE E x.s k) (g := SI.n) (l := E.hs) fun x hx => g.chx hx k
  have h3 := g.hsum
  omega
end
theorem new_good {l os : List SI} {s : ByteArray} {d m : Int} (h : erN l os s d m = 0) : GoodE (newE l os s d m) := by
  unfold erN at h
  split at h
  · rename_i h1; exact absurd h h1
  rename_i h1
  split at h
  · rename_i h2; exact absurd h h2
  rename_i h2
  split at h
  · omega
  rename_i h3
  split at h
  · omega
  rename_i h4
  split at h
  · omega
  rename_i h5
  have oh := erH_0.1 (by simpa using h1)
  have oo := erO_0 (by simpa using h2)
  have ho := ordH_spec oh.nd
  have hcl : validM d = true ∧ 0 ≤ m ∧ m ≤ 1439 := by
    by_cases hh : validM d = true ∧ 0 ≤ m ∧ m ≤ 1439
    · exact hh
    · unfold clkE at h5; rw [if_neg hh] at h5; simp at h5
  have hv := hcl.1
  simp only [validM, Bool.and_eq_true, decide_eq_true_eq] at hv
  refine ⟨?_, ho.1, fun x hx => (oh.q x (ho.2.mem_iff.1 hx)).2, ?_, ?_, oo.nd, oo.q, ?_, ⟨hv.1, hv.2, hcl.2⟩, List.nodup_nil, fun p hp => (by cases hp), fun x hx => ?_⟩
  · simp only [newE]; rw [ho.2.length_eq]; have := oh.ne; have := oh.le; omega
  · simp only [newE]; rw [sumF_perm ho.2]; exact oh.su
  · simp only [newE]; have := oo.ne; have := oo.le; omega
  · rcases idxS_cases s os with ⟨h6, _⟩ | ⟨i, x, h6, hx, _⟩
    · omega
    · refine ⟨x, ?_, ?_⟩
      · simp only [newE, h6, Int.toNat_natCast]; exact hx
      · simp only [capE, h6, Int.toNat_natCast, hx, Option.getD_some] at h4; simpa using h4
  · have h6 := (oh.q x (ho.2.mem_iff.1 hx)).2
    have h7 : sumE (newE l os s d m) x.s = 0 := sumF_zero fun k _ => rfl
    rw [h7]; omega
theorem lk_chM {m : List (PK × Int)} {x y : PK} {q : Int} : lk (chM m x q) y = if y = x then q else lk m y := by
  unfold chM
  split
  · rename_i h
    unfold lk
    rw [lookup_mdel]
    split
    · rw [h]; rfl
    · rfl
  · rw [lk_mset]
    by_cases h : x = y
    · subst h; simp
    · rw [if_neg h, if_neg fun hh => h hh.symm]
theorem chM_mem {m : List (PK × Int)} {x : PK} {q : Int} {p : PK × Int} (h : p ∈ chM m x q) : p ∈ m ∨ (p = (x, q) ∧ q ≠ 0) := by
  unfold chM at h
  split at h
  · exact .inl (List.mem_filter.1 h).1
  · rename_i hq
    revert h
    induction m with
    | nil => intro h; simp [mset] at h; exact .inr ⟨h, hq⟩
    | cons y m ih =>
      intro h
      unfold mset at h
      split at h
      · rcases List.mem_cons.1 h with h | h
        · exact .inr ⟨h, hq⟩
        · exact .inl (List.mem_cons_of_mem _ h)
      · rcases List.mem_cons.1 h with h | h
        · exact .inl (by rw [h]; exact List.mem_cons_self)
        · rcases ih h with h | h
          · exact .inl (List.mem_cons_of_mem _ h)
          · exact .inr h
abbrev chsE (E : EL) (s o : ByteArray) (q : Int) : EL := { E with m := chM E.m ⟨s, idxS o E.os⟩ q }
theorem chE_chs {E : EL} {s o : ByteArray} {q : Int} (t : ByteArray) (k : Nat) : chE (chsE E s o q) t k = if t = s ∧ (k : Int) = idxS o E.os then q else chE E t k := by
  unfold chE
  simp only [chsE]
  rw [lk_chM]
  congr 1
  rw [eq_iff_iff, pk_eq]
theorem chX_0 {E : EL} {s o : ByteArray} {q ad am : Int} (h : chX E s o q ad am = 0) : E.cl = false ∧ ¬ 0 < cmpC (ad, am) (E.dd, E.dm) ∧ 0 ≤ idxS s E.hs ∧ 0 ≤ idxS o E.os ∧ 0 ≤ q ∧ q ≤ 1000000000000000 ∧ sumE E s - lk E.m ⟨s, idxS o E.os⟩ + q ≤ (hldE E s).n := by
  unfold chX at h
  split at h
  · omega
  rename_i h1
  split at h
  · omega
  split at h
  · omega
  split at h
  · omega
  split at h
  · omega
  split at h
  · omega
  refine ⟨by simpa using h1, ?_⟩
  omega
theorem sum_chs {E : EL} {s o : ByteArray} {q : Int} (hi : 0 ≤ idxS o E.os) (t : ByteArray) : sumE (chsE E s o q) t = if t = s then sumE E t - lk E.m ⟨s, idxS o E.os⟩ + q else sumE E t := by
  have hlt := (idxS_lt o E.os).2
  unfold sumE
  have hos : (chsE E s o q).os = E.os := rfl
  rw [hos]
  split
  · rename_i hts
    subst hts
    obtain ⟨i, hi2⟩ : ∃ i : Nat, idxS o E.os = i := ⟨(idxS o E.os).toNat, by omega⟩
    have hil : i < E.os.length := by omega
    have hsp : ∀ f : Nat → Int, sumF f (List.range E.os.length) = sumF f ((List.range E.os.length).take i) + f i + sumF f ((List.range E.os.length).drop (i + 1)) := by
      intro f
      have h1 := sumF_step (f := f) (l := List.range E.os.length) (i := i) (x := i) (by rw [List.getElem?_range hil])
      have h2 : sumF f (List.range E.os.length) = sumF f ((List.range E.os.length).take (i + 1)) + sumF f ((List.range E.os.length).drop (i + 1)) := by
        rw [← sumF_app, List.take_append_drop]
      omega
    rw [hsp, hsp (chE E t)]
    have e1 : sumF (chE (chsE E t o q) t) ((List.range E.os.length).take i) = sumF (chE E t) ((List.range E.os.length).take i) := by
      refine sumF_congr fun k hk => ?_
      rw [chE_chs, if_neg]
      intro hh
      obtain ⟨j, hj, rfl⟩ := List.mem_take_iff_getElem.1 hk
      simp at hh
      omega
    have e2 : sumF (chE (chsE E t o q) t) ((List.range E.os.length).drop (i + 1)) = sumF (chE E t) ((List.range E.os.length).drop (i + 1)) := by
      refine sumF_congr fun k hk => ?_
      rw [chE_chs, if_neg]
      intro hh
      obtain ⟨j, hj, rfl⟩ := List.mem_drop_iff_getElem.1 hk
      simp at hh
      omega
    rw [e1, e2, chE_chs, if_pos ⟨rfl, by omega⟩, hi2]
    unfold chE
    omega
  · rename_i hts
    refine sumF_congr fun k _ => ?_
    rw [chE_chs, if_neg (fun hh => hts hh.1)]
theorem hld_mem {E : EL} {s : ByteArray} (h : 0 ≤ idxS s E.hs) : hldE E s ∈ E.hs ∧ (hldE E s).s = s := by
  rcases idxS_cases s E.hs with ⟨h1, _⟩ | ⟨i, x, h1, hx, hxs, hno⟩
  · omega
  · rw [hld_yes hno hx hxs]
    exact ⟨List.mem_of_getElem? hx, hxs⟩
theorem name_eq {E : EL} (g : GoodE E) {x y : SI} (hx : x ∈ E.hs) (hy : y ∈ E.hs) (h : x.s = y.s) : x = y := by
  obtain ⟨i, hi⟩ := List.getElem?_of_mem hx
  obtain ⟨j, hj⟩ := List.getElem?_of_mem hy
  have h1 := idx_of g.nd hi
  have h2 := idx_of g.nd hj
  rw [h, h2] at h1
  have : i = j := by omega
  subst this
  rw [hi] at hj; exact Option.some.inj hj
theorem good_choose {E : EL} (g : GoodE E) {s o : ByteArray} {q ad am : Int} (h : chX E s o q ad am = 0) : GoodE (chsE E s o q) := by
  obtain ⟨_, _, h1, h2, h3, h4, h5⟩ := chX_0 h
  have h6 := hld_mem h1
  refine ⟨g.hn, g.srt, g.hq, g.hsum, g.on, g.ond, g.oq, g.dft, g.dl, ?_, fun p hp => ?_, fun x hx => ?_⟩
  · simp only [chsE, chM]
    split
    · exact mdel_nd g.mnd
    · exact mset_nodup g.mnd
  · rcases chM_mem hp with hp | ⟨rfl, hq0⟩
    · exact g.mks p hp
    · refine ⟨⟨_, h6.1, h6.2⟩, h2, (idxS_lt o E.os).2, ?_, h4⟩
      simp only; omega
  · rw [sum_chs h2]
    split
    · rename_i hts
      have h7 := name_eq g hx h6.1 (by rw [h6.2]; exact hts)
      subst h7
      rw [hts]; exact h5
    · exact g.su x hx
end GL

/- The law SessionRecovery returns true: what a receiver misses is sent again, and everything arrives in order. No condition beyond the row's own. -/
import Derived.Test.YtmlhncifcaicpaaRows
import Derived.Test.YtmlhncifcaicpaaSesX
import Derived.Test.YtmlhncifcaicpaaSesV
set_option linter.unusedSimpArgs false
set_option linter.unusedVariables false
set_option linter.unnecessarySimpa false
namespace GL
open Go Go.Proofs
set_option maxRecDepth 8000
theorem ackE_mid {n a x : Int} (h1 : 1 ≤ x) (h2 : x ≤ n) (h3 : a ≤ x) : ackE n a x = 0 := by
  unfold ackE
  rw [if_neg (by omega), if_neg (by omega)]
theorem acc_next {w n : Int} {m : M2} (hG : RG w n []) (hm : m.1 = n) (h1 : n ≤ 1000000000) (hz : m.2.size ≤ 4096) : accE w n [] m = 0 ∧ accN w n [] m = n + 1 ∧ accB w n [] m = [] := by
  obtain ⟨he, hg⟩ := next_acc hG rfl hm h1 hz
  obtain ⟨x, pl⟩ := m
  simp only at hm
  subst hm
  refine ⟨he, ?_, ?_⟩
  · unfold accN; rw [if_pos he]; simp [dr, drain, List.lookup]
  · unfold accB; rw [if_pos he]; simp [dr, drain, List.lookup, mdel]
set_option maxHeartbeats 2000000 in
theorem l_reco (ax : Option Addr) (ps : List ByteArray) (cx : Nat) (al : Option Addr) (l : List Nat) (cl : Nat) {h : Heap} (hps : SlG 1 strL h ax ps) (lps : ps.length ≤ 9223372036854775807) (hl : SlG 1 u8L h al l) (ll : l.length ≤ 9223372036854775807) (hop : ∀ x ∈ l, x ≤ 255) :
    HCalls Try.prog 9 #[.slice ax ps.length cx, .slice al l.length cl] h (Grow (.bool true) h) := by
  refine hcalls2 Try.func9 rfl (by decide +kernel) (by simp only [Try.ntmps9]; exact of_decide_eq_true rfl) ?_
  intro e hin
  have e0 := hin 0 _ rfl
  have e1 := hin 1 _ rfl
  refine hx_seq ?_
  refine hx_region ?_
  refine WL.qq (by simp only [EN, Nat.reduceEqDiff, reduceIte, qv_assign]; rfl) ?_
  refine WL.nil ?_
  refine th_norm ?_
  refine hx_seq ?_
  refine hx_region ?_
  refine WL.qq (by simp only [EN, Nat.reduceEqDiff, reduceIte, qv_move, e0]; rfl) ?_
  refine WL.ce Try.call14 (by simp only [EN, Nat.reduceEqDiff, reduceIte, AR]; exact (c_sent ax ps cx hps lps).mono (fun v h' hh => by obtain ⟨p, ak, cap, b, c, K, e1, e2⟩ := hh; exact (⟨e2.T.E, p, ak, cap, b, c, K, e1, e2⟩ : Ext _ h' ∧ ∃ p ak cap b c K, v = .tuple #[.pointer (some ⟨p, 0, none⟩), .slice b K.length c, .bool true] ∧ ST _ h' p ak cap b K))) ?_
  rintro _ h1 ⟨hx1, p, ak, cap, b, c, K, rfl, hST⟩
  simp only [put_some]
  have kE := hx1
  have hT := hST.T
  have hL := hST.l
  have hK60 := hST.len
  have hKs := hST.sz
  have hKq := hST.S.sq
  refine WL.qq (by simp only [EN, Nat.reduceEqDiff, reduceIte, qv_move]; rfl) ?_
  refine WL.qq (by simp only [EN, Nat.reduceEqDiff, reduceIte, qv_extract, AR]; rfl) ?_
  refine WL.qq (by simp only [EN, Nat.reduceEqDiff, reduceIte, qv_extract, AR]; rfl) ?_
  refine WL.qq (by simp only [EN, Nat.reduceEqDiff, reduceIte, qv_extract, AR]; rfl) ?_
  refine WL.qq (by simp only [EN, Nat.reduceEqDiff, reduceIte, qv_assign]; rfl) ?_
  refine WL.qq (by simp only [EN, Nat.reduceEqDiff, reduceIte, qv_assign]; rfl) ?_
  refine WL.qq (by simp only [EN, Nat.reduceEqDiff, reduceIte, qv_assign]; rfl) ?_
  refine WL.nil ?_
  refine th_norm ?_
  refine hx_seq ?_
  refine hx_region ?_
  refine WL.ce Try.call15 (by simp only [EN, Nat.reduceEqDiff, reduceIte, AR]; exact tr_new 256 (by omega) _) ?_
  rintro _ h2 ⟨hx2, q, rfl, hR⟩
  replace hT := hT.ext hx2
  replace hL := hL.ext hx2
  simp only [put_some]
  replace hR := hR.base kE
  refine WL.qq (by simp only [EN, Nat.reduceEqDiff, reduceIte, qv_move]; rfl) ?_
  refine WL.qq (by simp only [EN, Nat.reduceEqDiff, reduceIte, qv_extract, AR]; rfl) ?_
  refine WL.qq (by simp only [EN, Nat.reduceEqDiff, reduceIte, qv_extract, AR]; rfl) ?_
  refine WL.qq (by simp only [EN, Nat.reduceEqDiff, reduceIte, qv_assign]; rfl) ?_
  refine WL.qq (by simp only [EN, Nat.reduceEqDiff, reduceIte, qv_assign]; rfl) ?_
  refine WL.nil ?_
  refine th_norm ?_
  refine hx_seq ?_
  refine hx_seq ?_
  refine hx_region ?_
  refine WL.qq (by simp only [EN, Nat.reduceEqDiff, reduceIte, qv_move]; rfl) ?_
  refine WL.qq (by simp only [EN, Nat.reduceEqDiff, reduceIte, qv_unOp, unv_not]; rfl) ?_
  refine WL.qq (by simp only [EN, Nat.reduceEqDiff, reduceIte, qv_move]; rfl) ?_
  refine WL.cq (gd_at (t := 38) rfl (by simp only [EN, Nat.reduceEqDiff, reduceIte] <;> rfl)) (fun hg3_3 => by simp only [EN, Nat.reduceEqDiff, reduceIte, qv_move, hg3_3, GR]; rfl) ?_
  refine WL.cq (gd_at (t := 38) rfl (by simp only [EN, Nat.reduceEqDiff, reduceIte] <;> rfl)) (fun hg3_4 => by simp only [EN, Nat.reduceEqDiff, reduceIte, qv_binOp, binv_eql, eqz25, eqn25, eqm25, Option.map_some, hg3_4, GR]; rfl) ?_
  refine WL.qq (by simp only [EN, Nat.reduceEqDiff, reduceIte, qv_pick, pk_and, pk_or, GR]; rfl) ?_
  refine WL.qq (by simp only [EN, Nat.reduceEqDiff, reduceIte, qv_move]; rfl) ?_
  refine WL.cq (gd_at (t := 42) rfl (by simp only [EN, Nat.reduceEqDiff, reduceIte] <;> rfl)) (fun hg3_7 => by simp only [EN, Nat.reduceEqDiff, reduceIte, qv_move, hg3_7, GR]; rfl) ?_
  refine WL.cq (gd_at (t := 42) rfl (by simp only [EN, Nat.reduceEqDiff, reduceIte] <;> rfl)) (fun hg3_8 => by simp only [EN, Nat.reduceEqDiff, reduceIte, qv_binOp, binv_neq, eq37, Option.map_some, hg3_8, GR]; rfl) ?_
  refine WL.qq (by simp only [EN, Nat.reduceEqDiff, reduceIte, qv_pick, pk_and, pk_or, GR]; rfl) ?_
  refine WL.qq (by simp only [EN, Nat.reduceEqDiff, reduceIte, qv_move]; rfl) ?_
  refine WL.cq (gd_at (t := 46) rfl (by simp only [EN, Nat.reduceEqDiff, reduceIte, e1] <;> rfl)) (fun hg3_11 => by simp only [EN, Nat.reduceEqDiff, reduceIte, qv_move, e1, hg3_11, GR]; rfl) ?_
  refine WL.cq (gd_at (t := 46) rfl (by simp only [EN, Nat.reduceEqDiff, reduceIte] <;> rfl)) (fun hg3_12 => by simp only [EN, Nat.reduceEqDiff, reduceIte, qv_len, ln32, AR, hg3_12, GR]; rfl) ?_
  refine WL.cq (gd_at (t := 46) rfl (by simp only [EN, Nat.reduceEqDiff, reduceIte] <;> rfl)) (fun hg3_13 => by simp only [EN, Nat.reduceEqDiff, reduceIte, qv_binOp, binv_gtr, hg3_13, GR]; rfl) ?_
  refine WL.qq (by simp only [EN, Nat.reduceEqDiff, reduceIte, qv_pick, pk_and, pk_or, GR]; rfl) ?_
  refine WL.nil ?_
  refine th_norm ?_
  refine hx_cond (by simp only [EN, Nat.reduceEqDiff, reduceIte]; rfl) (fun hct50 => ?_) (fun hct50 => ?_)
  ·
    try simp only [BD] at hct50
    refine hx_seq ?_
    refine hx_region ?_
    refine WL.qq (by simp only [EN, Nat.reduceEqDiff, reduceIte, qv_move]; rfl) ?_
    refine WL.qq (by simp only [EN, Nat.reduceEqDiff, reduceIte, qv_move]; rfl) ?_
    refine WL.cq (gd_at (t := 52) rfl (by simp only [EN, Nat.reduceEqDiff, reduceIte] <;> rfl)) (fun hg4_2 => by simp only [EN, Nat.reduceEqDiff, reduceIte, qv_move, hg4_2, GR]; rfl) ?_
    refine WL.cq (gd_at (t := 52) rfl (by simp only [EN, Nat.reduceEqDiff, reduceIte] <;> rfl)) (fun hg4_3 => by simp only [EN, Nat.reduceEqDiff, reduceIte, qv_binOp, binv_neq, eqz25, eqn25, eqm25, Option.map_some, hg4_3, GR]; rfl) ?_
    refine WL.qq (by simp only [EN, Nat.reduceEqDiff, reduceIte, qv_pick, pk_and, pk_or, GR]; rfl) ?_
    refine WL.qq (by simp only [EN, Nat.reduceEqDiff, reduceIte, qv_move]; rfl) ?_
    refine WL.ccg (gd_at (t := 56) rfl (by simp only [EN, Nat.reduceEqDiff, reduceIte] <;> rfl)) Try.call12 (fun hg4_6 => by simp only [EN, Nat.reduceEqDiff, reduceIte, AR, hg4_6, GR]; exact c_known49 _) ?_
    intro h3 hx3
    replace hT := hT.ext hx3
    replace hL := hL.ext hx3
    replace hR := hR.ext hx3
    refine WL.qq (by simp only [EN, Nat.reduceEqDiff, reduceIte, qv_pick, pk_and, pk_or, GR]; rfl) ?_
    refine WL.qq (by simp only [EN, Nat.reduceEqDiff, reduceIte, qv_assign]; rfl) ?_
    refine WL.nil ?_
    refine th_norm ?_
    refine hx_ret ?_
    refine th_ret ?_
    refine fin_ret [.tmp 4] rfl rfl (by simp only [EN, Nat.reduceEqDiff, reduceIte, resv, e0, e1]; rfl) ?_  -- ret 0 r4
    exact ⟨by simp [retOf], ((hx1).trans ((hx2).trans (hx3)))⟩
  ·
    try simp only [BD] at hct50
    have hl2 : l.length ≤ 200 := (by omega)
    have hV : VS h h2 p q b K ak cap 1 K 0 [] := ⟨hST.S, hT, hR, rg_new _ (by omega), rfl, (fun x hx => by cases hx), hL, Nat.zero_le _, fun c off hb => (hST.lo c off hb).2⟩
    have ho : Own h2 h.size 9 1 (.slice none 0 0) 0 (((K.take 0).map Prod.snd).flatMap strL) := Own.nil
    refine hx_skip ?_
    refine th_norm ?_
    refine hx_seq ?_
    refine hx_region ?_
    refine WL.qq (by simp only [EN, Nat.reduceEqDiff, reduceIte, qv_assign]; rfl) ?_
    refine WL.nil ?_
    refine th_norm ?_
    refine hx_seq ?_
    refine hx_seq ?_
    refine hx_region ?_
    refine WL.qq (by simp only [EN, Nat.reduceEqDiff, reduceIte, qv_assign]; rfl) ?_
    refine WL.nil ?_
    refine th_norm ?_
    refine hx_block ?_
    refine hx_loopG [10, 11, 12, 13, 59, 60, 61, 62, 63, 64, 65, 66, 67, 68, 69, 70, 71, 72, 73, 74, 75, 76, 77, 78, 79, 80, 81, 82, 83, 84, 85, 86, 87, 88] (fun k e hL0 => ∃ (i : Nat) (d : Nat) (bf : List M2) (v : Value), l.length - i = k ∧ (i ≤ l.length) ∧ (VS h hL0 p q b K ak cap 1 K d bf) ∧ (Own hL0 h.size 9 1 v d (((K.take d).map Prod.snd).flatMap strL)) ∧ e 10 = v ∧ e 11 = .int .i64 i) _ ⟨0, 0, [], .slice none 0 0, rfl, ?_, ?_, ?_, ?_, ?_⟩ ?_
    · omega
    · exact hV
    · exact ho
    · simp only [EN, Nat.reduceEqDiff, reduceIte, e0, e1] <;> rfl
    · simp only [EN, Nat.reduceEqDiff, reduceIte, e0, e1] <;> rfl
    ·
      rintro k e0L hL0 hfr0 ⟨i, d, bf, v, rfl, hi, hV, ho, i10_0, i11_0⟩
      have k1_0 := hfr0 1 rfl; try simp only [EN, Nat.reduceEqDiff, reduceIte, e1] at k1_0
      have k5_0 := hfr0 5 rfl; try simp only [EN, Nat.reduceEqDiff, reduceIte] at k5_0
      have k6_0 := hfr0 6 rfl; try simp only [EN, Nat.reduceEqDiff, reduceIte] at k6_0
      have k8_0 := hfr0 8 rfl; try simp only [EN, Nat.reduceEqDiff, reduceIte] at k8_0
      refine hx_seq ?_
      refine hx_seq ?_
      refine hx_region ?_
      refine WL.qq (by simp only [EN, Nat.reduceEqDiff, reduceIte, qv_move, i11_0]; rfl) ?_
      refine WL.qq (by simp only [EN, Nat.reduceEqDiff, reduceIte, qv_move, k1_0]; rfl) ?_
      refine WL.qq (by simp only [EN, Nat.reduceEqDiff, reduceIte, qv_len, ln32, AR]; rfl) ?_
      refine WL.qq (by simp only [EN, Nat.reduceEqDiff, reduceIte, qv_binOp, binv_lss]; rfl) ?_
      refine WL.qq (by simp only [EN, Nat.reduceEqDiff, reduceIte, qv_move]; rfl) ?_
      refine WL.cq (gd_at (t := 63) rfl (by simp only [EN, Nat.reduceEqDiff, reduceIte, k6_0] <;> rfl)) (fun hg7_5 => by simp only [EN, Nat.reduceEqDiff, reduceIte, qv_move, k6_0, hg7_5, GR]; rfl) ?_
      refine WL.cq (gd_at (t := 63) rfl (by simp only [EN, Nat.reduceEqDiff, reduceIte] <;> rfl)) (fun hg7_6 => by simp only [EN, Nat.reduceEqDiff, reduceIte, qv_len, ln34, AR, hg7_6, GR]; rfl) ?_
      refine WL.cq (gd_at (t := 63) rfl (by simp only [EN, Nat.reduceEqDiff, reduceIte] <;> rfl)) (fun hg7_7 => by simp only [EN, Nat.reduceEqDiff, reduceIte, qv_binOp, binv_gtr, hg7_7, GR]; rfl) ?_
      refine WL.qq (by simp only [EN, Nat.reduceEqDiff, reduceIte, qv_pick, pk_and, pk_or, GR]; rfl) ?_
      refine WL.nil ?_
      refine th_norm ?_
      refine hx_cond (by simp only [EN, Nat.reduceEqDiff, reduceIte]; rfl) (fun hct67 => ?_) (fun hct67 => ?_)
      ·
        try simp only [BD] at hct67
        obtain ⟨y, hy⟩ := atG (l := l) (i := i) (by omega)
        have hy8 := hop y (List.mem_of_getElem? hy)
        obtain ⟨b0, o0, rfl, hr0⟩ := (hl.ext hV.E) i y hy
        have hy0 := readN_cell hr0 0 _ rfl; rw [Nat.add_zero, Nat.mul_one] at hy0
        have hK0 : 0 < K.length := (by omega)
        obtain ⟨r, hrr, hrl⟩ : ∃ r : Nat, (y : Int).tmod (K.length : Int) = (r : Int) ∧ r < K.length := ⟨y % K.length, by rw [Int.tmod_eq_emod_of_nonneg (by omega)]; exact (Int.natCast_emod _ _).symm, Nat.mod_lt _ hK0⟩
        obtain ⟨x, hx⟩ := atG (l := K) (i := r) hrl
        obtain ⟨b7, o7, rfl, hr7, _, _⟩ := msg_rd hV.L.rd hx
        refine hx_skip ?_
        refine th_norm ?_
        refine hx_seq ?_
        refine hx_block ?_
        refine hx_seq ?_
        refine hx_region ?_
        refine WL.qq (by simp only [EN, Nat.reduceEqDiff, reduceIte, qv_move, k8_0]; rfl) ?_
        refine WL.qq (by simp only [EN, Nat.reduceEqDiff, reduceIte, qv_move, k6_0]; rfl) ?_
        refine WL.qq (by simp only [EN, Nat.reduceEqDiff, reduceIte, qv_move, k1_0]; rfl) ?_
        refine WL.qq (by simp only [EN, Nat.reduceEqDiff, reduceIte, qv_move, i11_0]; rfl) ?_
        refine WL.qq (by simp only [EN, Nat.reduceEqDiff, reduceIte, qv_indexAddr]; (try simp (disch := omega) only [ix32, Int.toNat_natCast]); rfl) ?_
        refine WL.qq (by simp only [EN, Nat.reduceEqDiff, reduceIte, k1_0, k5_0, k6_0, k8_0, i10_0, i11_0, qv_load, ld5, Int.toNat_natCast, hy0]; rfl) ?_
        refine WL.qq (by simp only [EN, Nat.reduceEqDiff, reduceIte, qv_convert, convv, Try.underlying5, Try.underlying3]; (try simp (disch := omega) only [w64, w8, wu64]); rfl) ?_
        refine WL.qq (by simp only [EN, Nat.reduceEqDiff, reduceIte, qv_move, k6_0]; rfl) ?_
        refine WL.qq (by simp only [EN, Nat.reduceEqDiff, reduceIte, qv_len, ln34, AR]; rfl) ?_
        refine WL.qq (by simp only [EN, Nat.reduceEqDiff, reduceIte, qv_binOp]; (try simp (disch := omega) only [binv_rem, w64, w8, wu64]); rfl) ?_
        refine WL.qq (by simp only [EN, Nat.reduceEqDiff, reduceIte, qv_indexAddr, hrr]; (try simp (disch := omega) only [ix34, Int.toNat_natCast]); rfl) ?_
        refine WL.qq (by simp only [EN, Nat.reduceEqDiff, reduceIte, k1_0, k5_0, k6_0, k8_0, i10_0, i11_0, qv_load, ld43, Int.toNat_natCast, hr7]; rfl) ?_
        refine WL.ce Try.call16 (by simp only [EN, Nat.reduceEqDiff, reduceIte, k1_0, k5_0, k6_0, k8_0, i10_0, i11_0, AR]; exact vs_AccN hKq (List.mem_of_getElem? hx) hV ho) ?_
        rintro _ h31 ⟨b6, c6, out, rfl, hs6, hV4, ho4, hol, hN, hz6, hu6⟩
        simp only [put_some]
        replace hV := hV4
        replace ho := ho4
        refine WL.qq (by simp only [EN, Nat.reduceEqDiff, reduceIte, qv_move]; rfl) ?_
        refine WL.qq (by simp only [EN, Nat.reduceEqDiff, reduceIte, qv_extract, AR]; rfl) ?_
        refine WL.qq (by simp only [EN, Nat.reduceEqDiff, reduceIte, qv_extract, AR]; rfl) ?_
        refine WL.qq (by simp only [EN, Nat.reduceEqDiff, reduceIte, qv_assign]; rfl) ?_
        refine WL.qq (by simp only [EN, Nat.reduceEqDiff, reduceIte, qv_assign]; rfl) ?_
        refine WL.nil ?_
        refine th_norm ?_
        refine hx_region ?_
        refine WL.qq (by simp only [EN, Nat.reduceEqDiff, reduceIte, qv_move, i10_0]; rfl) ?_
        refine WL.qq (by simp only [EN, Nat.reduceEqDiff, reduceIte, qv_move]; rfl) ?_
        have hdK := hV.dK
        refine WL.appG (f := strL) (base := h.size) (n := d) (xs := ((K.take d).map Prod.snd).flatMap strL) (bytes := 16) (sz := 1) (L := out) Try.underlying31 (inf_of Try.type9) rfl rfl rfl rfl (by decide) (fun _ => rfl) (fun x u hu => by simp at hu; subst hu; rfl) (by simp only [EN, Nat.reduceEqDiff, reduceIte, k1_0, k5_0, k6_0, k8_0, i10_0, i11_0] <;> rfl) ho (by simp only [EN, Nat.reduceEqDiff, reduceIte, k1_0, k5_0, k6_0, k8_0, i10_0, i11_0] <;> rfl) rfl hz6 hs6.rd (by simp only [maxLen]; omega) (by omega) hV.E.size ?_
        intro h41 v41 ho41 hg41 hp41 hn41
        rw [← List.flatMap_append, hol] at ho41
        replace hV := hV.gr ho hg41
        replace ho := ho41
        refine WL.qq (by simp only [EN, Nat.reduceEqDiff, reduceIte, qv_assign]; rfl) ?_
        refine WL.nil ?_
        refine bl_norm ?_
        refine th_norm ?_
        refine hx_region ?_
        refine WL.qq (by simp only [EN, Nat.reduceEqDiff, reduceIte, qv_move, i11_0]; rfl) ?_
        refine WL.qq (by simp only [EN, Nat.reduceEqDiff, reduceIte, qv_binOp, binv_add]; (try simp (disch := omega) only [w64, w8, wu64]); rfl) ?_
        refine WL.qq (by simp only [EN, Nat.reduceEqDiff, reduceIte, qv_assign]; rfl) ?_
        refine WL.nil ?_
        refine th_norm ?_
        refine ⟨rfl, ?_, _, ?_, i + 1, d + out.length, accB 256 ((d : Int) + 1) bf x, v41, rfl, ?_, ?_, ?_, ?_, ?_⟩  -- again 0 of loop 0
        · (repeat (first | exact Fr.refl _ _ | refine Fr.set rfl ?_ | refine Fr.put rfl ?_ | with_reducible refine Fr.put0 ?_))
        · omega
        · omega
        · exact hV
        · exact ho
        · simp only [EN, Nat.reduceEqDiff, reduceIte, k1_0, k5_0, k6_0, k8_0, i10_0, i11_0] <;> first | rfl | (congr 1; omega)
        · simp only [EN, Nat.reduceEqDiff, reduceIte, k1_0, k5_0, k6_0, k8_0, i10_0, i11_0] <;> first | rfl | (congr 1; omega)
      ·
        try simp only [BD] at hct67
        refine hx_exit ?_
        refine th_exit ?_
        refine th_exit ?_
        refine bl_hit ?_
        refine th_norm ?_
        refine hx_seq ?_
        refine hx_region ?_
        refine WL.qq (by simp only [EN, Nat.reduceEqDiff, reduceIte, qv_move, k8_0]; rfl) ?_
        refine WL.ce Try.call29 (by simp only [EN, Nat.reduceEqDiff, reduceIte, AR]; exact tr_Miss hV.G hV.R) ?_
        rintro _ h4 ⟨hx4, ag, cg, rfl, hgs⟩
        replace hV := hV.ext hx4
        replace ho := ho.ext hx4
        simp only [put_some]
        generalize hGL : gapsK ((d : Int) + 1) (srt (bf.map Prod.fst)) = GL0 at hgs ⊢
        refine WL.qq (by simp only [EN, Nat.reduceEqDiff, reduceIte, qv_assign]; rfl) ?_
        refine WL.nil ?_
        refine th_norm ?_
        refine hx_seq ?_
        refine hx_seq ?_
        refine hx_region ?_
        have hgp : gps ((d : Int) + 1) bf = GL0.drop 0 := hGL; have hg3 : GL0.length ≤ 1000 := (by rw [← hGL]; exact Nat.le_trans (gapsK_len _ _) (by rw [(srt_perm _).length_eq, List.length_map]; have := hV.G.len; omega))
        refine WL.qq (by simp only [EN, Nat.reduceEqDiff, reduceIte, qv_assign]; rfl) ?_
        refine WL.nil ?_
        refine th_norm ?_
        refine hx_block ?_
        refine hx_loopG [4, 10, 15, 16, 17, 18, 19, 20, 91, 92, 93, 94, 95, 96, 97, 98, 99, 100, 101, 102, 103, 104, 105, 106, 107, 108, 109, 110, 111, 112, 113, 114, 115, 116, 117, 118, 119, 120, 121, 122, 123, 124, 125, 126, 127] (fun k e hL1 => ∃ (i : Nat) (d : Nat) (bf : List M2) (v : Value), GL0.length - i = k ∧ (i ≤ GL0.length) ∧ (VS h hL1 p q b K ak cap 1 K d bf) ∧ (Own hL1 h.size 9 1 v d (((K.take d).map Prod.snd).flatMap strL)) ∧ (gps ((d : Int) + 1) bf = GL0.drop i) ∧ (SlR 70 2 gapL hL1 ag GL0) ∧ e 10 = v ∧ e 15 = .int .i64 i) _ ⟨0, d, bf, v, rfl, ?_, ?_, ?_, ?_, ?_, ?_, ?_⟩ ?_
        · omega
        · exact hV
        · exact ho
        · exact hgp
        · exact hgs
        · simp only [EN, Nat.reduceEqDiff, reduceIte, k1_0, k5_0, k6_0, k8_0, i10_0, i11_0] <;> rfl
        · simp only [EN, Nat.reduceEqDiff, reduceIte, k1_0, k5_0, k6_0, k8_0, i10_0, i11_0] <;> rfl
        ·
          rintro k e1L hL1 hfr1 ⟨i, d, bf, v, rfl, hi, hV, ho, hgp, hgs, i10_1, i15_1⟩
          have k5_1 := hfr1 5 rfl; try simp only [EN, Nat.reduceEqDiff, reduceIte, k5_0] at k5_1
          have k6_1 := hfr1 6 rfl; try simp only [EN, Nat.reduceEqDiff, reduceIte, k6_0] at k6_1
          have k8_1 := hfr1 8 rfl; try simp only [EN, Nat.reduceEqDiff, reduceIte, k8_0] at k8_1
          have k14_1 := hfr1 14 rfl; try simp only [EN, Nat.reduceEqDiff, reduceIte] at k14_1
          refine hx_seq ?_
          refine hx_seq ?_
          refine hx_region ?_
          refine WL.qq (by simp only [EN, Nat.reduceEqDiff, reduceIte, qv_move, i15_1]; rfl) ?_
          refine WL.qq (by simp only [EN, Nat.reduceEqDiff, reduceIte, qv_move, k14_1]; rfl) ?_
          refine WL.qq (by simp only [EN, Nat.reduceEqDiff, reduceIte, qv_len, ln71, AR]; rfl) ?_
          refine WL.qq (by simp only [EN, Nat.reduceEqDiff, reduceIte, qv_binOp, binv_lss]; rfl) ?_
          refine WL.nil ?_
          refine th_norm ?_
          refine hx_cond (by simp only [EN, Nat.reduceEqDiff, reduceIte]; rfl) (fun hct94 => ?_) (fun hct94 => ?_)
          ·
            try simp only [BD] at hct94
            obtain ⟨⟨gl, gr⟩, hgi⟩ := atG (l := GL0) (i := i) (by omega)
            rw [drop_atG hgi] at hgp
            obtain ⟨hgl, hgr, ⟨y1, hy1, hyr⟩, hgn⟩ := gps_cons hV.G hV.lk hgp
            subst hgl
            obtain ⟨iy, hiy⟩ := List.getElem?_of_mem (hV.bK y1 hy1); have hyk := hKq iy y1 hiy; have hylt := (List.getElem?_eq_some_iff.1 hiy).1
            obtain ⟨b8, o8, rfl, hr8⟩ := hgs.rd i _ hgi
            obtain ⟨ln, hln⟩ : ∃ ln : Nat, gr = (d : Int) + 1 + (ln : Int) := ⟨(gr - ((d : Int) + 1)).toNat, by omega⟩
            have hre : resE (1 + (K.length : Int)) 1 ((d : Int) + 1) gr = 0 := (by unfold resE; rw [if_neg (by omega), if_neg (by omega)])
            have hrl : resL (1 + (K.length : Int)) 1 ((d : Int) + 1) gr K = (K.drop d).take (ln + 1) := (by unfold resL; rw [if_pos hre]; congr 2 <;> omega)
            have hl9 : ((K.drop d).take (ln + 1)).length = ln + 1 := (by rw [List.length_take, List.length_drop]; omega)
            refine hx_skip ?_
            refine th_norm ?_
            refine hx_seq ?_
            refine hx_block ?_
            refine hx_seq ?_
            refine hx_region ?_
            refine WL.qq (by simp only [EN, Nat.reduceEqDiff, reduceIte, qv_move, k5_1]; rfl) ?_
            refine WL.qq (by simp only [EN, Nat.reduceEqDiff, reduceIte, qv_move, k14_1]; rfl) ?_
            refine WL.qq (by simp only [EN, Nat.reduceEqDiff, reduceIte, qv_move, i15_1]; rfl) ?_
            refine WL.qq (by simp only [EN, Nat.reduceEqDiff, reduceIte, qv_indexAddr]; (try simp (disch := omega) only [ix71, Int.toNat_natCast]); rfl) ?_
            refine WL.qq (by simp only [EN, Nat.reduceEqDiff, reduceIte, k5_1, k6_1, k8_1, k14_1, i10_1, i15_1, qv_load, ld70, Int.toNat_natCast, hr8]; rfl) ?_
            refine WL.ce Try.call28 (by simp only [EN, Nat.reduceEqDiff, reduceIte, AR]; exact (c_Resend ((d : Int) + 1) gr hV.S hV.T).mono (fun v h' hh => by rw [hre, hrl, hl9] at hh; exact hh)) ?_
            rintro _ h5 ⟨hx5, ar, cr, rfl, hsr⟩
            replace hV := hV.ext hx5
            replace ho := ho.ext hx5
            replace hgs := hgs.ext hx5
            simp only [put_some]
            refine WL.qq (by simp only [EN, Nat.reduceEqDiff, reduceIte, qv_move]; rfl) ?_
            refine WL.qq (by simp only [EN, Nat.reduceEqDiff, reduceIte, qv_extract, AR]; rfl) ?_
            refine WL.qq (by simp only [EN, Nat.reduceEqDiff, reduceIte, qv_extract, AR]; rfl) ?_
            refine WL.qq (by simp only [EN, Nat.reduceEqDiff, reduceIte, qv_assign]; rfl) ?_
            refine WL.qq (by simp only [EN, Nat.reduceEqDiff, reduceIte, qv_assign]; rfl) ?_
            refine WL.nil ?_
            refine th_norm ?_
            refine hx_seq ?_
            refine hx_seq ?_
            refine hx_region ?_
            refine WL.qq (by simp only [EN, Nat.reduceEqDiff, reduceIte, qv_move]; rfl) ?_
            refine WL.qq (by simp only [EN, Nat.reduceEqDiff, reduceIte, qv_binOp, binv_neq, eq37, Option.map_some]; rfl) ?_
            refine WL.nil ?_
            refine th_norm ?_
            refine hx_cond (by simp only [EN, Nat.reduceEqDiff, reduceIte]; rfl) (fun hct107 => ?_) (fun hct107 => ?_)
            ·
              simp at hct107
            ·
              try simp only [BD] at hct107
              refine hx_skip ?_
              refine th_norm ?_
              refine hx_seq ?_
              refine hx_region ?_
              refine WL.qq (by simp only [EN, Nat.reduceEqDiff, reduceIte, qv_assign]; rfl) ?_
              refine WL.nil ?_
              refine th_norm ?_
              refine hx_block ?_
              refine hx_loopG [4, 10, 18, 19, 20, 108, 109, 110, 111, 112, 113, 114, 115, 116, 117, 118, 119, 120, 121, 122, 123, 124, 125, 126, 127] (fun k e hL2 => ∃ (j : Nat) (d' : Nat) (bf : List M2) (v : Value), ln + 1 - j = k ∧ (j ≤ ln + 1) ∧ (VS h hL2 p q b K ak cap 1 K d' bf) ∧ (Own hL2 h.size 9 1 v d' (((K.take d').map Prod.snd).flatMap strL)) ∧ (SlR 70 2 gapL hL2 (some ⟨b8, o8, none⟩) GL0) ∧ (SlR 43 2 msgL hL2 ar ((K.drop d).take (ln + 1))) ∧ ((j < ln + 1 → d' = d + j ∧ gps ((d' : Int) + 1) bf = ((d' : Int) + 1, gr) :: GL0.drop (i + 1))) ∧ ((j = ln + 1 → gps ((d' : Int) + 1) bf = GL0.drop (i + 1))) ∧ e 10 = v ∧ e 18 = .int .i64 j) _ ⟨0, d, bf, v, rfl, ?_, ?_, ?_, ?_, ?_, ?_, ?_, ?_, ?_⟩ ?_
              · omega
              · exact hV
              · exact ho
              · exact hgs
              · exact hsr
              · exact fun _ => ⟨rfl, hgp⟩
              · intro hh; omega
              · simp only [EN, Nat.reduceEqDiff, reduceIte, k5_1, k6_1, k8_1, k14_1, i10_1, i15_1] <;> rfl
              · simp only [EN, Nat.reduceEqDiff, reduceIte, k5_1, k6_1, k8_1, k14_1, i10_1, i15_1] <;> rfl
              ·
                rintro k e2L hL2 hfr2 ⟨j, d', bf, v, rfl, hj, hV, ho, hgs, hsr, hg1, hg2, i10_2, i18_2⟩
                have k5_2 := hfr2 5 rfl; try simp only [EN, Nat.reduceEqDiff, reduceIte, k5_1] at k5_2
                have k6_2 := hfr2 6 rfl; try simp only [EN, Nat.reduceEqDiff, reduceIte, k6_1] at k6_2
                have k8_2 := hfr2 8 rfl; try simp only [EN, Nat.reduceEqDiff, reduceIte, k8_1] at k8_2
                have k14_2 := hfr2 14 rfl; try simp only [EN, Nat.reduceEqDiff, reduceIte, k14_1] at k14_2
                have k15_2 := hfr2 15 rfl; try simp only [EN, Nat.reduceEqDiff, reduceIte, i15_1] at k15_2
                have k16_2 := hfr2 16 rfl; try simp only [EN, Nat.reduceEqDiff, reduceIte] at k16_2
                refine hx_seq ?_
                refine hx_seq ?_
                refine hx_region ?_
                refine WL.qq (by simp only [EN, Nat.reduceEqDiff, reduceIte, qv_move, i18_2]; rfl) ?_
                refine WL.qq (by simp only [EN, Nat.reduceEqDiff, reduceIte, qv_move, k16_2]; rfl) ?_
                refine WL.qq (by simp only [EN, Nat.reduceEqDiff, reduceIte, qv_len, ln34, AR]; rfl) ?_
                refine WL.qq (by simp only [EN, Nat.reduceEqDiff, reduceIte, qv_binOp, binv_lss]; rfl) ?_
                refine WL.nil ?_
                refine th_norm ?_
                refine hx_cond (by simp only [EN, Nat.reduceEqDiff, reduceIte]; rfl) (fun hct111 => ?_) (fun hct111 => ?_)
                ·
                  try simp only [BD] at hct111
                  have hjl : j < ln + 1 := (by omega)
                  obtain ⟨hdj, hgp3⟩ := hg1 hjl
                  obtain ⟨x, hx⟩ := atG (l := K) (i := d') (by omega)
                  have hxj : ((K.drop d).take (ln + 1))[j]? = some x := (by rw [List.getElem?_take_of_lt hjl, List.getElem?_drop, ← hdj]; exact hx)
                  obtain ⟨b7, o7, rfl, hr7, _, _⟩ := msg_rd hsr.rd hxj
                  have hxq := hKq d' x hx
                  obtain ⟨hxe, hxg⟩ := next_acc hV.G hV.lk (by omega) (by omega) (hKs x (List.mem_of_getElem? hx))
                  have hg9 := (gps_cons hV.G hV.lk hgp3).2.2.2
                  refine hx_skip ?_
                  refine th_norm ?_
                  refine hx_seq ?_
                  refine hx_block ?_
                  refine hx_seq ?_
                  refine hx_region ?_
                  refine WL.qq (by simp only [EN, Nat.reduceEqDiff, reduceIte, qv_move, k8_2]; rfl) ?_
                  refine WL.qq (by simp only [EN, Nat.reduceEqDiff, reduceIte, qv_move, k16_2]; rfl) ?_
                  refine WL.qq (by simp only [EN, Nat.reduceEqDiff, reduceIte, qv_move, i18_2]; rfl) ?_
                  refine WL.qq (by simp only [EN, Nat.reduceEqDiff, reduceIte, qv_indexAddr]; (try simp (disch := omega) only [ix34, Int.toNat_natCast]); rfl) ?_
                  refine WL.qq (by simp only [EN, Nat.reduceEqDiff, reduceIte, k5_2, k6_2, k8_2, k14_2, k15_2, k16_2, i10_2, i18_2, qv_load, ld43, Int.toNat_natCast, hr7]; rfl) ?_
                  refine WL.ce Try.call16 (by simp only [EN, Nat.reduceEqDiff, reduceIte, k5_2, k6_2, k8_2, k14_2, k15_2, k16_2, i10_2, i18_2, AR]; exact vs_AccN hKq (List.mem_of_getElem? hx) hV ho) ?_
                  rintro _ h51 ⟨b6, c6, out, rfl, hs6, hV4, ho4, hol, hN, hz6, hu6⟩
                  simp only [put_some]
                  replace hgs := hV.slR hgs (fun _ => by simp) (by decide) hu6
                  replace hsr := hV.slR hsr (fun _ => by simp) (by decide) hu6
                  rw [hN, hg9] at hxg
                  rw [hxe]
                  replace hV := hV4
                  replace ho := ho4
                  refine WL.qq (by simp only [EN, Nat.reduceEqDiff, reduceIte, qv_move]; rfl) ?_
                  refine WL.qq (by simp only [EN, Nat.reduceEqDiff, reduceIte, qv_extract, AR]; rfl) ?_
                  refine WL.qq (by simp only [EN, Nat.reduceEqDiff, reduceIte, qv_extract, AR]; rfl) ?_
                  refine WL.qq (by simp only [EN, Nat.reduceEqDiff, reduceIte, qv_assign]; rfl) ?_
                  refine WL.qq (by simp only [EN, Nat.reduceEqDiff, reduceIte, qv_assign]; rfl) ?_
                  refine WL.nil ?_
                  refine th_norm ?_
                  refine hx_seq ?_
                  refine hx_seq ?_
                  refine hx_region ?_
                  refine WL.qq (by simp only [EN, Nat.reduceEqDiff, reduceIte, qv_move]; rfl) ?_
                  refine WL.qq (by simp only [EN, Nat.reduceEqDiff, reduceIte, qv_binOp, binv_neq, eq37, Option.map_some]; rfl) ?_
                  refine WL.nil ?_
                  refine th_norm ?_
                  refine hx_cond (by simp only [EN, Nat.reduceEqDiff, reduceIte]; rfl) (fun hct124 => ?_) (fun hct124 => ?_)
                  ·
                    simp at hct124
                  ·
                    try simp only [BD] at hct124
                    refine hx_skip ?_
                    refine th_norm ?_
                    refine hx_region ?_
                    refine WL.qq (by simp only [EN, Nat.reduceEqDiff, reduceIte, qv_move, i10_2]; rfl) ?_
                    refine WL.qq (by simp only [EN, Nat.reduceEqDiff, reduceIte, qv_move]; rfl) ?_
                    have hdK := hV.dK
                    refine WL.appG (f := strL) (base := h.size) (n := d') (xs := ((K.take d').map Prod.snd).flatMap strL) (bytes := 16) (sz := 1) (L := out) Try.underlying31 (inf_of Try.type9) rfl rfl rfl rfl (by decide) (fun _ => rfl) (fun x u hu => by simp at hu; subst hu; rfl) (by simp only [EN, Nat.reduceEqDiff, reduceIte, k5_2, k6_2, k8_2, k14_2, k15_2, k16_2, i10_2, i18_2] <;> rfl) ho (by simp only [EN, Nat.reduceEqDiff, reduceIte, k5_2, k6_2, k8_2, k14_2, k15_2, k16_2, i10_2, i18_2] <;> rfl) rfl hz6 hs6.rd (by simp only [maxLen]; omega) (by omega) hV.E.size ?_
                    intro h61 v61 ho61 hg61 hp61 hn61
                    rw [← List.flatMap_append, hol] at ho61
                    replace hgs := hgs.gro hg61 ho (by decide)
                    replace hsr := hsr.gro hg61 ho (by decide)
                    replace hV := hV.gr ho hg61
                    replace ho := ho61
                    refine WL.qq (by simp only [EN, Nat.reduceEqDiff, reduceIte, qv_assign]; rfl) ?_
                    refine WL.nil ?_
                    refine bl_norm ?_
                    refine th_norm ?_
                    refine hx_region ?_
                    refine WL.qq (by simp only [EN, Nat.reduceEqDiff, reduceIte, qv_move, i18_2]; rfl) ?_
                    refine WL.qq (by simp only [EN, Nat.reduceEqDiff, reduceIte, qv_binOp, binv_add]; (try simp (disch := omega) only [w64, w8, wu64]); rfl) ?_
                    refine WL.qq (by simp only [EN, Nat.reduceEqDiff, reduceIte, qv_assign]; rfl) ?_
                    refine WL.nil ?_
                    refine th_norm ?_
                    refine ⟨rfl, ?_, _, ?_, j + 1, d' + out.length, accB 256 ((d' : Int) + 1) bf x, v61, rfl, ?_, ?_, ?_, ?_, ?_, ?_, ?_, ?_, ?_⟩  -- again 0 of loop 2
                    · (repeat (first | exact Fr.refl _ _ | refine Fr.set rfl ?_ | refine Fr.put rfl ?_ | with_reducible refine Fr.put0 ?_))
                    · omega
                    · omega
                    · exact hV
                    · exact ho
                    · exact hgs
                    · exact hsr
                    · intro hh; rw [if_pos (by omega)] at hxg; have h9 := (gps_cons hV.G hV.lk hxg).1; have h8 : out.length = 1 := (by omega); exact ⟨by omega, by rw [hxg, h9]⟩
                    · intro hh; rw [if_neg (by omega)] at hxg; exact hxg
                    · simp only [EN, Nat.reduceEqDiff, reduceIte, k5_2, k6_2, k8_2, k14_2, k15_2, k16_2, i10_2, i18_2] <;> first | rfl | (congr 1; omega)
                    · simp only [EN, Nat.reduceEqDiff, reduceIte, k5_2, k6_2, k8_2, k14_2, k15_2, k16_2, i10_2, i18_2] <;> first | rfl | (congr 1; omega)
                ·
                  try simp only [BD] at hct111
                  have hg4 := hg2 (by omega)
                  refine hx_exit ?_
                  refine th_exit ?_
                  refine th_exit ?_
                  refine bl_hit ?_
                  refine bl_norm ?_
                  refine th_norm ?_
                  refine hx_region ?_
                  refine WL.qq (by simp only [EN, Nat.reduceEqDiff, reduceIte, qv_move, k15_2]; rfl) ?_
                  refine WL.qq (by simp only [EN, Nat.reduceEqDiff, reduceIte, qv_binOp, binv_add]; (try simp (disch := omega) only [w64, w8, wu64]); rfl) ?_
                  refine WL.qq (by simp only [EN, Nat.reduceEqDiff, reduceIte, qv_assign]; rfl) ?_
                  refine WL.nil ?_
                  refine th_norm ?_
                  refine ⟨rfl, ?_, _, ?_, i + 1, d', bf, v, rfl, ?_, ?_, ?_, ?_, ?_, ?_, ?_⟩  -- again 0 of loop 1
                  · (repeat (first | exact Fr.refl _ _ | refine Fr.set rfl ?_ | refine Fr.put rfl ?_ | with_reducible refine Fr.put0 ?_ | refine Fr.trans ?_ (Fr.of hfr2 rfl)))
                  · omega
                  · omega
                  · exact hV
                  · exact ho
                  · exact hg4
                  · exact hgs
                  · simp only [EN, Nat.reduceEqDiff, reduceIte, k5_2, k6_2, k8_2, k14_2, k15_2, k16_2, i10_2, i18_2] <;> first | rfl | (congr 1; omega)
                  · simp only [EN, Nat.reduceEqDiff, reduceIte, k5_2, k6_2, k8_2, k14_2, k15_2, k16_2, i10_2, i18_2] <;> first | rfl | (congr 1; omega)
          ·
            try simp only [BD] at hct94
            have hb0 : bf = [] := gps_nil hV.G hV.lk (by rw [hgp]; exact List.drop_eq_nil_of_le (by omega))
            subst hb0
            have hae : ackE (1 + (K.length : Int)) 1 ((d : Int) + 1) = 0 := ackE_mid (by omega) (by have := hV.dK; omega) (by omega)
            have hakA : ackA (1 + (K.length : Int)) 1 ((d : Int) + 1) = (d : Int) + 1 := if_pos hae
            have hakK : ackK (1 + (K.length : Int)) 1 ((d : Int) + 1) K = K.drop d := (by unfold ackK; rw [if_pos hae]; congr 1; omega)
            have hS2 := hV.S.ack ((d : Int) + 1)
            rw [hakA, hakK] at hS2
            refine hx_exit ?_
            refine th_exit ?_
            refine th_exit ?_
            refine bl_hit ?_
            refine th_norm ?_
            refine hx_seq ?_
            refine hx_seq ?_
            refine hx_region ?_
            refine WL.qq (by simp only [EN, Nat.reduceEqDiff, reduceIte, qv_move, k8_1]; rfl) ?_
            refine WL.ce Try.call29 (by simp only [EN, Nat.reduceEqDiff, reduceIte, AR]; exact (tr_Miss hV.G hV.R).mono (fun v h' hh => by obtain ⟨h1, a, c, h2, _⟩ := hh; exact (⟨h1, a, c, by simpa [srt, gapsK] using h2⟩ : Ext _ h' ∧ ∃ a c, v = .slice a 0 c))) ?_
            rintro _ h6 ⟨hx6, ag2, cg2, rfl⟩
            replace hV := hV.ext hx6
            replace ho := ho.ext hx6
            replace hgs := hgs.ext hx6
            simp only [put_some]
            refine WL.qq (by simp only [EN, Nat.reduceEqDiff, reduceIte, qv_len, ln71, AR]; rfl) ?_
            refine WL.qq (by simp only [EN, Nat.reduceEqDiff, reduceIte, qv_binOp, binv_neq, eq3, Option.map_some]; rfl) ?_
            refine WL.qq (by simp only [EN, Nat.reduceEqDiff, reduceIte, qv_move]; rfl) ?_
            refine WL.cq (gd_at (t := 132) rfl (by simp only [EN, Nat.reduceEqDiff, reduceIte, k8_1] <;> rfl)) (fun hg25_5 => by simp only [EN, Nat.reduceEqDiff, reduceIte, qv_move, k8_1, hg25_5, GR]; rfl) ?_
            refine WL.cck (gd_at (t := 132) rfl (by simp only [EN, Nat.reduceEqDiff, reduceIte] <;> rfl)) Try.call30 (fun hg25_6 => by simp only [EN, Nat.reduceEqDiff, reduceIte, AR, hg25_6, GR]; exact tr_Buf hV.R) ?_
            refine WL.cq (gd_at (t := 132) rfl (by simp only [EN, Nat.reduceEqDiff, reduceIte] <;> rfl)) (fun hg25_7 => by simp only [EN, Nat.reduceEqDiff, reduceIte, qv_binOp, binv_neq, eq3, Option.map_some, hg25_7, GR]; rfl) ?_
            refine WL.qq (by simp only [EN, Nat.reduceEqDiff, reduceIte, qv_pick, pk_and, pk_or, GR]; rfl) ?_
            refine WL.qq (by simp only [EN, Nat.reduceEqDiff, reduceIte, qv_move]; rfl) ?_
            refine WL.cq (gd_at (t := 137) rfl (by simp only [EN, Nat.reduceEqDiff, reduceIte, k5_1] <;> rfl)) (fun hg25_10 => by simp only [EN, Nat.reduceEqDiff, reduceIte, qv_move, k5_1, hg25_10, GR]; rfl) ?_
            refine WL.cq (gd_at (t := 137) rfl (by simp only [EN, Nat.reduceEqDiff, reduceIte, k8_1] <;> rfl)) (fun hg25_11 => by simp only [EN, Nat.reduceEqDiff, reduceIte, qv_move, k8_1, hg25_11, GR]; rfl) ?_
            refine WL.cck (gd_at (t := 137) rfl (by simp only [EN, Nat.reduceEqDiff, reduceIte] <;> rfl)) Try.call17 (fun hg25_12 => by simp only [EN, Nat.reduceEqDiff, reduceIte, AR, hg25_12, GR]; exact tr_Next hV.R) ?_
            refine WL.gy _ (gd_at (t := 137) rfl (by simp only [EN, Nat.reduceEqDiff, reduceIte] <;> rfl)) (e_call Try.call23 (by simp only [EN, Nat.reduceEqDiff, reduceIte, AR]; exact sv_Ack ((d : Int) + 1) hV ho)) ?_
            rintro _ h71 ⟨rfl, al2, cap2, hV2, ho2⟩
            rw [hakA, hakK] at hV2
            simp only [put_some, hae]
            refine WL.cq (gd_at (t := 137) rfl (by simp only [EN, Nat.reduceEqDiff, reduceIte] <;> rfl)) (fun hg25_14 => by simp only [EN, Nat.reduceEqDiff, reduceIte, qv_binOp, binv_neq, eq37, Option.map_some, hg25_14, GR]; rfl) ?_
            refine WL.qq (by simp only [EN, Nat.reduceEqDiff, reduceIte, qv_pick, pk_and, pk_or, GR]; rfl) ?_
            refine WL.nil ?_
            refine th_norm ?_
            refine hx_cond (by simp only [EN, Nat.reduceEqDiff, reduceIte]; rfl) (fun hct143 => ?_) (fun hct143 => ?_)
            ·
              simp at hct143
            ·
              try simp only [BD] at hct143
              refine hx_skip ?_
              refine th_norm ?_
              refine hx_seq ?_
              refine hx_region ?_
              refine WL.qq (by simp only [EN, Nat.reduceEqDiff, reduceIte, qv_move, k5_1]; rfl) ?_
              refine WL.ce Try.call21 (by simp only [EN, Nat.reduceEqDiff, reduceIte, AR]; exact c_Pending hV2.S hV2.T) ?_
              rintro _ h7 ⟨hx7, hok⟩
              replace hV2 := hV2.ext hx7
              replace ho2 := ho2.ext hx7
              simp only [put_some]
              refine WL.qq (by simp only [EN, Nat.reduceEqDiff, reduceIte, qv_assign]; rfl) ?_
              refine WL.nil ?_
              refine th_norm ?_
              refine hx_seq ?_
              refine hx_seq ?_
              refine hx_region ?_
              have hl7 : (K.drop d).length = K.length - d := List.length_drop; have hdK2 := hV2.dK; obtain ⟨apd, cpd, rfl, hkr, _⟩ := KO.of hok; have hsr := hkr.rd
              refine WL.qq (by simp only [EN, Nat.reduceEqDiff, reduceIte, qv_assign]; rfl) ?_
              refine WL.nil ?_
              refine th_norm ?_
              refine hx_block ?_
              refine hx_loopG [4, 10, 22, 23, 24, 146, 147, 148, 149, 150, 151, 152, 153, 154, 155, 156, 157, 158, 159, 160, 161, 162, 163, 164, 165] (fun k e hL3 => ∃ (i : Nat) (d' : Nat) (v : Value), K.length - d - i = k ∧ (i ≤ K.length - d) ∧ (d' = d + i) ∧ (VS h hL3 p q b K al2 cap2 ((d : Int) + 1) (K.drop d) d' []) ∧ (Own hL3 h.size 9 1 v d' (((K.take d').map Prod.snd).flatMap strL)) ∧ (SlR 43 2 msgL hL3 apd (K.drop d)) ∧ e 10 = v ∧ e 22 = .int .i64 i) _ ⟨0, d, v, rfl, ?_, ?_, ?_, ?_, ?_, ?_, ?_⟩ ?_
              · omega
              · rfl
              · exact hV2
              · exact ho2
              · exact hsr
              · simp only [EN, Nat.reduceEqDiff, reduceIte, k5_1, k6_1, k8_1, k14_1, i10_1, i15_1] <;> rfl
              · simp only [EN, Nat.reduceEqDiff, reduceIte, k5_1, k6_1, k8_1, k14_1, i10_1, i15_1] <;> rfl
              ·
                rintro k e3L hL3 hfr3 ⟨i, d', v, rfl, hi, hd', hV, ho, hsr, i10_3, i22_3⟩
                have k5_3 := hfr3 5 rfl; try simp only [EN, Nat.reduceEqDiff, reduceIte, k5_1] at k5_3
                have k6_3 := hfr3 6 rfl; try simp only [EN, Nat.reduceEqDiff, reduceIte, k6_1] at k6_3
                have k8_3 := hfr3 8 rfl; try simp only [EN, Nat.reduceEqDiff, reduceIte, k8_1] at k8_3
                have k21_3 := hfr3 21 rfl; try simp only [EN, Nat.reduceEqDiff, reduceIte] at k21_3
                refine hx_seq ?_
                refine hx_seq ?_
                refine hx_region ?_
                refine WL.qq (by simp only [EN, Nat.reduceEqDiff, reduceIte, qv_move, i22_3]; rfl) ?_
                refine WL.qq (by simp only [EN, Nat.reduceEqDiff, reduceIte, qv_move, k21_3]; rfl) ?_
                refine WL.qq (by simp only [EN, Nat.reduceEqDiff, reduceIte, qv_len, ln34, AR]; rfl) ?_
                refine WL.qq (by simp only [EN, Nat.reduceEqDiff, reduceIte, qv_binOp, binv_lss]; rfl) ?_
                refine WL.nil ?_
                refine th_norm ?_
                refine hx_cond (by simp only [EN, Nat.reduceEqDiff, reduceIte]; rfl) (fun hct149 => ?_) (fun hct149 => ?_)
                ·
                  try simp only [BD] at hct149
                  have hil : i < K.length - d := (by omega)
                  obtain ⟨x, hx⟩ := atG (l := K) (i := d') (by omega)
                  have hxj : (K.drop d)[i]? = some x := (by rw [List.getElem?_drop, ← hd']; exact hx)
                  obtain ⟨b7, o7, rfl, hr7, _, _⟩ := msg_rd hsr.rd hxj
                  have hxq := hKq d' x hx
                  obtain ⟨hxe, hxN, hxB⟩ := acc_next hV.G (by omega) (by omega) (hKs x (List.mem_of_getElem? hx))
                  refine hx_skip ?_
                  refine th_norm ?_
                  refine hx_seq ?_
                  refine hx_block ?_
                  refine hx_seq ?_
                  refine hx_region ?_
                  refine WL.qq (by simp only [EN, Nat.reduceEqDiff, reduceIte, qv_move, k8_3]; rfl) ?_
                  refine WL.qq (by simp only [EN, Nat.reduceEqDiff, reduceIte, qv_move, k21_3]; rfl) ?_
                  refine WL.qq (by simp only [EN, Nat.reduceEqDiff, reduceIte, qv_move, i22_3]; rfl) ?_
                  refine WL.qq (by simp only [EN, Nat.reduceEqDiff, reduceIte, qv_indexAddr]; (try simp (disch := omega) only [ix34, Int.toNat_natCast]); rfl) ?_
                  refine WL.qq (by simp only [EN, Nat.reduceEqDiff, reduceIte, k5_3, k6_3, k8_3, k21_3, i10_3, i22_3, qv_load, ld43, Int.toNat_natCast, hr7]; rfl) ?_
                  refine WL.ce Try.call16 (by simp only [EN, Nat.reduceEqDiff, reduceIte, k5_3, k6_3, k8_3, k21_3, i10_3, i22_3, AR]; exact vs_AccN hKq (List.mem_of_getElem? hx) hV ho) ?_
                  rintro _ h81 ⟨b6, c6, out, rfl, hs6, hV4, ho4, hol, hN, hz6, hu6⟩
                  simp only [put_some]
                  replace hsr := hV.slR hsr (fun _ => by simp) (by decide) hu6
                  rw [hxB] at hV4
                  rw [hxe]
                  have ho1 : out.length = 1 := (by omega)
                  replace hV := hV4
                  replace ho := ho4
                  refine WL.qq (by simp only [EN, Nat.reduceEqDiff, reduceIte, qv_move]; rfl) ?_
                  refine WL.qq (by simp only [EN, Nat.reduceEqDiff, reduceIte, qv_extract, AR]; rfl) ?_
                  refine WL.qq (by simp only [EN, Nat.reduceEqDiff, reduceIte, qv_extract, AR]; rfl) ?_
                  refine WL.qq (by simp only [EN, Nat.reduceEqDiff, reduceIte, qv_assign]; rfl) ?_
                  refine WL.qq (by simp only [EN, Nat.reduceEqDiff, reduceIte, qv_assign]; rfl) ?_
                  refine WL.nil ?_
                  refine th_norm ?_
                  refine hx_seq ?_
                  refine hx_seq ?_
                  refine hx_region ?_
                  refine WL.qq (by simp only [EN, Nat.reduceEqDiff, reduceIte, qv_move]; rfl) ?_
                  refine WL.qq (by simp only [EN, Nat.reduceEqDiff, reduceIte, qv_binOp, binv_neq, eq37, Option.map_some]; rfl) ?_
                  refine WL.nil ?_
                  refine th_norm ?_
                  refine hx_cond (by simp only [EN, Nat.reduceEqDiff, reduceIte]; rfl) (fun hct162 => ?_) (fun hct162 => ?_)
                  ·
                    simp at hct162
                  ·
                    try simp only [BD] at hct162
                    refine hx_skip ?_
                    refine th_norm ?_
                    refine hx_region ?_
                    refine WL.qq (by simp only [EN, Nat.reduceEqDiff, reduceIte, qv_move, i10_3]; rfl) ?_
                    refine WL.qq (by simp only [EN, Nat.reduceEqDiff, reduceIte, qv_move]; rfl) ?_
                    have hdK := hV.dK
                    refine WL.appG (f := strL) (base := h.size) (n := d') (xs := ((K.take d').map Prod.snd).flatMap strL) (bytes := 16) (sz := 1) (L := out) Try.underlying31 (inf_of Try.type9) rfl rfl rfl rfl (by decide) (fun _ => rfl) (fun x u hu => by simp at hu; subst hu; rfl) (by simp only [EN, Nat.reduceEqDiff, reduceIte, k5_3, k6_3, k8_3, k21_3, i10_3, i22_3] <;> rfl) ho (by simp only [EN, Nat.reduceEqDiff, reduceIte, k5_3, k6_3, k8_3, k21_3, i10_3, i22_3] <;> rfl) rfl hz6 hs6.rd (by simp only [maxLen]; omega) (by omega) hV.E.size ?_
                    intro h91 v91 ho91 hg91 hp91 hn91
                    rw [← List.flatMap_append, hol] at ho91
                    replace hsr := hsr.gro hg91 ho (by decide)
                    replace hV := hV.gr ho hg91
                    replace ho := ho91
                    refine WL.qq (by simp only [EN, Nat.reduceEqDiff, reduceIte, qv_assign]; rfl) ?_
                    refine WL.nil ?_
                    refine bl_norm ?_
                    refine th_norm ?_
                    refine hx_region ?_
                    refine WL.qq (by simp only [EN, Nat.reduceEqDiff, reduceIte, qv_move, i22_3]; rfl) ?_
                    refine WL.qq (by simp only [EN, Nat.reduceEqDiff, reduceIte, qv_binOp, binv_add]; (try simp (disch := omega) only [w64, w8, wu64]); rfl) ?_
                    refine WL.qq (by simp only [EN, Nat.reduceEqDiff, reduceIte, qv_assign]; rfl) ?_
                    refine WL.nil ?_
                    refine th_norm ?_
                    refine ⟨rfl, ?_, _, ?_, i + 1, d' + out.length, v91, rfl, ?_, ?_, ?_, ?_, ?_, ?_, ?_⟩  -- again 0 of loop 3
                    · (repeat (first | exact Fr.refl _ _ | refine Fr.set rfl ?_ | refine Fr.put rfl ?_ | with_reducible refine Fr.put0 ?_))
                    · omega
                    · omega
                    · omega
                    · exact hV
                    · exact ho
                    · exact hsr
                    · simp only [EN, Nat.reduceEqDiff, reduceIte, k5_3, k6_3, k8_3, k21_3, i10_3, i22_3] <;> first | rfl | (congr 1; omega)
                    · simp only [EN, Nat.reduceEqDiff, reduceIte, k5_3, k6_3, k8_3, k21_3, i10_3, i22_3] <;> first | rfl | (congr 1; omega)
                ·
                  try simp only [BD] at hct149
                  have hdk3 : d' = K.length := (by omega)
                  subst hdk3
                  rw [List.take_length] at ho
                  obtain ⟨ag5, cg5, rfl, _, hsg, _⟩ := Own.slG (f := strL) (sz := 1) (fun _ => rfl) ho (List.length_map _).symm
                  refine hx_exit ?_
                  refine th_exit ?_
                  refine th_exit ?_
                  refine bl_hit ?_
                  refine th_norm ?_
                  refine hx_seq ?_
                  refine hx_seq ?_
                  refine hx_region ?_
                  refine WL.qq (by simp only [EN, Nat.reduceEqDiff, reduceIte, qv_move, i10_3]; rfl) ?_
                  refine WL.qq (by simp only [EN, Nat.reduceEqDiff, reduceIte, k5_3, k6_3, k8_3, k21_3, i10_3, i22_3, qv_len, ln31, AR]; rfl) ?_
                  refine WL.qq (by simp only [EN, Nat.reduceEqDiff, reduceIte, qv_move, k6_3]; rfl) ?_
                  refine WL.qq (by simp only [EN, Nat.reduceEqDiff, reduceIte, qv_len, ln34, AR]; rfl) ?_
                  refine WL.qq (by simp only [EN, Nat.reduceEqDiff, reduceIte, qv_binOp, binv_neq, eq3, Option.map_some]; rfl) ?_
                  refine WL.qq (by simp only [EN, Nat.reduceEqDiff, reduceIte, qv_move]; rfl) ?_
                  refine WL.cq (gd_at (t := 171) rfl (by simp only [EN, Nat.reduceEqDiff, reduceIte, k8_3] <;> rfl)) (fun hg35_6 => by simp only [EN, Nat.reduceEqDiff, reduceIte, qv_move, k8_3, hg35_6, GR]; rfl) ?_
                  refine WL.cck (gd_at (t := 171) rfl (by simp only [EN, Nat.reduceEqDiff, reduceIte] <;> rfl)) Try.call17 (fun hg35_7 => by simp only [EN, Nat.reduceEqDiff, reduceIte, AR, hg35_7, GR]; exact tr_Next hV.R) ?_
                  refine WL.cq (gd_at (t := 171) rfl (by simp only [EN, Nat.reduceEqDiff, reduceIte, k5_3] <;> rfl)) (fun hg35_8 => by simp only [EN, Nat.reduceEqDiff, reduceIte, qv_move, k5_3, hg35_8, GR]; rfl) ?_
                  refine WL.cck (gd_at (t := 171) rfl (by simp only [EN, Nat.reduceEqDiff, reduceIte] <;> rfl)) Try.call26 (fun hg35_9 => by simp only [EN, Nat.reduceEqDiff, reduceIte, AR, hg35_9, GR]; exact c_NextS hV.T) ?_
                  refine WL.cq (gd_at (t := 171) rfl (by simp only [EN, Nat.reduceEqDiff, reduceIte] <;> rfl)) (fun hg35_10 => by simp only [EN, Nat.reduceEqDiff, reduceIte, qv_binOp, binv_neq, eq3, Option.map_some, hg35_10, GR]; rfl) ?_
                  refine WL.qq (by simp only [EN, Nat.reduceEqDiff, reduceIte, qv_pick, pk_and, pk_or, GR]; rfl) ?_
                  refine WL.nil ?_
                  refine th_norm ?_
                  refine hx_cond (by simp only [EN, Nat.reduceEqDiff, reduceIte]; rfl) (fun hct177 => ?_) (fun hct177 => ?_)
                  ·
                    simp at hct177; omega
                  ·
                    try simp only [BD] at hct177
                    refine hx_skip ?_
                    refine th_norm ?_
                    refine hx_seq ?_
                    refine hx_seq ?_
                    refine hx_region ?_
                    refine WL.qq (by simp only [EN, Nat.reduceEqDiff, reduceIte, qv_assign]; rfl) ?_
                    refine WL.nil ?_
                    refine th_norm ?_
                    refine hx_block ?_
                    refine hx_loopS [4, 25, 178, 179, 180, 181, 182, 183, 184, 185, 186, 187, 188, 189, 190, 191, 192, 193] (fun k e => ∃ (j : Nat), K.length - j = k ∧ (j ≤ K.length) ∧ e 25 = .int .i64 j) _ ⟨0, rfl, ?_, ?_⟩ ?_
                    · omega
                    · simp only [EN, Nat.reduceEqDiff, reduceIte, k5_3, k6_3, k8_3, k21_3, i10_3, i22_3] <;> rfl
                    ·
                      rintro k e4L hfr4 ⟨j, rfl, hj, i25_4⟩
                      have k6_4 := hfr4 6 rfl; try simp only [EN, Nat.reduceEqDiff, reduceIte, k6_3] at k6_4
                      have k10_4 := hfr4 10 rfl; try simp only [EN, Nat.reduceEqDiff, reduceIte, i10_3] at k10_4
                      refine hx_seq ?_
                      refine hx_seq ?_
                      refine hx_region ?_
                      refine WL.qq (by simp only [EN, Nat.reduceEqDiff, reduceIte, qv_move, i25_4]; rfl) ?_
                      refine WL.qq (by simp only [EN, Nat.reduceEqDiff, reduceIte, qv_move, k6_4]; rfl) ?_
                      refine WL.qq (by simp only [EN, Nat.reduceEqDiff, reduceIte, qv_len, ln34, AR]; rfl) ?_
                      refine WL.qq (by simp only [EN, Nat.reduceEqDiff, reduceIte, qv_binOp, binv_lss]; rfl) ?_
                      refine WL.nil ?_
                      refine th_norm ?_
                      refine hx_cond (by simp only [EN, Nat.reduceEqDiff, reduceIte]; rfl) (fun hct181 => ?_) (fun hct181 => ?_)
                      ·
                        try simp only [BD] at hct181
                        obtain ⟨x, hx⟩ := atG (l := K) (i := j) (by omega)
                        have hxs : (K.map Prod.snd)[j]? = some x.2 := (by rw [List.getElem?_map, hx]; rfl)
                        obtain ⟨b8, o8, rfl, hr8⟩ := hsg j _ hxs
                        have hc8 := readN_cell hr8 0 _ rfl; rw [Nat.add_zero, Nat.mul_one] at hc8
                        obtain ⟨b9, o9, rfl, _, _, hc9⟩ := msg_rd hV.L.rd hx
                        refine hx_skip ?_
                        refine th_norm ?_
                        refine hx_seq ?_
                        refine hx_block ?_
                        refine hx_seq ?_
                        apply hx_draw2 Rel.same [] [] [] rfl (by decide +kernel) rfl
                        refine LD.qq rfl rfl (by simp only [EN, Nat.reduceEqDiff, reduceIte, qv_move, k10_4]; rfl) ?_
                        refine LD.qq rfl rfl (by simp only [EN, Nat.reduceEqDiff, reduceIte, qv_move, i25_4]; rfl) ?_
                        refine LD.qq rfl rfl (by simp only [EN, Nat.reduceEqDiff, reduceIte, qv_indexAddr]; (try simp (disch := omega) only [ix31, Int.toNat_natCast]); rfl) ?_
                        refine LD.qq rfl rfl (by simp only [EN, Nat.reduceEqDiff, reduceIte, k6_4, k10_4, i25_4, qv_load, ld9, Int.toNat_natCast, hc8]; rfl) ?_
                        refine LD.qq rfl rfl (by simp only [EN, Nat.reduceEqDiff, reduceIte, qv_move, k6_4]; rfl) ?_
                        refine LD.qq rfl rfl (by simp only [EN, Nat.reduceEqDiff, reduceIte, qv_move, i25_4]; rfl) ?_
                        refine LD.qq rfl rfl (by simp only [EN, Nat.reduceEqDiff, reduceIte, qv_indexAddr]; (try simp (disch := omega) only [ix34, Int.toNat_natCast]); rfl) ?_
                        refine LD.qq rfl rfl (by simp only [EN, Nat.reduceEqDiff, reduceIte, qv_fieldAddr, fa43_1, Nat.zero_add, Nat.reduceAdd]; rfl) ?_
                        refine LD.qq rfl rfl (by simp only [EN, Nat.reduceEqDiff, reduceIte, k6_4, k10_4, i25_4, qv_load, ld9, Int.toNat_natCast, hc9]; rfl) ?_
                        refine LD.qq rfl rfl (by simp only [EN, Nat.reduceEqDiff, reduceIte, qv_binOp, binv_neq, eq9, Option.map_some]; rfl) ?_
                        refine LD.nil ?_
                        rintro hL3 rfl -
                        refine WL.nil ?_
                        refine th_norm ?_
                        refine hx_cond (by simp only [EN, Nat.reduceEqDiff, reduceIte]; rfl) (fun hct193 => ?_) (fun hct193 => ?_)
                        ·
                          simp at hct193
                        ·
                          try simp only [BD] at hct193
                          refine hx_skip ?_
                          refine bl_norm ?_
                          refine th_norm ?_
                          refine hx_region ?_
                          refine WL.qq (by simp only [EN, Nat.reduceEqDiff, reduceIte, qv_move, i25_4]; rfl) ?_
                          refine WL.qq (by simp only [EN, Nat.reduceEqDiff, reduceIte, qv_binOp, binv_add]; (try simp (disch := omega) only [w64, w8, wu64]); rfl) ?_
                          refine WL.qq (by simp only [EN, Nat.reduceEqDiff, reduceIte, qv_assign]; rfl) ?_
                          refine WL.nil ?_
                          refine th_norm ?_
                          refine ⟨rfl, rfl, ?_, _, ?_, j + 1, rfl, ?_, ?_⟩  -- again 0 of loop 4
                          · (repeat (first | exact Fr.refl _ _ | refine Fr.set rfl ?_ | refine Fr.put rfl ?_ | with_reducible refine Fr.put0 ?_))
                          · omega
                          · omega
                          · simp only [EN, Nat.reduceEqDiff, reduceIte, k6_4, k10_4, i25_4] <;> first | rfl | (congr 1; omega)
                      ·
                        try simp only [BD] at hct181
                        refine hx_exit ?_
                        refine th_exit ?_
                        refine th_exit ?_
                        refine bl_hit ?_
                        refine th_norm ?_
                        refine hx_seq ?_
                        refine hx_region ?_
                        refine WL.cg Try.call12 (by simp only [EN, Nat.reduceEqDiff, reduceIte, AR]; exact c_known49 _) ?_
                        intro h8 hx8
                        replace hV := hV.ext hx8
                        replace ho := ho.ext hx8
                        replace hsr := hsr.ext hx8
                        refine WL.qq (by simp only [EN, Nat.reduceEqDiff, reduceIte, qv_assign]; rfl) ?_
                        refine WL.nil ?_
                        refine th_norm ?_
                        refine hx_ret ?_
                        refine fin_ret [.tmp 4] rfl rfl (by simp only [EN, Nat.reduceEqDiff, reduceIte, resv, k6_4, k10_4, i25_4]; rfl) ?_  -- ret 1 r42
                        exact ⟨rfl, hV.E⟩
end GL
namespace Go.Proofs.Ytmlhncifcaicpaa.sessionRecovery
open Go.ChangeShapes Go.WideShapes Go.ChangeAt Go.RowKit
theorem own : ownKnob Try.prog.godebug = none := by kernel_rfl
theorem laid : laidOutB Try.prog = true := by kernel_rfl
set_option maxRecDepth 100000 in
theorem lifted (os : Os) (started : os.Started) (H : Type) (enc : TypeId × Value → H) :
    ReturnsInHanded {} Try.checked os 9 .any (Rows.sessionRecoverySpec.pre6 enc Try.prog Try.f9 Rows.sessionRecoveryRow.domain false) (Rows.sessionRecoverySpec.post enc Try.prog Try.f9 false true false false) := by
  refine returnsInHanded_of_change (C := Try.checked) own started (by kernel_rfl) Try.func9
    (ChangeSpec.witness6 (enc := enc) (C := Try.checked) false ⟨#[], #[(.slice none 0 0), (.slice none 0 0)], []⟩ 8 (by kernel_rfl) (by kernel_rfl) (by kernel_rfl) (by kernel_rfl)) ?_
  intro W base args ds gs before hval0 hW hcnd _
  have hval : ∀ (j : Nat) t v, Try.f9.params[j]? = some t → args[j]? = some v → Value.okWide Try.prog W .any base t v := hval0
  have hW' := hW
  obtain ⟨p, q, hA0, hV, rfl, hfz, hnd⟩ := hW
  have hA : DataW.TrodAll enc Try.prog W 0 (fun _ => true) true Try.f9.params.toList args.toList ds p := hA0
  rw [Try.params9] at hA hval
  obtain ⟨v0, vs0, d0, ds0, p0, q0, hargs, rfl, rfl, h0, r0⟩ := trodAll_cons hA
  obtain ⟨v1, vs1, d1, ds1, p1, q1, rfl, rfl, rfl, h1, r1⟩ := trodAll_cons r0
  obtain ⟨rfl, rfl, rfl⟩ := trodAll_nil r1
  obtain rfl : args = #[v0, v1] := by cases args; simp_all
  obtain ⟨rfl, rfl⟩ := trodVars_none hV
  obtain ⟨ax, ps, cx, rfl, hps, hpc, hcx, _⟩ := GL.view_strs (hval 0 31 v0 rfl rfl) h0
  obtain ⟨al, l, cl, rfl, hl, hlc, hcl, _, hop⟩ := GL.view_u8s (hval 1 32 v1 rfl rfl) h1
  exact GL.law_done (tb := 4) laid (by kernel_rfl) rfl (by kernel_rfl) Try.underlying4 hW' rfl (GL.l_reco ax ps cx al l cl hps (Nat.le_trans hpc hcx) hl (Nat.le_trans hlc hcl) hop)
theorem over : Rows.sessionRecoveryRow.holds Try.pinned (OpenSpec.ofChange Rows.sessionRecoverySpec) :=
  OpenClaim.holds_of_wide 9 Try.f9 rfl rfl rfl rfl rfl rfl rfl ⟨rfl, rfl, rfl, rfl, rfl⟩ rfl rfl rfl rfl rfl (by kernel_rfl) Try.func9 (by kernel_rfl)
    (of_decide_eq_true (by kernel_rfl)) (by unfold Func.isWrapper; first | (rw [if_pos (by decide +kernel)]; kernel_rfl) | (rw [if_neg (by decide +kernel)]; exact ⟨rfl, rfl⟩))
    (fun os started H enc _ => lifted os started H enc)
theorem proved : Rows.SessionRecoverySaid := over
end Go.Proofs.Ytmlhncifcaicpaa.sessionRecovery


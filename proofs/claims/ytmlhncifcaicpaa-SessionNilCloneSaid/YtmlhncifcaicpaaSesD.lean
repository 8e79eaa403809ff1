/- Session: Missing, on both sides. -/
import Derived.Test.YtmlhncifcaicpaaSesC
set_option linter.unusedSimpArgs false
set_option linter.unusedVariables false
set_option linter.unnecessarySimpa false
namespace GL
open Go Go.Proofs
set_option maxRecDepth 8000
abbrev G2 := Int × Int
abbrev gapL (g : G2) : List Value := [.int .i64 g.1, .int .i64 g.2]
theorem gap_rd {h : Heap} {a : Option Addr} {L : List G2} {i : Nat} {x : G2} (hs : SlG 2 gapL h a L) (hx : L[i]? = some x) :
    ∃ b off, a = some ⟨b, off, none⟩ ∧ GL.readN h b (off + i * 2) 2 = some (gapL x) ∧ GL.cell h b (off + i * 2) = some (.int .i64 x.1) ∧ GL.cell h b (off + i * 2 + 1) = some (.int .i64 x.2) := by
  obtain ⟨b, off, ha, hr⟩ := hs i x hx
  have h0 := readN_cell hr 0 _ rfl
  have h1 := readN_cell hr 1 _ rfl
  rw [Nat.add_zero] at h0
  exact ⟨b, off, ha, hr, h0, h1⟩
/-- The gaps between sorted keys. -/
def gapsK : Int → List Int → List G2
  | _, [] => []
  | f, k :: ks => if f < k then (f, k - 1) :: gapsK (k + 1) ks else gapsK (k + 1) ks
def lastK : Int → List Int → Int
  | f, [] => f
  | _, k :: ks => lastK (k + 1) ks
theorem gapsK_app : ∀ (ks : List Int) (f k : Int), gapsK f (ks ++ [k]) = gapsK f ks ++ (if lastK f ks < k then [(lastK f ks, k - 1)] else [])
  | [], f, k => rfl
  | a :: ks, f, k => by
    show (if f < a then (f, a - 1) :: gapsK (a + 1) (ks ++ [k]) else gapsK (a + 1) (ks ++ [k])) = (if f < a then (f, a - 1) :: gapsK (a + 1) ks else gapsK (a + 1) ks) ++ (if lastK (a + 1) ks < k then [(lastK (a + 1) ks, k - 1)] else [])
    rw [gapsK_app ks (a + 1) k]
    by_cases h : f < a
    · rw [if_pos h, if_pos h]; rfl
    · rw [if_neg h, if_neg h]
theorem lastK_app : ∀ (ks : List Int) (f k : Int), lastK f (ks ++ [k]) = k + 1
  | [], _, _ => rfl
  | a :: ks, _, k => by simp only [List.cons_append, lastK]; exact lastK_app ks (a + 1) k
theorem gapsK_len : ∀ (ks : List Int) (f : Int), (gapsK f ks).length ≤ ks.length
  | [], _ => Nat.le_refl _
  | a :: ks, f => by
    have := gapsK_len ks (a + 1)
    simp only [gapsK]
    split <;> simp only [List.length_cons] <;> omega
section
variable {h : Heap} {p b : Nat} {w n : Int} {bf : List M2}
theorem c_miss1 {hk : Heap} {Bo : Nat} {v : Value} (out : List G2) (x : G2) (hB : Has h Bo (.cells #[v] 71)) (hg : Gs hk h [Bo]) (ho : Own h hk.size 70 2 v out.length (out.flatMap gapL)) (hl : out.length ≤ 1000000) :
    HCalls Try.prog 46 #[.agg (gapL x).toArray, .pointer (some ⟨Bo, 0, none⟩)] h fun _ h' => Gs hk h' [Bo] ∧ ∃ v', Has h' Bo (.cells #[v'] 71) ∧ Own h' hk.size 70 2 v' (out ++ [x]).length ((out ++ [x]).flatMap gapL) := by
  refine hcalls2 Try.func46 rfl (by decide +kernel) (by simp only [Try.ntmps46]; exact of_decide_eq_true rfl) ?_
  intro e hin
  have e0 := hin 0 _ rfl
  have e1 := hin 1 _ rfl
  refine hx_seq ?_
  refine hx_region ?_
  refine WL.box2 (by simp only [EN, Nat.reduceEqDiff, reduceIte, Value.cells, e0, hB.cell]; rfl) ?_
  intro h1 B1 hx1 hlt1 hB1
  replace hB := hB.ext hx1
  replace hg := hg.ext hx1
  replace ho := ho.ext hx1
  refine WL.nil ?_
  refine th_norm ?_
  refine hx_region ?_
  have hne := ho.ncell hB (by decide)
  refine WL.qq (by simp only [EN, Nat.reduceEqDiff, reduceIte, qv_load, ld71, readN, AR, Nat.zero_add, Nat.reduceAdd, e1, hB.cell, hB1.cell]; rfl) ?_
  refine WL.qq (by simp only [EN, Nat.reduceEqDiff, reduceIte, qv_load, ld70, readN, AR, Nat.zero_add, Nat.reduceAdd, hB.cell, hB1.cell]; rfl) ?_
  refine WL.push (bytes := 16) Try.underlying71 (inf_of Try.type70) rfl rfl rfl rfl (by decide) (by decide) sz70 zr70 (fun u => by simp only [EN, Nat.reduceEqDiff, reduceIte, e0, e1, hB.cell, hB1.cell]) ho (by simp only [EN, Nat.reduceEqDiff, reduceIte, e0, e1, hB.cell, hB1.cell, Value.cells]; rfl) rfl (by intro u hu; simp at hu; rcases hu with rfl | rfl <;> rfl) (by simp only [maxLen]; omega) (by omega) hg.size ?_
  intro h40 v40 B40 ho40 hg40 hp40 hn40
  have hG40 := hg.grb hg40 (fun x hx => .inr (ho.block x hx).1)
  have hB40 := hB.gr hg40 hne
  skip
  refine WL.store (by simp only [EN, Nat.reduceEqDiff, reduceIte, e0, e1, hB.cell, hB1.cell] <;> rfl) sz71 (by simp only [EN, Nat.reduceEqDiff, reduceIte, e0, e1, hB.cell, hB1.cell]; exact ho40.cells) rfl hB40 (by simp) (by simp [ho40.one]) ?_
  intro h41 hw41
  have hne40 := ho40.ncell hB40 (by decide)
  have ho41 := ho40.keep (h' := h41) (fun c hc => hw41.same c (fun hh => by subst hh; exact hne40 hc))
  refine WL.nil ?_
  refine fin_end [] rfl rfl (by simp only [EN, Nat.reduceEqDiff, reduceIte, resv, e0, e1, hB.cell, hB1.cell]; rfl) ?_  -- ret 0 r1
  exact ⟨hG40.stp (.inr ⟨_, hw41⟩) (.inl (by simp)), v40, by have := hw41.at_; simpa [splc] using this, by rw [List.length_append, List.flatMap_append]; exact ho41⟩
theorem c_gaps {hs : Heap} {Bo : Nat} (hG : RG w n bf) (hb : IsRc h p b w n bf) (hB : Has h Bo (.cells #[.slice none 0 0] 71)) (hE : Ext hs h) (hlo : hs.size ≤ Bo) :
    HCalls Try.prog 45 #[.pointer (some ⟨p, 0, none⟩), .func (.func 46) #[] #[.pointer (some ⟨Bo, 0, none⟩)]] h fun _ h' => Ext hs h' ∧ ∃ v', Has h' Bo (.cells #[v'] 71) ∧ Own h' hs.size 70 2 v' (gapsK n (srt (bf.map Prod.fst))).length ((gapsK n (srt (bf.map Prod.fst))).flatMap gapL) := by
  have hgl := hG.len; have hw2 := hG.w2
  have hmx : ∀ k ∈ srt (bf.map Prod.fst), 1 ≤ k ∧ k ≤ 1000000000 := fun k hk => by
    obtain ⟨x, hx, rfl⟩ := List.mem_map.1 ((srt_perm _).mem_iff.1 hk)
    have := hG.ge x hx; have := hG.n1
    exact ⟨by omega, hG.mx x hx⟩
  have hsl : (srt (bf.map Prod.fst)).length = bf.length := by rw [(srt_perm _).length_eq, List.length_map]
  refine hcalls2 Try.func45 rfl (by decide +kernel) (by simp only [Try.ntmps45]; exact of_decide_eq_true rfl) ?_
  intro e hin
  have e0 := hin 0 _ rfl
  have e1 := hin 1 _ rfl
  obtain ⟨ks, hks⟩ : ∃ ks, srt (bf.map Prod.fst) = ks := ⟨_, rfl⟩
  rw [hks] at hsl hmx; rw [hks]
  refine hx_seq ?_
  refine hx_region ?_
  refine WL.qq (by simp only [EN, Nat.reduceEqDiff, reduceIte, qv_move, e0, hb.blk.cell]; rfl) ?_
  refine WL.qq (by simp only [EN, Nat.reduceEqDiff, reduceIte, qv_nilCheck, hb.blk.cell]; rfl) ?_
  refine WL.qq (by simp only [EN, Nat.reduceEqDiff, reduceIte, qv_fieldAddr, fa83_1, Nat.zero_add, Nat.reduceAdd, hb.blk.cell]; rfl) ?_
  refine WL.qq (by simp only [EN, Nat.reduceEqDiff, reduceIte, qv_load, ld3, readN, AR, Nat.zero_add, Nat.reduceAdd, hb.blk.cell]; rfl) ?_
  refine WL.qq (by simp only [EN, Nat.reduceEqDiff, reduceIte, qv_assign, hb.blk.cell]; rfl) ?_
  refine WL.nil ?_
  refine th_norm ?_
  refine hx_seq ?_
  refine hx_region ?_
  refine WL.qq (by simp only [EN, Nat.reduceEqDiff, reduceIte, qv_move, e0, hb.blk.cell]; rfl) ?_
  refine WL.qq (by simp only [EN, Nat.reduceEqDiff, reduceIte, qv_nilCheck, hb.blk.cell]; rfl) ?_
  refine WL.qq (by simp only [EN, Nat.reduceEqDiff, reduceIte, qv_fieldAddr, fa83_2, Nat.zero_add, Nat.reduceAdd, hb.blk.cell]; rfl) ?_
  refine WL.qq (by simp only [EN, Nat.reduceEqDiff, reduceIte, qv_load, ld81, readN, AR, Nat.zero_add, Nat.reduceAdd, hb.blk.cell]; rfl) ?_
  refine WL.ce Try.call52 (by simp only [EN, Nat.reduceEqDiff, reduceIte, AR, hb.blk.cell]; exact c_keys b _) ?_
  rintro _ h1 ⟨hx1, Bm, rfl, hBm⟩
  replace hb := hb.ext hx1
  replace hB := hB.ext hx1
  replace hE := hE.ext hx1
  simp only [put_some]
  refine WL.ce Try.call51 (by simp only [EN, Nat.reduceEqDiff, reduceIte, AR, hb.blk.cell]; exact hks ▸ c_sorted Bm b bf (by omega) hBm hb.buf) ?_
  rintro _ h2 ⟨hx2, a, cap, rfl, hsk⟩
  replace hb := hb.ext hx2
  replace hB := hB.ext hx2
  replace hE := hE.ext hx2
  replace hBm := hBm.ext hx2
  simp only [put_some]
  refine WL.qq (by simp only [EN, Nat.reduceEqDiff, reduceIte, qv_len, ln108, AR, hb.blk.cell]; rfl) ?_
  have kg := Gs.refl h2 [Bo]; have kE := hE; have kB := hB
  refine WL.qq (by simp only [EN, Nat.reduceEqDiff, reduceIte, qv_move, hb.blk.cell]; rfl) ?_
  refine WL.nil ?_
  refine th_norm ?_
  refine hx_block ?_
  refine hx_loopG [4, 6, 18, 19, 20, 21, 22, 23, 24, 25, 26, 27, 28, 29, 30, 31, 32, 33] (fun k e hL0 => ∃ (i : Nat) (v : Value), ks.length - i = k ∧ (i ≤ ks.length) ∧ (Gs h2 hL0 [Bo]) ∧ (Has hL0 Bo (.cells #[v] 71)) ∧ (Own hL0 h2.size 70 2 v (gapsK n (ks.take i)).length ((gapsK n (ks.take i)).flatMap gapL)) ∧ e 18 = .int .i64 i ∧ e 4 = iV (lastK n (ks.take i))) _ ⟨0, .slice none 0 0, rfl, ?_, ?_, ?_, ?_, ?_, ?_⟩ ?_
  · omega
  · exact kg
  · exact hB
  · exact Own.nil
  · simp only [EN, Nat.reduceEqDiff, reduceIte, e0, e1, hb.blk.cell] <;> rfl
  · simp only [EN, Nat.reduceEqDiff, reduceIte, e0, e1, hb.blk.cell] <;> rfl
  ·
    rintro k e0L hL0 hfr0 ⟨i, v, rfl, hi, hg, hB, ho, i18_0, i4_0⟩
    have k1_0 := hfr0 1 rfl; try simp only [EN, Nat.reduceEqDiff, reduceIte, e1, hb.blk.cell] at k1_0
    have k16_0 := hfr0 16 rfl; try simp only [EN, Nat.reduceEqDiff, reduceIte, hb.blk.cell] at k16_0
    have k17_0 := hfr0 17 rfl; try simp only [EN, Nat.reduceEqDiff, reduceIte, hb.blk.cell] at k17_0
    refine hx_seq ?_
    refine hx_region ?_
    refine WL.qq (by simp only [EN, Nat.reduceEqDiff, reduceIte, qv_binOp, binv_lss, k17_0, i18_0, hb.blk.cell]; rfl) ?_
    refine WL.nil ?_
    refine th_norm ?_
    refine hx_seq ?_
    refine hx_cond (by simp only [EN, Nat.reduceEqDiff, reduceIte, hb.blk.cell]; rfl) (fun hct19 => ?_) (fun hct19 => ?_)
    ·
      try simp only [BD] at hct19
      obtain ⟨x, hx⟩ := atG (l := ks) (i := i) (by omega)
      obtain ⟨bs, os, hae, hr0⟩ := hsk i x hx
      subst hae
      have hc0 := readN_cell hr0 0 _ rfl
      rw [Nat.add_zero, Nat.mul_one] at hc0
      have hnb : bs ≠ Bo := (fun hh => by subst hh; rw [kB.cell] at hc0; cases hq : os + i with | zero => (rw [hq] at hc0; simp at hc0) | succ k => (rw [hq] at hc0; simp at hc0))
      have hc1 := hg.cell hc0 (by simpa using hnb)
      have hxm := hmx x (List.mem_of_getElem? hx)
      have htk : ks.take (i + 1) = ks.take i ++ [x] := (by rw [List.take_add_one, hx]; rfl)
      have hgk := gapsK_app (ks.take i) n x; have hlk := lastK_app (ks.take i) n x; have hgl2 := gapsK_len (ks.take i) n; have htl : (ks.take i).length ≤ 1000 := (by rw [List.length_take]; omega)
      refine hx_skip ?_
      refine th_norm ?_
      refine hx_seq ?_
      refine hx_block ?_
      refine hx_seq ?_
      refine hx_region ?_
      refine WL.qq (by simp only [EN, Nat.reduceEqDiff, reduceIte, qv_indexAddr, k16_0, i18_0, hb.blk.cell]; (try simp (disch := omega) only [ix108, Int.toNat_natCast]); rfl) ?_
      refine WL.qq (by simp only [EN, Nat.reduceEqDiff, reduceIte, k1_0, k16_0, k17_0, i18_0, i4_0, hb.blk.cell, qv_load, ld3, Int.toNat_natCast, hc1]; rfl) ?_
      refine WL.qq (by simp only [EN, Nat.reduceEqDiff, reduceIte, qv_assign, hb.blk.cell]; rfl) ?_
      refine WL.nil ?_
      refine th_norm ?_
      refine hx_seq ?_
      refine hx_seq ?_
      refine hx_region ?_
      refine WL.qq (by simp only [EN, Nat.reduceEqDiff, reduceIte, qv_move, hb.blk.cell]; rfl) ?_
      refine WL.qq (by simp only [EN, Nat.reduceEqDiff, reduceIte, qv_move, i4_0, hb.blk.cell]; rfl) ?_
      refine WL.qq (by simp only [EN, Nat.reduceEqDiff, reduceIte, qv_binOp, binv_gtr, hb.blk.cell]; rfl) ?_
      refine WL.nil ?_
      refine th_norm ?_
      refine hx_cond (by simp only [EN, Nat.reduceEqDiff, reduceIte, hb.blk.cell]; rfl) (fun hct24 => ?_) (fun hct24 => ?_)
      ·
        try simp only [BD] at hct24
        refine hx_region ?_
        refine WL.qq (by simp only [EN, Nat.reduceEqDiff, reduceIte, qv_move, k1_0, hb.blk.cell]; rfl) ?_
        refine WL.qq (by simp only [EN, Nat.reduceEqDiff, reduceIte, qv_move, i4_0, hb.blk.cell]; rfl) ?_
        refine WL.qq (by simp only [EN, Nat.reduceEqDiff, reduceIte, qv_move, hb.blk.cell]; rfl) ?_
        refine WL.qq (by simp only [EN, Nat.reduceEqDiff, reduceIte, qv_binOp, binv_sub, hb.blk.cell]; (try simp (disch := omega) only [w64, w8, wu64]); rfl) ?_
        refine WL.qq (by refine qv_bld (by simp only [EN, Nat.reduceEqDiff, reduceIte, AR, hb.blk.cell] <;> rfl) (by rw [bl70]; simp [Instr.fill, Value.cells]; rfl)) ?_
        refine WL.cf (f := 46) (first := #[]) (cap := #[.pointer (some ⟨Bo, 0, none⟩)]) (by simp only [EN, Nat.reduceEqDiff, reduceIte, k1_0, k16_0, k17_0, i18_0, i4_0, hb.blk.cell]) Try.call46 (by simp only [EN, Nat.reduceEqDiff, reduceIte, k1_0, k16_0, k17_0, i18_0, i4_0, hb.blk.cell, List.map_toArray, List.map_cons, List.map_nil]; exact c_miss1 (gapsK n (ks.take i)) (lastK n (ks.take i), x - 1) hB hg ho (by omega)) ?_
        rintro _ h22 ⟨hg2, v2, hB2, ho2⟩
        simp only [put_some]
        refine WL.nil ?_
        refine th_norm ?_
        refine hx_region ?_
        refine WL.qq (by simp only [EN, Nat.reduceEqDiff, reduceIte, qv_move, hb.blk.cell]; rfl) ?_
        refine WL.qq (by simp only [EN, Nat.reduceEqDiff, reduceIte, qv_binOp, binv_add, hb.blk.cell]; (try simp (disch := omega) only [w64, w8, wu64]); rfl) ?_
        refine WL.qq (by simp only [EN, Nat.reduceEqDiff, reduceIte, qv_assign, hb.blk.cell]; rfl) ?_
        refine WL.nil ?_
        refine bl_norm ?_
        refine th_norm ?_
        refine hx_region ?_
        refine WL.qq (by simp only [EN, Nat.reduceEqDiff, reduceIte, qv_binOp, binv_add, i18_0, hb.blk.cell]; (try simp (disch := omega) only [w64, w8, wu64]); rfl) ?_
        refine WL.qq (by simp only [EN, Nat.reduceEqDiff, reduceIte, qv_move, hb.blk.cell]; rfl) ?_
        refine WL.nil ?_
        refine th_norm ?_
        refine ⟨rfl, ?_, _, ?_, i + 1, v2, rfl, ?_, ?_, ?_, ?_, ?_, ?_⟩  -- again 0 of loop 0
        · (repeat (first | exact Fr.refl _ _ | refine Fr.set rfl ?_ | refine Fr.put rfl ?_ | with_reducible refine Fr.put0 ?_))
        · omega
        · omega
        · exact hg2
        · exact hB2
        · rw [htk, hgk, if_pos hct24]; exact ho2
        · simp only [EN, Nat.reduceEqDiff, reduceIte, k1_0, k16_0, k17_0, i18_0, i4_0, hb.blk.cell] <;> first | rfl | (congr 1; omega)
        · simp only [EN, Nat.reduceEqDiff, reduceIte, k1_0, k16_0, k17_0, i18_0, i4_0, hb.blk.cell] <;> rw [htk, hlk]
      ·
        try simp only [BD] at hct24
        refine hx_skip ?_
        refine th_norm ?_
        refine hx_region ?_
        refine WL.qq (by simp only [EN, Nat.reduceEqDiff, reduceIte, qv_move, hb.blk.cell]; rfl) ?_
        refine WL.qq (by simp only [EN, Nat.reduceEqDiff, reduceIte, qv_binOp, binv_add, hb.blk.cell]; (try simp (disch := omega) only [w64, w8, wu64]); rfl) ?_
        refine WL.qq (by simp only [EN, Nat.reduceEqDiff, reduceIte, qv_assign, hb.blk.cell]; rfl) ?_
        refine WL.nil ?_
        refine bl_norm ?_
        refine th_norm ?_
        refine hx_region ?_
        refine WL.qq (by simp only [EN, Nat.reduceEqDiff, reduceIte, qv_binOp, binv_add, i18_0, hb.blk.cell]; (try simp (disch := omega) only [w64, w8, wu64]); rfl) ?_
        refine WL.qq (by simp only [EN, Nat.reduceEqDiff, reduceIte, qv_move, hb.blk.cell]; rfl) ?_
        refine WL.nil ?_
        refine th_norm ?_
        refine ⟨rfl, ?_, _, ?_, i + 1, v, rfl, ?_, ?_, ?_, ?_, ?_, ?_⟩  -- again 1 of loop 0
        · (repeat (first | exact Fr.refl _ _ | refine Fr.set rfl ?_ | refine Fr.put rfl ?_ | with_reducible refine Fr.put0 ?_))
        · omega
        · omega
        · exact hg
        · exact hB
        · rw [htk, hgk, if_neg hct24, List.append_nil]; exact ho
        · simp only [EN, Nat.reduceEqDiff, reduceIte, k1_0, k16_0, k17_0, i18_0, i4_0, hb.blk.cell] <;> first | rfl | (congr 1; omega)
        · simp only [EN, Nat.reduceEqDiff, reduceIte, k1_0, k16_0, k17_0, i18_0, i4_0, hb.blk.cell] <;> rw [htk, hlk]
    ·
      try simp only [BD] at hct19
      have hil : i = ks.length := (by omega); subst hil; rw [List.take_length] at ho
      refine hx_exit ?_
      refine th_exit ?_
      refine th_exit ?_
      refine bl_hit ?_
      refine fin_end [] rfl rfl (by simp only [EN, Nat.reduceEqDiff, reduceIte, resv, k1_0, k16_0, k17_0, i18_0, i4_0, hb.blk.cell]; rfl) ?_  -- ret 0 r7
      exact ⟨hg.toExt kE (fun x hx => by simp at hx; subst hx; exact hlo), v, hB, ho.base kE.size⟩
theorem c_Missing (hG : RG w n bf) (hb : IsRc h p b w n bf) : HCalls Try.prog 29 #[.pointer (some ⟨p, 0, none⟩)] h fun v h' => Ext h h' ∧ ∃ a cap, v = .slice a (gapsK n (srt (bf.map Prod.fst))).length cap ∧ SlR 70 2 gapL h' a (gapsK n (srt (bf.map Prod.fst))) := by
  refine hcalls2 Try.func29 rfl (by decide +kernel) (by simp only [Try.ntmps29]; exact of_decide_eq_true rfl) ?_
  intro e hin
  have e0 := hin 0 _ rfl
  refine hx_seq ?_
  refine hx_region ?_
  refine WL.qq (by simp only [EN, Nat.reduceEqDiff, reduceIte, qv_assign]; rfl) ?_
  refine WL.nil ?_
  refine th_norm ?_
  refine hx_seq ?_
  refine hx_seq ?_
  refine hx_region ?_
  refine WL.qq (by simp only [EN, Nat.reduceEqDiff, reduceIte, qv_move, e0]; rfl) ?_
  refine WL.qq (by simp only [EN, Nat.reduceEqDiff, reduceIte, qv_binOp, binv_eql, eqz25, eqn25, eqm25, Option.map_some]; rfl) ?_
  refine WL.nil ?_
  refine th_norm ?_
  refine hx_cond (by simp only [EN, Nat.reduceEqDiff, reduceIte]; rfl) (fun hct5 => ?_) (fun hct5 => ?_)
  ·
    simp at hct5
  ·
    try simp only [BD] at hct5
    refine hx_skip ?_
    refine th_norm ?_
    refine hx_seq ?_
    refine hx_region ?_
    refine WL.alloc2 zr71 ?_
    intro h1 B1 hx1 hlt1 hB1
    replace hb := hb.ext hx1
    simp only [Value.cells] at hB1
    refine WL.nil ?_
    refine th_norm ?_
    refine hx_seq ?_
    refine hx_region ?_
    refine WL.qq (by simp only [EN, Nat.reduceEqDiff, reduceIte, qv_move, e0, hB1.cell]; rfl) ?_
    refine WL.qq (by simp only [EN, Nat.reduceEqDiff, reduceIte, qv_makeFunc, AR, hB1.cell]; rfl) ?_
    refine WL.ce Try.call45 (by simp only [EN, Nat.reduceEqDiff, reduceIte, AR, hB1.cell]; exact c_gaps hG hb hB1 hx1 hlt1) ?_
    rintro _ h20 ⟨hE2, v2, hB2, ho2⟩
    simp only [put_some]
    refine WL.nil ?_
    refine th_norm ?_
    refine hx_seq ?_
    refine hx_region ?_
    refine WL.qq (by simp only [EN, Nat.reduceEqDiff, reduceIte, e0, hB1.cell, qv_load, ld71, hB2.cell]; rfl) ?_
    refine WL.qq (by simp only [EN, Nat.reduceEqDiff, reduceIte, qv_assign, hB1.cell]; rfl) ?_
    refine WL.nil ?_
    refine th_norm ?_
    refine hx_ret ?_
    refine fin_ret [.tmp 2] rfl rfl (by simp only [EN, Nat.reduceEqDiff, reduceIte, resv, e0, hB1.cell]; rfl) ?_  -- ret 0 r5
    obtain ⟨a, cap, hv, _, _, _⟩ := Own.slG (f := gapL) (sz := 2) (fun _ => rfl) ho2 rfl
    subst hv
    have hs := SlR.own (f := gapL) (sz := 2) (fun _ => rfl) ho2 rfl
    exact ⟨hE2, a, cap, rfl, hs⟩
end
end GL


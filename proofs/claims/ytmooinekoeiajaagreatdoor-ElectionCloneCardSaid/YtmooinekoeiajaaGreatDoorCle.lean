/- Part 5 of the texts of one law: what it needs of the logic of heaps, of the walks, of the plain facts. -/
import Derived.Test.YtmooinekoeiajaaGreatDoorCld
set_option linter.unusedSimpArgs false
set_option linter.unusedVariables false
set_option linter.unnecessarySimpa false
namespace GL
open Go Go.Proofs
set_option maxRecDepth 8000
def tab (n : Nat) (f : Nat → Int) : List Int := (List.range n).map f
theorem tab_len {n : Nat} {f : Nat → Int} : (tab n f).length = n := by simp [tab]
theorem tab_at {n : Nat} {f : Nat → Int} {k : Nat} (hk : k < n) : (tab n f)[k]? = some (f k) := by
  unfold tab
  rw [List.getElem?_map, List.getElem?_range hk]; rfl
theorem tab_congr {n : Nat} {f f' : Nat → Int} (h : ∀ k, k < n → f k = f' k) : tab n f = tab n f' := by
  unfold tab
  exact List.map_congr_left fun k hk => h k (List.mem_range.1 hk)
theorem tab_set {n : Nat} {f : Nat → Int} {j : Nat} {v : Int} : (tab n f).set j v = tab n (fun k => if k = j then v else f k) := by
  apply List.ext_getElem?
  intro k
  by_cases hk : k < n
  · rw [tab_at hk]
    by_cases hkj : k = j
    · subst hkj
      rw [List.getElem?_set_self (by rw [tab_len]; exact hk), if_pos rfl]
    · rw [List.getElem?_set_ne (Ne.symm hkj), tab_at hk, if_neg hkj]
  · rw [List.getElem?_eq_none (by rw [List.length_set, tab_len]; omega), List.getElem?_eq_none (by rw [tab_len]; omega)]
theorem free_at {E : EL} (g : GoodE E) {x : SI} (hx : x ∈ E.hs) : freeE E x.s = x.n - sumE E x.s := by
  obtain ⟨i, hi⟩ := List.getElem?_of_mem hx
  have h1 := idx_of g.nd hi
  unfold freeE
  rw [if_pos (by omega)]
  have h2 := hld_mem (E := E) (s := x.s) (by omega)
  rw [name_eq g h2.1 hx h2.2]
theorem tkn_good {E : EL} (g : GoodE E) {x : SI} (hx : x ∈ E.hs) {k : Nat} (hk : k < E.os.length) : 0 ≤ chE E x.s k ∧ chE E x.s k ≤ tknE E x.s k ∧ tknE E x.s k ≤ x.n := by
  have h1 := g.che x.s k; have h2 := g.chle x.s hk; have h3 := g.su x hx; have h4 := free_at g hx; have h5 := g.chx hx k
  unfold tknE
  split <;> omega
def totI (E : EL) (i k : Nat) : Int := sumF (fun x => tknE E x.s k) (E.hs.take i)
theorem totI_step {E : EL} {i : Nat} {x : SI} (hx : E.hs[i]? = some x) (k : Nat) : totI E (i + 1) k = totI E i k + tknE E x.s k := sumF_step (f := fun x : SI => tknE E x.s k) hx
theorem totI_bd {E : EL} (g : GoodE E) {k : Nat} (hk : k < E.os.length) (i : Nat) : 0 ≤ totI E i k ∧ totI E i k ≤ 1000000000000000 := by
  unfold totI
  have hm : ∀ x ∈ E.hs.take i, x ∈ E.hs := fun x hx => List.mem_of_mem_take hx
  have h1 := (sumF_part (f := fun x : SI => tknE E x.s k) (l := E.hs.take i) fun x hx => by have := tkn_good g (hm x hx) hk; omega).1
  have h2 := sumF_mono (f := fun x : SI => tknE E x.s k) (g := SI.n) (l := E.hs.take i) fun x hx => (tkn_good g (hm x hx) hk).2.2
  have h3 : sumF SI.n E.hs = sumF SI.n (E.hs.take i) + sumF SI.n (E.hs.drop i) := by rw [← sumF_app, List.take_append_drop]
  have h4 := (sumF_part (f := SI.n) (l := E.hs.drop i) fun x hx => by have := g.hq x (List.mem_of_mem_drop hx); omega).1
  have := g.hsum
  omega
section
variable {h : Heap} {vh vo vc : Value} {E : EL}
set_option maxHeartbeats 4000000 in
theorem c_rTotals (g : GoodE E) (hI : RI h vh vo vc E) :
    HCalls Tryz.prog 26 #[reV vh vo vc E] h fun v h' => Ext h h' ∧ Own h' h.size tyI 1 v (totE E).length ((totE E).flatMap intL) := by
  have hI0 := hI
  obtain ⟨ah, ch, rfl, hch, hsh⟩ := hI.sh
  obtain ⟨ao, co, rfl, hco, hso⟩ := hI.so
  obtain ⟨ac, cc, rows0, rfl, hcc, hsc, hri⟩ := hI.sc
  have hsh0 := hsh; have hsc0 := hsc; have hri0 := hri
  have hnh := g.hn; have hno := g.on
  have hdl : E.d < E.os.length := by obtain ⟨x, hx, _⟩ := g.dft; exact (List.getElem?_eq_some_iff.1 hx).1
  have htl := totE_len (E := E)
  refine hcalls2 Tryz.func26 rfl (by decide +kernel) (by simp only [Tryz.ntmps26]; exact of_decide_eq_true rfl) ?_
  intro e hin
  have e0 := hin 0 _ rfl
  refine hx_seq (hx_region ?_)
  refine WL.box2 (by simp only [EN, Nat.reduceEqDiff, reduceIte, Value.cells, e0]; rfl) ?_
  intro h1 B1 hx1 hlt1 hB1
  refine WL.qq (by simp only [EN, Nat.reduceEqDiff, reduceIte, qv_assign, hB1.cell]; rfl) ?_
  refine WL.nil (th_norm (hx_seq (hx_region ?_)))
  iterate 3 refine WL.qq (by simp only [EN, Nat.reduceEqDiff, reduceIte, qv_fieldAddr, fa34_1, Nat.zero_add, Nat.reduceAdd, hB1.cell, qv_load, ld23, readN, AR, qv_len, ln23]; rfl) ?_
  refine WL.ef _ (e_makeSl (n := E.os.length) (sz := 1) (bytes := 8) Tryz.underlying55 (inf_of Tryz.type2) rfl rfl rfl (by simp only [EN, Nat.reduceEqDiff, reduceIte, e0, hB1.cell]; rfl) (by simp only [EN, Nat.reduceEqDiff, reduceIte, e0, hB1.cell]; rfl) (by omega) (by simp only [maxLen]; omega)) ?_
  rintro _ h30 ⟨hx30, rfl, ho30⟩
  simp only [put_some]
  have hzf := made_flat (f := intL) (sz := 1) (z := (0 : Int)) (zc := (#[iV 0] : Array Value)) rfl rfl (by decide) E.os.length
  have hz0 : tab E.os.length (fun _ => 0) = List.replicate E.os.length 0 := (by unfold tab; exact List.map_const' .. |>.trans (by rw [List.length_range]))
  have ho31 : Own h30 h.size tyI 1 (.slice (some ⟨h1.size, 0, none⟩) E.os.length E.os.length) E.os.length ((tab E.os.length (fun _ => 0)).flatMap intL) := (by rw [hz0, ← hzf]; exact ho30.base hx1.size)
  replace hB1 := hB1.ext hx30
  have hX30 := hx1.trans hx30
  have hgz : h.size ≤ h1.size := hx1.size
  generalize hg1 : Array.size h1 = g1 at ho31 hgz ⊢
  refine WL.qq (by simp only [EN, Nat.reduceEqDiff, reduceIte, qv_assign, hB1.cell]; rfl) ?_
  refine WL.nil (th_norm (hx_seq (hx_seq (hx_region ?_))))
  refine WL.qq (by simp only [EN, Nat.reduceEqDiff, reduceIte, qv_assign, hB1.cell]; rfl) ?_
  refine WL.nil (th_norm (hx_block ?_))
  refine hx_loopG [4, 5, 10, 11, 12, 13, 14, 15, 16, 17, 18, 19, 20, 21, 22, 23, 24, 25, 26, 27, 28, 29, 30, 31, 32, 33, 34, 35, 36, 37, 38, 39, 40, 41, 42, 43, 44, 45, 46, 47, 48, 49, 50, 51, 52] (fun k e hL0 => ∃ (i : Nat), E.hs.length - i = k ∧ (i ≤ E.hs.length) ∧ (Ext h hL0) ∧ (Has hL0 B1 (.cells #[.slice ah E.hs.length ch, .slice ao E.os.length co, iV E.d, iV E.dd, iV E.dm, .slice ac E.hs.length cc, .bool E.cl] tyRE)) ∧ (Own hL0 h.size tyI 1 (.slice (some ⟨g1, 0, none⟩) E.os.length E.os.length) E.os.length ((tab E.os.length (totI E i)).flatMap intL)) ∧ e 4 = .int .i64 i) _ ⟨0, rfl, ?_, ?_, ?_, ?_, ?_⟩ ?_
  · omega
  · exact hX30
  · exact hB1
  · exact ho31
  · simp only [EN, Nat.reduceEqDiff, reduceIte, e0, hB1.cell] <;> rfl
  ·
   rintro k e0L hL0 hfr0 ⟨i, rfl, hi, hX, hB1, ho, i4_0⟩
   have k1_0 := hfr0 1 rfl; try simp only [EN, Nat.reduceEqDiff, reduceIte, hB1.cell] at k1_0
   have k3_0 := hfr0 3 rfl; try simp only [EN, Nat.reduceEqDiff, reduceIte, hB1.cell] at k3_0
   refine hx_seq (hx_seq (hx_region ?_))
   iterate 5 refine WL.qq (by simp only [EN, Nat.reduceEqDiff, reduceIte, qv_move, i4_0, hB1.cell, hB1.cell, qv_fieldAddr, fa34_0, Nat.zero_add, Nat.reduceAdd, k1_0, qv_load, ld22, readN, AR, qv_len, ln22, qv_binOp, binv_lss]; rfl) ?_
   refine WL.nil (th_norm ?_)
   refine hx_cond (by simp only [EN, Nat.reduceEqDiff, reduceIte, hB1.cell, hB1.cell]; rfl) (fun hct14 => ?_) (fun hct14 => ?_)
   ·
    try simp only [BD] at hct14
    obtain ⟨x, hxi⟩ := atG (l := E.hs) (i := i) (by omega)
    have hxm := List.mem_of_getElem? hxi; have hst := totI_step hxi
    refine hx_skip (th_norm (hx_seq (hx_block (hx_seq (hx_seq (hx_region ?_))))))
    refine WL.qq (by simp only [EN, Nat.reduceEqDiff, reduceIte, qv_assign, hB1.cell, hB1.cell]; rfl) ?_
    refine WL.nil (th_norm (hx_block ?_))
    refine hx_loopG [5, 17, 18, 19, 20, 21, 22, 23, 24, 25, 26, 27, 28, 29, 30, 31, 32, 33, 34, 35, 36, 37, 38, 39] (fun k e hL1 => ∃ (j : Nat), E.os.length - j = k ∧ (j ≤ E.os.length) ∧ (Ext h hL1) ∧ (Has hL1 B1 (.cells #[.slice ah E.hs.length ch, .slice ao E.os.length co, iV E.d, iV E.dd, iV E.dm, .slice ac E.hs.length cc, .bool E.cl] tyRE)) ∧ (Own hL1 h.size tyI 1 (.slice (some ⟨g1, 0, none⟩) E.os.length E.os.length) E.os.length ((tab E.os.length (fun k => totI E i k + if k < j then chE E x.s k else 0)).flatMap intL)) ∧ e 5 = .int .i64 j) _ ⟨0, rfl, ?_, ?_, ?_, ?_, ?_⟩ ?_
    · omega
    · exact hX
    · exact hB1
    · rw [tab_congr (f' := totI E i) (fun k hk => by rw [if_neg (by omega)]; omega)]; exact ho
    · simp only [EN, Nat.reduceEqDiff, reduceIte, k1_0, k3_0, i4_0, hB1.cell, hB1.cell] <;> rfl
    ·
     rintro k e1L hL1 hfr1 ⟨j, rfl, hj, hX, hB1, ho, i5_1⟩
     have k1_1 := hfr1 1 rfl; try simp only [EN, Nat.reduceEqDiff, reduceIte, k1_0, hB1.cell, hB1.cell] at k1_1
     have k3_1 := hfr1 3 rfl; try simp only [EN, Nat.reduceEqDiff, reduceIte, k3_0, hB1.cell, hB1.cell] at k3_1
     have k4_1 := hfr1 4 rfl; try simp only [EN, Nat.reduceEqDiff, reduceIte, i4_0, hB1.cell, hB1.cell] at k4_1
     refine hx_seq (hx_seq (hx_region ?_))
     iterate 5 refine WL.qq (by simp only [EN, Nat.reduceEqDiff, reduceIte, qv_move, i5_1, hB1.cell, hB1.cell, hB1.cell, qv_fieldAddr, fa34_1, Nat.zero_add, Nat.reduceAdd, k1_1, qv_load, ld23, readN, AR, qv_len, ln23, qv_binOp, binv_lss]; rfl) ?_
     refine WL.nil (th_norm ?_)
     refine hx_cond (by simp only [EN, Nat.reduceEqDiff, reduceIte, hB1.cell, hB1.cell, hB1.cell]; rfl) (fun hct21 => ?_) (fun hct21 => ?_)
     ·
      try simp only [BD] at hct21
      obtain ⟨b2, o2, b3, o3, c3, ha2, hc2, hc3⟩ := row_rd (hsc0.ext hX).rd (hri0.ext hX) hxi (k := j) (by omega)
      obtain ⟨bo, oo, hao, hco2⟩ := one_at' (slG_own (f := intL) (sz := 1) (fun _ => rfl) ho tab_len.symm) (tab_at (k := j) (by omega)) (y := iV (totI E i j)) (by rw [if_neg (by omega), Int.add_zero]); cases hao
      have hb1 := totI_bd g (k := j) (by omega) (i + 1); have hb0 := totI_bd g (k := j) (by omega) i; rw [hst] at hb1; have htk := tkn_good g hxm (k := j) (by omega)
      refine hx_skip (th_norm (hx_seq (hx_block ?_)))
      apply hx_draw2 Rel.same [16] [] [] rfl (by decide +kernel) rfl
      iterate 5 refine LD.qq rfl rfl (by simp only [EN, Nat.reduceEqDiff, reduceIte, qv_move, k3_1, hB1.cell, hB1.cell, hB1.cell, i5_1, qv_indexAddr]; (try simp (disch := omega) only [ix55, Int.toNat_natCast]); rfl) ?_
      refine LD.qq rfl rfl (by simp only [EN, Nat.reduceEqDiff, reduceIte, k1_1, k3_1, k4_1, i5_1, hB1.cell, hB1.cell, hB1.cell, qv_load, ld2, Int.toNat_natCast, Nat.mul_one, hco2]; rfl) ?_
      iterate 3 refine LD.qq rfl rfl (by simp only [EN, Nat.reduceEqDiff, reduceIte, qv_fieldAddr, fa34_4, Nat.zero_add, Nat.reduceAdd, k1_1, hB1.cell, hB1.cell, hB1.cell, qv_load, ld32, readN, AR, qv_move, k4_1]; rfl) ?_
      refine LD.qq rfl rfl (by simp only [EN, Nat.reduceEqDiff, reduceIte, qv_indexAddr, hB1.cell, hB1.cell, hB1.cell, ha2]; (try simp (disch := omega) only [ix32, Int.toNat_natCast]); rfl) ?_
      refine LD.qq rfl rfl (by simp only [EN, Nat.reduceEqDiff, reduceIte, k1_1, k3_1, k4_1, i5_1, hB1.cell, hB1.cell, hB1.cell, qv_load, ld55, Int.toNat_natCast, Nat.mul_one, hc2]; rfl) ?_
      iterate 2 refine LD.qq rfl rfl (by simp only [EN, Nat.reduceEqDiff, reduceIte, qv_move, i5_1, hB1.cell, hB1.cell, hB1.cell, qv_indexAddr]; (try simp (disch := omega) only [ix55, Int.toNat_natCast]); rfl) ?_
      refine LD.qq rfl rfl (by simp only [EN, Nat.reduceEqDiff, reduceIte, k1_1, k3_1, k4_1, i5_1, hB1.cell, hB1.cell, hB1.cell, qv_load, ld2, Int.toNat_natCast, Nat.mul_one, hc3]; rfl) ?_
      iterate 2 refine LD.qq rfl rfl (by simp only [EN, Nat.reduceEqDiff, reduceIte, qv_binOp, binv_add, hB1.cell, hB1.cell, hB1.cell, qv_indexAddr]; (try simp (disch := omega) only [w64, w8, wu64, ix55, Int.toNat_natCast]); rfl) ?_
      refine LD.skip rfl ?_
      refine LD.nil ?_
      rintro hL1 rfl -
      obtain ⟨cur, hcur, hle, hput⟩ := ho.putAt (f := intL) (sz := 1) (fun _ => rfl) tab_len.symm rfl (j := j) (k := 0) (y := totI E i j) (y' := totI E i j + chE E x.s j) (vs := [iV (totI E i j + chE E x.s j)]) (by rw [tab_at (by omega), if_neg (by omega), Int.add_zero]) (by simp) rfl
      rw [tab_set] at hput
      have hle2 : 0 + j + 1 ≤ cur.size := (by simpa using hle)
      refine WL.store (off := 0 + j) (by simp only [EN, Nat.reduceEqDiff, reduceIte, k1_1, k3_1, k4_1, i5_1, hB1.cell, hB1.cell, hB1.cell, Int.toNat_natCast] <;> rfl) sz2 (by simp only [EN, Nat.reduceEqDiff, reduceIte, k1_1, k3_1, k4_1, i5_1, hB1.cell, hB1.cell, hB1.cell, Value.cells] <;> rfl) rfl hcur hle2 (by simp [Value.oneCell']) ?_
      intro h40 hw40
      have ho40 := hput h40 (by simpa using hw40)
      have hX40 := hw40.ext hX hgz
      have hB140 := hB1.wr hw40 (fun hh => ho.ncell hB1 (by decide) (by rw [hh]; rfl))
      refine WL.nil (bl_norm (th_norm (hx_region ?_)))
      iterate 3 refine WL.qq (by simp only [EN, Nat.reduceEqDiff, reduceIte, qv_move, i5_1, hB1.cell, hB1.cell, hB1.cell, qv_binOp, binv_add, qv_assign]; (try simp (disch := omega) only [w64, w8, wu64]); rfl) ?_
      refine WL.nil (th_norm ?_)
      refine ⟨rfl, ?_, _, ?_, j + 1, rfl, ?_, ?_, ?_, ?_, ?_⟩
      · (repeat (first | exact Fr.refl _ _ | refine Fr.set rfl ?_ | refine Fr.put rfl ?_ | with_reducible refine Fr.put0 ?_))
      · omega
      · omega
      · exact hX40
      · exact hB140
      · rw [tab_congr (f' := fun k => if k = j then totI E i j + chE E x.s j else totI E i k + if k < j then chE E x.s k else 0) (fun k hk => by by_cases hkj : k = j; (subst hkj; rw [if_pos (by omega), if_pos rfl]); (rw [if_neg hkj]; congr 1; by_cases h9 : k < j; (rw [if_pos h9, if_pos (by omega)]); (rw [if_neg h9, if_neg (by omega)])))]; exact ho40
      · simp only [EN, Nat.reduceEqDiff, reduceIte, k1_1, k3_1, k4_1, i5_1, hB1.cell, hB1.cell, hB1.cell] <;> first | rfl | (congr 1; omega)
     ·
      try simp only [BD] at hct21
      obtain rfl : j = E.os.length := (by omega)
      rw [tab_congr (f' := fun k => totI E i k + chE E x.s k) (fun k hk => by rw [if_pos hk])] at ho
      obtain ⟨bo, oo, hao, hco2⟩ := one_at' (slG_own (f := intL) (sz := 1) (fun _ => rfl) ho tab_len.symm) (tab_at (k := E.d) (by omega)) (y := iV (totI E i E.d + chE E x.s E.d)) rfl; cases hao
      have hb1 := totI_bd g (k := E.d) (by omega) (i + 1); have hb0 := totI_bd g (k := E.d) (by omega) i; rw [hst] at hb1; have htk := tkn_good g hxm (k := E.d) (by omega); have hfr := free_at g hxm; have htd : tknE E x.s E.d = chE E x.s E.d + freeE E x.s := if_pos rfl; have hbf := g.b.free x.s
      refine hx_exit (th_exit (th_exit (bl_hit (th_norm ?_))))
      apply hx_draw2 Rel.grows [13] [10] [(10, Spec.is _)] rfl (by decide +kernel) rfl
      iterate 6 refine LD.qq rfl rfl (by simp only [EN, Nat.reduceEqDiff, reduceIte, qv_move, k3_1, hB1.cell, hB1.cell, hB1.cell, qv_fieldAddr, fa34_2, Nat.zero_add, Nat.reduceAdd, k1_1, qv_load, ld3, readN, AR]; rfl) ?_
      refine LD.qq rfl rfl (by simp only [EN, Nat.reduceEqDiff, reduceIte, qv_indexAddr, hB1.cell, hB1.cell, hB1.cell]; (try simp (disch := omega) only [ix55, Int.toNat_natCast]); rfl) ?_
      refine LD.qq rfl rfl (by simp only [EN, Nat.reduceEqDiff, reduceIte, k1_1, k3_1, k4_1, i5_1, hB1.cell, hB1.cell, hB1.cell, qv_load, ld2, Int.toNat_natCast, Nat.mul_one, hco2]; rfl) ?_
      iterate 2 refine LD.qq rfl rfl (by simp only [EN, Nat.reduceEqDiff, reduceIte, qv_load, ld34, readN, AR, Nat.zero_add, Nat.reduceAdd, k1_1, hB1.cell, hB1.cell, hB1.cell, qv_move, k4_1]; rfl) ?_
      refine LD.ck rfl rfl Tryz.call28 (by intro hD hr; have hx : Ext _ _ := hr; have hX := hX.ext hx; have hB1 := hB1.ext hx; have ho := ho.ext hx; simp only [EN, Nat.reduceEqDiff, reduceIte, AR, hB1.cell, hB1.cell, hB1.cell]; exact c_rFree g hxi (hI0.ext hX)) ?_
      iterate 2 refine LD.qq rfl rfl (by simp only [EN, Nat.reduceEqDiff, reduceIte, qv_binOp, binv_add, hB1.cell, hB1.cell, hB1.cell, qv_indexAddr]; (try simp (disch := omega) only [w64, w8, wu64, ix55, Int.toNat_natCast]); rfl) ?_
      refine LD.skip rfl ?_
      refine LD.nil ?_
      rintro h2 hx2 hF9
      replace hx2 : Ext _ _ := hx2
      replace hX := hX.ext hx2
      replace hB1 := hB1.ext hx2
      replace ho := ho.ext hx2
      obtain ⟨cur, hcur, hle, hput⟩ := ho.putAt (f := intL) (sz := 1) (fun _ => rfl) tab_len.symm rfl (j := E.d) (k := 0) (y := totI E i E.d + chE E x.s E.d) (y' := totI E i E.d + chE E x.s E.d + (x.n - sumE E x.s)) (vs := [iV (totI E i E.d + chE E x.s E.d + (x.n - sumE E x.s))]) (tab_at (by omega)) (by simp) rfl
      rw [tab_set] at hput
      have hle2 : 0 + E.d + 1 ≤ cur.size := (by simpa using hle)
      refine WL.store (off := 0 + E.d) (by simp only [EN, Nat.reduceEqDiff, reduceIte, k1_1, k3_1, k4_1, i5_1, hB1.cell, hB1.cell, hB1.cell, Int.toNat_natCast] <;> rfl) sz2 (by simp only [EN, Nat.reduceEqDiff, reduceIte, k1_1, k3_1, k4_1, i5_1, hB1.cell, hB1.cell, hB1.cell, Value.cells] <;> rfl) rfl hcur hle2 (by simp [Value.oneCell']) ?_
      intro h40 hw40
      have ho40 := hput h40 (by simpa using hw40)
      have hX40 := hw40.ext hX hgz
      have hB140 := hB1.wr hw40 (fun hh => ho.ncell hB1 (by decide) (by rw [hh]; rfl))
      refine WL.nil (bl_norm (th_norm (hx_region ?_)))
      iterate 3 refine WL.qq (by simp only [EN, Nat.reduceEqDiff, reduceIte, qv_move, k4_1, hB1.cell, hB1.cell, hB1.cell, qv_binOp, binv_add, qv_assign]; (try simp (disch := omega) only [w64, w8, wu64]); rfl) ?_
      refine WL.nil (th_norm ?_)
      refine ⟨rfl, ?_, _, ?_, i + 1, rfl, ?_, ?_, ?_, ?_, ?_⟩
      · (repeat (first | exact Fr.refl _ _ | refine Fr.set rfl ?_ | refine Fr.put rfl ?_ | with_reducible refine Fr.put0 ?_ | refine Fr.trans ?_ (Fr.of hfr1 rfl)))
      · omega
      · omega
      · exact hX40
      · exact hB140
      · rw [tab_congr (f' := fun k => if k = E.d then totI E i E.d + chE E x.s E.d + (x.n - sumE E x.s) else totI E i k + chE E x.s k) (fun k hk => by rw [hst k]; by_cases hkd : k = E.d; (subst hkd; rw [if_pos rfl, htd, hfr]; omega); (rw [if_neg hkd, tknE, if_neg hkd]))]; exact ho40
      · simp only [EN, Nat.reduceEqDiff, reduceIte, k1_1, k3_1, k4_1, i5_1, hB1.cell, hB1.cell, hB1.cell] <;> first | rfl | (congr 1; omega)
   ·
    try simp only [BD] at hct14
    obtain rfl : i = E.hs.length := (by omega)
    have hfin : tab E.os.length (totI E E.hs.length) = totE E := (by unfold tab totE totI; rw [List.take_length])
    refine hx_exit (th_exit (th_exit (bl_hit (th_norm (hx_seq (hx_region ?_))))))
    iterate 2 refine WL.qq (by simp only [EN, Nat.reduceEqDiff, reduceIte, qv_move, k3_0, hB1.cell, hB1.cell, qv_assign]; rfl) ?_
    refine WL.nil (th_norm (hx_ret ?_))
    refine fin_ret [.tmp 2] rfl rfl (by simp only [EN, Nat.reduceEqDiff, reduceIte, resv, k1_0, k3_0, i4_0, hB1.cell, hB1.cell]; rfl) ?_
    exact ⟨hX, by rw [htl, ← hfin]; exact ho⟩
end
section
variable {h : Heap} {vh vo vc vh' vo' vc' : Value} {E F : EL}
theorem c_rSame (g : GoodE E) (g' : GoodE F) (hI : RI h vh vo vc E) (hJ : RI h vh' vo' vc' F) :
    HCalls Tryz.prog 15 #[reV vh vo vc E, reV vh' vo' vc' F] h fun v h' => Ext h h' ∧ ∃ r : Bool, v = .bool r ∧ (r = true ↔ samE E F) := by
  obtain ⟨ah, ch, rfl, _, hsh⟩ := hI.sh
  obtain ⟨ao, co, rfl, _, hso⟩ := hI.so
  obtain ⟨ac, cc, rows, rfl, _, hsc, hri⟩ := hI.sc
  obtain ⟨bh, dh, rfl, _, hth⟩ := hJ.sh
  obtain ⟨bo, do', rfl, _, hto⟩ := hJ.so
  obtain ⟨bc, dc, rows', rfl, _, htc, htri⟩ := hJ.sc
  have hnh := g.hn; have hno := g.on; have hnh' := g'.hn; have hno' := g'.on
  refine hcalls2 Tryz.func15 rfl (by decide +kernel) (by simp only [Tryz.ntmps15]; exact of_decide_eq_true rfl) ?_
  intro e hin
  have e0 := hin 0 _ rfl
  have e1 := hin 1 _ rfl
  refine hx_seq (hx_region ?_)
  refine WL.box2 (by simp only [EN, Nat.reduceEqDiff, reduceIte, Value.cells, e0, strEq]; rfl) ?_
  intro h1 B1 hx1 hlt1 hB1
  replace hsh := hsh.ext hx1
  replace hso := hso.ext hx1
  replace hsc := hsc.ext hx1
  replace hri := hri.ext hx1
  replace hth := hth.ext hx1
  replace hto := hto.ext hx1
  replace htc := htc.ext hx1
  replace htri := htri.ext hx1
  refine WL.box2 (by simp only [EN, Nat.reduceEqDiff, reduceIte, Value.cells, e1, strEq, hB1.cell]; rfl) ?_
  intro h2 B2 hx2 hlt2 hB2
  replace hsh := hsh.ext hx2
  replace hso := hso.ext hx2
  replace hsc := hsc.ext hx2
  replace hri := hri.ext hx2
  replace hth := hth.ext hx2
  replace hto := hto.ext hx2
  replace htc := htc.ext hx2
  replace htri := htri.ext hx2
  replace hB1 := hB1.ext hx2
  refine WL.qq (by simp only [EN, Nat.reduceEqDiff, reduceIte, qv_assign, strEq, hB1.cell, hB2.cell]; rfl) ?_
  refine WL.nil (th_norm (hx_seq (hx_seq (hx_region ?_))))
  iterate 8 refine WL.qq (by simp only [EN, Nat.reduceEqDiff, reduceIte, qv_fieldAddr, fa34_0, Nat.zero_add, Nat.reduceAdd, strEq, hB1.cell, hB2.cell, qv_load, ld22, readN, AR, qv_len, ln22, qv_binOp, binv_neq, eq3, Option.map_some, qv_move]; rfl) ?_
  refine WL.cq (gd_at (t := 15) rfl (by simp only [EN, Nat.reduceEqDiff, reduceIte, strEq, hB1.cell, hB2.cell] <;> rfl)) (fun hg1_8 => by simp only [EN, Nat.reduceEqDiff, reduceIte, qv_fieldAddr, fa34_1, Nat.zero_add, Nat.reduceAdd, strEq, hB1.cell, hB2.cell, hg1_8, GR]; rfl) ?_
  refine WL.cq (gd_at (t := 15) rfl (by simp only [EN, Nat.reduceEqDiff, reduceIte, strEq, hB1.cell, hB2.cell] <;> rfl)) (fun hg1_9 => by simp only [EN, Nat.reduceEqDiff, reduceIte, qv_load, ld23, readN, AR, Nat.zero_add, Nat.reduceAdd, strEq, hB1.cell, hB2.cell, hg1_9, GR]; rfl) ?_
  refine WL.cq (gd_at (t := 15) rfl (by simp only [EN, Nat.reduceEqDiff, reduceIte, strEq, hB1.cell, hB2.cell] <;> rfl)) (fun hg1_10 => by simp only [EN, Nat.reduceEqDiff, reduceIte, qv_len, ln23, AR, strEq, hB1.cell, hB2.cell, hg1_10, GR]; rfl) ?_
  refine WL.cq (gd_at (t := 15) rfl (by simp only [EN, Nat.reduceEqDiff, reduceIte, strEq, hB1.cell, hB2.cell] <;> rfl)) (fun hg1_11 => by simp only [EN, Nat.reduceEqDiff, reduceIte, qv_fieldAddr, fa34_1, Nat.zero_add, Nat.reduceAdd, strEq, hB1.cell, hB2.cell, hg1_11, GR]; rfl) ?_
  refine WL.cq (gd_at (t := 15) rfl (by simp only [EN, Nat.reduceEqDiff, reduceIte, strEq, hB1.cell, hB2.cell] <;> rfl)) (fun hg1_12 => by simp only [EN, Nat.reduceEqDiff, reduceIte, qv_load, ld23, readN, AR, Nat.zero_add, Nat.reduceAdd, strEq, hB1.cell, hB2.cell, hg1_12, GR]; rfl) ?_
  refine WL.cq (gd_at (t := 15) rfl (by simp only [EN, Nat.reduceEqDiff, reduceIte, strEq, hB1.cell, hB2.cell] <;> rfl)) (fun hg1_13 => by simp only [EN, Nat.reduceEqDiff, reduceIte, qv_len, ln23, AR, strEq, hB1.cell, hB2.cell, hg1_13, GR]; rfl) ?_
  refine WL.cq (gd_at (t := 15) rfl (by simp only [EN, Nat.reduceEqDiff, reduceIte, strEq, hB1.cell, hB2.cell] <;> rfl)) (fun hg1_14 => by simp only [EN, Nat.reduceEqDiff, reduceIte, qv_binOp, binv_neq, eq3, Option.map_some, strEq, hB1.cell, hB2.cell, hg1_14, GR]; rfl) ?_
  iterate 2 refine WL.qq (by simp only [EN, Nat.reduceEqDiff, reduceIte, qv_pick, pk_and, pk_or, GR, strEq, hB1.cell, hB2.cell, qv_move]; rfl) ?_
  refine WL.cq (gd_at (t := 24) rfl (by simp only [EN, Nat.reduceEqDiff, reduceIte, strEq, hB1.cell, hB2.cell] <;> rfl)) (fun hg1_17 => by simp only [EN, Nat.reduceEqDiff, reduceIte, qv_fieldAddr, fa34_2, Nat.zero_add, Nat.reduceAdd, strEq, hB1.cell, hB2.cell, hg1_17, GR]; rfl) ?_
  refine WL.cq (gd_at (t := 24) rfl (by simp only [EN, Nat.reduceEqDiff, reduceIte, strEq, hB1.cell, hB2.cell] <;> rfl)) (fun hg1_18 => by simp only [EN, Nat.reduceEqDiff, reduceIte, qv_load, ld3, readN, AR, Nat.zero_add, Nat.reduceAdd, strEq, hB1.cell, hB2.cell, hg1_18, GR]; rfl) ?_
  refine WL.cq (gd_at (t := 24) rfl (by simp only [EN, Nat.reduceEqDiff, reduceIte, strEq, hB1.cell, hB2.cell] <;> rfl)) (fun hg1_19 => by simp only [EN, Nat.reduceEqDiff, reduceIte, qv_fieldAddr, fa34_2, Nat.zero_add, Nat.reduceAdd, strEq, hB1.cell, hB2.cell, hg1_19, GR]; rfl) ?_
  refine WL.cq (gd_at (t := 24) rfl (by simp only [EN, Nat.reduceEqDiff, reduceIte, strEq, hB1.cell, hB2.cell] <;> rfl)) (fun hg1_20 => by simp only [EN, Nat.reduceEqDiff, reduceIte, qv_load, ld3, readN, AR, Nat.zero_add, Nat.reduceAdd, strEq, hB1.cell, hB2.cell, hg1_20, GR]; rfl) ?_
  refine WL.cq (gd_at (t := 24) rfl (by simp only [EN, Nat.reduceEqDiff, reduceIte, strEq, hB1.cell, hB2.cell] <;> rfl)) (fun hg1_21 => by simp only [EN, Nat.reduceEqDiff, reduceIte, qv_binOp, binv_neq, eq3, Option.map_some, strEq, hB1.cell, hB2.cell, hg1_21, GR]; rfl) ?_
  iterate 2 refine WL.qq (by simp only [EN, Nat.reduceEqDiff, reduceIte, qv_pick, pk_and, pk_or, GR, strEq, hB1.cell, hB2.cell, qv_move]; rfl) ?_
  refine WL.cq (gd_at (t := 31) rfl (by simp only [EN, Nat.reduceEqDiff, reduceIte, strEq, hB1.cell, hB2.cell] <;> rfl)) (fun hg1_24 => by simp only [EN, Nat.reduceEqDiff, reduceIte, qv_fieldAddr, fa34_3, Nat.zero_add, Nat.reduceAdd, strEq, hB1.cell, hB2.cell, hg1_24, GR]; rfl) ?_
  refine WL.cq (gd_at (t := 31) rfl (by simp only [EN, Nat.reduceEqDiff, reduceIte, strEq, hB1.cell, hB2.cell] <;> rfl)) (fun hg1_25 => by simp only [EN, Nat.reduceEqDiff, reduceIte, qv_load, ld25, readN, AR, Nat.zero_add, Nat.reduceAdd, strEq, hB1.cell, hB2.cell, hg1_25, GR]; rfl) ?_
  refine WL.cq (gd_at (t := 31) rfl (by simp only [EN, Nat.reduceEqDiff, reduceIte, strEq, hB1.cell, hB2.cell] <;> rfl)) (fun hg1_26 => by simp only [EN, Nat.reduceEqDiff, reduceIte, qv_fieldAddr, fa34_3, Nat.zero_add, Nat.reduceAdd, strEq, hB1.cell, hB2.cell, hg1_26, GR]; rfl) ?_
  refine WL.cq (gd_at (t := 31) rfl (by simp only [EN, Nat.reduceEqDiff, reduceIte, strEq, hB1.cell, hB2.cell] <;> rfl)) (fun hg1_27 => by simp only [EN, Nat.reduceEqDiff, reduceIte, qv_load, ld25, readN, AR, Nat.zero_add, Nat.reduceAdd, strEq, hB1.cell, hB2.cell, hg1_27, GR]; rfl) ?_
  refine WL.cq (gd_at (t := 31) rfl (by simp only [EN, Nat.reduceEqDiff, reduceIte, strEq, hB1.cell, hB2.cell] <;> rfl)) (fun hg1_28 => by simp only [EN, Nat.reduceEqDiff, reduceIte, qv_binOp, binv_neq, eqs25, Option.map_some, strEq, hB1.cell, hB2.cell, hg1_28, GR]; rfl) ?_
  iterate 2 refine WL.qq (by simp only [EN, Nat.reduceEqDiff, reduceIte, qv_pick, pk_and, pk_or, GR, strEq, hB1.cell, hB2.cell, qv_move]; rfl) ?_
  refine WL.cq (gd_at (t := 38) rfl (by simp only [EN, Nat.reduceEqDiff, reduceIte, strEq, hB1.cell, hB2.cell] <;> rfl)) (fun hg1_31 => by simp only [EN, Nat.reduceEqDiff, reduceIte, qv_fieldAddr, fa34_5, Nat.zero_add, Nat.reduceAdd, strEq, hB1.cell, hB2.cell, hg1_31, GR]; rfl) ?_
  refine WL.cq (gd_at (t := 38) rfl (by simp only [EN, Nat.reduceEqDiff, reduceIte, strEq, hB1.cell, hB2.cell] <;> rfl)) (fun hg1_32 => by simp only [EN, Nat.reduceEqDiff, reduceIte, qv_load, ld4, readN, AR, Nat.zero_add, Nat.reduceAdd, strEq, hB1.cell, hB2.cell, hg1_32, GR]; rfl) ?_
  refine WL.cq (gd_at (t := 38) rfl (by simp only [EN, Nat.reduceEqDiff, reduceIte, strEq, hB1.cell, hB2.cell] <;> rfl)) (fun hg1_33 => by simp only [EN, Nat.reduceEqDiff, reduceIte, qv_fieldAddr, fa34_5, Nat.zero_add, Nat.reduceAdd, strEq, hB1.cell, hB2.cell, hg1_33, GR]; rfl) ?_
  refine WL.cq (gd_at (t := 38) rfl (by simp only [EN, Nat.reduceEqDiff, reduceIte, strEq, hB1.cell, hB2.cell] <;> rfl)) (fun hg1_34 => by simp only [EN, Nat.reduceEqDiff, reduceIte, qv_load, ld4, readN, AR, Nat.zero_add, Nat.reduceAdd, strEq, hB1.cell, hB2.cell, hg1_34, GR]; rfl) ?_
  refine WL.cq (gd_at (t := 38) rfl (by simp only [EN, Nat.reduceEqDiff, reduceIte, strEq, hB1.cell, hB2.cell] <;> rfl)) (fun hg1_35 => by simp only [EN, Nat.reduceEqDiff, reduceIte, qv_binOp, binv_neq, eq4, Option.map_some, strEq, hB1.cell, hB2.cell, hg1_35, GR]; rfl) ?_
  refine WL.qq (by simp only [EN, Nat.reduceEqDiff, reduceIte, qv_pick, pk_and, pk_or, GR, strEq, hB1.cell, hB2.cell]; rfl) ?_
  refine WL.nil (th_norm ?_)
  refine hx_cond (by simp only [EN, Nat.reduceEqDiff, reduceIte, strEq, hB1.cell, hB2.cell]; rfl) (fun hct44 => ?_) (fun hct44 => ?_)
  ·
   try simp only [BD] at hct44
   refine hx_seq (hx_region ?_)
   refine WL.qq (by simp only [EN, Nat.reduceEqDiff, reduceIte, qv_assign, strEq, hB1.cell, hB2.cell]; rfl) ?_
   refine WL.nil (th_norm (hx_ret (th_ret ?_)))
   refine fin_ret [.tmp 4] rfl rfl (by simp only [EN, Nat.reduceEqDiff, reduceIte, resv, e0, e1, strEq, hB1.cell, hB2.cell]; rfl) ?_
   exact ⟨((hx1).trans (hx2)), false, rfl, by simp only [Bool.false_eq_true, false_iff]; rintro ⟨h1, h2, h3, h4, h5, h6, _⟩; rw [h1, h2, h3, h4, h5, h6] at hct44; simp at hct44⟩
  ·
   try simp only [BD] at hct44
   have hl1 : E.hs.length = F.hs.length := (by omega)
   have hl2 : E.os.length = F.os.length := (by omega)
   have hl3 : E.d = F.d := (by omega)
   refine hx_skip (th_norm (hx_seq (hx_seq (hx_region ?_))))
   refine WL.qq (by simp only [EN, Nat.reduceEqDiff, reduceIte, qv_assign, strEq, hB1.cell, hB2.cell]; rfl) ?_
   refine WL.nil (th_norm (hx_block ?_))
   refine hx_loopS [4, 5, 45, 46, 47, 48, 49, 50, 51, 52, 53, 54, 55, 56, 57, 58, 59, 60, 61, 62] (fun k e => ∃ (i : Nat), E.os.length - i = k ∧ (i ≤ E.os.length) ∧ (E.os.take i = F.os.take i) ∧ e 5 = .int .i64 i) _ ⟨0, rfl, ?_, ?_, ?_⟩ ?_
   · omega
   · rfl
   · simp only [EN, Nat.reduceEqDiff, reduceIte, e0, e1, strEq, hB1.cell, hB2.cell] <;> rfl
   ·
    rintro k e0L hfr0 ⟨i, rfl, hi, ht, i5_0⟩
    have k2_0 := hfr0 2 rfl; try simp only [EN, Nat.reduceEqDiff, reduceIte, strEq, hB1.cell, hB2.cell] at k2_0
    have k3_0 := hfr0 3 rfl; try simp only [EN, Nat.reduceEqDiff, reduceIte, strEq, hB1.cell, hB2.cell] at k3_0
    refine hx_seq (hx_seq (hx_region ?_))
    iterate 5 refine WL.qq (by simp only [EN, Nat.reduceEqDiff, reduceIte, qv_move, i5_0, strEq, hB1.cell, hB2.cell, qv_fieldAddr, fa34_1, Nat.zero_add, Nat.reduceAdd, k2_0, qv_load, ld23, readN, AR, qv_len, ln23, qv_binOp, binv_lss]; rfl) ?_
    refine WL.nil (th_norm ?_)
    refine hx_cond (by simp only [EN, Nat.reduceEqDiff, reduceIte, strEq, hB1.cell, hB2.cell]; rfl) (fun hct49 => ?_) (fun hct49 => ?_)
    ·
     try simp only [BD] at hct49
     obtain ⟨x, hx⟩ := atG (l := E.os) (i := i) (by omega); obtain ⟨y, hy⟩ := atG (l := F.os) (i := i) (by omega)
     obtain ⟨b1, o1, ha1, hr1, _⟩ := si_rd hso.rd hx; obtain ⟨b2, o2, ha2, hr2, _⟩ := si_rd hto.rd hy
     refine hx_skip (th_norm (hx_seq (hx_block (hx_seq ?_))))
     apply hx_draw2 Rel.same [] [] [] rfl (by decide +kernel) rfl
     iterate 3 refine LD.qq rfl rfl (by simp only [EN, Nat.reduceEqDiff, reduceIte, qv_fieldAddr, fa34_1, Nat.zero_add, Nat.reduceAdd, k2_0, strEq, hB1.cell, hB2.cell, qv_load, ld23, readN, AR, qv_move, i5_0]; rfl) ?_
     refine LD.qq rfl rfl (by simp only [EN, Nat.reduceEqDiff, reduceIte, qv_indexAddr, strEq, hB1.cell, hB2.cell, ha1]; (try simp (disch := omega) only [ix23, Int.toNat_natCast]); rfl) ?_
     refine LD.qq rfl rfl (by simp only [EN, Nat.reduceEqDiff, reduceIte, k2_0, k3_0, i5_0, strEq, hB1.cell, hB2.cell, qv_load, ld68, Int.toNat_natCast, hr1]; rfl) ?_
     iterate 3 refine LD.qq rfl rfl (by simp only [EN, Nat.reduceEqDiff, reduceIte, qv_fieldAddr, fa34_1, Nat.zero_add, Nat.reduceAdd, k3_0, strEq, hB1.cell, hB2.cell, qv_load, ld23, readN, AR, qv_move, i5_0]; rfl) ?_
     refine LD.qq rfl rfl (by simp only [EN, Nat.reduceEqDiff, reduceIte, qv_indexAddr, strEq, hB1.cell, hB2.cell, ha2]; (try simp (disch := omega) only [ix23, Int.toNat_natCast]); rfl) ?_
     refine LD.qq rfl rfl (by simp only [EN, Nat.reduceEqDiff, reduceIte, k2_0, k3_0, i5_0, strEq, hB1.cell, hB2.cell, qv_load, ld68, Int.toNat_natCast, hr2]; rfl) ?_
     refine LD.qq rfl rfl (by simp only [EN, Nat.reduceEqDiff, reduceIte, qv_binOp, binv_neq, eqs68, Option.map_some, strEq, hB1.cell, hB2.cell]; rfl) ?_
     refine LD.nil ?_
     rintro h2 rfl -
     refine WL.nil (th_norm ?_)
     refine hx_cond (by simp only [EN, Nat.reduceEqDiff, reduceIte, strEq, hB1.cell, hB2.cell]; rfl) (fun hct62 => ?_) (fun hct62 => ?_)
     ·
      try simp only [BD] at hct62
      refine hx_seq (hx_region ?_)
      refine WL.qq (by simp only [EN, Nat.reduceEqDiff, reduceIte, qv_assign, strEq, hB1.cell, hB2.cell]; rfl) ?_
      refine WL.nil (th_norm (hx_ret (bl_ret (th_ret (th_ret (bl_ret (th_ret ?_)))))))
      refine fin_ret [.tmp 4] rfl rfl (by simp only [EN, Nat.reduceEqDiff, reduceIte, resv, k2_0, k3_0, i5_0, strEq, hB1.cell, hB2.cell]; rfl) ?_
      exact ⟨((hx1).trans (hx2)), false, rfl, by simp only [Bool.false_eq_true, false_iff]; rintro ⟨_, h2, _⟩; rw [h2, hy] at hx; cases hx; simp at hct62⟩
     ·
      try simp only [BD] at hct62
      refine hx_skip (bl_norm (th_norm (hx_region ?_)))
      iterate 3 refine WL.qq (by simp only [EN, Nat.reduceEqDiff, reduceIte, qv_move, i5_0, strEq, hB1.cell, hB2.cell, qv_binOp, binv_add, qv_assign]; (try simp (disch := omega) only [w64, w8, wu64]); rfl) ?_
      refine WL.nil (th_norm ?_)
      refine ⟨rfl, rfl, ?_, _, ?_, i + 1, rfl, ?_, ?_, ?_⟩
      · (repeat (first | exact Fr.refl _ _ | refine Fr.set rfl ?_ | refine Fr.put rfl ?_ | with_reducible refine Fr.put0 ?_))
      · omega
      · omega
      · obtain rfl : x = y := (by rw [si_eq]; simpa using hct62); exact tk_step hx hy ht
      · simp only [EN, Nat.reduceEqDiff, reduceIte, k2_0, k3_0, i5_0, strEq, hB1.cell, hB2.cell] <;> first | rfl | (congr 1; omega)
    ·
     try simp only [BD] at hct49
     obtain rfl : i = E.os.length := (by omega)
     have heo : E.os = F.os := eq_tk hl2 ht
     refine hx_exit (th_exit (th_exit (bl_hit (th_norm (hx_seq (hx_seq (hx_region ?_)))))))
     refine WL.qq (by simp only [EN, Nat.reduceEqDiff, reduceIte, qv_assign, strEq, hB1.cell, hB2.cell]; rfl) ?_
     refine WL.nil (th_norm (hx_block ?_))
     refine hx_loopS [4, 6, 7, 63, 64, 65, 66, 67, 68, 69, 70, 71, 72, 73, 74, 75, 76, 77, 78, 79, 80, 81, 82, 83, 84, 85, 86, 87, 88, 89, 90, 91, 92, 93, 94, 95, 96, 97, 98, 99, 100, 101, 102, 103, 104] (fun k e => ∃ (i : Nat), E.hs.length - i = k ∧ (i ≤ E.hs.length) ∧ (E.hs.take i = F.hs.take i) ∧ ((∀ x ∈ E.hs.take i, ∀ k, k < E.os.length → chE E x.s k = chE F x.s k)) ∧ e 6 = .int .i64 i) _ ⟨0, rfl, ?_, ?_, ?_, ?_⟩ ?_
     · omega
     · rfl
     · intro x hx; simp at hx
     · simp only [EN, Nat.reduceEqDiff, reduceIte, k2_0, k3_0, i5_0, strEq, hB1.cell, hB2.cell] <;> rfl
     ·
      rintro k e1L hfr1 ⟨i, rfl, hi, ht2, hch, i6_1⟩
      have k2_1 := hfr1 2 rfl; try simp only [EN, Nat.reduceEqDiff, reduceIte, k2_0, strEq, hB1.cell, hB2.cell] at k2_1
      have k3_1 := hfr1 3 rfl; try simp only [EN, Nat.reduceEqDiff, reduceIte, k3_0, strEq, hB1.cell, hB2.cell] at k3_1
      refine hx_seq (hx_seq (hx_region ?_))
      iterate 5 refine WL.qq (by simp only [EN, Nat.reduceEqDiff, reduceIte, qv_move, i6_1, strEq, hB1.cell, hB2.cell, qv_fieldAddr, fa34_0, Nat.zero_add, Nat.reduceAdd, k2_1, qv_load, ld22, readN, AR, qv_len, ln22, qv_binOp, binv_lss]; rfl) ?_
      refine WL.nil (th_norm ?_)
      refine hx_cond (by simp only [EN, Nat.reduceEqDiff, reduceIte, strEq, hB1.cell, hB2.cell]; rfl) (fun hct67 => ?_) (fun hct67 => ?_)
      ·
       try simp only [BD] at hct67
       obtain ⟨x, hx⟩ := atG (l := E.hs) (i := i) (by omega); obtain ⟨y, hy⟩ := atG (l := F.hs) (i := i) (by omega)
       obtain ⟨b1, o1, ha1, hr1, _⟩ := si_rd hsh.rd hx; obtain ⟨b2, o2, ha2, hr2, _⟩ := si_rd hth.rd hy
       refine hx_skip (th_norm (hx_seq (hx_block (hx_seq (hx_seq ?_)))))
       apply hx_draw2 Rel.same [] [] [] rfl (by decide +kernel) rfl
       iterate 3 refine LD.qq rfl rfl (by simp only [EN, Nat.reduceEqDiff, reduceIte, qv_fieldAddr, fa34_0, Nat.zero_add, Nat.reduceAdd, k2_1, strEq, hB1.cell, hB2.cell, qv_load, ld22, readN, AR, qv_move, i6_1]; rfl) ?_
       refine LD.qq rfl rfl (by simp only [EN, Nat.reduceEqDiff, reduceIte, qv_indexAddr, strEq, hB1.cell, hB2.cell, ha1]; (try simp (disch := omega) only [ix22, Int.toNat_natCast]); rfl) ?_
       refine LD.qq rfl rfl (by simp only [EN, Nat.reduceEqDiff, reduceIte, k2_1, k3_1, i6_1, strEq, hB1.cell, hB2.cell, qv_load, ld66, Int.toNat_natCast, hr1]; rfl) ?_
       iterate 3 refine LD.qq rfl rfl (by simp only [EN, Nat.reduceEqDiff, reduceIte, qv_fieldAddr, fa34_0, Nat.zero_add, Nat.reduceAdd, k3_1, strEq, hB1.cell, hB2.cell, qv_load, ld22, readN, AR, qv_move, i6_1]; rfl) ?_
       refine LD.qq rfl rfl (by simp only [EN, Nat.reduceEqDiff, reduceIte, qv_indexAddr, strEq, hB1.cell, hB2.cell, ha2]; (try simp (disch := omega) only [ix22, Int.toNat_natCast]); rfl) ?_
       refine LD.qq rfl rfl (by simp only [EN, Nat.reduceEqDiff, reduceIte, k2_1, k3_1, i6_1, strEq, hB1.cell, hB2.cell, qv_load, ld66, Int.toNat_natCast, hr2]; rfl) ?_
       refine LD.qq rfl rfl (by simp only [EN, Nat.reduceEqDiff, reduceIte, qv_binOp, binv_neq, eqs66, Option.map_some, strEq, hB1.cell, hB2.cell]; rfl) ?_
       refine LD.nil ?_
       rintro h2 rfl -
       refine WL.nil (th_norm ?_)
       refine hx_cond (by simp only [EN, Nat.reduceEqDiff, reduceIte, strEq, hB1.cell, hB2.cell]; rfl) (fun hct80 => ?_) (fun hct80 => ?_)
       ·
        try simp only [BD] at hct80
        refine hx_seq (hx_region ?_)
        refine WL.qq (by simp only [EN, Nat.reduceEqDiff, reduceIte, qv_assign, strEq, hB1.cell, hB2.cell]; rfl) ?_
        refine WL.nil (th_norm (hx_ret (th_ret (bl_ret (th_ret (th_ret (bl_ret (th_ret ?_))))))))
        refine fin_ret [.tmp 4] rfl rfl (by simp only [EN, Nat.reduceEqDiff, reduceIte, resv, k2_1, k3_1, i6_1, strEq, hB1.cell, hB2.cell]; rfl) ?_
        exact ⟨((hx1).trans (hx2)), false, rfl, by simp only [Bool.false_eq_true, false_iff]; rintro ⟨h1, _⟩; rw [h1, hy] at hx; cases hx; simp at hct80⟩
       ·
        try simp only [BD] at hct80
        obtain rfl : x = y := (by rw [si_eq]; simpa using hct80)
        refine hx_skip (th_norm (hx_seq (hx_region ?_)))
        refine WL.qq (by simp only [EN, Nat.reduceEqDiff, reduceIte, qv_assign, strEq, hB1.cell, hB2.cell]; rfl) ?_
        refine WL.nil (th_norm (hx_block ?_))
        refine hx_loopS [4, 7, 81, 82, 83, 84, 85, 86, 87, 88, 89, 90, 91, 92, 93, 94, 95, 96, 97, 98, 99, 100, 101, 102, 103, 104] (fun k e => ∃ (k2 : Nat), E.os.length - k2 = k ∧ (k2 ≤ E.os.length) ∧ ((∀ k, k < k2 → chE E x.s k = chE F x.s k)) ∧ e 7 = .int .i64 k2) _ ⟨0, rfl, ?_, ?_, ?_⟩ ?_
        · omega
        · intro k hk; omega
        · simp only [EN, Nat.reduceEqDiff, reduceIte, k2_1, k3_1, i6_1, strEq, hB1.cell, hB2.cell] <;> rfl
        ·
         rintro k e2L hfr2 ⟨k2, rfl, hk2, hck, i7_2⟩
         have k2_2 := hfr2 2 rfl; try simp only [EN, Nat.reduceEqDiff, reduceIte, k2_1, strEq, hB1.cell, hB2.cell] at k2_2
         have k3_2 := hfr2 3 rfl; try simp only [EN, Nat.reduceEqDiff, reduceIte, k3_1, strEq, hB1.cell, hB2.cell] at k3_2
         have k6_2 := hfr2 6 rfl; try simp only [EN, Nat.reduceEqDiff, reduceIte, i6_1, strEq, hB1.cell, hB2.cell] at k6_2
         refine hx_seq (hx_seq (hx_region ?_))
         iterate 5 refine WL.qq (by simp only [EN, Nat.reduceEqDiff, reduceIte, qv_move, i7_2, strEq, hB1.cell, hB2.cell, qv_fieldAddr, fa34_1, Nat.zero_add, Nat.reduceAdd, k2_2, qv_load, ld23, readN, AR, qv_len, ln23, qv_binOp, binv_lss]; rfl) ?_
         refine WL.nil (th_norm ?_)
         refine hx_cond (by simp only [EN, Nat.reduceEqDiff, reduceIte, strEq, hB1.cell, hB2.cell]; rfl) (fun hct85 => ?_) (fun hct85 => ?_)
         ·
          try simp only [BD] at hct85
          obtain ⟨b3, o3, b4, o4, c4, ha3, hc3, hc4⟩ := row_rd hsc.rd hri hx (k := k2) (by omega)
          obtain ⟨b5, o5, b6, o6, c6, ha5, hc5, hc6⟩ := row_rd htc.rd htri hy (k := k2) (by omega)
          refine hx_skip (th_norm (hx_seq (hx_block (hx_seq ?_))))
          apply hx_draw2 Rel.same [] [] [] rfl (by decide +kernel) rfl
          iterate 3 refine LD.qq rfl rfl (by simp only [EN, Nat.reduceEqDiff, reduceIte, qv_fieldAddr, fa34_4, Nat.zero_add, Nat.reduceAdd, k2_2, strEq, hB1.cell, hB2.cell, qv_load, ld32, readN, AR, qv_move, k6_2]; rfl) ?_
          refine LD.qq rfl rfl (by simp only [EN, Nat.reduceEqDiff, reduceIte, qv_indexAddr, strEq, hB1.cell, hB2.cell, ha3]; (try simp (disch := omega) only [ix32, Int.toNat_natCast]); rfl) ?_
          refine LD.qq rfl rfl (by simp only [EN, Nat.reduceEqDiff, reduceIte, k2_2, k3_2, k6_2, i7_2, strEq, hB1.cell, hB2.cell, qv_load, ld55, Int.toNat_natCast, Nat.mul_one, hc3]; rfl) ?_
          iterate 2 refine LD.qq rfl rfl (by simp only [EN, Nat.reduceEqDiff, reduceIte, qv_move, i7_2, strEq, hB1.cell, hB2.cell, qv_indexAddr]; (try simp (disch := omega) only [ix55, Int.toNat_natCast]); rfl) ?_
          refine LD.qq rfl rfl (by simp only [EN, Nat.reduceEqDiff, reduceIte, k2_2, k3_2, k6_2, i7_2, strEq, hB1.cell, hB2.cell, qv_load, ld2, Int.toNat_natCast, Nat.mul_one, hc4]; rfl) ?_
          iterate 3 refine LD.qq rfl rfl (by simp only [EN, Nat.reduceEqDiff, reduceIte, qv_fieldAddr, fa34_4, Nat.zero_add, Nat.reduceAdd, k3_2, strEq, hB1.cell, hB2.cell, qv_load, ld32, readN, AR, qv_move, k6_2]; rfl) ?_
          refine LD.qq rfl rfl (by simp only [EN, Nat.reduceEqDiff, reduceIte, qv_indexAddr, strEq, hB1.cell, hB2.cell, ha5]; (try simp (disch := omega) only [ix32, Int.toNat_natCast]); rfl) ?_
          refine LD.qq rfl rfl (by simp only [EN, Nat.reduceEqDiff, reduceIte, k2_2, k3_2, k6_2, i7_2, strEq, hB1.cell, hB2.cell, qv_load, ld55, Int.toNat_natCast, Nat.mul_one, hc5]; rfl) ?_
          iterate 2 refine LD.qq rfl rfl (by simp only [EN, Nat.reduceEqDiff, reduceIte, qv_move, i7_2, strEq, hB1.cell, hB2.cell, qv_indexAddr]; (try simp (disch := omega) only [ix55, Int.toNat_natCast]); rfl) ?_
          refine LD.qq rfl rfl (by simp only [EN, Nat.reduceEqDiff, reduceIte, k2_2, k3_2, k6_2, i7_2, strEq, hB1.cell, hB2.cell, qv_load, ld2, Int.toNat_natCast, Nat.mul_one, hc6]; rfl) ?_
          refine LD.qq rfl rfl (by simp only [EN, Nat.reduceEqDiff, reduceIte, qv_binOp, binv_neq, eq2, Option.map_some, strEq, hB1.cell, hB2.cell]; rfl) ?_
          refine LD.nil ?_
          rintro h2 rfl -
          refine WL.nil (th_norm ?_)
          refine hx_cond (by simp only [EN, Nat.reduceEqDiff, reduceIte, strEq, hB1.cell, hB2.cell]; rfl) (fun hct104 => ?_) (fun hct104 => ?_)
          ·
           try simp only [BD] at hct104
           refine hx_seq (hx_region ?_)
           refine WL.qq (by simp only [EN, Nat.reduceEqDiff, reduceIte, qv_assign, strEq, hB1.cell, hB2.cell]; rfl) ?_
           refine WL.nil (th_norm (hx_ret (bl_ret (th_ret (th_ret (bl_ret (bl_ret (th_ret (th_ret (bl_ret (th_ret ?_)))))))))))
           refine fin_ret [.tmp 4] rfl rfl (by simp only [EN, Nat.reduceEqDiff, reduceIte, resv, k2_2, k3_2, k6_2, i7_2, strEq, hB1.cell, hB2.cell]; rfl) ?_
           exact ⟨((hx1).trans (hx2)), false, rfl, by simp only [Bool.false_eq_true, false_iff]; rintro ⟨_, _, _, _, _, _, h7⟩; exact absurd (h7 x (List.mem_of_getElem? hx) k2 (by omega)) (by simpa using hct104)⟩
          ·
           try simp only [BD] at hct104
           refine hx_skip (bl_norm (th_norm (hx_region ?_)))
           iterate 3 refine WL.qq (by simp only [EN, Nat.reduceEqDiff, reduceIte, qv_move, i7_2, strEq, hB1.cell, hB2.cell, qv_binOp, binv_add, qv_assign]; (try simp (disch := omega) only [w64, w8, wu64]); rfl) ?_
           refine WL.nil (th_norm ?_)
           refine ⟨rfl, rfl, ?_, _, ?_, k2 + 1, rfl, ?_, ?_, ?_⟩
           · (repeat (first | exact Fr.refl _ _ | refine Fr.set rfl ?_ | refine Fr.put rfl ?_ | with_reducible refine Fr.put0 ?_))
           · omega
           · omega
           · intro k hk; by_cases h9 : k = k2; (subst h9; simpa using hct104); exact hck k (by omega)
           · simp only [EN, Nat.reduceEqDiff, reduceIte, k2_2, k3_2, k6_2, i7_2, strEq, hB1.cell, hB2.cell] <;> first | rfl | (congr 1; omega)
         ·
          try simp only [BD] at hct85
          obtain rfl : k2 = E.os.length := (by omega)
          refine hx_exit (th_exit (th_exit (bl_hit (bl_norm (th_norm (hx_region ?_))))))
          iterate 3 refine WL.qq (by simp only [EN, Nat.reduceEqDiff, reduceIte, qv_move, k6_2, strEq, hB1.cell, hB2.cell, qv_binOp, binv_add, qv_assign]; (try simp (disch := omega) only [w64, w8, wu64]); rfl) ?_
          refine WL.nil (th_norm ?_)
          refine ⟨rfl, rfl, ?_, _, ?_, i + 1, rfl, ?_, ?_, ?_, ?_⟩
          · (repeat (first | exact Fr.refl _ _ | refine Fr.set rfl ?_ | refine Fr.put rfl ?_ | with_reducible refine Fr.put0 ?_ | refine Fr.trans ?_ (Fr.of hfr2 rfl)))
          · omega
          · omega
          · exact tk_step hx hy ht2
          · exact all_take (p := fun x => ∀ k, k < E.os.length → chE E x.s k = chE F x.s k) hch hx hck
          · simp only [EN, Nat.reduceEqDiff, reduceIte, k2_2, k3_2, k6_2, i7_2, strEq, hB1.cell, hB2.cell] <;> first | rfl | (congr 1; omega)
      ·
       try simp only [BD] at hct67
       obtain rfl : i = E.hs.length := (by omega)
       have heh : E.hs = F.hs := eq_tk hl1 ht2; rw [List.take_length] at hch
       refine hx_exit (th_exit (th_exit (bl_hit (th_norm (hx_seq (hx_region ?_))))))
       refine WL.qq (by simp only [EN, Nat.reduceEqDiff, reduceIte, qv_assign, strEq, hB1.cell, hB2.cell]; rfl) ?_
       refine WL.nil (th_norm (hx_ret ?_))
       refine fin_ret [.tmp 4] rfl rfl (by simp only [EN, Nat.reduceEqDiff, reduceIte, resv, k2_1, k3_1, i6_1, strEq, hB1.cell, hB2.cell]; rfl) ?_
       exact ⟨((hx1).trans (hx2)), true, rfl, by simp only [true_iff]; exact ⟨heh, heo, hl3, by simp at hct44; omega, by simp at hct44; omega, by simp at hct44; simp [hct44], hch⟩⟩
end
end GL
namespace GL
open Go Go.Proofs
set_option maxRecDepth 8000
theorem dv_half (n b : Nat) : n / 2 ^ b = 2 * (n / 2 ^ (b + 1)) + n / 2 ^ b % 2 := by
  rw [Nat.pow_succ, ← Nat.div_div_eq_div_mul]
  have := Nat.div_add_mod (n / 2 ^ b) 2
  omega
theorem dv_fin {Q R d : Nat} : (Q + R / d) * d + R % d = Q * d + R := by
  rw [Nat.add_mul, Nat.add_assoc, Nat.div_add_mod']
theorem dv_one {x n d b q r : Nat} (hq : q * d + r = x * (n / 2 ^ (b + 1))) (h1 : n / 2 ^ b % 2 = 1) : (2 * q + x / d + (2 * r + x % d) / d) * d + (2 * r + x % d) % d = x * (n / 2 ^ b) := by
  rw [dv_fin, dv_half n b, h1, Nat.mul_add, Nat.mul_one, Nat.mul_left_comm, ← hq, Nat.add_mul, Nat.mul_assoc]
  have := Nat.div_add_mod' x d
  omega
theorem dv_zero {x n d b q r : Nat} (hq : q * d + r = x * (n / 2 ^ (b + 1))) (h1 : n / 2 ^ b % 2 = 0) : (2 * q + (2 * r) / d) * d + (2 * r) % d = x * (n / 2 ^ b) := by
  rw [dv_fin, dv_half n b, h1, Nat.add_zero, Nat.mul_left_comm, ← hq, Nat.mul_assoc]
  omega
theorem dv_le {x n d e q r : Nat} (hd : 0 < d) (hn : n ≤ d) (hq : q * d + r = x * (n / 2 ^ e)) : q ≤ x := by
  have h1 : x * (n / 2 ^ e) ≤ x * d := Nat.mul_le_mul_left x (Nat.le_trans (Nat.div_le_self _ _) hn)
  exact Nat.le_of_mul_le_mul_right (Nat.le_trans (by omega) h1) hd
theorem shrI {P : Program} {t : TypeId} (a s : Nat) (hs : s ≤ 64) : binv P .shr t (.int .u64 (a : Int)) (.int .i64 (s : Int)) = some (.int .u64 ((a / 2 ^ s : Nat) : Int)) := by
  have h1 := shr_nat (P := P) (t := t) a s hs
  simp only [binv] at h1 ⊢
  exact h1
theorem quo_le (a b : Nat) : a / b ≤ a := Nat.div_le_self a b
set_option maxHeartbeats 2000000 in
theorem c_divide (x n d : Nat) (hx : x ≤ 1000000000000000) (hn : n ≤ d) (hd0 : 0 < d) (hd : d ≤ 1000000000000000) (h : Heap) : HCalls Tryz.prog 70 #[uV x, uV n, uV d] h (Pure (.tuple #[uV (x * n / d), uV (x * n % d)]) h) := by
  refine hcalls2 Tryz.func70 rfl (by decide +kernel) (by simp only [Tryz.ntmps70]; exact of_decide_eq_true rfl) ?_
  intro e hin
  have e0 := hin 0 _ rfl
  have e1 := hin 1 _ rfl
  have e2 := hin 2 _ rfl
  refine hx_seq (hx_region ?_)
  iterate 2 refine WL.qq (by simp only [EN, Nat.reduceEqDiff, reduceIte, qv_assign]; rfl) ?_
  refine WL.nil (th_norm (hx_seq (hx_region ?_)))
  iterate 2 refine WL.qq (by simp only [EN, Nat.reduceEqDiff, reduceIte, qv_assign]; rfl) ?_
  refine WL.nil (th_norm (hx_seq (hx_seq (hx_region ?_))))
  refine WL.qq (by simp only [EN, Nat.reduceEqDiff, reduceIte, qv_assign]; rfl) ?_
  refine WL.nil (th_norm (hx_block ?_))
  refine hx_loopS [8, 9, 10, 11, 12, 13, 14, 15, 16, 17, 18, 19, 20, 21, 22, 23, 24, 25, 26, 27, 28, 29, 30, 31, 32, 33, 34, 35, 36, 37, 38, 39, 40, 41, 42, 43] (fun k e => ∃ (z : Nat) (q : Nat) (r : Nat), z = k ∧ (z ≤ 50) ∧ (q * d + r = x * (n / 2 ^ z)) ∧ (r < d) ∧ e 10 = iV ((z : Int) - 1) ∧ e 8 = uV q ∧ e 9 = uV r) _ ⟨50, 0, 0, rfl, ?_, ?_, ?_, ?_, ?_, ?_⟩ ?_
  · omega
  · rw [Nat.div_eq_of_lt (show n < 2 ^ 50 by omega)]; omega
  · exact hd0
  · simp only [EN, Nat.reduceEqDiff, reduceIte, e0, e1, e2] <;> rfl
  · simp only [EN, Nat.reduceEqDiff, reduceIte, e0, e1, e2] <;> rfl
  · simp only [EN, Nat.reduceEqDiff, reduceIte, e0, e1, e2] <;> rfl
  ·
   rintro k e0L hfr0 ⟨z, q, r, rfl, hz, hq, hr, i10_0, i8_0, i9_0⟩
   have k0_0 := hfr0 0 rfl; try simp only [EN, Nat.reduceEqDiff, reduceIte, e0] at k0_0
   have k1_0 := hfr0 1 rfl; try simp only [EN, Nat.reduceEqDiff, reduceIte, e1] at k1_0
   have k2_0 := hfr0 2 rfl; try simp only [EN, Nat.reduceEqDiff, reduceIte, e2] at k2_0
   refine hx_seq (hx_seq (hx_region ?_))
   iterate 2 refine WL.qq (by simp only [EN, Nat.reduceEqDiff, reduceIte, qv_move, i10_0, qv_binOp, binv_geq]; rfl) ?_
   refine WL.nil (th_norm ?_)
   refine hx_cond (by simp only [EN, Nat.reduceEqDiff, reduceIte]; rfl) (fun hct12 => ?_) (fun hct12 => ?_)
   ·
    try simp only [BD] at hct12
    obtain ⟨b, rfl⟩ : ∃ b, z = b + 1 := ⟨z - 1, by omega⟩
    have hqx := dv_le hd0 hn hq
    have hxd := quo_le x d; have hxm := Nat.mod_lt x hd0
    refine hx_skip (th_norm (hx_seq (hx_block (hx_seq (hx_region ?_)))))
    refine WL.qq (by simp only [EN, Nat.reduceEqDiff, reduceIte, qv_move, i8_0]; rfl) ?_
    refine WL.qq (by simp only [EN, Nat.reduceEqDiff, reduceIte, k0_0, k1_0, k2_0, i10_0, i8_0, i9_0, qv_binOp]; exact mulU 2 q (by omega)) ?_
    refine WL.qq (by simp only [EN, Nat.reduceEqDiff, reduceIte, qv_move, i9_0]; rfl) ?_
    refine WL.qq (by simp only [EN, Nat.reduceEqDiff, reduceIte, k0_0, k1_0, k2_0, i10_0, i8_0, i9_0, qv_binOp]; exact mulU 2 r (by omega)) ?_
    iterate 2 refine WL.qq (by simp only [EN, Nat.reduceEqDiff, reduceIte, qv_assign]; rfl) ?_
    refine WL.nil (th_norm (hx_seq (hx_seq (hx_region ?_))))
    iterate 2 refine WL.qq (by simp only [EN, Nat.reduceEqDiff, reduceIte, qv_move, k1_0, i10_0]; rfl) ?_
    refine WL.qq (by refine Eq.trans (b := some (uV (n / 2 ^ b))) ?_ rfl; simp only [EN, Nat.reduceEqDiff, reduceIte, k0_0, k1_0, k2_0, i10_0, i8_0, i9_0, qv_binOp]; rw [show iV (((b + 1 : Nat) : Int) - 1) = .int .i64 (b : Int) from (by congr 1; omega)]; exact shrI n b (by omega)) ?_
    refine WL.qq (by simp only [EN, Nat.reduceEqDiff, reduceIte, k0_0, k1_0, k2_0, i10_0, i8_0, i9_0, qv_binOp]; exact remU (n / 2 ^ b) 2 (by decide)) ?_
    refine WL.qq (by simp only [EN, Nat.reduceEqDiff, reduceIte, qv_binOp, binv_eql, eq136, Option.map_some]; rfl) ?_
    refine WL.nil (th_norm ?_)
    refine hx_cond (by simp only [EN, Nat.reduceEqDiff, reduceIte]; rfl) (fun hct23 => ?_) (fun hct23 => ?_)
    ·
     try simp only [BD] at hct23
     have hb1 : n / 2 ^ b % 2 = 1 := (by generalize n / 2 ^ b % 2 = c at hct23; omega)
     have hst := dv_one hq hb1
     obtain ⟨A, hA⟩ : ∃ A, A = x / d := ⟨_, rfl⟩; obtain ⟨C, hC⟩ : ∃ C, C = x % d := ⟨_, rfl⟩; rw [← hA] at hxd hst; rw [← hC] at hxm hst
     obtain ⟨Q, hQ⟩ : ∃ Q, Q = (2 * r + C) / d := ⟨_, rfl⟩; obtain ⟨r3, hr3⟩ : ∃ r3, r3 = (2 * r + C) % d := ⟨_, rfl⟩; have hQb := quo_le (2 * r + C) d; have hr3b := Nat.mod_lt (2 * r + C) hd0; rw [← hQ] at hQb hst; rw [← hr3] at hr3b hst
     obtain ⟨q3, hq3⟩ : ∃ q3, q3 = 2 * q + A + Q := ⟨_, rfl⟩; rw [← hq3] at hst; have hq3x := dv_le hd0 hn hst
     apply hx_draw2 Rel.same [] [] [] rfl (by decide +kernel) rfl
     iterate 3 refine LD.qq rfl rfl (by simp only [EN, Nat.reduceEqDiff, reduceIte, qv_move, i8_0, k0_0, k2_0]; rfl) ?_
     refine LD.qq rfl rfl (by refine Eq.trans (b := some (uV A)) ?_ rfl; simp only [EN, Nat.reduceEqDiff, reduceIte, k0_0, k1_0, k2_0, i10_0, i8_0, i9_0, qv_binOp]; rw [hA]; exact quoU x d (by omega) (by omega)) ?_
     refine LD.qq rfl rfl (by simp only [EN, Nat.reduceEqDiff, reduceIte, k0_0, k1_0, k2_0, i10_0, i8_0, i9_0, qv_binOp]; exact addU _ _ (by omega)) ?_
     iterate 3 refine LD.qq rfl rfl (by simp only [EN, Nat.reduceEqDiff, reduceIte, qv_move, i9_0, k0_0, k2_0]; rfl) ?_
     refine LD.qq rfl rfl (by refine Eq.trans (b := some (uV C)) ?_ rfl; simp only [EN, Nat.reduceEqDiff, reduceIte, k0_0, k1_0, k2_0, i10_0, i8_0, i9_0, qv_binOp]; rw [hC]; exact remU x d (by omega)) ?_
     refine LD.qq rfl rfl (by simp only [EN, Nat.reduceEqDiff, reduceIte, k0_0, k1_0, k2_0, i10_0, i8_0, i9_0, qv_binOp]; exact addU _ _ (by omega)) ?_
     iterate 2 refine LD.qq rfl rfl (by simp only [EN, Nat.reduceEqDiff, reduceIte, qv_assign]; rfl) ?_
     refine LD.nil ?_
     rintro h rfl -
     refine WL.nil (th_norm (hx_seq ?_))
     apply hx_draw2 Rel.same [] [] [] rfl (by decide +kernel) rfl
     iterate 3 refine LD.qq rfl rfl (by simp only [EN, Nat.reduceEqDiff, reduceIte, qv_move, i8_0, i9_0, k2_0]; rfl) ?_
     refine LD.qq rfl rfl (by refine Eq.trans (b := some (uV Q)) ?_ rfl; simp only [EN, Nat.reduceEqDiff, reduceIte, k0_0, k1_0, k2_0, i10_0, i8_0, i9_0, qv_binOp]; rw [hQ]; exact quoU _ d (by omega) (by omega)) ?_
     refine LD.qq rfl rfl (by refine Eq.trans (b := some (uV q3)) ?_ rfl; simp only [EN, Nat.reduceEqDiff, reduceIte, k0_0, k1_0, k2_0, i10_0, i8_0, i9_0, qv_binOp]; rw [hq3]; exact addU _ _ (by omega)) ?_
     iterate 2 refine LD.qq rfl rfl (by simp only [EN, Nat.reduceEqDiff, reduceIte, qv_move, i9_0, k2_0]; rfl) ?_
     refine LD.qq rfl rfl (by refine Eq.trans (b := some (uV r3)) ?_ rfl; simp only [EN, Nat.reduceEqDiff, reduceIte, k0_0, k1_0, k2_0, i10_0, i8_0, i9_0, qv_binOp]; rw [hr3]; exact remU _ d (by omega)) ?_
     iterate 2 refine LD.qq rfl rfl (by simp only [EN, Nat.reduceEqDiff, reduceIte, qv_assign]; rfl) ?_
     refine LD.nil ?_
     rintro h rfl -
     refine WL.nil (th_norm (hx_seq (hx_region ?_)))
     iterate 2 refine WL.qq (by simp only [EN, Nat.reduceEqDiff, reduceIte, qv_move, i8_0, qv_binOp, binv_gtr]; rfl) ?_
     refine WL.nil (th_norm ?_)
     refine hx_cond (by simp only [EN, Nat.reduceEqDiff, reduceIte]; rfl) (fun hct43 => ?_) (fun hct43 => ?_)
     ·
      simp at hct43; omega
     ·
      try simp only [BD] at hct43
      refine hx_skip (bl_norm (th_norm (hx_region ?_)))
      iterate 3 refine WL.qq (by simp only [EN, Nat.reduceEqDiff, reduceIte, qv_move, i10_0, qv_binOp, binv_sub, qv_assign]; (try simp (disch := omega) only [w64, w8, wu64]); rfl) ?_
      refine WL.nil (th_norm ?_)
      refine ⟨rfl, rfl, ?_, _, ?_, b, q3, r3, rfl, ?_, ?_, ?_, ?_, ?_, ?_⟩
      · (repeat (first | exact Fr.refl _ _ | refine Fr.set rfl ?_ | refine Fr.put rfl ?_ | with_reducible refine Fr.put0 ?_))
      · omega
      · omega
      · exact hst
      · exact hr3b
      · simp only [EN, Nat.reduceEqDiff, reduceIte, k0_0, k1_0, k2_0, i10_0, i8_0, i9_0] <;> first | rfl | (congr 1; omega)
      · simp only [EN, Nat.reduceEqDiff, reduceIte, k0_0, k1_0, k2_0, i10_0, i8_0, i9_0] <;> first | rfl | (congr 1; omega)
      · simp only [EN, Nat.reduceEqDiff, reduceIte, k0_0, k1_0, k2_0, i10_0, i8_0, i9_0] <;> first | rfl | (congr 1; omega)
    ·
     try simp only [BD] at hct23
     have hb1 : n / 2 ^ b % 2 = 0 := (by generalize hc : n / 2 ^ b % 2 = c at hct23; have := Nat.mod_lt (n / 2 ^ b) (show 0 < 2 by decide); omega)
     have hst := dv_zero hq hb1
     obtain ⟨Q, hQ⟩ : ∃ Q, Q = (2 * r) / d := ⟨_, rfl⟩; obtain ⟨r3, hr3⟩ : ∃ r3, r3 = (2 * r) % d := ⟨_, rfl⟩; have hQb := quo_le (2 * r) d; have hr3b := Nat.mod_lt (2 * r) hd0; rw [← hQ] at hQb hst; rw [← hr3] at hr3b hst
     obtain ⟨q3, hq3⟩ : ∃ q3, q3 = 2 * q + Q := ⟨_, rfl⟩; rw [← hq3] at hst; have hq3x := dv_le hd0 hn hst
     refine hx_skip (th_norm (hx_seq ?_))
     apply hx_draw2 Rel.same [] [] [] rfl (by decide +kernel) rfl
     iterate 3 refine LD.qq rfl rfl (by simp only [EN, Nat.reduceEqDiff, reduceIte, qv_move, i8_0, i9_0, k2_0]; rfl) ?_
     refine LD.qq rfl rfl (by refine Eq.trans (b := some (uV Q)) ?_ rfl; simp only [EN, Nat.reduceEqDiff, reduceIte, k0_0, k1_0, k2_0, i10_0, i8_0, i9_0, qv_binOp]; rw [hQ]; exact quoU _ d (by omega) (by omega)) ?_
     refine LD.qq rfl rfl (by refine Eq.trans (b := some (uV q3)) ?_ rfl; simp only [EN, Nat.reduceEqDiff, reduceIte, k0_0, k1_0, k2_0, i10_0, i8_0, i9_0, qv_binOp]; rw [hq3]; exact addU _ _ (by omega)) ?_
     iterate 2 refine LD.qq rfl rfl (by simp only [EN, Nat.reduceEqDiff, reduceIte, qv_move, i9_0, k2_0]; rfl) ?_
     refine LD.qq rfl rfl (by refine Eq.trans (b := some (uV r3)) ?_ rfl; simp only [EN, Nat.reduceEqDiff, reduceIte, k0_0, k1_0, k2_0, i10_0, i8_0, i9_0, qv_binOp]; rw [hr3]; exact remU _ d (by omega)) ?_
     iterate 2 refine LD.qq rfl rfl (by simp only [EN, Nat.reduceEqDiff, reduceIte, qv_assign]; rfl) ?_
     refine LD.nil ?_
     rintro h rfl -
     refine WL.nil (th_norm (hx_seq (hx_region ?_)))
     iterate 2 refine WL.qq (by simp only [EN, Nat.reduceEqDiff, reduceIte, qv_move, i8_0, qv_binOp, binv_gtr]; rfl) ?_
     refine WL.nil (th_norm ?_)
     refine hx_cond (by simp only [EN, Nat.reduceEqDiff, reduceIte]; rfl) (fun hct43 => ?_) (fun hct43 => ?_)
     ·
      simp at hct43; omega
     ·
      try simp only [BD] at hct43
      refine hx_skip (bl_norm (th_norm (hx_region ?_)))
      iterate 3 refine WL.qq (by simp only [EN, Nat.reduceEqDiff, reduceIte, qv_move, i10_0, qv_binOp, binv_sub, qv_assign]; (try simp (disch := omega) only [w64, w8, wu64]); rfl) ?_
      refine WL.nil (th_norm ?_)
      refine ⟨rfl, rfl, ?_, _, ?_, b, q3, r3, rfl, ?_, ?_, ?_, ?_, ?_, ?_⟩
      · (repeat (first | exact Fr.refl _ _ | refine Fr.set rfl ?_ | refine Fr.put rfl ?_ | with_reducible refine Fr.put0 ?_))
      · omega
      · omega
      · exact hst
      · exact hr3b
      · simp only [EN, Nat.reduceEqDiff, reduceIte, k0_0, k1_0, k2_0, i10_0, i8_0, i9_0] <;> first | rfl | (congr 1; omega)
      · simp only [EN, Nat.reduceEqDiff, reduceIte, k0_0, k1_0, k2_0, i10_0, i8_0, i9_0] <;> first | rfl | (congr 1; omega)
      · simp only [EN, Nat.reduceEqDiff, reduceIte, k0_0, k1_0, k2_0, i10_0, i8_0, i9_0] <;> first | rfl | (congr 1; omega)
   ·
    try simp only [BD] at hct12
    obtain rfl : z = 0 := (by omega)
    rw [Nat.pow_zero, Nat.div_one] at hq; have hfq : x * n / d = q := (by rw [← hq, Nat.add_comm, Nat.add_mul_div_right _ _ hd0, Nat.div_eq_of_lt hr, Nat.zero_add]); have hfr : x * n % d = r := (by rw [← hq, Nat.add_comm, Nat.add_mul_mod_self_right, Nat.mod_eq_of_lt hr]); rw [hfq, hfr]
    refine hx_exit (th_exit (th_exit (bl_hit (th_norm (hx_seq (hx_region ?_))))))
    iterate 4 refine WL.qq (by simp only [EN, Nat.reduceEqDiff, reduceIte, qv_move, i8_0, i9_0, qv_assign]; rfl) ?_
    refine WL.nil (th_norm (hx_ret ?_))
    refine fin_ret [.tmp 6, .tmp 7] rfl rfl (by simp only [EN, Nat.reduceEqDiff, reduceIte, resv, k0_0, k1_0, k2_0, i10_0, i8_0, i9_0]; rfl) ?_
    exact ⟨rfl, rfl⟩
end GL
namespace GL
open Go Go.Proofs
set_option maxRecDepth 8000
theorem c_rsize (t : Nat) (ht : t ≤ 1000000000000000) (h : Heap) : HCalls Tryz.prog 69 #[iV t] h (Pure (uV t) h) := by
  refine hcalls2 Tryz.func69 rfl (by decide +kernel) (by simp only [Tryz.ntmps69]; exact of_decide_eq_true rfl) ?_
  intro e hin
  have e0 := hin 0 _ rfl
  refine hx_seq (hx_region ?_)
  refine WL.qq (by simp only [EN, Nat.reduceEqDiff, reduceIte, qv_assign]; rfl) ?_
  refine WL.nil (th_norm (hx_seq (hx_seq (hx_region ?_))))
  iterate 2 refine WL.qq (by simp only [EN, Nat.reduceEqDiff, reduceIte, qv_move, e0, qv_binOp, binv_lss]; rfl) ?_
  refine WL.nil (th_norm ?_)
  refine hx_cond (by simp only [EN, Nat.reduceEqDiff, reduceIte]; rfl) (fun hct4 => ?_) (fun hct4 => ?_)
  ·
   simp at hct4; omega
  ·
   try simp only [BD] at hct4
   refine hx_skip (th_norm (hx_seq (hx_region ?_)))
   refine WL.qq (by simp only [EN, Nat.reduceEqDiff, reduceIte, qv_move, e0]; rfl) ?_
   refine WL.qq (by refine Eq.trans (b := some (uV t)) ?_ rfl; simp only [EN, Nat.reduceEqDiff, reduceIte, e0, qv_convert, convv, Tryz.underlying2, Tryz.underlying136]; congr 2; exact wu64 (by omega) (by omega)) ?_
   refine WL.qq (by simp only [EN, Nat.reduceEqDiff, reduceIte, qv_assign]; rfl) ?_
   refine WL.nil (th_norm (hx_ret ?_))
   refine fin_ret [.tmp 2] rfl rfl (by simp only [EN, Nat.reduceEqDiff, reduceIte, resv, e0]; rfl) ?_
   exact ⟨rfl, rfl⟩
abbrev boL (b : Bool) : List Value := [.bool b]
def gvL (t S : Nat) (ws : List Nat) (k : Nat) : List Bool := ws.zipIdx.map fun p => decide (p.2 ∈ ((ordP (rst t S ws)).take k).map SP.i)
section
variable {t S : Nat} {ws : List Nat}
theorem gvL_len {k : Nat} : (gvL t S ws k).length = ws.length := by simp [gvL]
theorem gvL_at {k i : Nat} (h : i < ws.length) : (gvL t S ws k)[i]? = some (decide (i ∈ ((ordP (rst t S ws)).take k).map SP.i)) := by
  unfold gvL
  rw [List.getElem?_map, List.getElem?_zipIdx, List.getElem?_eq_getElem h]; simp
theorem gvL_0 : gvL t S ws 0 = List.replicate ws.length false := by
  apply List.ext_getElem?
  intro j
  by_cases hj : j < ws.length
  · rw [gvL_at hj, List.getElem?_replicate, if_pos hj]; simp
  · rw [List.getElem?_eq_none (by rw [gvL_len]; omega), List.getElem?_eq_none (by simp; omega)]
theorem gvL_step {k : Nat} {p : SP} (hk : (ordP (rst t S ws))[k]? = some p) (hp : p.i < ws.length) : (gvL t S ws k).set p.i true = gvL t S ws (k + 1) := by
  apply List.ext_getElem?
  intro j
  by_cases hj : j < ws.length
  · rw [gvL_at hj]
    by_cases hjp : p.i = j
    · subst hjp
      rw [List.getElem?_set_self (by rw [gvL_len]; exact hj), decide_eq_true ((ord_take hk _).2 (.inl rfl))]
    · rw [List.getElem?_set_ne hjp, gvL_at hj]
      congr 2
      simp only [ord_take hk, eq_comm (a := j), hjp, false_or]
  · rw [List.getElem?_eq_none (by rw [List.length_set, gvL_len]; omega), List.getElem?_eq_none (by rw [gvL_len]; omega)]
def Free (t S : Nat) (ws : List Nat) (k i : Nat) : Prop := i ∉ ((ordP (rst t S ws)).take k).map SP.i
def Bst (t S : Nat) (ws : List Nat) (k i : Nat) (b : Int) : Prop :=
  (b = -1 ∧ ∀ j, j < i → ¬ Free t S ws k j) ∨ ∃ q ∈ rst t S ws, b = q.i ∧ q.i < i ∧ Free t S ws k q.i ∧ ∀ z ∈ rst t S ws, z.i < i → Free t S ws k z.i → ¬ pLt z q
theorem Bst.zero {k : Nat} : Bst t S ws k 0 (-1) := .inl ⟨rfl, fun j hj => by omega⟩
theorem Bst.skip {k i : Nat} {b : Int} (h : Bst t S ws k i b) (hf : ¬ Free t S ws k i) : Bst t S ws k (i + 1) b := by
  rcases h with ⟨rfl, h⟩ | ⟨q, hq, hb, hlt, hfq, hz⟩
  · refine .inl ⟨rfl, fun j hj => ?_⟩
    by_cases hji : j = i
    · subst hji; exact hf
    · exact h j (by omega)
  · refine .inr ⟨q, hq, hb, by omega, hfq, fun z hzm hzi hzf => ?_⟩
    by_cases hji : z.i = i
    · rw [hji] at hzf; exact absurd hzf hf
    · exact hz z hzm (by omega) hzf
theorem rst_same {z q : SP} (hz : z ∈ rst t S ws) (hq : q ∈ rst t S ws) (h : z.i = q.i) : z = q := by
  have h1 := rst_idx hz
  rw [h, rst_idx hq] at h1
  exact (Option.some.inj h1).symm
theorem Bst.first {k i w : Nat} (h : Bst t S ws k i (-1)) (hw : ws[i]? = some w) (hf : Free t S ws k i) : Bst t S ws k (i + 1) i := by
  rcases h with ⟨_, h⟩ | ⟨q, hq, hb, hlt, hfq, hz⟩
  · have hm := List.mem_of_getElem? (rst_at (t := t) (S := S) hw)
    refine .inr ⟨_, hm, rfl, Nat.lt_succ_self _, hf, fun z hzm hzi hzf => ?_⟩
    by_cases hji : z.i = i
    · rw [rst_same hzm hm hji]; exact pLt_irrefl _
    · exact absurd hzf (h _ (by omega))
  · omega
theorem Bst.next {k i w : Nat} {q : SP} (hq : q ∈ rst t S ws) (h : Bst t S ws k i q.i) (hw : ws[i]? = some w) (hf : Free t S ws k i) : q.i < i ∧ Bst t S ws k (i + 1) (if q.r < t * w % S then (i : Int) else q.i) := by
  rcases h with ⟨hb, _⟩ | ⟨q2, hq2, hb, hlt, hfq, hz⟩
  · omega
  · obtain rfl : q = q2 := rst_same hq hq2 (by omega)
    have hm := List.mem_of_getElem? (rst_at (t := t) (S := S) hw)
    refine ⟨hlt, ?_⟩
    split
    · rename_i hr
      refine .inr ⟨_, hm, rfl, Nat.lt_succ_self _, hf, fun z hzm hzi hzf => ?_⟩
      by_cases hji : z.i = i
      · rw [rst_same hzm hm hji]; exact pLt_irrefl _
      · intro hl
        exact hz z hzm (by omega) hzf (pLt_trans hl (.inl hr))
    · rename_i hr
      refine .inr ⟨q, hq, rfl, by omega, hfq, fun z hzm hzi hzf => ?_⟩
      by_cases hji : z.i = i
      · rw [rst_same hzm hm hji]
        unfold pLt; simp only; omega
      · exact hz z hzm (by omega) hzf
theorem Bst.last {k : Nat} {p : SP} {b : Int} (hk : (ordP (rst t S ws))[k]? = some p) (h : Bst t S ws k ws.length b) : b = p.i := by
  have hp := ord_mem.1 (List.mem_of_getElem? hk)
  have hpl := (List.getElem?_eq_some_iff.1 (rst_idx hp)).1
  rw [rst_len] at hpl
  rcases h with ⟨_, h⟩ | ⟨q, hq, hb, hlt, hfq, hz⟩
  · exact absurd (ord_new hk) (h _ hpl)
  · have := best_is hk hq hfq (fun z hzm hzf => hz z hzm (by have h1 := (List.getElem?_eq_some_iff.1 (rst_idx hzm)).1; rwa [rst_len] at h1) hzf)
    rw [hb, this]
end
abbrev rsL (x : SP) : List Value := [uV x.r]
abbrev tyU : TypeId := 136
abbrev tyBo : TypeId := 4
theorem one_at {α : Type} {f : α → List Value} {h : Heap} {a : Option Addr} {L : List α} (hs : SlG 1 f h a L) {i : Nat} {x : α} {y : Value} (hx : L[i]? = some x) (hf : f x = [y]) : ∃ b off, a = some ⟨b, off, none⟩ ∧ GL.cell h b (off + i) = some y := by
  obtain ⟨b, off, ha, hr⟩ := hs i x hx
  rw [hf] at hr
  have hc := readN_cell hr 0 _ rfl
  rw [Nat.add_zero, Nat.mul_one] at hc
  exact ⟨b, off, ha, hc⟩
theorem fm_step {α : Type} {f : α → List Value} {l : List α} {i : Nat} {x : α} (hx : l[i]? = some x) : (l.take (i + 1)).flatMap f = (l.take i).flatMap f ++ f x := by
  rw [List.take_add_one, hx]; simp
theorem Own.somePlace {h : Heap} {base : Nat} {el : TypeId} {sz : Nat} {v : Value} {n : Nat} {xs : List Value} (ho : Own h base el sz v n xs) (hn : n ≠ 0) : ∃ g cap, v = .slice (some ⟨g, 0, none⟩) n cap ∧ n ≤ cap ∧ base ≤ g ∧ g < h.size := by
  rcases ho.2 with ⟨hv, h0⟩ | ⟨g, cap, cur, hv, hb, hg, hc, _⟩
  · exact absurd h0 hn
  · exact ⟨g, cap, hv, hc, hb, (Array.getElem?_eq_some_iff.1 hg).1⟩
set_option maxHeartbeats 4000000 in
theorem c_rsplit (t : Nat) (a : Option Addr) (ws : List Nat) (c : Nat) (ht : t ≤ 1000000000000000) (hn : ws.length ≤ 4096) (hS : 0 < ws.sum) (hS2 : ws.sum ≤ 1000000000000000) {h : Heap} (hs : SlG 1 natL h a ws) :
    HCalls Tryz.prog 55 #[iV t, .slice a ws.length c] h fun v h' => Ext h h' ∧ ∃ u, v = .tuple #[u, iV 0] ∧ Own h' h.size tyI 1 u ws.length ((splL t ws).flatMap natL) := by
  have hn0 : ws.length ≠ 0 := fun hh => by rw [List.length_eq_zero_iff.1 hh] at hS; simp at hS
  obtain ⟨hsl, hlf⟩ := shr_le (t := t) hS
  obtain ⟨S, hSe⟩ : ∃ S, S = ws.sum := ⟨_, rfl⟩
  have hwS : ∀ w ∈ ws, w ≤ S := fun w hw => by rw [hSe]; exact mem_sum_le hw
  rw [← hSe] at hsl hS hS2
  refine hcalls2 Tryz.func55 rfl (by decide +kernel) (by simp only [Tryz.ntmps55]; exact of_decide_eq_true rfl) ?_
  intro e hin
  have e0 := hin 0 _ rfl
  have e1 := hin 1 _ rfl
  refine hx_seq (hx_region ?_)
  iterate 2 refine WL.qq (by simp only [EN, Nat.reduceEqDiff, reduceIte, qv_assign]; rfl) ?_
  refine WL.nil (th_norm (hx_seq (hx_seq (hx_region ?_))))
  iterate 3 refine WL.qq (by simp only [EN, Nat.reduceEqDiff, reduceIte, qv_move, e1, qv_len, ln55, AR, qv_binOp, binv_eql, eq3, Option.map_some]; rfl) ?_
  refine WL.nil (th_norm ?_)
  refine hx_cond (by simp only [EN, Nat.reduceEqDiff, reduceIte]; rfl) (fun hct21 => ?_) (fun hct21 => ?_)
  ·
   simp at hct21; exact absurd (by rw [hct21]; rfl) hn0
  ·
   try simp only [BD] at hct21
   refine hx_skip (th_norm (hx_seq (hx_seq (hx_region ?_))))
   iterate 3 refine WL.qq (by simp only [EN, Nat.reduceEqDiff, reduceIte, qv_move, e1, qv_len, ln55, AR, qv_binOp, binv_gtr]; rfl) ?_
   refine WL.nil (th_norm ?_)
   refine hx_cond (by simp only [EN, Nat.reduceEqDiff, reduceIte]; rfl) (fun hct24 => ?_) (fun hct24 => ?_)
   ·
    simp at hct24; omega
   ·
    try simp only [BD] at hct24
    refine hx_skip (th_norm (hx_seq (hx_region ?_)))
    refine WL.qq (by simp only [EN, Nat.reduceEqDiff, reduceIte, qv_assign]; rfl) ?_
    refine WL.nil (th_norm (hx_seq (hx_seq (hx_region ?_))))
    refine WL.qq (by simp only [EN, Nat.reduceEqDiff, reduceIte, qv_assign]; rfl) ?_
    refine WL.nil (th_norm (hx_block ?_))
    refine hx_loopS [4, 5, 6, 7, 25, 26, 27, 28, 29, 30, 31, 32, 33, 34, 35, 36, 37, 38, 39, 40, 41, 42, 43, 44, 45, 46, 47, 48] (fun k e => ∃ (i : Nat), ws.length - i = k ∧ (i ≤ ws.length) ∧ e 7 = .int .i64 i ∧ e 6 = iV (ws.take i).sum) _ ⟨0, rfl, ?_, ?_, ?_⟩ ?_
    · omega
    · simp only [EN, Nat.reduceEqDiff, reduceIte, e0, e1] <;> rfl
    · simp only [EN, Nat.reduceEqDiff, reduceIte, e0, e1] <;> rfl
    ·
     rintro k e0L hfr0 ⟨i, rfl, hi, i7_0, i6_0⟩
     have k0_0 := hfr0 0 rfl; try simp only [EN, Nat.reduceEqDiff, reduceIte, e0] at k0_0
     have k1_0 := hfr0 1 rfl; try simp only [EN, Nat.reduceEqDiff, reduceIte, e1] at k1_0
     refine hx_seq (hx_seq (hx_region ?_))
     iterate 4 refine WL.qq (by simp only [EN, Nat.reduceEqDiff, reduceIte, qv_move, i7_0, k1_0, qv_len, ln55, AR, qv_binOp, binv_lss]; rfl) ?_
     refine WL.nil (th_norm ?_)
     refine hx_cond (by simp only [EN, Nat.reduceEqDiff, reduceIte]; rfl) (fun hct28 => ?_) (fun hct28 => ?_)
     ·
      try simp only [BD] at hct28
      obtain ⟨w, hw⟩ := atG (l := ws) (i := i) (by omega)
      obtain ⟨b, off, ha, hc0⟩ := ws_at hs hw
      have hwl := hwS w (List.mem_of_getElem? hw); have hst := take_sum_step hw; have hts := take_sum_le ws (i + 1); rw [← hSe] at hts
      have hw0 : decide ((w : Int) < 0) = false := decide_eq_false (by omega)
      refine hx_skip (th_norm (hx_seq (hx_block (hx_seq (hx_seq (hx_region ?_))))))
      iterate 3 refine WL.qq (by simp only [EN, Nat.reduceEqDiff, reduceIte, qv_move, k1_0, i7_0, qv_indexAddr, ha]; (try simp (disch := omega) only [ix55, Int.toNat_natCast]); rfl) ?_
      refine WL.qq (by simp only [EN, Nat.reduceEqDiff, reduceIte, k0_0, k1_0, i7_0, i6_0, qv_load, ld2, Int.toNat_natCast, hc0]; rfl) ?_
      iterate 2 refine WL.qq (by simp only [EN, Nat.reduceEqDiff, reduceIte, qv_binOp, binv_lss, qv_move]; rfl) ?_
      refine WL.cq (gd_at (t := 36) rfl (by simp only [EN, Nat.reduceEqDiff, reduceIte, k1_0] <;> rfl)) (fun hg9_6 => by simp only [EN, Nat.reduceEqDiff, reduceIte, qv_move, k1_0, hg9_6, GR]; rfl) ?_
      refine WL.cq (gd_at (t := 36) rfl (by simp only [EN, Nat.reduceEqDiff, reduceIte, i7_0] <;> rfl)) (fun hg9_7 => by simp only [EN, Nat.reduceEqDiff, reduceIte, qv_move, i7_0, hg9_7, GR]; rfl) ?_
      refine WL.cq (gd_at (t := 36) rfl (by simp only [EN, Nat.reduceEqDiff, reduceIte] <;> rfl)) (fun hg9_8 => by have hq0 := hg9_8; (try simp only [BD] at hq0); simp only [EN, Nat.reduceEqDiff, reduceIte, qv_indexAddr, ha, hg9_8, GR]; (try simp (disch := omega) only [ix55, Int.toNat_natCast]); rfl) ?_
      refine WL.cq (gd_at (t := 36) rfl (by simp only [EN, Nat.reduceEqDiff, reduceIte] <;> rfl)) (fun hg9_9 => by simp only [EN, Nat.reduceEqDiff, reduceIte, k0_0, k1_0, i7_0, i6_0, qv_load, ld2, Int.toNat_natCast, hw0, hc0]; rfl) ?_
      refine WL.cq (gd_at (t := 36) rfl (by simp only [EN, Nat.reduceEqDiff, reduceIte] <;> rfl)) (fun hg9_10 => by simp only [EN, Nat.reduceEqDiff, reduceIte, qv_binOp, binv_gtr, hg9_10, GR]; rfl) ?_
      refine WL.qq (by simp only [EN, Nat.reduceEqDiff, reduceIte, qv_pick, pk_and, pk_or, GR]; rfl) ?_
      refine WL.nil (th_norm ?_)
      refine hx_cond (by simp only [EN, Nat.reduceEqDiff, reduceIte]; rfl) (fun hct42 => ?_) (fun hct42 => ?_)
      ·
       simp at hct42; omega
      ·
       try simp only [BD] at hct42
       refine hx_skip (th_norm (hx_region ?_))
       iterate 4 refine WL.qq (by simp only [EN, Nat.reduceEqDiff, reduceIte, qv_move, i6_0, k1_0, i7_0, qv_indexAddr, ha]; (try simp (disch := omega) only [ix55, Int.toNat_natCast]); rfl) ?_
       refine WL.qq (by simp only [EN, Nat.reduceEqDiff, reduceIte, k0_0, k1_0, i7_0, i6_0, qv_load, ld2, Int.toNat_natCast, hc0]; rfl) ?_
       iterate 2 refine WL.qq (by simp only [EN, Nat.reduceEqDiff, reduceIte, qv_binOp, binv_add, qv_assign]; (try simp (disch := omega) only [w64, w8, wu64]); rfl) ?_
       refine WL.nil (bl_norm (th_norm (hx_region ?_)))
       iterate 3 refine WL.qq (by simp only [EN, Nat.reduceEqDiff, reduceIte, qv_move, i7_0, qv_binOp, binv_add, qv_assign]; (try simp (disch := omega) only [w64, w8, wu64]); rfl) ?_
       refine WL.nil (th_norm ?_)
       refine ⟨rfl, rfl, ?_, _, ?_, i + 1, rfl, ?_, ?_, ?_⟩
       · (repeat (first | exact Fr.refl _ _ | refine Fr.set rfl ?_ | refine Fr.put rfl ?_ | with_reducible refine Fr.put0 ?_))
       · omega
       · omega
       · simp only [EN, Nat.reduceEqDiff, reduceIte, k0_0, k1_0, i7_0, i6_0] <;> first | rfl | (congr 1; omega)
       · simp only [EN, Nat.reduceEqDiff, reduceIte, k0_0, k1_0, i7_0, i6_0] <;> rw [hst]; rfl
     ·
      try simp only [BD] at hct28
      have hie : ws.take i = ws := List.take_of_length_le (by omega)
      rw [hie, ← hSe] at i6_0
      refine hx_exit (th_exit (th_exit (bl_hit (th_norm (hx_seq (hx_seq (hx_region ?_)))))))
      iterate 2 refine WL.qq (by simp only [EN, Nat.reduceEqDiff, reduceIte, qv_move, i6_0, qv_binOp, binv_eql, eq2, Option.map_some]; rfl) ?_
      refine WL.nil (th_norm ?_)
      refine hx_cond (by simp only [EN, Nat.reduceEqDiff, reduceIte]; rfl) (fun hct50 => ?_) (fun hct50 => ?_)
      ·
       simp at hct50; omega
      ·
       try simp only [BD] at hct50
       refine hx_skip (th_norm (hx_seq (hx_seq (hx_region ?_))))
       iterate 3 refine WL.qq (by simp only [EN, Nat.reduceEqDiff, reduceIte, qv_move, i6_0, qv_binOp, binv_gtr]; rfl) ?_
       refine WL.cq (gd_at (t := 53) rfl (by simp only [EN, Nat.reduceEqDiff, reduceIte, k0_0] <;> rfl)) (fun hg14_3 => by simp only [EN, Nat.reduceEqDiff, reduceIte, qv_move, k0_0, hg14_3, GR]; rfl) ?_
       refine WL.cq (gd_at (t := 53) rfl (by simp only [EN, Nat.reduceEqDiff, reduceIte] <;> rfl)) (fun hg14_4 => by simp only [EN, Nat.reduceEqDiff, reduceIte, qv_binOp, binv_gtr, hg14_4, GR]; rfl) ?_
       iterate 2 refine WL.qq (by simp only [EN, Nat.reduceEqDiff, reduceIte, qv_pick, pk_and, pk_or, GR, qv_move]; rfl) ?_
       refine WL.cq (gd_at (t := 57) rfl (by simp only [EN, Nat.reduceEqDiff, reduceIte, k0_0] <;> rfl)) (fun hg14_7 => by simp only [EN, Nat.reduceEqDiff, reduceIte, qv_move, k0_0, hg14_7, GR]; rfl) ?_
       refine WL.cq (gd_at (t := 57) rfl (by simp only [EN, Nat.reduceEqDiff, reduceIte] <;> rfl)) (fun hg14_8 => by simp only [EN, Nat.reduceEqDiff, reduceIte, qv_binOp, binv_lss, hg14_8, GR]; rfl) ?_
       refine WL.qq (by simp only [EN, Nat.reduceEqDiff, reduceIte, qv_pick, pk_and, pk_or, GR]; rfl) ?_
       refine WL.nil (th_norm ?_)
       refine hx_cond (by simp only [EN, Nat.reduceEqDiff, reduceIte]; rfl) (fun hct60 => ?_) (fun hct60 => ?_)
       ·
        simp at hct60; omega
       ·
        try simp only [BD] at hct60
        refine hx_skip (th_norm (hx_seq (hx_region ?_)))
        refine WL.qq (by simp only [EN, Nat.reduceEqDiff, reduceIte, qv_move, k0_0]; rfl) ?_
        refine WL.ck Tryz.call69 (by simp only [EN, Nat.reduceEqDiff, reduceIte, AR]; exact c_rsize t ht _) ?_
        refine WL.qq (by simp only [EN, Nat.reduceEqDiff, reduceIte, qv_assign]; rfl) ?_
        refine WL.nil (th_norm (hx_seq (hx_region ?_)))
        iterate 2 refine WL.qq (by simp only [EN, Nat.reduceEqDiff, reduceIte, qv_move, qv_assign]; rfl) ?_
        refine WL.nil (th_norm (hx_seq (hx_region ?_)))
        refine WL.qq (by simp only [EN, Nat.reduceEqDiff, reduceIte, qv_assign]; rfl) ?_
        refine WL.nil (th_norm (hx_seq (hx_region ?_)))
        refine WL.qq (by simp only [EN, Nat.reduceEqDiff, reduceIte, qv_assign]; rfl) ?_
        refine WL.nil (th_norm (hx_seq (hx_seq (hx_region ?_))))
        refine WL.qq (by simp only [EN, Nat.reduceEqDiff, reduceIte, qv_assign]; rfl) ?_
        refine WL.nil (th_norm (hx_block ?_))
        refine hx_loopG [9, 10, 11, 12, 13, 14, 64, 65, 66, 67, 68, 69, 70, 71, 72, 73, 74, 75, 76, 77, 78, 79, 80, 81, 82, 83, 84, 85, 86, 87, 88, 89, 90, 91, 92, 93] (fun k e hL1 => ∃ (i : Nat) (vo : Value) (vr : Value), ws.length - i = k ∧ (i ≤ ws.length) ∧ (Ext h hL1) ∧ (Own hL1 h.size tyI 1 vo i (((shr t S ws).take i).flatMap natL)) ∧ (Own hL1 h.size tyU 1 vr i (((rst t S ws).take i).flatMap rsL)) ∧ e 12 = .int .i64 i ∧ e 9 = uV (t - ((shr t S ws).take i).sum) ∧ e 10 = vo ∧ e 11 = vr) _ ⟨0, .slice none 0 0, .slice none 0 0, rfl, ?_, ?_, ?_, ?_, ?_, ?_, ?_, ?_⟩ ?_
        · omega
        · exact Ext.refl _
        · exact Own.nil
        · exact Own.nil
        · simp only [EN, Nat.reduceEqDiff, reduceIte, k0_0, k1_0, i7_0, i6_0] <;> rfl
        · simp only [EN, Nat.reduceEqDiff, reduceIte, k0_0, k1_0, i7_0, i6_0] <;> rfl
        · simp only [EN, Nat.reduceEqDiff, reduceIte, k0_0, k1_0, i7_0, i6_0] <;> rfl
        · simp only [EN, Nat.reduceEqDiff, reduceIte, k0_0, k1_0, i7_0, i6_0] <;> rfl
        ·
         rintro k e1L hL1 hfr1 ⟨i, vo, vr, rfl, hi, hX, ho, hp, i12_1, i9_1, i10_1, i11_1⟩
         have k0_1 := hfr1 0 rfl; try simp only [EN, Nat.reduceEqDiff, reduceIte, k0_0] at k0_1
         have k1_1 := hfr1 1 rfl; try simp only [EN, Nat.reduceEqDiff, reduceIte, k1_0] at k1_1
         have k6_1 := hfr1 6 rfl; try simp only [EN, Nat.reduceEqDiff, reduceIte, i6_0] at k6_1
         have k8_1 := hfr1 8 rfl; try simp only [EN, Nat.reduceEqDiff, reduceIte] at k8_1
         refine hx_seq (hx_seq (hx_region ?_))
         iterate 4 refine WL.qq (by simp only [EN, Nat.reduceEqDiff, reduceIte, qv_move, i12_1, k1_1, qv_len, ln55, AR, qv_binOp, binv_lss]; rfl) ?_
         refine WL.nil (th_norm ?_)
         refine hx_cond (by simp only [EN, Nat.reduceEqDiff, reduceIte]; rfl) (fun hct67 => ?_) (fun hct67 => ?_)
         ·
          try simp only [BD] at hct67
          obtain ⟨w, hw⟩ := atG (l := ws) (i := i) (by omega)
          obtain ⟨b, off, ha, hc0⟩ := ws_at (hs.ext hX) hw
          have hwl := hwS w (List.mem_of_getElem? hw); have hshw := shr_at (t := t) (S := S) hw; have hrsw := rst_at (t := t) (S := S) hw; have hst := take_sum_step hshw; have hts := take_sum_le (shr t S ws) (i + 1)
          refine hx_skip (th_norm (hx_seq (hx_block (hx_seq (hx_region ?_)))))
          iterate 4 refine WL.qq (by simp only [EN, Nat.reduceEqDiff, reduceIte, qv_move, k8_1, k1_1, i12_1, qv_indexAddr, ha]; (try simp (disch := omega) only [ix55, Int.toNat_natCast]); rfl) ?_
          refine WL.qq (by simp only [EN, Nat.reduceEqDiff, reduceIte, k0_1, k1_1, k6_1, k8_1, i12_1, i9_1, i10_1, i11_1, qv_load, ld2, Int.toNat_natCast, hc0]; rfl) ?_
          refine WL.qq (by refine Eq.trans (b := some (uV w)) ?_ rfl; simp only [EN, Nat.reduceEqDiff, reduceIte, k0_1, k1_1, k6_1, k8_1, i12_1, i9_1, i10_1, i11_1, qv_convert, convv, Tryz.underlying2, Tryz.underlying136]; congr 2; exact wu64 (by omega) (by omega)) ?_
          refine WL.qq (by simp only [EN, Nat.reduceEqDiff, reduceIte, qv_move, k6_1]; rfl) ?_
          refine WL.qq (by refine Eq.trans (b := some (uV S)) ?_ rfl; simp only [EN, Nat.reduceEqDiff, reduceIte, k0_1, k1_1, k6_1, k8_1, i12_1, i9_1, i10_1, i11_1, qv_convert, convv, Tryz.underlying2, Tryz.underlying136]; congr 2; exact wu64 (by omega) (by omega)) ?_
          refine WL.ck Tryz.call70 (by simp only [EN, Nat.reduceEqDiff, reduceIte, AR]; exact c_divide t w S ht hwl hS hS2 _) ?_
          iterate 5 refine WL.qq (by simp only [EN, Nat.reduceEqDiff, reduceIte, qv_move, qv_extract, AR, qv_assign]; rfl) ?_
          refine WL.nil (th_norm (hx_seq (hx_region ?_)))
          obtain ⟨q, hq⟩ : ∃ q, q = t * w / S := ⟨_, rfl⟩; obtain ⟨r, hr⟩ : ∃ r, r = t * w % S := ⟨_, rfl⟩; rw [← hq] at hshw hst ⊢; rw [← hr] at hrsw ⊢
          iterate 2 refine WL.qq (by simp only [EN, Nat.reduceEqDiff, reduceIte, qv_move, i10_1]; rfl) ?_
          refine WL.qq (by refine Eq.trans (b := some (iV q)) ?_ rfl; simp only [EN, Nat.reduceEqDiff, reduceIte, k0_1, k1_1, k6_1, k8_1, i12_1, i9_1, i10_1, i11_1, qv_convert, convv, Tryz.underlying2, Tryz.underlying136]; congr 2; exact w64 (by omega) (by omega)) ?_
          refine WL.push (bytes := 8) Tryz.underlying55 (inf_of Tryz.type2) rfl rfl rfl rfl (by decide) (by decide) sz2 zr2 (fun u => by simp only [EN, Nat.reduceEqDiff, reduceIte, k0_1, k1_1, k6_1, k8_1, i12_1, i9_1, i10_1, i11_1]) ho (c := #[iV q]) (by simp only [EN, Nat.reduceEqDiff, reduceIte, k0_1, k1_1, k6_1, k8_1, i12_1, i9_1, i10_1, i11_1, Value.cells] <;> rfl) rfl (by simp [Value.oneCell']) (by simp only [maxLen]; omega) (by omega) hX.size ?_
          intro h40 v40 B40 ho40 hg40 hp40 hn40
          have hX40 := hg40.ext hX (fun c hc => (ho.block c hc).1)
          have hp41 := hp.keep (fun x hx => hg40.same x (hp.block x hx).2 (fun hh => by obtain ⟨cu, hcu⟩ := hp.typ x hx; exact ho.ncell hcu (by decide) hh))
          skip
          iterate 2 refine WL.qq (by simp only [EN, Nat.reduceEqDiff, reduceIte, qv_move, i11_1]; rfl) ?_
          refine WL.push (bytes := 8) Tryz.underlying138 (inf_of Tryz.type136) rfl rfl rfl rfl (by decide) (by decide) sz136 zr136 (fun u => by simp only [EN, Nat.reduceEqDiff, reduceIte, k0_1, k1_1, k6_1, k8_1, i12_1, i9_1, i10_1, i11_1]) hp41 (c := #[uV r]) (by simp only [EN, Nat.reduceEqDiff, reduceIte, k0_1, k1_1, k6_1, k8_1, i12_1, i9_1, i10_1, i11_1, Value.cells] <;> rfl) rfl (by simp [Value.oneCell']) (by simp only [maxLen]; omega) (by omega) hX40.size ?_
          intro h50 v50 B50 ho50 hg50 hp50 hn50
          have hX50 := hg50.ext hX40 (fun c hc => (hp41.block c hc).1)
          have ho51 := ho40.keep (fun x hx => hg50.same x (ho40.block x hx).2 (fun hh => by obtain ⟨cu, hcu⟩ := ho40.typ x hx; exact hp41.ncell hcu (by decide) hh))
          skip
          iterate 2 refine WL.qq (by simp only [EN, Nat.reduceEqDiff, reduceIte, qv_assign]; rfl) ?_
          refine WL.nil (th_norm (hx_region ?_))
          iterate 2 refine WL.qq (by simp only [EN, Nat.reduceEqDiff, reduceIte, qv_move, i9_1]; rfl) ?_
          refine WL.qq (by simp only [EN, Nat.reduceEqDiff, reduceIte, k0_1, k1_1, k6_1, k8_1, i12_1, i9_1, i10_1, i11_1, qv_binOp]; exact subU _ _ (by omega) (by omega)) ?_
          refine WL.qq (by simp only [EN, Nat.reduceEqDiff, reduceIte, qv_assign]; rfl) ?_
          refine WL.nil (bl_norm (th_norm (hx_region ?_)))
          iterate 3 refine WL.qq (by simp only [EN, Nat.reduceEqDiff, reduceIte, qv_move, i12_1, qv_binOp, binv_add, qv_assign]; (try simp (disch := omega) only [w64, w8, wu64]); rfl) ?_
          refine WL.nil (th_norm ?_)
          refine ⟨rfl, ?_, _, ?_, i + 1, v40, v50, rfl, ?_, ?_, ?_, ?_, ?_, ?_, ?_, ?_⟩
          · (repeat (first | exact Fr.refl _ _ | refine Fr.set rfl ?_ | refine Fr.put rfl ?_ | with_reducible refine Fr.put0 ?_))
          · omega
          · omega
          · exact hX50
          · rw [fm_step hshw]; exact ho51
          · rw [fm_step hrsw]; exact ho50
          · simp only [EN, Nat.reduceEqDiff, reduceIte, k0_1, k1_1, k6_1, k8_1, i12_1, i9_1, i10_1, i11_1] <;> first | rfl | (congr 1; omega)
          · simp only [EN, Nat.reduceEqDiff, reduceIte, k0_1, k1_1, k6_1, k8_1, i12_1, i9_1, i10_1, i11_1] <;> rw [hst, Nat.sub_add_eq]
          · simp only [EN, Nat.reduceEqDiff, reduceIte, k0_1, k1_1, k6_1, k8_1, i12_1, i9_1, i10_1, i11_1] <;> first | rfl | (congr 1; omega)
          · simp only [EN, Nat.reduceEqDiff, reduceIte, k0_1, k1_1, k6_1, k8_1, i12_1, i9_1, i10_1, i11_1] <;> first | rfl | (congr 1; omega)
         ·
          try simp only [BD] at hct67
          obtain rfl : i = ws.length := (by omega)
          rw [← shr_len (t := t) (S := S) (ws := ws), List.take_length, shr_len] at ho
          rw [← rst_len (t := t) (S := S) (ws := ws), List.take_length, rst_len] at hp
          have hlfe : lftN t ws = t - (shr t S ws).sum := (by rw [hSe]; rfl)
          have htk : (shr t S ws).take ws.length = shr t S ws := List.take_of_length_le (by rw [shr_len]; exact Nat.le_refl _)
          rw [htk, ← hlfe] at i9_1
          obtain ⟨go, co, rfl, hco, hgo, hgol⟩ := ho.somePlace hn0; obtain ⟨gr, cr, rfl, hcr, hgr, hgrl⟩ := hp.somePlace hn0
          refine hx_exit (th_exit (th_exit (bl_hit (th_norm (hx_seq (hx_region ?_))))))
          iterate 2 refine WL.qq (by simp only [EN, Nat.reduceEqDiff, reduceIte, qv_move, k1_1, qv_len, ln55, AR]; rfl) ?_
          refine WL.ef _ (e_makeSl (n := ws.length) (sz := 1) (bytes := 1) Tryz.underlying141 (inf_of Tryz.type4) rfl rfl rfl (by simp only [EN, Nat.reduceEqDiff, reduceIte, k0_1, k1_1, k6_1, k8_1, i12_1, i9_1, i10_1, i11_1]; rfl) (by simp only [EN, Nat.reduceEqDiff, reduceIte, k0_1, k1_1, k6_1, k8_1, i12_1, i9_1, i10_1, i11_1]; rfl) (by omega) (by simp only [maxLen]; omega)) ?_
          rintro _ h30 ⟨hx30, rfl, ho30⟩
          simp only [put_some]
          have hzf := made_flat (f := boL) (sz := 1) (z := false) (zc := (#[.bool false] : Array Value)) rfl rfl (by decide) ws.length
          have ho31 : Own h30 (Array.size hL1) tyBo 1 (.slice (some ⟨(Array.size hL1), 0, none⟩) ws.length ws.length) ws.length ((gvL t S ws 0).flatMap boL) := (by rw [gvL_0, ← hzf]; exact ho30)
          replace ho := ho.ext hx30
          replace hp := hp.ext hx30
          have hX30 := hX.trans hx30
          have hg3 := hX.size
          generalize hg1 : Array.size hL1 = g3 at ho31 hg3 ⊢
          refine WL.qq (by simp only [EN, Nat.reduceEqDiff, reduceIte, qv_assign]; rfl) ?_
          refine WL.nil (th_norm (hx_seq (hx_block ?_)))
          refine hx_loopG [9, 16, 17, 97, 98, 99, 100, 101, 102, 103, 104, 105, 106, 107, 108, 109, 110, 111, 112, 113, 114, 115, 116, 117, 118, 119, 120, 121, 122, 123, 124, 125, 126, 127, 128, 129, 130, 131, 132, 133, 134, 135, 136] (fun k e hL2 => ∃ (k2 : Nat), lftN t ws - k2 = k ∧ (k2 ≤ lftN t ws) ∧ (Ext h hL2) ∧ (Own hL2 h.size tyI 1 (.slice (some ⟨go, 0, none⟩) ws.length co) ws.length ((splK t S ws k2).flatMap natL)) ∧ (Own hL2 h.size tyU 1 (.slice (some ⟨gr, 0, none⟩) ws.length cr) ws.length ((rst t S ws).flatMap rsL)) ∧ (Own hL2 g3 tyBo 1 (.slice (some ⟨g3, 0, none⟩) ws.length ws.length) ws.length ((gvL t S ws k2).flatMap boL)) ∧ e 9 = uV (lftN t ws - k2)) _ ⟨0, rfl, ?_, ?_, ?_, ?_, ?_, ?_⟩ ?_
          · omega
          · exact hX30
          · rw [splK_0]; exact ho
          · exact hp
          · exact ho31
          · simp only [EN, Nat.reduceEqDiff, reduceIte, k0_1, k1_1, k6_1, k8_1, i12_1, i9_1, i10_1, i11_1] <;> rfl
          ·
           rintro k e2L hL2 hfr2 ⟨k2, rfl, hk2, hX, ho, hp, hv, i9_2⟩
           have k0_2 := hfr2 0 rfl; try simp only [EN, Nat.reduceEqDiff, reduceIte, k0_1] at k0_2
           have k10_2 := hfr2 10 rfl; try simp only [EN, Nat.reduceEqDiff, reduceIte, i10_1] at k10_2
           have k11_2 := hfr2 11 rfl; try simp only [EN, Nat.reduceEqDiff, reduceIte, i11_1] at k11_2
           have k15_2 := hfr2 15 rfl; try simp only [EN, Nat.reduceEqDiff, reduceIte] at k15_2
           refine hx_seq (hx_seq (hx_region ?_))
           iterate 2 refine WL.qq (by simp only [EN, Nat.reduceEqDiff, reduceIte, qv_move, i9_2, qv_binOp, binv_gtr]; rfl) ?_
           refine WL.nil (th_norm ?_)
           refine hx_cond (by simp only [EN, Nat.reduceEqDiff, reduceIte]; rfl) (fun hct98 => ?_) (fun hct98 => ?_)
           ·
            try simp only [BD] at hct98
            obtain ⟨p, hpk⟩ := atG (l := ordP (rst t S ws)) (i := k2) (by rw [ord_len]; omega)
            obtain ⟨w0, hw0, hsw, hstep⟩ := splK_step hpk
            have hpl := (List.getElem?_eq_some_iff.1 hw0).1; have hwl := hwS w0 (List.mem_of_getElem? hw0)
            have hqt : t * w0 / S ≤ t := (by rw [Nat.div_le_iff_le_mul_add_pred hS]; have := Nat.mul_le_mul_left t hwl; rw [Nat.mul_comm S]; omega)
            have hpS := slG_own (f := rsL) (sz := 1) (fun _ => rfl) hp rst_len.symm; have hvS := slG_own (f := boL) (sz := 1) (fun _ => rfl) hv gvL_len.symm
            refine hx_skip (th_norm (hx_seq (hx_block (hx_seq (hx_region ?_)))))
            refine WL.qq (by simp only [EN, Nat.reduceEqDiff, reduceIte, qv_assign]; rfl) ?_
            refine WL.nil (th_norm (hx_seq (hx_seq (hx_region ?_))))
            refine WL.qq (by simp only [EN, Nat.reduceEqDiff, reduceIte, qv_assign]; rfl) ?_
            refine WL.nil (th_norm (hx_block ?_))
            refine hx_loopS [16, 17, 101, 102, 103, 104, 105, 106, 107, 108, 109, 110, 111, 112, 113, 114, 115, 116, 117, 118, 119, 120, 121, 122, 123, 124, 125, 126, 127] (fun k e => ∃ (i : Nat) (b : Int), ws.length - i = k ∧ (i ≤ ws.length) ∧ (Bst t S ws k2 i b) ∧ e 17 = .int .i64 i ∧ e 16 = iV b) _ ⟨0, -1, rfl, ?_, ?_, ?_, ?_⟩ ?_
            · omega
            · exact Bst.zero
            · simp only [EN, Nat.reduceEqDiff, reduceIte, k0_2, k10_2, k11_2, k15_2, i9_2] <;> rfl
            · simp only [EN, Nat.reduceEqDiff, reduceIte, k0_2, k10_2, k11_2, k15_2, i9_2] <;> rfl
            ·
             rintro k e3L hfr3 ⟨i, b, rfl, hi, hb, i17_3, i16_3⟩
             have k0_3 := hfr3 0 rfl; try simp only [EN, Nat.reduceEqDiff, reduceIte, k0_2] at k0_3
             have k9_3 := hfr3 9 rfl; try simp only [EN, Nat.reduceEqDiff, reduceIte, i9_2] at k9_3
             have k10_3 := hfr3 10 rfl; try simp only [EN, Nat.reduceEqDiff, reduceIte, k10_2] at k10_3
             have k11_3 := hfr3 11 rfl; try simp only [EN, Nat.reduceEqDiff, reduceIte, k11_2] at k11_3
             have k15_3 := hfr3 15 rfl; try simp only [EN, Nat.reduceEqDiff, reduceIte, k15_2] at k15_3
             refine hx_seq (hx_seq (hx_region ?_))
             iterate 4 refine WL.qq (by simp only [EN, Nat.reduceEqDiff, reduceIte, qv_move, i17_3, k11_3, qv_len, ln138, AR, qv_binOp, binv_lss]; rfl) ?_
             refine WL.nil (th_norm ?_)
             refine hx_cond (by simp only [EN, Nat.reduceEqDiff, reduceIte]; rfl) (fun hct104 => ?_) (fun hct104 => ?_)
             ·
              try simp only [BD] at hct104
              obtain ⟨w, hw⟩ := atG (l := ws) (i := i) (by omega)
              have hgv := gvL_at (t := t) (S := S) (ws := ws) (k := k2) (i := i) (by omega)
              obtain ⟨b1, o1, ha1, hc1⟩ := one_at hpS (rst_at (t := t) (S := S) hw) rfl; cases ha1
              refine hx_skip (th_norm (hx_seq (hx_block (hx_seq ?_))))
              by_cases hfr : Free t S ws k2 i
              ·
               rw [decide_eq_false hfr] at hgv; obtain ⟨b2, o2, ha2, hc2⟩ := one_at hvS hgv rfl; cases ha2
               rcases id hb with ⟨rfl, _⟩ | ⟨q, hq, rfl, hqi, _⟩
               ·
                skip
                apply hx_draw2 Rel.same [] [] [] rfl (by decide +kernel) rfl
                iterate 3 refine LD.qq rfl rfl (by simp only [EN, Nat.reduceEqDiff, reduceIte, qv_move, k15_3, i17_3, qv_indexAddr]; (try simp (disch := omega) only [ix141, Int.toNat_natCast]); rfl) ?_
                refine LD.qq rfl rfl (by simp only [EN, Nat.reduceEqDiff, reduceIte, k0_3, k9_3, k10_3, k11_3, k15_3, i17_3, i16_3, qv_load, ld4, Int.toNat_natCast, hc2]; rfl) ?_
                iterate 2 refine LD.qq rfl rfl (by simp only [EN, Nat.reduceEqDiff, reduceIte, qv_unOp, unv_not, qv_move]; rfl) ?_
                refine LD.on (by rw [gOk_s (gd_at (t := 112) rfl (by simp only [EN, Nat.reduceEqDiff, reduceIte, i16_3] <;> rfl))]; rfl) ?_
                refine LD.qq rfl rfl (by simp only [EN, Nat.reduceEqDiff, reduceIte, qv_move, i16_3]; rfl) ?_
                refine LD.on (by rw [gOk_s (gd_at (t := 112) rfl (by simp only [EN, Nat.reduceEqDiff, reduceIte] <;> rfl))]; rfl) ?_
                refine LD.qq rfl rfl (by simp only [EN, Nat.reduceEqDiff, reduceIte, qv_binOp, binv_lss]; rfl) ?_
                refine LD.on (by rw [gOk_s (gd_at (t := 112) rfl (by simp only [EN, Nat.reduceEqDiff, reduceIte] <;> rfl))]; rfl) ?_
                refine LD.qq rfl rfl (by simp only [EN, Nat.reduceEqDiff, reduceIte, qv_move]; rfl) ?_
                refine LD.offS rfl (by first | (rw [gOk_s (gd_at (t := 115) rfl (by simp only [EN, Nat.reduceEqDiff, reduceIte, k11_3] <;> rfl))]; rfl) | exact gOk_z (gd_un (t := 115) rfl (by simp only [EN, Nat.reduceEqDiff, reduceIte, k11_3] <;> rfl))) ?_
                refine LD.offS rfl (by first | (rw [gOk_s (gd_at (t := 115) rfl (by simp only [EN, Nat.reduceEqDiff, reduceIte, i17_3] <;> rfl))]; rfl) | exact gOk_z (gd_un (t := 115) rfl (by simp only [EN, Nat.reduceEqDiff, reduceIte, i17_3] <;> rfl))) ?_
                refine LD.offS rfl (by first | (rw [gOk_s (gd_at (t := 115) rfl (by simp only [EN, Nat.reduceEqDiff, reduceIte] <;> rfl))]; rfl) | exact gOk_z (gd_un (t := 115) rfl (by simp only [EN, Nat.reduceEqDiff, reduceIte] <;> rfl))) ?_
                refine LD.offS rfl (by first | (rw [gOk_s (gd_at (t := 115) rfl (by simp only [EN, Nat.reduceEqDiff, reduceIte] <;> rfl))]; rfl) | exact gOk_z (gd_un (t := 115) rfl (by simp only [EN, Nat.reduceEqDiff, reduceIte] <;> rfl))) ?_
                refine LD.offS rfl (by first | (rw [gOk_s (gd_at (t := 115) rfl (by simp only [EN, Nat.reduceEqDiff, reduceIte, k11_3] <;> rfl))]; rfl) | exact gOk_z (gd_un (t := 115) rfl (by simp only [EN, Nat.reduceEqDiff, reduceIte, k11_3] <;> rfl))) ?_
                refine LD.offS rfl (by first | (rw [gOk_s (gd_at (t := 115) rfl (by simp only [EN, Nat.reduceEqDiff, reduceIte, i16_3] <;> rfl))]; rfl) | exact gOk_z (gd_un (t := 115) rfl (by simp only [EN, Nat.reduceEqDiff, reduceIte, i16_3] <;> rfl))) ?_
                refine LD.offS rfl (by first | (rw [gOk_s (gd_at (t := 115) rfl (by simp only [EN, Nat.reduceEqDiff, reduceIte] <;> rfl))]; rfl) | exact gOk_z (gd_un (t := 115) rfl (by simp only [EN, Nat.reduceEqDiff, reduceIte] <;> rfl))) ?_
                refine LD.offS rfl (by first | (rw [gOk_s (gd_at (t := 115) rfl (by simp only [EN, Nat.reduceEqDiff, reduceIte] <;> rfl))]; rfl) | exact gOk_z (gd_un (t := 115) rfl (by simp only [EN, Nat.reduceEqDiff, reduceIte] <;> rfl))) ?_
                refine LD.offS rfl (by first | (rw [gOk_s (gd_at (t := 115) rfl (by simp only [EN, Nat.reduceEqDiff, reduceIte] <;> rfl))]; rfl) | exact gOk_z (gd_un (t := 115) rfl (by simp only [EN, Nat.reduceEqDiff, reduceIte] <;> rfl))) ?_
                refine LD.on (by rw [gOk_s (gd_at (t := 112) rfl (by simp only [EN, Nat.reduceEqDiff, reduceIte] <;> rfl))]; rfl) ?_
                iterate 2 refine LD.qq rfl rfl (by simp only [EN, Nat.reduceEqDiff, reduceIte, qv_pick, pk_and, pk_or, GR]; rfl) ?_
                refine LD.nil ?_
                rintro hL2 rfl -
                refine WL.nil (th_norm ?_)
                refine hx_cond (by simp only [EN, Nat.reduceEqDiff, reduceIte]; rfl) (fun hct126 => ?_) (fun hct126 => ?_)
                ·
                 try simp only [BD] at hct126
                 refine hx_region ?_
                 iterate 2 refine WL.qq (by simp only [EN, Nat.reduceEqDiff, reduceIte, qv_move, i17_3, qv_assign]; rfl) ?_
                 refine WL.nil (bl_norm (th_norm (hx_region ?_)))
                 iterate 3 refine WL.qq (by simp only [EN, Nat.reduceEqDiff, reduceIte, qv_move, i17_3, qv_binOp, binv_add, qv_assign]; (try simp (disch := omega) only [w64, w8, wu64]); rfl) ?_
                 refine WL.nil (th_norm ?_)
                 refine ⟨rfl, rfl, ?_, _, ?_, i + 1, (i : Int), rfl, ?_, ?_, ?_, ?_⟩
                 · (repeat (first | exact Fr.refl _ _ | refine Fr.set rfl ?_ | refine Fr.put rfl ?_ | with_reducible refine Fr.put0 ?_))
                 · omega
                 · omega
                 · exact hb.first hw hfr
                 · simp only [EN, Nat.reduceEqDiff, reduceIte, k0_3, k9_3, k10_3, k11_3, k15_3, i17_3, i16_3] <;> first | rfl | (congr 1; omega)
                 · simp only [EN, Nat.reduceEqDiff, reduceIte, k0_3, k9_3, k10_3, k11_3, k15_3, i17_3, i16_3] <;> first | rfl | (congr 1; omega)
                ·
                 simp at hct126
               ·
                obtain ⟨b3, o3, ha3, hc3⟩ := one_at hpS (rst_idx hq) rfl; cases ha3
                apply hx_draw2 Rel.same [] [] [] rfl (by decide +kernel) rfl
                iterate 3 refine LD.qq rfl rfl (by simp only [EN, Nat.reduceEqDiff, reduceIte, qv_move, k15_3, i17_3, qv_indexAddr]; (try simp (disch := omega) only [ix141, Int.toNat_natCast]); rfl) ?_
                refine LD.qq rfl rfl (by simp only [EN, Nat.reduceEqDiff, reduceIte, k0_3, k9_3, k10_3, k11_3, k15_3, i17_3, i16_3, qv_load, ld4, Int.toNat_natCast, hc2]; rfl) ?_
                iterate 2 refine LD.qq rfl rfl (by simp only [EN, Nat.reduceEqDiff, reduceIte, qv_unOp, unv_not, qv_move]; rfl) ?_
                refine LD.on (by rw [gOk_s (gd_at (t := 112) rfl (by simp only [EN, Nat.reduceEqDiff, reduceIte, i16_3] <;> rfl))]; rfl) ?_
                refine LD.qq rfl rfl (by simp only [EN, Nat.reduceEqDiff, reduceIte, qv_move, i16_3]; rfl) ?_
                refine LD.on (by rw [gOk_s (gd_at (t := 112) rfl (by simp only [EN, Nat.reduceEqDiff, reduceIte] <;> rfl))]; rfl) ?_
                refine LD.qq rfl rfl (by simp only [EN, Nat.reduceEqDiff, reduceIte, qv_binOp, binv_lss]; rfl) ?_
                refine LD.on (by rw [gOk_s (gd_at (t := 112) rfl (by simp only [EN, Nat.reduceEqDiff, reduceIte] <;> rfl))]; rfl) ?_
                refine LD.qq rfl rfl (by simp only [EN, Nat.reduceEqDiff, reduceIte, qv_move]; rfl) ?_
                refine LD.on (by rw [gOk_s (gd_at (t := 115) rfl (by simp only [EN, Nat.reduceEqDiff, reduceIte, k11_3] <;> rfl))]; rfl) ?_
                refine LD.qq rfl rfl (by simp only [EN, Nat.reduceEqDiff, reduceIte, qv_move, k11_3]; rfl) ?_
                refine LD.on (by rw [gOk_s (gd_at (t := 115) rfl (by simp only [EN, Nat.reduceEqDiff, reduceIte, i17_3] <;> rfl))]; rfl) ?_
                refine LD.qq rfl rfl (by simp only [EN, Nat.reduceEqDiff, reduceIte, qv_move, i17_3]; rfl) ?_
                refine LD.on (by rw [gOk_s (gd_at (t := 115) rfl (by simp only [EN, Nat.reduceEqDiff, reduceIte] <;> rfl))]; rfl) ?_
                refine LD.qq rfl rfl (by simp only [EN, Nat.reduceEqDiff, reduceIte, qv_indexAddr]; (try simp (disch := omega) only [ix138, Int.toNat_natCast]); rfl) ?_
                refine LD.on (by rw [gOk_s (gd_at (t := 115) rfl (by simp only [EN, Nat.reduceEqDiff, reduceIte] <;> rfl))]; rfl) ?_
                refine LD.qq rfl rfl (by simp only [EN, Nat.reduceEqDiff, reduceIte, k0_3, k9_3, k10_3, k11_3, k15_3, i17_3, i16_3, qv_load, ld136, Int.toNat_natCast, hc1]; rfl) ?_
                refine LD.on (by rw [gOk_s (gd_at (t := 115) rfl (by simp only [EN, Nat.reduceEqDiff, reduceIte, k11_3] <;> rfl))]; rfl) ?_
                refine LD.qq rfl rfl (by simp only [EN, Nat.reduceEqDiff, reduceIte, qv_move, k11_3]; rfl) ?_
                refine LD.on (by rw [gOk_s (gd_at (t := 115) rfl (by simp only [EN, Nat.reduceEqDiff, reduceIte, i16_3] <;> rfl))]; rfl) ?_
                refine LD.qq rfl rfl (by simp only [EN, Nat.reduceEqDiff, reduceIte, qv_move, i16_3]; rfl) ?_
                refine LD.on (by rw [gOk_s (gd_at (t := 115) rfl (by simp only [EN, Nat.reduceEqDiff, reduceIte] <;> rfl))]; rfl) ?_
                refine LD.qq rfl rfl (by simp only [EN, Nat.reduceEqDiff, reduceIte, qv_indexAddr]; (try simp (disch := omega) only [ix138, Int.toNat_natCast]); rfl) ?_
                refine LD.on (by rw [gOk_s (gd_at (t := 115) rfl (by simp only [EN, Nat.reduceEqDiff, reduceIte] <;> rfl))]; rfl) ?_
                refine LD.qq rfl rfl (by simp only [EN, Nat.reduceEqDiff, reduceIte, k0_3, k9_3, k10_3, k11_3, k15_3, i17_3, i16_3, qv_load, ld136, Int.toNat_natCast, hc3]; rfl) ?_
                refine LD.on (by rw [gOk_s (gd_at (t := 115) rfl (by simp only [EN, Nat.reduceEqDiff, reduceIte] <;> rfl))]; rfl) ?_
                refine LD.qq rfl rfl (by simp only [EN, Nat.reduceEqDiff, reduceIte, qv_binOp, binv_gtr]; rfl) ?_
                refine LD.on (by rw [gOk_s (gd_at (t := 112) rfl (by simp only [EN, Nat.reduceEqDiff, reduceIte] <;> rfl))]; rfl) ?_
                iterate 2 refine LD.qq rfl rfl (by simp only [EN, Nat.reduceEqDiff, reduceIte, qv_pick, pk_and, pk_or, GR]; rfl) ?_
                refine LD.nil ?_
                rintro hL2 rfl -
                refine WL.nil (th_norm ?_)
                refine hx_cond (by simp only [EN, Nat.reduceEqDiff, reduceIte]; rfl) (fun hct126 => ?_) (fun hct126 => ?_)
                ·
                 try simp only [BD] at hct126
                 refine hx_region ?_
                 iterate 2 refine WL.qq (by simp only [EN, Nat.reduceEqDiff, reduceIte, qv_move, i17_3, qv_assign]; rfl) ?_
                 refine WL.nil (bl_norm (th_norm (hx_region ?_)))
                 iterate 3 refine WL.qq (by simp only [EN, Nat.reduceEqDiff, reduceIte, qv_move, i17_3, qv_binOp, binv_add, qv_assign]; (try simp (disch := omega) only [w64, w8, wu64]); rfl) ?_
                 refine WL.nil (th_norm ?_)
                 refine ⟨rfl, rfl, ?_, _, ?_, i + 1, (i : Int), rfl, ?_, ?_, ?_, ?_⟩
                 · (repeat (first | exact Fr.refl _ _ | refine Fr.set rfl ?_ | refine Fr.put rfl ?_ | with_reducible refine Fr.put0 ?_))
                 · omega
                 · omega
                 · have h9 := (hb.next hq hw hfr).2; rwa [if_pos (by exact_mod_cast hct126)] at h9
                 · simp only [EN, Nat.reduceEqDiff, reduceIte, k0_3, k9_3, k10_3, k11_3, k15_3, i17_3, i16_3] <;> first | rfl | (congr 1; omega)
                 · simp only [EN, Nat.reduceEqDiff, reduceIte, k0_3, k9_3, k10_3, k11_3, k15_3, i17_3, i16_3] <;> first | rfl | (congr 1; omega)
                ·
                 try simp only [BD] at hct126
                 refine hx_skip (bl_norm (th_norm (hx_region ?_)))
                 iterate 3 refine WL.qq (by simp only [EN, Nat.reduceEqDiff, reduceIte, qv_move, i17_3, qv_binOp, binv_add, qv_assign]; (try simp (disch := omega) only [w64, w8, wu64]); rfl) ?_
                 refine WL.nil (th_norm ?_)
                 refine ⟨rfl, rfl, ?_, _, ?_, i + 1, (q.i : Int), rfl, ?_, ?_, ?_, ?_⟩
                 · (repeat (first | exact Fr.refl _ _ | refine Fr.set rfl ?_ | refine Fr.put rfl ?_ | with_reducible refine Fr.put0 ?_))
                 · omega
                 · omega
                 · have h9 := (hb.next hq hw hfr).2; rwa [if_neg (by exact_mod_cast hct126)] at h9
                 · simp only [EN, Nat.reduceEqDiff, reduceIte, k0_3, k9_3, k10_3, k11_3, k15_3, i17_3, i16_3] <;> first | rfl | (congr 1; omega)
                 · simp only [EN, Nat.reduceEqDiff, reduceIte, k0_3, k9_3, k10_3, k11_3, k15_3, i17_3, i16_3] <;> first | rfl | (congr 1; omega)
              ·
               rw [decide_eq_true (Decidable.not_not.1 hfr)] at hgv; obtain ⟨b2, o2, ha2, hc2⟩ := one_at hvS hgv rfl; cases ha2
               apply hx_draw2 Rel.same [] [] [] rfl (by decide +kernel) rfl
               iterate 3 refine LD.qq rfl rfl (by simp only [EN, Nat.reduceEqDiff, reduceIte, qv_move, k15_3, i17_3, qv_indexAddr]; (try simp (disch := omega) only [ix141, Int.toNat_natCast]); rfl) ?_
               refine LD.qq rfl rfl (by simp only [EN, Nat.reduceEqDiff, reduceIte, k0_3, k9_3, k10_3, k11_3, k15_3, i17_3, i16_3, qv_load, ld4, Int.toNat_natCast, hc2]; rfl) ?_
               iterate 2 refine LD.qq rfl rfl (by simp only [EN, Nat.reduceEqDiff, reduceIte, qv_unOp, unv_not, qv_move]; rfl) ?_
               refine LD.offS rfl (by first | (rw [gOk_s (gd_at (t := 112) rfl (by simp only [EN, Nat.reduceEqDiff, reduceIte, i16_3] <;> rfl))]; rfl) | exact gOk_z (gd_un (t := 112) rfl (by simp only [EN, Nat.reduceEqDiff, reduceIte, i16_3] <;> rfl))) ?_
               refine LD.offS rfl (by first | (rw [gOk_s (gd_at (t := 112) rfl (by simp only [EN, Nat.reduceEqDiff, reduceIte] <;> rfl))]; rfl) | exact gOk_z (gd_un (t := 112) rfl (by simp only [EN, Nat.reduceEqDiff, reduceIte] <;> rfl))) ?_
               refine LD.offS rfl (by first | (rw [gOk_s (gd_at (t := 112) rfl (by simp only [EN, Nat.reduceEqDiff, reduceIte] <;> rfl))]; rfl) | exact gOk_z (gd_un (t := 112) rfl (by simp only [EN, Nat.reduceEqDiff, reduceIte] <;> rfl))) ?_
               refine LD.offS rfl (by first | (rw [gOk_s (gd_at (t := 115) rfl (by simp only [EN, Nat.reduceEqDiff, reduceIte, k11_3] <;> rfl))]; rfl) | exact gOk_z (gd_un (t := 115) rfl (by simp only [EN, Nat.reduceEqDiff, reduceIte, k11_3] <;> rfl))) ?_
               refine LD.offS rfl (by first | (rw [gOk_s (gd_at (t := 115) rfl (by simp only [EN, Nat.reduceEqDiff, reduceIte, i17_3] <;> rfl))]; rfl) | exact gOk_z (gd_un (t := 115) rfl (by simp only [EN, Nat.reduceEqDiff, reduceIte, i17_3] <;> rfl))) ?_
               refine LD.offS rfl (by first | (rw [gOk_s (gd_at (t := 115) rfl (by simp only [EN, Nat.reduceEqDiff, reduceIte] <;> rfl))]; rfl) | exact gOk_z (gd_un (t := 115) rfl (by simp only [EN, Nat.reduceEqDiff, reduceIte] <;> rfl))) ?_
               refine LD.offS rfl (by first | (rw [gOk_s (gd_at (t := 115) rfl (by simp only [EN, Nat.reduceEqDiff, reduceIte] <;> rfl))]; rfl) | exact gOk_z (gd_un (t := 115) rfl (by simp only [EN, Nat.reduceEqDiff, reduceIte] <;> rfl))) ?_
               refine LD.offS rfl (by first | (rw [gOk_s (gd_at (t := 115) rfl (by simp only [EN, Nat.reduceEqDiff, reduceIte, k11_3] <;> rfl))]; rfl) | exact gOk_z (gd_un (t := 115) rfl (by simp only [EN, Nat.reduceEqDiff, reduceIte, k11_3] <;> rfl))) ?_
               refine LD.offS rfl (by first | (rw [gOk_s (gd_at (t := 115) rfl (by simp only [EN, Nat.reduceEqDiff, reduceIte, i16_3] <;> rfl))]; rfl) | exact gOk_z (gd_un (t := 115) rfl (by simp only [EN, Nat.reduceEqDiff, reduceIte, i16_3] <;> rfl))) ?_
               refine LD.offS rfl (by first | (rw [gOk_s (gd_at (t := 115) rfl (by simp only [EN, Nat.reduceEqDiff, reduceIte] <;> rfl))]; rfl) | exact gOk_z (gd_un (t := 115) rfl (by simp only [EN, Nat.reduceEqDiff, reduceIte] <;> rfl))) ?_
               refine LD.offS rfl (by first | (rw [gOk_s (gd_at (t := 115) rfl (by simp only [EN, Nat.reduceEqDiff, reduceIte] <;> rfl))]; rfl) | exact gOk_z (gd_un (t := 115) rfl (by simp only [EN, Nat.reduceEqDiff, reduceIte] <;> rfl))) ?_
               refine LD.offS rfl (by first | (rw [gOk_s (gd_at (t := 115) rfl (by simp only [EN, Nat.reduceEqDiff, reduceIte] <;> rfl))]; rfl) | exact gOk_z (gd_un (t := 115) rfl (by simp only [EN, Nat.reduceEqDiff, reduceIte] <;> rfl))) ?_
               refine LD.offS rfl (by first | (rw [gOk_s (gd_at (t := 112) rfl (by simp only [EN, Nat.reduceEqDiff, reduceIte] <;> rfl))]; rfl) | exact gOk_z (gd_un (t := 112) rfl (by simp only [EN, Nat.reduceEqDiff, reduceIte] <;> rfl))) ?_
               refine LD.qq rfl rfl (by simp only [EN, Nat.reduceEqDiff, reduceIte, qv_pick, pk_and, pk_or, GR]; rfl) ?_
               refine LD.nil ?_
               rintro hL2 rfl -
               refine WL.nil (th_norm ?_)
               refine hx_cond (by simp only [EN, Nat.reduceEqDiff, reduceIte]; rfl) (fun hct126 => ?_) (fun hct126 => ?_)
               ·
                simp at hct126
               ·
                try simp only [BD] at hct126
                refine hx_skip (bl_norm (th_norm (hx_region ?_)))
                iterate 3 refine WL.qq (by simp only [EN, Nat.reduceEqDiff, reduceIte, qv_move, i17_3, qv_binOp, binv_add, qv_assign]; (try simp (disch := omega) only [w64, w8, wu64]); rfl) ?_
                refine WL.nil (th_norm ?_)
                refine ⟨rfl, rfl, ?_, _, ?_, i + 1, b, rfl, ?_, ?_, ?_, ?_⟩
                · (repeat (first | exact Fr.refl _ _ | refine Fr.set rfl ?_ | refine Fr.put rfl ?_ | with_reducible refine Fr.put0 ?_))
                · omega
                · omega
                · exact hb.skip hfr
                · simp only [EN, Nat.reduceEqDiff, reduceIte, k0_3, k9_3, k10_3, k11_3, k15_3, i17_3, i16_3] <;> first | rfl | (congr 1; omega)
                · simp only [EN, Nat.reduceEqDiff, reduceIte, k0_3, k9_3, k10_3, k11_3, k15_3, i17_3, i16_3] <;> first | rfl | (congr 1; omega)
             ·
              try simp only [BD] at hct104
              obtain rfl : i = ws.length := (by omega)
              obtain rfl := Bst.last hpk hb
              refine hx_exit (th_exit (th_exit (bl_hit (th_norm (hx_seq (hx_region ?_))))))
              iterate 3 refine WL.qq (by simp only [EN, Nat.reduceEqDiff, reduceIte, qv_move, k15_3, i16_3, qv_indexAddr]; (try simp (disch := omega) only [ix141, Int.toNat_natCast]); rfl) ?_
              obtain ⟨cur, hcur, hle, hput⟩ := hv.putAt (f := boL) (sz := 1) (fun _ => rfl) gvL_len.symm rfl (j := p.i) (k := 0) (y := decide (p.i ∈ ((ordP (rst t S ws)).take k2).map SP.i)) (y' := true) (vs := [.bool true]) (gvL_at hpl) (by simp) rfl
              rw [gvL_step hpk hpl] at hput
              have hle2 : 0 + p.i + 1 ≤ cur.size := (by simpa using hle)
              refine WL.store (off := 0 + p.i) (by simp only [EN, Nat.reduceEqDiff, reduceIte, k0_3, k9_3, k10_3, k11_3, k15_3, i17_3, i16_3, Int.toNat_natCast] <;> rfl) sz4 (by simp only [EN, Nat.reduceEqDiff, reduceIte, k0_3, k9_3, k10_3, k11_3, k15_3, i17_3, i16_3, Value.cells] <;> rfl) rfl hcur hle2 (by simp [Value.oneCell']) ?_
              intro h40 hw40
              have hv40 := hput h40 (by simpa using hw40)
              have ho40 := ho.keep (fun x hx => hw40.same x (fun hh => by subst hh; exact ho.ncell hcur (by decide) hx))
              have hp40 := hp.keep (fun x hx => hw40.same x (fun hh => by subst hh; exact hp.ncell hcur (by decide) hx))
              have hX40 := hw40.ext hX (by omega)
              obtain ⟨q, hq⟩ : ∃ q, q = t * w0 / S := ⟨_, rfl⟩
              rw [← hq] at hsw hstep hqt
              obtain ⟨b4, o4, ha4, hc4⟩ := one_at (slG_own (f := natL) (sz := 1) (fun _ => rfl) ho40 splK_len.symm) hsw rfl
              cases ha4
              refine WL.nil (th_norm (hx_region ?_))
              iterate 3 refine WL.qq (by simp only [EN, Nat.reduceEqDiff, reduceIte, qv_move, k10_3, i16_3, qv_indexAddr]; (try simp (disch := omega) only [ix55, Int.toNat_natCast]); rfl) ?_
              refine WL.qq (by simp only [EN, Nat.reduceEqDiff, reduceIte, k0_3, k9_3, k10_3, k11_3, k15_3, i17_3, i16_3, qv_load, ld2, Int.toNat_natCast, hc4]; rfl) ?_
              iterate 2 refine WL.qq (by simp only [EN, Nat.reduceEqDiff, reduceIte, qv_binOp, binv_add, qv_indexAddr]; (try simp (disch := omega) only [w64, w8, wu64, ix55, Int.toNat_natCast]); rfl) ?_
              obtain ⟨cu2, hcu2, hle3, hput2⟩ := ho40.putAt (f := natL) (sz := 1) (fun _ => rfl) splK_len.symm rfl (j := p.i) (k := 0) (y := q) (y' := q + 1) (vs := [iV ((q : Int) + 1)]) hsw (by simp) rfl
              rw [← hstep] at hput2
              have hle4 : 0 + p.i + 1 ≤ cu2.size := (by simpa using hle3)
              refine WL.store (off := 0 + p.i) (by simp only [EN, Nat.reduceEqDiff, reduceIte, k0_3, k9_3, k10_3, k11_3, k15_3, i17_3, i16_3, Int.toNat_natCast] <;> rfl) sz2 (by simp only [EN, Nat.reduceEqDiff, reduceIte, k0_3, k9_3, k10_3, k11_3, k15_3, i17_3, i16_3, Value.cells] <;> rfl) rfl hcu2 hle4 (by simp [Value.oneCell']) ?_
              intro h41 hw41
              have ho41 := hput2 h41 (by simpa using hw41)
              have hp41 := hp40.keep (fun x hx => hw41.same x (fun hh => by subst hh; exact hp40.ncell hcu2 (by decide) hx))
              have hv41 := hv40.keep (fun x hx => hw41.same x (fun hh => by subst hh; exact hv40.ncell hcu2 (by decide) hx))
              have hX41 := hw41.ext hX40 (by omega)
              refine WL.nil (bl_norm (th_norm (hx_region ?_)))
              refine WL.qq (by simp only [EN, Nat.reduceEqDiff, reduceIte, qv_move, k9_3]; rfl) ?_
              refine WL.qq (by refine Eq.trans (b := some (uV (lftN t ws - (k2 + 1)))) ?_ rfl; simp only [EN, Nat.reduceEqDiff, reduceIte, k0_3, k9_3, k10_3, k11_3, k15_3, i17_3, i16_3, qv_binOp]; rw [show lftN t ws - (k2 + 1) = lftN t ws - k2 - 1 by omega]; exact subU _ 1 (by omega) (by omega)) ?_
              refine WL.qq (by simp only [EN, Nat.reduceEqDiff, reduceIte, qv_assign]; rfl) ?_
              refine WL.nil (th_norm ?_)
              refine ⟨rfl, ?_, _, ?_, k2 + 1, rfl, ?_, ?_, ?_, ?_, ?_, ?_⟩
              · (repeat (first | exact Fr.refl _ _ | refine Fr.set rfl ?_ | refine Fr.put rfl ?_ | with_reducible refine Fr.put0 ?_ | refine Fr.trans ?_ (Fr.of hfr3 rfl)))
              · omega
              · omega
              · exact hX41
              · exact ho41
              · exact hp41
              · exact hv41
              · simp only [EN, Nat.reduceEqDiff, reduceIte, k0_3, k9_3, k10_3, k11_3, k15_3, i17_3, i16_3] <;> first | rfl | (congr 1; omega)
           ·
            try simp only [BD] at hct98
            obtain rfl : k2 = lftN t ws := (by omega)
            refine hx_exit (th_exit (th_exit (bl_hit (th_norm (hx_seq (hx_seq (hx_region ?_)))))))
            iterate 2 refine WL.qq (by simp only [EN, Nat.reduceEqDiff, reduceIte, qv_move, k0_2, qv_binOp, binv_lss]; rfl) ?_
            refine WL.nil (th_norm ?_)
            refine hx_cond (by simp only [EN, Nat.reduceEqDiff, reduceIte]; rfl) (fun hct138 => ?_) (fun hct138 => ?_)
            ·
             simp at hct138; omega
            ·
             try simp only [BD] at hct138
             refine hx_skip (th_norm (hx_seq (hx_region ?_)))
             iterate 3 refine WL.qq (by simp only [EN, Nat.reduceEqDiff, reduceIte, qv_move, k10_2, qv_assign]; rfl) ?_
             refine WL.nil (th_norm (hx_ret ?_))
             refine fin_ret [.tmp 4, .tmp 5] rfl rfl (by simp only [EN, Nat.reduceEqDiff, reduceIte, resv, k0_2, k10_2, k11_2, k15_2, i9_2]; rfl) ?_
             exact ⟨hX, _, rfl, by rw [show splL t ws = splK t S ws (lftN t ws) by rw [hSe]; rfl]; exact ho⟩
end GL
namespace GL
open Go Go.Proofs
set_option maxRecDepth 8000
abbrev tyRW : TypeId := 121
section
variable {E : EL}
theorem tot_ws (g : GoodE E) {k : Nat} (hk : k < E.os.length) (hd : k ≠ E.d) : (totE E)[k]? = some (((wsE E k).sum : Nat) : Int) := by
  rw [totE_at hk, wsE_sum g k]
  congr 1
  refine sumF_congr fun x _ => ?_
  unfold tknE; rw [if_neg hd]
theorem accE_d (g : GoodE E) : accE E E.d = wsE E E.d := by
  obtain ⟨x, hx, h0⟩ := g.dft
  rw [accE_at hx, h0]
  unfold capL
  rw [if_neg (by simp)]
theorem accE_len2 {k : Nat} (hk : k < E.os.length) : (accE E k).length = E.hs.length := accE_len hk
theorem aE_k (g : GoodE E) {i k : Nat} {x : SI} {y : Nat} (hx : E.hs[i]? = some x) (hk : k < E.os.length) (hd : k ≠ E.d) (hy : (accE E k)[i]? = some y) : aE E x k = (y : Int) := by
  have h1 := idx_of g.nd hx
  unfold aE uE
  simp only [h1, Int.toNat_natCast, hy, Option.getD_some]
  rw [if_pos ⟨by omega, by omega, by omega, .inl (by omega)⟩]
theorem aE_d {x : SI} : aE E x E.d = 0 := by
  unfold aE uE
  rw [if_neg (by simp)]
theorem resE_len (h40 : E.hs.length ≤ 40) (hno : E.os.length ≤ 16) (i : Nat) : ((E.hs.take i).flatMap (rowR E)).length ≤ 640 := by
  have h8 := fmp_len (f := rowR E) (n := 16) (fun x => Nat.le_trans (List.length_filterMap_le _ _) (by rw [List.length_zipIdx]; omega)) (E.hs.take i)
  rw [List.length_take] at h8
  have h9 : min i E.hs.length * 16 ≤ 40 * 16 := Nat.mul_le_mul_right _ (by omega)
  omega
end
section
variable {h : Heap} {vh vo vc : Value} {E : EL}
set_option maxHeartbeats 4000000 in
theorem c_rResults (g : GoodE E) (h40 : E.hs.length ≤ 40) (hI : RI h vh vo vc E) :
    HCalls Tryz.prog 38 #[reV vh vo vc E] h fun v h' => Ext h h' ∧ Own h' h.size tyRW 4 v (resE E).length ((resE E).flatMap rxL) := by
  have hI0 := hI
  have hcl := g.cl h40
  obtain ⟨ah, ch, rfl, hch, hsh⟩ := hI.sh
  obtain ⟨ao, co, rfl, hco, hso⟩ := hI.so
  obtain ⟨ac, cc, rows0, rfl, hcc, hsc, hri⟩ := hI.sc
  have hsh0 := hsh; have hsc0 := hsc; have hri0 := hri; have hso0 := hso
  have hnh := g.hn; have hno := g.on
  have hdl : E.d < E.os.length := by obtain ⟨x, hx, _⟩ := g.dft; exact (List.getElem?_eq_some_iff.1 hx).1
  have htl := totE_len (E := E)
  refine hcalls2 Tryz.func38 rfl (by decide +kernel) (by simp only [Tryz.ntmps38]; exact of_decide_eq_true rfl) ?_
  intro e hin
  have e0 := hin 0 _ rfl
  refine hx_seq (hx_region ?_)
  refine WL.box2 (by simp only [EN, Nat.reduceEqDiff, reduceIte, Value.cells, e0]; rfl) ?_
  intro h1 B1 hx1 hlt1 hB1
  replace hI := hI.ext hx1
  refine WL.qq (by simp only [EN, Nat.reduceEqDiff, reduceIte, qv_assign, hB1.cell]; rfl) ?_
  refine WL.nil (th_norm (hx_seq (hx_region ?_)))
  refine WL.qq (by simp only [EN, Nat.reduceEqDiff, reduceIte, qv_load, ld34, readN, AR, Nat.zero_add, Nat.reduceAdd, hB1.cell]; rfl) ?_
  refine WL.ce Tryz.call26 (by simp only [EN, Nat.reduceEqDiff, reduceIte, AR, hB1.cell]; exact c_rTotals g hI) ?_
  rintro _ h2 ⟨hx2, hto⟩
  replace hI := hI.ext hx2
  replace hB1 := hB1.ext hx2
  simp only [put_some]
  obtain ⟨at1, ct1, rfl⟩ := hto.slice
  have htR := SlR.own (f := intL) (sz := 1) (fun _ => rfl) hto rfl
  rw [htl]
  refine WL.qq (by simp only [EN, Nat.reduceEqDiff, reduceIte, qv_assign, hB1.cell]; rfl) ?_
  refine WL.nil (th_norm (hx_seq (hx_region ?_)))
  iterate 3 refine WL.qq (by simp only [EN, Nat.reduceEqDiff, reduceIte, qv_fieldAddr, fa34_1, Nat.zero_add, Nat.reduceAdd, hB1.cell, qv_load, ld23, readN, AR, qv_len, ln23]; rfl) ?_
  have hX2 := ((hx1).trans (hx2))
  refine WL.ef _ (e_makeSl (n := E.os.length) (sz := 1) (bytes := 24) Tryz.underlying32 (inf_of Tryz.type55) rfl rfl rfl (by simp only [EN, Nat.reduceEqDiff, reduceIte, e0, hB1.cell]; rfl) (by simp only [EN, Nat.reduceEqDiff, reduceIte, e0, hB1.cell]; rfl) (by omega) (by simp only [maxLen]; omega)) ?_
  rintro _ h30 ⟨hx30, rfl, ho30⟩
  simp only [put_some]
  have hzf := made_flat (f := svL) (sz := 1) (z := (⟨none, 0, 0⟩ : SV)) (zc := (#[.slice none 0 0] : Array Value)) rfl rfl (by decide) E.os.length
  have ho31 : Own h30 h.size tySl 1 (.slice (some ⟨h2.size, 0, none⟩) E.os.length E.os.length) E.os.length ((List.replicate E.os.length (⟨none, 0, 0⟩ : SV)).flatMap svL) := (by rw [← hzf]; exact ho30.base hX2.size)
  replace hB1 := hB1.ext hx30
  replace htR := htR.ext hx30
  have hX30 := hX2.trans hx30
  have hgz : h.size ≤ h2.size := hX2.size
  generalize hg4 : Array.size h2 = g4 at ho31 hgz ⊢
  refine WL.qq (by simp only [EN, Nat.reduceEqDiff, reduceIte, qv_assign, hB1.cell]; rfl) ?_
  refine WL.nil (th_norm (hx_seq (hx_seq (hx_region ?_))))
  refine WL.qq (by simp only [EN, Nat.reduceEqDiff, reduceIte, qv_assign, hB1.cell]; rfl) ?_
  refine WL.nil (th_norm (hx_block ?_))
  refine hx_loopG [5, 6, 7, 20, 21, 22, 23, 24, 25, 26, 27, 28, 29, 30, 31, 32, 33, 34, 35, 36, 37, 38, 39, 40, 41, 42, 43, 44, 45, 46, 47, 48, 49, 50, 51, 52, 53, 54, 55, 56, 57, 58, 59, 60, 61, 62, 63, 64, 65, 66, 67, 68, 69, 70, 71, 72, 73, 74, 75, 76, 77, 78, 79, 80, 81, 82, 83, 84, 85] (fun k e hL0 => ∃ (o2 : Nat) (A : List SV), E.os.length - o2 = k ∧ (o2 ≤ E.os.length) ∧ (Ext h hL0) ∧ (Has hL0 B1 (.cells #[.slice ah E.hs.length ch, .slice ao E.os.length co, iV E.d, iV E.dd, iV E.dm, .slice ac E.hs.length cc, .bool E.cl] tyRE)) ∧ (SlR tyI 1 intL hL0 at1 (totE E)) ∧ (Own hL0 h.size tySl 1 (.slice (some ⟨g4, 0, none⟩) E.os.length E.os.length) E.os.length (A.flatMap svL)) ∧ (A.length = E.os.length) ∧ ((∀ k, k < o2 → ∃ r, A[k]? = some r ∧ r.n = E.hs.length ∧ SlR tyI 1 natL hL0 r.a (accE E k))) ∧ e 5 = .int .i64 o2) _ ⟨0, List.replicate E.os.length ⟨none, 0, 0⟩, rfl, ?_, ?_, ?_, ?_, ?_, ?_, ?_, ?_⟩ ?_
  · omega
  · exact hX30
  · exact hB1
  · exact htR
  · exact ho31
  · exact List.length_replicate
  · intro k hk; omega
  · simp only [EN, Nat.reduceEqDiff, reduceIte, e0, hB1.cell] <;> rfl
  ·
   rintro k e0L hL0 hfr0 ⟨o2, A, rfl, ho2, hX, hB1, htR, haq, hAl, hA, i5_0⟩
   have k1_0 := hfr0 1 rfl; try simp only [EN, Nat.reduceEqDiff, reduceIte, hB1.cell] at k1_0
   have k3_0 := hfr0 3 rfl; try simp only [EN, Nat.reduceEqDiff, reduceIte, hB1.cell] at k3_0
   have k4_0 := hfr0 4 rfl; try simp only [EN, Nat.reduceEqDiff, reduceIte, hB1.cell] at k4_0
   refine hx_seq (hx_seq (hx_region ?_))
   iterate 5 refine WL.qq (by simp only [EN, Nat.reduceEqDiff, reduceIte, qv_move, i5_0, hB1.cell, hB1.cell, qv_fieldAddr, fa34_1, Nat.zero_add, Nat.reduceAdd, k1_0, qv_load, ld23, readN, AR, qv_len, ln23, qv_binOp, binv_lss]; rfl) ?_
   refine WL.nil (th_norm ?_)
   refine hx_cond (by simp only [EN, Nat.reduceEqDiff, reduceIte, hB1.cell, hB1.cell]; rfl) (fun hct24 => ?_) (fun hct24 => ?_)
   ·
    try simp only [BD] at hct24
    obtain ⟨y, hy⟩ := atG (l := E.os) (i := o2) (by omega)
    have hyq := g.oq y (List.mem_of_getElem? hy); obtain ⟨c, hcy⟩ : ∃ c : Nat, y.n = (c : Int) := ⟨y.n.toNat, by omega⟩
    have hwl := wsE_len (E := E) (k := o2); have hacc := accE_at hy; rw [hcy, Int.toNat_natCast] at hacc; have hws := hcl.ws o2
    refine hx_skip (th_norm (hx_seq (hx_block (hx_seq (hx_region ?_)))))
    refine WL.qq (by simp only [EN, Nat.reduceEqDiff, reduceIte, qv_assign, hB1.cell, hB1.cell]; rfl) ?_
    refine WL.nil (th_norm (hx_seq (hx_seq (hx_region ?_))))
    refine WL.qq (by simp only [EN, Nat.reduceEqDiff, reduceIte, qv_assign, hB1.cell, hB1.cell]; rfl) ?_
    refine WL.nil (th_norm (hx_block ?_))
    refine hx_loopG [6, 7, 27, 28, 29, 30, 31, 32, 33, 34, 35, 36, 37, 38, 39, 40, 41, 42, 43, 44] (fun k e hL1 => ∃ (i : Nat) (av : Option Addr) (cv : Nat), E.hs.length - i = k ∧ (i ≤ E.hs.length) ∧ (Ext hL0 hL1) ∧ (Has hL1 B1 (.cells #[.slice ah E.hs.length ch, .slice ao E.os.length co, iV E.d, iV E.dd, iV E.dm, .slice ac E.hs.length cc, .bool E.cl] tyRE)) ∧ (Own hL1 hL0.size tyI 1 (.slice av i cv) i (((wsE E o2).take i).flatMap natL)) ∧ e 7 = .int .i64 i ∧ e 6 = .slice av i cv) _ ⟨0, none, 0, rfl, ?_, ?_, ?_, ?_, ?_, ?_⟩ ?_
    · omega
    · exact Ext.refl _
    · exact hB1
    · exact Own.nil
    · simp only [EN, Nat.reduceEqDiff, reduceIte, k1_0, k3_0, k4_0, i5_0, hB1.cell, hB1.cell] <;> rfl
    · simp only [EN, Nat.reduceEqDiff, reduceIte, k1_0, k3_0, k4_0, i5_0, hB1.cell, hB1.cell] <;> rfl
    ·
     rintro k e1L hL1 hfr1 ⟨i, av, cv, rfl, hi, hXi, hB1, hl, i7_1, i6_1⟩
     have k1_1 := hfr1 1 rfl; try simp only [EN, Nat.reduceEqDiff, reduceIte, k1_0, hB1.cell, hB1.cell] at k1_1
     have k3_1 := hfr1 3 rfl; try simp only [EN, Nat.reduceEqDiff, reduceIte, k3_0, hB1.cell, hB1.cell] at k3_1
     have k4_1 := hfr1 4 rfl; try simp only [EN, Nat.reduceEqDiff, reduceIte, k4_0, hB1.cell, hB1.cell] at k4_1
     have k5_1 := hfr1 5 rfl; try simp only [EN, Nat.reduceEqDiff, reduceIte, i5_0, hB1.cell, hB1.cell] at k5_1
     refine hx_seq (hx_seq (hx_region ?_))
     iterate 5 refine WL.qq (by simp only [EN, Nat.reduceEqDiff, reduceIte, qv_move, i7_1, hB1.cell, hB1.cell, hB1.cell, qv_fieldAddr, fa34_0, Nat.zero_add, Nat.reduceAdd, k1_1, qv_load, ld22, readN, AR, qv_len, ln22, qv_binOp, binv_lss]; rfl) ?_
     refine WL.nil (th_norm ?_)
     refine hx_cond (by simp only [EN, Nat.reduceEqDiff, reduceIte, hB1.cell, hB1.cell, hB1.cell]; rfl) (fun hct31 => ?_) (fun hct31 => ?_)
     ·
      try simp only [BD] at hct31
      obtain ⟨x, hxi⟩ := atG (l := E.hs) (i := i) (by omega)
      obtain ⟨b2, o3, b3, o4, c3, ha2, hc2, hc3⟩ := row_rd (hsc0.ext (hX.trans hXi)).rd (hri0.ext (hX.trans hXi)) hxi (k := o2) (by omega)
      rw [chN_i g.b] at hc3; have hwx := wsE_at (k := o2) hxi
      refine hx_skip (th_norm (hx_seq (hx_block (hx_region ?_))))
      iterate 4 refine WL.qq (by simp only [EN, Nat.reduceEqDiff, reduceIte, qv_move, i6_1, hB1.cell, hB1.cell, hB1.cell, qv_fieldAddr, fa34_4, Nat.zero_add, Nat.reduceAdd, k1_1, qv_load, ld32, readN, AR, i7_1]; rfl) ?_
      refine WL.qq (by simp only [EN, Nat.reduceEqDiff, reduceIte, qv_indexAddr, hB1.cell, hB1.cell, hB1.cell, ha2]; (try simp (disch := omega) only [ix32, Int.toNat_natCast]); rfl) ?_
      refine WL.qq (by simp only [EN, Nat.reduceEqDiff, reduceIte, k1_1, k3_1, k4_1, k5_1, i7_1, i6_1, hB1.cell, hB1.cell, hB1.cell, qv_load, ld55, Int.toNat_natCast, Nat.mul_one, hc2]; rfl) ?_
      iterate 2 refine WL.qq (by simp only [EN, Nat.reduceEqDiff, reduceIte, qv_move, k5_1, hB1.cell, hB1.cell, hB1.cell, qv_indexAddr]; (try simp (disch := omega) only [ix55, Int.toNat_natCast]); rfl) ?_
      refine WL.qq (by simp only [EN, Nat.reduceEqDiff, reduceIte, k1_1, k3_1, k4_1, k5_1, i7_1, i6_1, hB1.cell, hB1.cell, hB1.cell, qv_load, ld2, Int.toNat_natCast, Nat.mul_one, hc3]; rfl) ?_
      refine WL.push (bytes := 8) Tryz.underlying55 (inf_of Tryz.type2) rfl rfl rfl rfl (by decide) (by decide) sz2 zr2 (fun u => by simp only [EN, Nat.reduceEqDiff, reduceIte, k1_1, k3_1, k4_1, k5_1, i7_1, i6_1, hB1.cell, hB1.cell, hB1.cell]) hl (c := #[iV (chN E x.s o2)]) (by simp only [EN, Nat.reduceEqDiff, reduceIte, k1_1, k3_1, k4_1, k5_1, i7_1, i6_1, hB1.cell, hB1.cell, hB1.cell, Value.cells] <;> rfl) rfl (by simp [Value.oneCell']) (by simp only [maxLen]; omega) (by omega) hXi.size ?_
      intro h40 v40 B40 ho40 hg40 hp40 hn40
      have hX40 := hg40.ext hXi (fun c hc => (hl.block c hc).1)
      have hB140 := hB1.gr hg40 (hl.ncell hB1 (by decide))
      obtain ⟨a40, c40, rfl, _⟩ := ho40.shape
      skip
      refine WL.qq (by simp only [EN, Nat.reduceEqDiff, reduceIte, qv_assign, hB1.cell, hB1.cell, hB1.cell]; rfl) ?_
      refine WL.nil (bl_norm (th_norm (hx_region ?_)))
      iterate 3 refine WL.qq (by simp only [EN, Nat.reduceEqDiff, reduceIte, qv_move, i7_1, hB1.cell, hB1.cell, hB1.cell, qv_binOp, binv_add, qv_assign]; (try simp (disch := omega) only [w64, w8, wu64]); rfl) ?_
      refine WL.nil (th_norm ?_)
      refine ⟨rfl, ?_, _, ?_, i + 1, a40, c40, rfl, ?_, ?_, ?_, ?_, ?_, ?_⟩
      · (repeat (first | exact Fr.refl _ _ | refine Fr.set rfl ?_ | refine Fr.put rfl ?_ | with_reducible refine Fr.put0 ?_))
      · omega
      · omega
      · exact hX40
      · exact hB140
      · rw [fm_step' hwx]; exact ho40
      · simp only [EN, Nat.reduceEqDiff, reduceIte, k1_1, k3_1, k4_1, k5_1, i7_1, i6_1, hB1.cell, hB1.cell, hB1.cell] <;> first | rfl | (congr 1; omega)
      · simp only [EN, Nat.reduceEqDiff, reduceIte, k1_1, k3_1, k4_1, k5_1, i7_1, i6_1, hB1.cell, hB1.cell, hB1.cell] <;> first | rfl | (congr 1; omega)
     ·
      try simp only [BD] at hct31
      obtain rfl : i = E.hs.length := (by omega)
      rw [List.take_of_length_le (by rw [hwl]; exact Nat.le_refl _)] at hl
      obtain ⟨b5, o5, ha5, hr5, _, hcy2⟩ := si_rd (hso0.ext (hX.trans hXi)).rd hy; rw [hcy] at hcy2
      obtain ⟨tt, htt⟩ := atG (l := totE E) (i := o2) (by omega); obtain ⟨b6, o6, ha6, hc6⟩ := one_at' (htR.ext hXi).rd htt rfl
      refine hx_exit (th_exit (th_exit (bl_hit (th_norm ?_))))
      refine hx_cutG [6, 45, 46, 47, 48, 49, 50, 51, 52, 53, 54, 55, 56, 57, 58, 59, 60, 61, 62, 63, 64, 65, 66, 67, 68, 69, 70, 71, 72, 73, 74, 75, 76, 77, 78, 79, 80, 81] (fun e hC11 => ∃ (au : Option Addr) (cu : Nat), (Ext hL0 hC11) ∧ (Has hC11 B1 (.cells #[.slice ah E.hs.length ch, .slice ao E.os.length co, iV E.d, iV E.dd, iV E.dm, .slice ac E.hs.length cc, .bool E.cl] tyRE)) ∧ (Own hC11 hL0.size tyI 1 (.slice au E.hs.length cu) E.hs.length ((accE E o2).flatMap natL)) ∧ e 6 = .slice au E.hs.length cu) ?_ ?_
      ·
       refine hx_seq ?_
       apply hx_draw2 Rel.same [] [] [] rfl (by decide +kernel) rfl
       iterate 5 refine LD.qq rfl rfl (by simp only [EN, Nat.reduceEqDiff, reduceIte, qv_move, k5_1, hB1.cell, hB1.cell, hB1.cell, qv_fieldAddr, fa34_2, Nat.zero_add, Nat.reduceAdd, k1_1, qv_load, ld3, readN, AR, qv_binOp, binv_neq, eq3, Option.map_some]; rfl) ?_
       refine LD.cq rfl rfl (gd_at (t := 49) rfl (by simp only [EN, Nat.reduceEqDiff, reduceIte, k1_1, hB1.cell, hB1.cell, hB1.cell] <;> rfl)) (fun hg11_5 => by simp only [EN, Nat.reduceEqDiff, reduceIte, qv_fieldAddr, fa34_1, Nat.zero_add, Nat.reduceAdd, k1_1, hB1.cell, hB1.cell, hB1.cell, hg11_5, GR]; rfl) ?_
       refine LD.cq rfl rfl (gd_at (t := 49) rfl (by simp only [EN, Nat.reduceEqDiff, reduceIte, hB1.cell, hB1.cell, hB1.cell] <;> rfl)) (fun hg11_6 => by simp only [EN, Nat.reduceEqDiff, reduceIte, qv_load, ld23, readN, AR, Nat.zero_add, Nat.reduceAdd, hB1.cell, hB1.cell, hB1.cell, hg11_6, GR]; rfl) ?_
       refine LD.cq rfl rfl (gd_at (t := 49) rfl (by simp only [EN, Nat.reduceEqDiff, reduceIte, k5_1, hB1.cell, hB1.cell, hB1.cell] <;> rfl)) (fun hg11_7 => by simp only [EN, Nat.reduceEqDiff, reduceIte, qv_move, k5_1, hB1.cell, hB1.cell, hB1.cell, hg11_7, GR]; rfl) ?_
       refine LD.cq rfl rfl (gd_at (t := 49) rfl (by simp only [EN, Nat.reduceEqDiff, reduceIte, hB1.cell, hB1.cell, hB1.cell] <;> rfl)) (fun hg11_8 => by have hq0 := hg11_8; (try simp only [BD] at hq0); simp only [EN, Nat.reduceEqDiff, reduceIte, qv_indexAddr, hB1.cell, hB1.cell, hB1.cell, ha5, hg11_8, GR]; (try simp (disch := omega) only [ix23, Int.toNat_natCast]); rfl) ?_
       refine LD.cq rfl rfl (gd_at (t := 49) rfl (by simp only [EN, Nat.reduceEqDiff, reduceIte, hB1.cell, hB1.cell, hB1.cell] <;> rfl)) (fun hg11_9 => by simp only [EN, Nat.reduceEqDiff, reduceIte, qv_fieldAddr, fa68_1, Nat.zero_add, Nat.reduceAdd, hB1.cell, hB1.cell, hB1.cell, hg11_9, GR]; rfl) ?_
       refine LD.cq rfl rfl (gd_at (t := 49) rfl (by simp only [EN, Nat.reduceEqDiff, reduceIte, hB1.cell, hB1.cell, hB1.cell] <;> rfl)) (fun hg11_10 => by simp only [EN, Nat.reduceEqDiff, reduceIte, k1_1, k3_1, k4_1, k5_1, i7_1, i6_1, hB1.cell, hB1.cell, hB1.cell, GR, hg11_10, qv_load, ld2, Int.toNat_natCast, hcy2]; rfl) ?_
       refine LD.cq rfl rfl (gd_at (t := 49) rfl (by simp only [EN, Nat.reduceEqDiff, reduceIte, hB1.cell, hB1.cell, hB1.cell] <;> rfl)) (fun hg11_11 => by simp only [EN, Nat.reduceEqDiff, reduceIte, qv_binOp, binv_gtr, hB1.cell, hB1.cell, hB1.cell, hg11_11, GR]; rfl) ?_
       iterate 2 refine LD.qq rfl rfl (by simp only [EN, Nat.reduceEqDiff, reduceIte, qv_pick, pk_and, pk_or, GR, hB1.cell, hB1.cell, hB1.cell, qv_move]; rfl) ?_
       refine LD.cq rfl rfl (gd_at (t := 58) rfl (by simp only [EN, Nat.reduceEqDiff, reduceIte, k3_1, hB1.cell, hB1.cell, hB1.cell] <;> rfl)) (fun hg11_14 => by simp only [EN, Nat.reduceEqDiff, reduceIte, qv_move, k3_1, hB1.cell, hB1.cell, hB1.cell, hg11_14, GR]; rfl) ?_
       refine LD.cq rfl rfl (gd_at (t := 58) rfl (by simp only [EN, Nat.reduceEqDiff, reduceIte, k5_1, hB1.cell, hB1.cell, hB1.cell] <;> rfl)) (fun hg11_15 => by simp only [EN, Nat.reduceEqDiff, reduceIte, qv_move, k5_1, hB1.cell, hB1.cell, hB1.cell, hg11_15, GR]; rfl) ?_
       refine LD.cq rfl rfl (gd_at (t := 58) rfl (by simp only [EN, Nat.reduceEqDiff, reduceIte, hB1.cell, hB1.cell, hB1.cell] <;> rfl)) (fun hg11_16 => by have hq0 := hg11_16; (try simp only [BD] at hq0); simp only [EN, Nat.reduceEqDiff, reduceIte, qv_indexAddr, hB1.cell, hB1.cell, hB1.cell, ha6, hg11_16, GR]; (try simp (disch := omega) only [ix55, Int.toNat_natCast]); rfl) ?_
       refine LD.cq rfl rfl (gd_at (t := 58) rfl (by simp only [EN, Nat.reduceEqDiff, reduceIte, hB1.cell, hB1.cell, hB1.cell] <;> rfl)) (fun hg11_17 => by simp only [EN, Nat.reduceEqDiff, reduceIte, k1_1, k3_1, k4_1, k5_1, i7_1, i6_1, hB1.cell, hB1.cell, hB1.cell, GR, hg11_17, qv_load, ld2, Int.toNat_natCast, Nat.mul_one, hc6]; rfl) ?_
       refine LD.cq rfl rfl (gd_at (t := 58) rfl (by simp only [EN, Nat.reduceEqDiff, reduceIte, k1_1, hB1.cell, hB1.cell, hB1.cell] <;> rfl)) (fun hg11_18 => by simp only [EN, Nat.reduceEqDiff, reduceIte, qv_fieldAddr, fa34_1, Nat.zero_add, Nat.reduceAdd, k1_1, hB1.cell, hB1.cell, hB1.cell, hg11_18, GR]; rfl) ?_
       refine LD.cq rfl rfl (gd_at (t := 58) rfl (by simp only [EN, Nat.reduceEqDiff, reduceIte, hB1.cell, hB1.cell, hB1.cell] <;> rfl)) (fun hg11_19 => by simp only [EN, Nat.reduceEqDiff, reduceIte, qv_load, ld23, readN, AR, Nat.zero_add, Nat.reduceAdd, hB1.cell, hB1.cell, hB1.cell, hg11_19, GR]; rfl) ?_
       refine LD.cq rfl rfl (gd_at (t := 58) rfl (by simp only [EN, Nat.reduceEqDiff, reduceIte, k5_1, hB1.cell, hB1.cell, hB1.cell] <;> rfl)) (fun hg11_20 => by simp only [EN, Nat.reduceEqDiff, reduceIte, qv_move, k5_1, hB1.cell, hB1.cell, hB1.cell, hg11_20, GR]; rfl) ?_
       refine LD.cq rfl rfl (gd_at (t := 58) rfl (by simp only [EN, Nat.reduceEqDiff, reduceIte, hB1.cell, hB1.cell, hB1.cell] <;> rfl)) (fun hg11_21 => by have hq0 := hg11_21; (try simp only [BD] at hq0); simp only [EN, Nat.reduceEqDiff, reduceIte, qv_indexAddr, hB1.cell, hB1.cell, hB1.cell, ha5, hg11_21, GR]; (try simp (disch := omega) only [ix23, Int.toNat_natCast]); rfl) ?_
       refine LD.cq rfl rfl (gd_at (t := 58) rfl (by simp only [EN, Nat.reduceEqDiff, reduceIte, hB1.cell, hB1.cell, hB1.cell] <;> rfl)) (fun hg11_22 => by simp only [EN, Nat.reduceEqDiff, reduceIte, qv_fieldAddr, fa68_1, Nat.zero_add, Nat.reduceAdd, hB1.cell, hB1.cell, hB1.cell, hg11_22, GR]; rfl) ?_
       refine LD.cq rfl rfl (gd_at (t := 58) rfl (by simp only [EN, Nat.reduceEqDiff, reduceIte, hB1.cell, hB1.cell, hB1.cell] <;> rfl)) (fun hg11_23 => by simp only [EN, Nat.reduceEqDiff, reduceIte, k1_1, k3_1, k4_1, k5_1, i7_1, i6_1, hB1.cell, hB1.cell, hB1.cell, GR, hg11_23, qv_load, ld2, Int.toNat_natCast, hcy2]; rfl) ?_
       refine LD.cq rfl rfl (gd_at (t := 58) rfl (by simp only [EN, Nat.reduceEqDiff, reduceIte, hB1.cell, hB1.cell, hB1.cell] <;> rfl)) (fun hg11_24 => by simp only [EN, Nat.reduceEqDiff, reduceIte, qv_binOp, binv_gtr, hB1.cell, hB1.cell, hB1.cell, hg11_24, GR]; rfl) ?_
       refine LD.qq rfl rfl (by simp only [EN, Nat.reduceEqDiff, reduceIte, qv_pick, pk_and, pk_or, GR, hB1.cell, hB1.cell, hB1.cell]; rfl) ?_
       refine LD.nil ?_
       rintro hL1 rfl -
       refine WL.nil (th_norm ?_)
       refine hx_cond (by simp only [EN, Nat.reduceEqDiff, reduceIte, hB1.cell, hB1.cell, hB1.cell]; rfl) (fun hct70 => ?_) (fun hct70 => ?_)
       ·
        try simp only [BD] at hct70
        have hod : o2 ≠ E.d := (by omega); have hts := tot_ws g (k := o2) (by omega) hod; rw [htt] at hts; have htv := Option.some.inj hts
        have hae : accE E o2 = splL c (wsE E o2) := (by rw [hacc, capL, if_pos (by omega)])
        refine hx_region ?_
        iterate 3 refine WL.qq (by simp only [EN, Nat.reduceEqDiff, reduceIte, qv_fieldAddr, fa34_1, Nat.zero_add, Nat.reduceAdd, k1_1, hB1.cell, hB1.cell, hB1.cell, qv_load, ld23, readN, AR, qv_move, k5_1]; rfl) ?_
        refine WL.qq (by simp only [EN, Nat.reduceEqDiff, reduceIte, qv_indexAddr, hB1.cell, hB1.cell, hB1.cell, ha5]; (try simp (disch := omega) only [ix23, Int.toNat_natCast]); rfl) ?_
        refine WL.qq (by simp only [EN, Nat.reduceEqDiff, reduceIte, qv_fieldAddr, fa68_1, Nat.zero_add, Nat.reduceAdd, hB1.cell, hB1.cell, hB1.cell]; rfl) ?_
        refine WL.qq (by simp only [EN, Nat.reduceEqDiff, reduceIte, k1_1, k3_1, k4_1, k5_1, i7_1, i6_1, hB1.cell, hB1.cell, hB1.cell, qv_load, ld2, Int.toNat_natCast, hcy2]; rfl) ?_
        refine WL.qq (by simp only [EN, Nat.reduceEqDiff, reduceIte, qv_move, i6_1, hB1.cell, hB1.cell, hB1.cell]; rfl) ?_
        have hzi := hXi.size
        refine WL.ce Tryz.call55 (by simp only [EN, Nat.reduceEqDiff, reduceIte, AR, hB1.cell, hB1.cell, hB1.cell]; exact (by have h9 := c_rsplit c av (wsE E o2) cv (by omega) (by omega) (by omega) (by omega) (slG_own (f := natL) (sz := 1) (fun _ => rfl) hl hwl.symm); rw [hwl] at h9; exact h9)) ?_
        rintro _ h3 ⟨hx3, u50, rfl, hou⟩
        replace hXi := hXi.ext hx3
        replace hB1 := hB1.ext hx3
        replace hl := hl.ext hx3
        simp only [put_some]
        have hX50 := hXi
        replace hou := hou.base hzi
        rw [← hae] at hou
        obtain ⟨a50, c50, rfl⟩ := hou.slice
        iterate 4 refine WL.qq (by simp only [EN, Nat.reduceEqDiff, reduceIte, qv_move, hB1.cell, hB1.cell, hB1.cell, qv_extract, AR, qv_assign]; rfl) ?_
        refine WL.nil (th_norm ?_)
        refine ⟨rfl, ?_, a50, c50, ?_, ?_, ?_, ?_⟩
        · (repeat (first | exact Fr.refl _ _ | refine Fr.set rfl ?_ | refine Fr.put rfl ?_ | with_reducible refine Fr.put0 ?_))
        · exact hX50
        · exact hB1
        · exact hou
        · simp only [EN, Nat.reduceEqDiff, reduceIte, k1_1, k3_1, k4_1, k5_1, i7_1, i6_1, hB1.cell, hB1.cell, hB1.cell] <;> first | rfl | (congr 1; omega)
       ·
        try simp only [BD] at hct70
        have hae : accE E o2 = wsE E o2 := (by by_cases hod : o2 = E.d; (rw [hod]; exact accE_d g); (rw [hacc, capL, if_neg]; have hts := tot_ws g (k := o2) (by omega) hod; rw [htt] at hts; have htv := Option.some.inj hts; omega))
        refine hx_skip (th_norm ?_)
        refine ⟨rfl, ?_, av, cv, ?_, ?_, ?_, ?_⟩
        · (repeat (first | exact Fr.refl _ _ | refine Fr.set rfl ?_ | refine Fr.put rfl ?_ | with_reducible refine Fr.put0 ?_))
        · exact hXi
        · exact hB1
        · rw [hae]; exact hl
        · simp only [EN, Nat.reduceEqDiff, reduceIte, k1_1, k3_1, k4_1, k5_1, i7_1, i6_1, hB1.cell, hB1.cell, hB1.cell] <;> first | rfl | (congr 1; omega)
      ·
       rintro ec11 hC11 hfc11 ⟨au, cu, hXi, hB1, hl, i6_c11⟩
       have k1_c11 := hfc11 1 rfl; try simp only [EN, Nat.reduceEqDiff, reduceIte, k1_1, hB1.cell, hB1.cell, hB1.cell] at k1_c11
       have k3_c11 := hfc11 3 rfl; try simp only [EN, Nat.reduceEqDiff, reduceIte, k3_1, hB1.cell, hB1.cell, hB1.cell] at k3_c11
       have k4_c11 := hfc11 4 rfl; try simp only [EN, Nat.reduceEqDiff, reduceIte, k4_1, hB1.cell, hB1.cell, hB1.cell] at k4_c11
       have k5_c11 := hfc11 5 rfl; try simp only [EN, Nat.reduceEqDiff, reduceIte, k5_1, hB1.cell, hB1.cell, hB1.cell] at k5_c11
       refine hx_region ?_
       have haq2 := haq.ext hXi; obtain ⟨A0, hA0⟩ := atG (l := A) (i := o2) (by omega)
       iterate 4 refine WL.qq (by simp only [EN, Nat.reduceEqDiff, reduceIte, qv_move, k4_c11, hB1.cell, hB1.cell, hB1.cell, hB1.cell, k5_c11, i6_c11, qv_indexAddr]; (try simp (disch := omega) only [ix32, Int.toNat_natCast]); rfl) ?_
       obtain ⟨cur, hcur, hle, hput⟩ := haq2.putAt (f := svL) (sz := 1) (fun _ => rfl) hAl.symm rfl (j := o2) (k := 0) (y := A0) (y' := ⟨au, E.hs.length, cu⟩) (vs := [.slice au E.hs.length cu]) hA0 (by simp) rfl
       have hle2 : 0 + o2 + 1 ≤ cur.size := (by simpa using hle)
       refine WL.store (off := 0 + o2) (by simp only [EN, Nat.reduceEqDiff, reduceIte, k1_c11, k3_c11, k4_c11, k5_c11, i6_c11, hB1.cell, hB1.cell, hB1.cell, hB1.cell, Int.toNat_natCast] <;> rfl) sz55 (by simp only [EN, Nat.reduceEqDiff, reduceIte, k1_c11, k3_c11, k4_c11, k5_c11, i6_c11, hB1.cell, hB1.cell, hB1.cell, hB1.cell, Value.cells] <;> rfl) rfl hcur hle2 (by simp [Value.oneCell']) ?_
       intro h60 hw60
       have haq60 := hput h60 (by simpa using hw60)
       have hX60 := hw60.ext (hX.trans hXi) hgz
       have hB160 := hB1.wr hw60 (fun hh => haq2.ncell hB1 (by decide) (by rw [hh]; rfl))
       have htR60 := (htR.ext hXi).wr hw60 hcur (by decide)
       have hlR := (SlR.own (f := natL) (sz := 1) (fun _ => rfl) hl (accE_len2 (by omega)).symm).wr hw60 hcur (by decide)
       refine WL.nil (bl_norm (th_norm (hx_region ?_)))
       iterate 3 refine WL.qq (by simp only [EN, Nat.reduceEqDiff, reduceIte, qv_move, k5_c11, hB1.cell, hB1.cell, hB1.cell, hB1.cell, qv_binOp, binv_add, qv_assign]; (try simp (disch := omega) only [w64, w8, wu64]); rfl) ?_
       refine WL.nil (th_norm ?_)
       refine ⟨rfl, ?_, _, ?_, o2 + 1, A.set o2 ⟨au, E.hs.length, cu⟩, rfl, ?_, ?_, ?_, ?_, ?_, ?_, ?_, ?_⟩
       · (repeat (first | exact Fr.refl _ _ | refine Fr.set rfl ?_ | refine Fr.put rfl ?_ | with_reducible refine Fr.put0 ?_ | refine Fr.trans ?_ (Fr.of hfc11 rfl) | refine Fr.trans ?_ (Fr.of hfr1 rfl)))
       · omega
       · omega
       · exact hX60
       · exact hB160
       · exact htR60
       · exact haq60
       · rw [List.length_set, hAl]
       · intro k hk; by_cases h9 : k = o2; (subst h9; exact ⟨_, List.getElem?_set_self (by omega), rfl, hlR⟩); (obtain ⟨r, q1, q2, q3⟩ := hA k (by omega); exact ⟨r, by rw [List.getElem?_set_ne (Ne.symm h9)]; exact q1, q2, (q3.ext hXi).wr hw60 hcur (by decide)⟩)
       · simp only [EN, Nat.reduceEqDiff, reduceIte, k1_c11, k3_c11, k4_c11, k5_c11, i6_c11, hB1.cell, hB1.cell, hB1.cell, hB1.cell] <;> first | rfl | (congr 1; omega)
   ·
    try simp only [BD] at hct24
    obtain rfl : o2 = E.os.length := (by omega)
    have haR := SlR.own (f := svL) (sz := 1) (fun _ => rfl) haq hAl.symm
    refine hx_exit (th_exit (th_exit (bl_hit (th_norm (hx_seq (hx_region ?_))))))
    refine WL.qq (by simp only [EN, Nat.reduceEqDiff, reduceIte, qv_assign, hB1.cell, hB1.cell]; rfl) ?_
    refine WL.nil (th_norm (hx_seq (hx_seq (hx_region ?_))))
    refine WL.qq (by simp only [EN, Nat.reduceEqDiff, reduceIte, qv_assign, hB1.cell, hB1.cell]; rfl) ?_
    refine WL.nil (th_norm (hx_block ?_))
    refine hx_loopG [8, 9, 10, 11, 12, 13, 86, 87, 88, 89, 90, 91, 92, 93, 94, 95, 96, 97, 98, 99, 100, 101, 102, 103, 104, 105, 106, 107, 108, 109, 110, 111, 112, 113, 114, 115, 116, 117, 118, 119, 120, 121, 122, 123, 124, 125, 126, 127, 128, 129, 130, 131, 132, 133, 134, 135, 136, 137, 138, 139, 140, 141, 142, 143, 144, 145, 146, 147, 148, 149, 150, 151, 152, 153, 154, 155, 156, 157, 158, 159, 160, 161, 162, 163, 164, 165, 166, 167, 168, 169, 170, 171, 172, 173, 174, 175, 176, 177, 178] (fun k e hL2 => ∃ (i : Nat) (v : Value) (L : List RR), E.hs.length - i = k ∧ (i ≤ E.hs.length) ∧ (Ext hL0 hL2) ∧ (Has hL2 B1 (.cells #[.slice ah E.hs.length ch, .slice ao E.os.length co, iV E.d, iV E.dd, iV E.dm, .slice ac E.hs.length cc, .bool E.cl] tyRE)) ∧ (Own hL2 hL0.size tyRW 4 v L.length (L.flatMap rxL)) ∧ (L = (E.hs.take i).flatMap (rowR E)) ∧ e 9 = .int .i64 i ∧ e 8 = v) _ ⟨0, .slice none 0 0, [], rfl, ?_, ?_, ?_, ?_, ?_, ?_, ?_⟩ ?_
    · omega
    · exact Ext.refl _
    · exact hB1
    · exact Own.nil
    · rfl
    · simp only [EN, Nat.reduceEqDiff, reduceIte, k1_0, k3_0, k4_0, i5_0, hB1.cell, hB1.cell] <;> rfl
    · simp only [EN, Nat.reduceEqDiff, reduceIte, k1_0, k3_0, k4_0, i5_0, hB1.cell, hB1.cell] <;> rfl
    ·
     rintro k e2L hL2 hfr2 ⟨i, v, L, rfl, hi, hXs, hB1, ho, hL, i9_2, i8_2⟩
     have k1_2 := hfr2 1 rfl; try simp only [EN, Nat.reduceEqDiff, reduceIte, k1_0, hB1.cell, hB1.cell] at k1_2
     have k4_2 := hfr2 4 rfl; try simp only [EN, Nat.reduceEqDiff, reduceIte, k4_0, hB1.cell, hB1.cell] at k4_2
     refine hx_seq (hx_seq (hx_region ?_))
     iterate 5 refine WL.qq (by simp only [EN, Nat.reduceEqDiff, reduceIte, qv_move, i9_2, hB1.cell, hB1.cell, hB1.cell, qv_fieldAddr, fa34_0, Nat.zero_add, Nat.reduceAdd, k1_2, qv_load, ld22, readN, AR, qv_len, ln22, qv_binOp, binv_lss]; rfl) ?_
     refine WL.nil (th_norm ?_)
     refine hx_cond (by simp only [EN, Nat.reduceEqDiff, reduceIte, hB1.cell, hB1.cell, hB1.cell]; rfl) (fun hct90 => ?_) (fun hct90 => ?_)
     ·
      try simp only [BD] at hct90
      obtain ⟨x, hxi⟩ := atG (l := E.hs) (i := i) (by omega); have hxm := List.mem_of_getElem? hxi; have hxq := g.hq x hxm
      obtain ⟨b1, o1, ha1, _, hxs, hxn⟩ := si_rd (hsh0.ext (hX.trans hXs)).rd hxi; have hLb := resE_len h40 hno.2 i; rw [← hL] at hLb
      refine hx_skip (th_norm (hx_seq (hx_block (hx_seq (hx_region ?_)))))
      iterate 3 refine WL.qq (by simp only [EN, Nat.reduceEqDiff, reduceIte, qv_fieldAddr, fa34_0, Nat.zero_add, Nat.reduceAdd, k1_2, hB1.cell, hB1.cell, hB1.cell, qv_load, ld22, readN, AR, qv_move, i9_2]; rfl) ?_
      refine WL.qq (by simp only [EN, Nat.reduceEqDiff, reduceIte, qv_indexAddr, hB1.cell, hB1.cell, hB1.cell, ha1]; (try simp (disch := omega) only [ix22, Int.toNat_natCast]); rfl) ?_
      refine WL.qq (by simp only [EN, Nat.reduceEqDiff, reduceIte, qv_fieldAddr, fa66_1, Nat.zero_add, Nat.reduceAdd, hB1.cell, hB1.cell, hB1.cell]; rfl) ?_
      refine WL.qq (by simp only [EN, Nat.reduceEqDiff, reduceIte, k1_2, k4_2, i9_2, i8_2, hB1.cell, hB1.cell, hB1.cell, qv_load, ld2, Int.toNat_natCast, hxn]; rfl) ?_
      refine WL.qq (by simp only [EN, Nat.reduceEqDiff, reduceIte, qv_assign, hB1.cell, hB1.cell, hB1.cell]; rfl) ?_
      refine WL.nil (th_norm (hx_seq (hx_seq (hx_region ?_))))
      refine WL.qq (by simp only [EN, Nat.reduceEqDiff, reduceIte, qv_assign, hB1.cell, hB1.cell, hB1.cell]; rfl) ?_
      refine WL.nil (th_norm (hx_block ?_))
      refine hx_loopS [10, 11, 99, 100, 101, 102, 103, 104, 105, 106, 107, 108, 109, 110, 111, 112, 113, 114, 115, 116, 117, 118] (fun k e => ∃ (k2 : Nat), E.os.length - k2 = k ∧ (k2 ≤ E.os.length) ∧ e 11 = .int .i64 k2 ∧ e 10 = iV (x.n - sumF (aE E x) ((List.range E.os.length).take k2))) _ ⟨0, rfl, ?_, ?_, ?_⟩ ?_
      · omega
      · simp only [EN, Nat.reduceEqDiff, reduceIte, k1_2, k4_2, i9_2, i8_2, hB1.cell, hB1.cell, hB1.cell] <;> rfl
      · simp only [EN, Nat.reduceEqDiff, reduceIte, k1_2, k4_2, i9_2, i8_2, hB1.cell, hB1.cell, hB1.cell] <;> simp [sumF]
      ·
       rintro k e3L hfr3 ⟨k2, rfl, hk2, i11_3, i10_3⟩
       have k1_3 := hfr3 1 rfl; try simp only [EN, Nat.reduceEqDiff, reduceIte, k1_2, hB1.cell, hB1.cell, hB1.cell] at k1_3
       have k4_3 := hfr3 4 rfl; try simp only [EN, Nat.reduceEqDiff, reduceIte, k4_2, hB1.cell, hB1.cell, hB1.cell] at k4_3
       have k8_3 := hfr3 8 rfl; try simp only [EN, Nat.reduceEqDiff, reduceIte, i8_2, hB1.cell, hB1.cell, hB1.cell] at k8_3
       have k9_3 := hfr3 9 rfl; try simp only [EN, Nat.reduceEqDiff, reduceIte, i9_2, hB1.cell, hB1.cell, hB1.cell] at k9_3
       refine hx_seq (hx_seq (hx_region ?_))
       iterate 5 refine WL.qq (by simp only [EN, Nat.reduceEqDiff, reduceIte, qv_move, i11_3, hB1.cell, hB1.cell, hB1.cell, qv_fieldAddr, fa34_1, Nat.zero_add, Nat.reduceAdd, k1_3, qv_load, ld23, readN, AR, qv_len, ln23, qv_binOp, binv_lss]; rfl) ?_
       refine WL.nil (th_norm ?_)
       refine hx_cond (by simp only [EN, Nat.reduceEqDiff, reduceIte, hB1.cell, hB1.cell, hB1.cell]; rfl) (fun hct103 => ?_) (fun hct103 => ?_)
       ·
        try simp only [BD] at hct103
        obtain ⟨r2, hr2, hrn2, hrR2⟩ := hA k2 (by omega); obtain ⟨y2, hy2⟩ := atG (l := accE E k2) (i := i) (by rw [accE_len2 (by omega)]; omega)
        obtain ⟨b2, o2', ha2, hc2⟩ := one_at' (haR.ext hXs).rd hr2 (y := .slice r2.a r2.n r2.c) rfl; obtain ⟨b3, o3, ha3, hc3⟩ := one_at' (hrR2.ext hXs).rd hy2 rfl; rw [ha3, hrn2] at hc2
        have hst := sumF_step (f := aE E x) (l := List.range E.os.length) (i := k2) (x := k2) (by rw [List.getElem?_range (by omega)]); have hp1 := hcl.part x (k2 + 1); have hp0 := hcl.part x k2; rw [hst] at hp1
        refine hx_skip (th_norm (hx_seq (hx_block (hx_seq (hx_region ?_)))))
        iterate 4 refine WL.qq (by simp only [EN, Nat.reduceEqDiff, reduceIte, qv_move, i11_3, hB1.cell, hB1.cell, hB1.cell, qv_fieldAddr, fa34_2, Nat.zero_add, Nat.reduceAdd, k1_3, qv_load, ld3, readN, AR, qv_binOp, binv_neq, eq3, Option.map_some]; rfl) ?_
        refine WL.nil (th_norm ?_)
        refine hx_cond (by simp only [EN, Nat.reduceEqDiff, reduceIte, hB1.cell, hB1.cell, hB1.cell]; rfl) (fun hct109 => ?_) (fun hct109 => ?_)
        ·
         try simp only [BD] at hct109
         rw [aE_k g hxi (by omega) (by omega) hy2] at hst hp1
         refine hx_region ?_
         iterate 4 refine WL.qq (by simp only [EN, Nat.reduceEqDiff, reduceIte, qv_move, i10_3, hB1.cell, hB1.cell, hB1.cell, k4_3, i11_3, qv_indexAddr, ha2]; (try simp (disch := omega) only [ix32, Int.toNat_natCast]); rfl) ?_
         refine WL.qq (by simp only [EN, Nat.reduceEqDiff, reduceIte, k1_3, k4_3, k8_3, k9_3, i11_3, i10_3, hB1.cell, hB1.cell, hB1.cell, qv_load, ld55, Int.toNat_natCast, Nat.mul_one, hc2]; rfl) ?_
         iterate 2 refine WL.qq (by simp only [EN, Nat.reduceEqDiff, reduceIte, qv_move, k9_3, hB1.cell, hB1.cell, hB1.cell, qv_indexAddr]; (try simp (disch := omega) only [ix55, Int.toNat_natCast]); rfl) ?_
         refine WL.qq (by simp only [EN, Nat.reduceEqDiff, reduceIte, k1_3, k4_3, k8_3, k9_3, i11_3, i10_3, hB1.cell, hB1.cell, hB1.cell, qv_load, ld2, Int.toNat_natCast, Nat.mul_one, hc3]; rfl) ?_
         iterate 2 refine WL.qq (by simp only [EN, Nat.reduceEqDiff, reduceIte, qv_binOp, binv_sub, hB1.cell, hB1.cell, hB1.cell, qv_assign]; (try simp (disch := omega) only [w64, w8, wu64]); rfl) ?_
         refine WL.nil (bl_norm (th_norm (hx_region ?_)))
         iterate 3 refine WL.qq (by simp only [EN, Nat.reduceEqDiff, reduceIte, qv_move, i11_3, hB1.cell, hB1.cell, hB1.cell, qv_binOp, binv_add, qv_assign]; (try simp (disch := omega) only [w64, w8, wu64]); rfl) ?_
         refine WL.nil (th_norm ?_)
         refine ⟨rfl, rfl, ?_, _, ?_, k2 + 1, rfl, ?_, ?_, ?_⟩
         · (repeat (first | exact Fr.refl _ _ | refine Fr.set rfl ?_ | refine Fr.put rfl ?_ | with_reducible refine Fr.put0 ?_))
         · omega
         · omega
         · simp only [EN, Nat.reduceEqDiff, reduceIte, k1_3, k4_3, k8_3, k9_3, i11_3, i10_3, hB1.cell, hB1.cell, hB1.cell] <;> first | rfl | (congr 1; omega)
         · simp only [EN, Nat.reduceEqDiff, reduceIte, k1_3, k4_3, k8_3, k9_3, i11_3, i10_3, hB1.cell, hB1.cell, hB1.cell] <;> first | (rw [hst]; congr 1; omega) | rw [hst]
        ·
         try simp only [BD] at hct109
         have hz9 : aE E x k2 = 0 := (by rw [show k2 = E.d by omega, aE_d]); rw [hz9, Int.add_zero] at hst
         refine hx_skip (bl_norm (th_norm (hx_region ?_)))
         iterate 3 refine WL.qq (by simp only [EN, Nat.reduceEqDiff, reduceIte, qv_move, i11_3, hB1.cell, hB1.cell, hB1.cell, qv_binOp, binv_add, qv_assign]; (try simp (disch := omega) only [w64, w8, wu64]); rfl) ?_
         refine WL.nil (th_norm ?_)
         refine ⟨rfl, rfl, ?_, _, ?_, k2 + 1, rfl, ?_, ?_, ?_⟩
         · (repeat (first | exact Fr.refl _ _ | refine Fr.set rfl ?_ | refine Fr.put rfl ?_ | with_reducible refine Fr.put0 ?_))
         · omega
         · omega
         · simp only [EN, Nat.reduceEqDiff, reduceIte, k1_3, k4_3, k8_3, k9_3, i11_3, i10_3, hB1.cell, hB1.cell, hB1.cell] <;> first | rfl | (congr 1; omega)
         · simp only [EN, Nat.reduceEqDiff, reduceIte, k1_3, k4_3, k8_3, k9_3, i11_3, i10_3, hB1.cell, hB1.cell, hB1.cell] <;> first | (rw [hst]; congr 1; omega) | rw [hst]
       ·
        try simp only [BD] at hct103
        obtain rfl : k2 = E.os.length := (by omega)
        rw [List.take_of_length_le (by rw [List.length_range]; exact Nat.le_refl _)] at i10_3; have hrst : x.n - sumF (aE E x) (List.range E.os.length) = rstE E x := rfl; rw [hrst] at i10_3
        refine hx_exit (th_exit (th_exit (bl_hit (th_norm (hx_seq (hx_region ?_))))))
        refine WL.qq (by simp only [EN, Nat.reduceEqDiff, reduceIte, qv_assign, hB1.cell, hB1.cell, hB1.cell]; rfl) ?_
        refine WL.nil (th_norm (hx_block ?_))
        refine hx_loopG [8, 12, 13, 119, 120, 121, 122, 123, 124, 125, 126, 127, 128, 129, 130, 131, 132, 133, 134, 135, 136, 137, 138, 139, 140, 141, 142, 143, 144, 145, 146, 147, 148, 149, 150, 151, 152, 153, 154, 155, 156, 157, 158, 159, 160, 161, 162, 163, 164, 165, 166, 167, 168, 169, 170, 171, 172, 173, 174, 175, 176, 177, 178] (fun k e hL4 => ∃ (j : Nat) (v : Value) (M : List RR), E.os.length - j = k ∧ (j ≤ E.os.length) ∧ (Ext hL0 hL4) ∧ (Has hL4 B1 (.cells #[.slice ah E.hs.length ch, .slice ao E.os.length co, iV E.d, iV E.dd, iV E.dm, .slice ac E.hs.length cc, .bool E.cl] tyRE)) ∧ (Own hL4 hL0.size tyRW 4 v M.length (M.flatMap rxL)) ∧ (M = L ++ (E.os.zipIdx.take j).filterMap (rxF E x)) ∧ e 12 = .int .i64 j ∧ e 8 = v) _ ⟨0, v, L, rfl, ?_, ?_, ?_, ?_, ?_, ?_, ?_⟩ ?_
        · omega
        · exact hXs
        · exact hB1
        · exact ho
        · simp
        · simp only [EN, Nat.reduceEqDiff, reduceIte, k1_3, k4_3, k8_3, k9_3, i11_3, i10_3, hB1.cell, hB1.cell, hB1.cell] <;> rfl
        · simp only [EN, Nat.reduceEqDiff, reduceIte, k1_3, k4_3, k8_3, k9_3, i11_3, i10_3, hB1.cell, hB1.cell, hB1.cell] <;> rfl
        ·
         rintro k e4L hL4 hfr4 ⟨j, v, M, rfl, hj, hXs, hB1, ho, hM, i12_4, i8_4⟩
         have k1_4 := hfr4 1 rfl; try simp only [EN, Nat.reduceEqDiff, reduceIte, k1_3, hB1.cell, hB1.cell, hB1.cell] at k1_4
         have k4_4 := hfr4 4 rfl; try simp only [EN, Nat.reduceEqDiff, reduceIte, k4_3, hB1.cell, hB1.cell, hB1.cell] at k4_4
         have k9_4 := hfr4 9 rfl; try simp only [EN, Nat.reduceEqDiff, reduceIte, k9_3, hB1.cell, hB1.cell, hB1.cell] at k9_4
         have k10_4 := hfr4 10 rfl; try simp only [EN, Nat.reduceEqDiff, reduceIte, i10_3, hB1.cell, hB1.cell, hB1.cell] at k10_4
         refine hx_seq (hx_seq (hx_region ?_))
         iterate 5 refine WL.qq (by simp only [EN, Nat.reduceEqDiff, reduceIte, qv_move, i12_4, hB1.cell, hB1.cell, hB1.cell, hB1.cell, qv_fieldAddr, fa34_1, Nat.zero_add, Nat.reduceAdd, k1_4, qv_load, ld23, readN, AR, qv_len, ln23, qv_binOp, binv_lss]; rfl) ?_
         refine WL.nil (th_norm ?_)
         refine hx_cond (by simp only [EN, Nat.reduceEqDiff, reduceIte, hB1.cell, hB1.cell, hB1.cell, hB1.cell]; rfl) (fun hct123 => ?_) (fun hct123 => ?_)
         ·
          try simp only [BD] at hct123
          obtain ⟨z, hz⟩ := atG (l := E.os) (i := j) (by omega)
          obtain ⟨b1, o1, ha1, _, hxs, hxn⟩ := si_rd (hsh0.ext (hX.trans hXs)).rd hxi; obtain ⟨b5, o5, ha5, _, hzs, _⟩ := si_rd (hso0.ext (hX.trans hXs)).rd hz
          obtain ⟨b3, o3, b4, o4, c4, ha3, hc3, hc4⟩ := row_rd (hsc0.ext (hX.trans hXs)).rd (hri0.ext (hX.trans hXs)) hxi (k := j) (by omega)
          obtain ⟨r2, hr2, hrn2, hrR2⟩ := hA j (by omega); obtain ⟨y2, hy2⟩ := atG (l := accE E j) (i := i) (by rw [accE_len2 (by omega)]; omega)
          obtain ⟨b6, o6, ha6, hc6⟩ := one_at' (haR.ext hXs).rd hr2 (y := .slice r2.a r2.n r2.c) rfl; obtain ⟨b7, o7, ha7, hc7⟩ := one_at' (hrR2.ext hXs).rd hy2 rfl; rw [ha7, hrn2] at hc6
          have hst := fmap_step (f := rxF E x) (zip_at hz); have hMb : M.length ≤ 656 := (by rw [hM, List.length_append]; have := fmap_len (rxF E x) E.os.zipIdx j; omega)
          refine hx_skip (th_norm (hx_seq (hx_block (hx_seq ?_))))
          apply hx_draw2 Rel.grows [29] [28] [(28, Spec.blk _ _ 121)] rfl (by decide +kernel) rfl
          have hXo := hXs; have hoo := ho; have hBo := hB1; have hl1 := (Array.getElem?_eq_some_iff.1 hB1).1
          iterate 3 refine LD.qq rfl rfl (by simp only [EN, Nat.reduceEqDiff, reduceIte, qv_fieldAddr, fa34_0, Nat.zero_add, Nat.reduceAdd, k1_4, hB1.cell, hB1.cell, hB1.cell, hB1.cell, qv_load, ld22, readN, AR, qv_move, k9_4]; rfl) ?_
          refine LD.qq rfl rfl (by simp only [EN, Nat.reduceEqDiff, reduceIte, qv_indexAddr, hB1.cell, hB1.cell, hB1.cell, hB1.cell, ha1]; (try simp (disch := omega) only [ix22, Int.toNat_natCast]); rfl) ?_
          refine LD.qq rfl rfl (by simp only [EN, Nat.reduceEqDiff, reduceIte, qv_fieldAddr, fa66_0, Nat.zero_add, Nat.reduceAdd, hB1.cell, hB1.cell, hB1.cell, hB1.cell]; rfl) ?_
          refine LD.qq rfl rfl (by simp only [EN, Nat.reduceEqDiff, reduceIte, k1_4, k4_4, k9_4, k10_4, i12_4, i8_4, hB1.cell, hB1.cell, hB1.cell, hB1.cell, qv_load, ld9, Int.toNat_natCast, hxs]; rfl) ?_
          iterate 3 refine LD.qq rfl rfl (by simp only [EN, Nat.reduceEqDiff, reduceIte, qv_fieldAddr, fa34_1, Nat.zero_add, Nat.reduceAdd, k1_4, hB1.cell, hB1.cell, hB1.cell, hB1.cell, qv_load, ld23, readN, AR, qv_move, i12_4]; rfl) ?_
          refine LD.qq rfl rfl (by simp only [EN, Nat.reduceEqDiff, reduceIte, qv_indexAddr, hB1.cell, hB1.cell, hB1.cell, hB1.cell, ha5]; (try simp (disch := omega) only [ix23, Int.toNat_natCast]); rfl) ?_
          refine LD.qq rfl rfl (by simp only [EN, Nat.reduceEqDiff, reduceIte, qv_fieldAddr, fa68_0, Nat.zero_add, Nat.reduceAdd, hB1.cell, hB1.cell, hB1.cell, hB1.cell]; rfl) ?_
          refine LD.qq rfl rfl (by simp only [EN, Nat.reduceEqDiff, reduceIte, k1_4, k4_4, k9_4, k10_4, i12_4, i8_4, hB1.cell, hB1.cell, hB1.cell, hB1.cell, qv_load, ld9, Int.toNat_natCast, hzs]; rfl) ?_
          iterate 3 refine LD.qq rfl rfl (by simp only [EN, Nat.reduceEqDiff, reduceIte, qv_fieldAddr, fa34_4, Nat.zero_add, Nat.reduceAdd, k1_4, hB1.cell, hB1.cell, hB1.cell, hB1.cell, qv_load, ld32, readN, AR, qv_move, k9_4]; rfl) ?_
          refine LD.qq rfl rfl (by simp only [EN, Nat.reduceEqDiff, reduceIte, qv_indexAddr, hB1.cell, hB1.cell, hB1.cell, hB1.cell, ha3]; (try simp (disch := omega) only [ix32, Int.toNat_natCast]); rfl) ?_
          refine LD.qq rfl rfl (by simp only [EN, Nat.reduceEqDiff, reduceIte, k1_4, k4_4, k9_4, k10_4, i12_4, i8_4, hB1.cell, hB1.cell, hB1.cell, hB1.cell, qv_load, ld55, Int.toNat_natCast, Nat.mul_one, hc3]; rfl) ?_
          iterate 2 refine LD.qq rfl rfl (by simp only [EN, Nat.reduceEqDiff, reduceIte, qv_move, i12_4, hB1.cell, hB1.cell, hB1.cell, hB1.cell, qv_indexAddr]; (try simp (disch := omega) only [ix55, Int.toNat_natCast]); rfl) ?_
          refine LD.qq rfl rfl (by simp only [EN, Nat.reduceEqDiff, reduceIte, k1_4, k4_4, k9_4, k10_4, i12_4, i8_4, hB1.cell, hB1.cell, hB1.cell, hB1.cell, qv_load, ld2, Int.toNat_natCast, Nat.mul_one, hc4]; rfl) ?_
          iterate 3 refine LD.qq rfl rfl (by simp only [EN, Nat.reduceEqDiff, reduceIte, qv_move, k4_4, hB1.cell, hB1.cell, hB1.cell, hB1.cell, i12_4, qv_indexAddr, ha6]; (try simp (disch := omega) only [ix32, Int.toNat_natCast]); rfl) ?_
          refine LD.qq rfl rfl (by simp only [EN, Nat.reduceEqDiff, reduceIte, k1_4, k4_4, k9_4, k10_4, i12_4, i8_4, hB1.cell, hB1.cell, hB1.cell, hB1.cell, qv_load, ld55, Int.toNat_natCast, Nat.mul_one, hc6]; rfl) ?_
          iterate 2 refine LD.qq rfl rfl (by simp only [EN, Nat.reduceEqDiff, reduceIte, qv_move, k9_4, hB1.cell, hB1.cell, hB1.cell, hB1.cell, qv_indexAddr]; (try simp (disch := omega) only [ix55, Int.toNat_natCast]); rfl) ?_
          refine LD.qq rfl rfl (by simp only [EN, Nat.reduceEqDiff, reduceIte, k1_4, k4_4, k9_4, k10_4, i12_4, i8_4, hB1.cell, hB1.cell, hB1.cell, hB1.cell, qv_load, ld2, Int.toNat_natCast, Nat.mul_one, hc7]; rfl) ?_
          refine LD.qq rfl rfl (by refine qv_bld (by simp only [EN, Nat.reduceEqDiff, reduceIte, AR, hB1.cell, hB1.cell, hB1.cell, hB1.cell] <;> rfl) (by rw [bl121]; simp [Instr.fill, Value.cells]; rfl)) ?_
          refine LD.al rfl rfl zr121 (Nat.le_refl _) ?_
          intro B4 hlt4
          refine LD.skip rfl ?_
          refine LD.nil ?_
          rintro h5 hx5 hF27
          replace hx5 : Ext _ _ := hx5
          replace hXs := hXs.ext hx5
          replace hB1 := hB1.ext hx5
          replace ho := ho.ext hx5
          have hB4 := hF27 (28, .pointer (some ⟨B4, 0, none⟩)) (by simp) _ rfl B4 rfl
          simp only [Value.cells] at hB4
          refine WL.store (by simp only [EN, Nat.reduceEqDiff, reduceIte, hB1.cell, hB1.cell, hB1.cell, hB1.cell, hB4.cell] <;> rfl) sz121 (by simp only [EN, Nat.reduceEqDiff, reduceIte, Value.cells, hB1.cell, hB1.cell, hB1.cell, hB1.cell, hB4.cell] <;> rfl) rfl hB4 (by first | (simp [true_and]; done) | (simp [true_and]; omega) | omega) (by simp [Value.oneCell']) ?_
          intro h6 hw6
          have hx27 := hw6.ext hx5 hlt4
          replace hXs := hXo.trans hx27
          replace ho := hoo.ext hx27
          replace hB1 := hBo.ext hx27
          replace hB4 := hw6.at_
          try simp only [splc, List.take_succ_cons, List.take_zero, List.take_nil, List.drop_succ_cons, List.drop_zero, List.drop_nil, List.cons_append, List.nil_append, List.length_cons, List.length_nil, Nat.zero_add, Nat.add_zero, Nat.reduceAdd, List.append_nil] at hB4
          have hb9 : hL0.size ≤ B4 := Nat.le_trans hXo.size hlt4
          have hnv : ∀ c, v.ownBlock = some c → c ≠ B4 := (fun c hc hh => by have := (hoo.block c hc).2; omega)
          have hn1 : B1 ≠ B4 := (by omega)
          refine WL.nil (th_norm ?_)
          refine hx_cutG [154, 155, 156, 157, 158, 159, 160, 161, 162, 163, 164, 165, 166] (fun e hC28 => (Ext hL0 hC28) ∧ (Has hC28 B1 (.cells #[.slice ah E.hs.length ch, .slice ao E.os.length co, iV E.d, iV E.dd, iV E.dm, .slice ac E.hs.length cc, .bool E.cl] tyRE)) ∧ (Own hC28 hL0.size tyRW 4 v M.length (M.flatMap rxL)) ∧ (Has hC28 B4 (.cells #[.string x.s, .string z.s, iV (tknE E x.s j), iV (acE E x j)] tyRW))) ?_ ?_
          ·
           refine hx_seq (hx_region ?_)
           iterate 4 refine WL.qq (by simp only [EN, Nat.reduceEqDiff, reduceIte, qv_move, i12_4, hB1.cell, hB1.cell, hB1.cell, hB1.cell, hB4.cell, qv_fieldAddr, fa34_2, Nat.zero_add, Nat.reduceAdd, k1_4, qv_load, ld3, readN, AR, qv_binOp, binv_eql, eq3, Option.map_some]; rfl) ?_
           refine WL.nil (th_norm ?_)
           refine hx_cond (by simp only [EN, Nat.reduceEqDiff, reduceIte, hB1.cell, hB1.cell, hB1.cell, hB1.cell, hB4.cell]; rfl) (fun hct157 => ?_) (fun hct157 => ?_)
           ·
            try simp only [BD] at hct157
            obtain rfl : j = E.d := (by omega)
            have htk : tknE E x.s E.d = chE E x.s E.d + (x.n - sumE E x.s) := (by unfold tknE; rw [if_pos rfl, free_at g hxm]); have hac : acE E x E.d = rstE E x := if_pos rfl
            have hb1 := g.che x.s E.d; have hb2 := g.b.sum x.s; have hb3 := g.su x hxm
            apply hx_draw2 Rel.grows [8, 9, 10] [4] [(4, Spec.is _)] rfl (by decide +kernel) rfl
            iterate 4 refine LD.qq rfl rfl (by simp only [EN, Nat.reduceEqDiff, reduceIte, qv_fieldAddr, fa121_2, Nat.zero_add, Nat.reduceAdd, hB1.cell, hB1.cell, hB1.cell, hB1.cell, hB4.cell, qv_load, ld2, readN, AR, ld34, k1_4, qv_move, k9_4]; rfl) ?_
            refine LD.ck rfl rfl Tryz.call28 (by intro hD hr; have hx : Ext _ _ := hr; have hXs := hXs.ext hx; have hB1 := hB1.ext hx; have ho := ho.ext hx; have hB4 := hB4.ext hx; simp only [EN, Nat.reduceEqDiff, reduceIte, AR, hB1.cell, hB1.cell, hB1.cell, hB1.cell, hB4.cell]; exact c_rFree g hxi (hI0.ext (hX.trans hXs))) ?_
            iterate 3 refine LD.qq rfl rfl (by simp only [EN, Nat.reduceEqDiff, reduceIte, qv_binOp, binv_add, hB1.cell, hB1.cell, hB1.cell, hB1.cell, hB4.cell, qv_move, k10_4, qv_fieldAddr, fa121_2, Nat.zero_add, Nat.reduceAdd]; (try simp (disch := omega) only [w64, w8, wu64]); rfl) ?_
            refine LD.skip rfl ?_
            refine LD.skip rfl ?_
            refine LD.skip rfl ?_
            refine LD.nil ?_
            rintro h7 hx7 hF29
            replace hx7 : Ext _ _ := hx7
            replace hXs := hXs.ext hx7
            replace hB1 := hB1.ext hx7
            replace ho := ho.ext hx7
            replace hB4 := hB4.ext hx7
            refine WL.store (by simp only [EN, Nat.reduceEqDiff, reduceIte, hB1.cell, hB1.cell, hB1.cell, hB1.cell, hB4.cell] <;> rfl) sz2 (by simp only [EN, Nat.reduceEqDiff, reduceIte, Value.cells, hB1.cell, hB1.cell, hB1.cell, hB1.cell, hB4.cell] <;> rfl) rfl hB4 (by first | (simp [true_and]; done) | (simp [true_and]; omega) | omega) (by simp [Value.oneCell']) ?_
            intro h8 hw8
            replace hXs := hw8.ext hXs hb9
            replace ho := ho.keep (h' := h8) (fun c hc => hw8.same c (hnv c hc))
            replace hB1 := hB1.wr hw8 hn1
            replace hB4 := hw8.at_
            try simp only [splc, List.take_succ_cons, List.take_zero, List.take_nil, List.drop_succ_cons, List.drop_zero, List.drop_nil, List.cons_append, List.nil_append, List.length_cons, List.length_nil, Nat.zero_add, Nat.add_zero, Nat.reduceAdd, List.append_nil] at hB4
            refine WL.qq (by simp only [EN, Nat.reduceEqDiff, reduceIte, qv_fieldAddr, fa121_3, Nat.zero_add, Nat.reduceAdd, hB1.cell, hB1.cell, hB1.cell, hB1.cell, hB4.cell]; rfl) ?_
            refine WL.store (by simp only [EN, Nat.reduceEqDiff, reduceIte, hB1.cell, hB1.cell, hB1.cell, hB1.cell, hB4.cell] <;> rfl) sz2 (by simp only [EN, Nat.reduceEqDiff, reduceIte, Value.cells, hB1.cell, hB1.cell, hB1.cell, hB1.cell, hB4.cell] <;> rfl) rfl hB4 (by first | (simp [true_and]; done) | (simp [true_and]; omega) | omega) (by simp [Value.oneCell']) ?_
            intro h9 hw9
            replace hXs := hw9.ext hXs hb9
            replace ho := ho.keep (h' := h9) (fun c hc => hw9.same c (hnv c hc))
            replace hB1 := hB1.wr hw9 hn1
            replace hB4 := hw9.at_
            try simp only [splc, List.take_succ_cons, List.take_zero, List.take_nil, List.drop_succ_cons, List.drop_zero, List.drop_nil, List.cons_append, List.nil_append, List.length_cons, List.length_nil, Nat.zero_add, Nat.add_zero, Nat.reduceAdd, List.append_nil] at hB4
            refine WL.nil (th_norm ?_)
            refine ⟨rfl, ?_, ?_, ?_, ?_, ?_⟩
            · (repeat (first | exact Fr.refl _ _ | refine Fr.set rfl ?_ | refine Fr.put rfl ?_ | with_reducible refine Fr.put0 ?_))
            · exact hXs
            · exact hB1
            · exact ho
            · rw [htk, hac]; exact hB4
           ·
            try simp only [BD] at hct157
            have hjd : j ≠ E.d := (by omega); have htk : tknE E x.s j = chE E x.s j := if_neg hjd; have hac : acE E x j = (y2 : Int) := (by unfold acE; rw [if_neg hjd, aE_k g hxi (by omega) hjd hy2])
            refine hx_skip (th_norm ?_)
            refine ⟨rfl, ?_, ?_, ?_, ?_, ?_⟩
            · (repeat (first | exact Fr.refl _ _ | refine Fr.set rfl ?_ | refine Fr.put rfl ?_ | with_reducible refine Fr.put0 ?_))
            · exact hXs
            · exact hB1
            · exact ho
            · rw [htk, hac]; exact hB4
          ·
           rintro ec28 hC28 hfc28 ⟨hXs, hB1, ho, hBr⟩
           have k1_c28 := hfc28 1 rfl; try simp only [EN, Nat.reduceEqDiff, reduceIte, k1_4, hB1.cell, hB1.cell, hB1.cell, hB1.cell, hB4.cell] at k1_c28
           have k4_c28 := hfc28 4 rfl; try simp only [EN, Nat.reduceEqDiff, reduceIte, k4_4, hB1.cell, hB1.cell, hB1.cell, hB1.cell, hB4.cell] at k4_c28
           have k8_c28 := hfc28 8 rfl; try simp only [EN, Nat.reduceEqDiff, reduceIte, i8_4, hB1.cell, hB1.cell, hB1.cell, hB1.cell, hB4.cell] at k8_c28
           have k9_c28 := hfc28 9 rfl; try simp only [EN, Nat.reduceEqDiff, reduceIte, k9_4, hB1.cell, hB1.cell, hB1.cell, hB1.cell, hB4.cell] at k9_c28
           have k10_c28 := hfc28 10 rfl; try simp only [EN, Nat.reduceEqDiff, reduceIte, k10_4, hB1.cell, hB1.cell, hB1.cell, hB1.cell, hB4.cell] at k10_c28
           have k12_c28 := hfc28 12 rfl; try simp only [EN, Nat.reduceEqDiff, reduceIte, i12_4, hB1.cell, hB1.cell, hB1.cell, hB1.cell, hB4.cell] at k12_c28
           have k13_c28 := hfc28 13 rfl; try simp only [EN, Nat.reduceEqDiff, reduceIte, hB1.cell, hB1.cell, hB1.cell, hB1.cell, hB4.cell] at k13_c28
           refine hx_seq (hx_region ?_)
           iterate 4 refine WL.qq (by simp only [EN, Nat.reduceEqDiff, reduceIte, qv_fieldAddr, fa121_2, Nat.zero_add, Nat.reduceAdd, k13_c28, hB1.cell, hB1.cell, hB1.cell, hB1.cell, hB4.cell, hB1.cell, hBr.cell, qv_load, ld2, readN, AR, qv_binOp, binv_gtr, qv_move]; rfl) ?_
           refine WL.cq (gd_at (t := 170) rfl (by simp only [EN, Nat.reduceEqDiff, reduceIte, k13_c28, hB1.cell, hB1.cell, hB1.cell, hB1.cell, hB4.cell, hB1.cell, hBr.cell] <;> rfl)) (fun hg30_4 => by simp only [EN, Nat.reduceEqDiff, reduceIte, qv_fieldAddr, fa121_3, Nat.zero_add, Nat.reduceAdd, k13_c28, hB1.cell, hB1.cell, hB1.cell, hB1.cell, hB4.cell, hB1.cell, hBr.cell, hg30_4, GR]; rfl) ?_
           refine WL.cq (gd_at (t := 170) rfl (by simp only [EN, Nat.reduceEqDiff, reduceIte, hB1.cell, hB1.cell, hB1.cell, hB1.cell, hB4.cell, hB1.cell, hBr.cell] <;> rfl)) (fun hg30_5 => by simp only [EN, Nat.reduceEqDiff, reduceIte, qv_load, ld2, readN, AR, Nat.zero_add, Nat.reduceAdd, hB1.cell, hB1.cell, hB1.cell, hB1.cell, hB4.cell, hB1.cell, hBr.cell, hg30_5, GR]; rfl) ?_
           refine WL.cq (gd_at (t := 170) rfl (by simp only [EN, Nat.reduceEqDiff, reduceIte, hB1.cell, hB1.cell, hB1.cell, hB1.cell, hB4.cell, hB1.cell, hBr.cell] <;> rfl)) (fun hg30_6 => by simp only [EN, Nat.reduceEqDiff, reduceIte, qv_binOp, binv_gtr, hB1.cell, hB1.cell, hB1.cell, hB1.cell, hB4.cell, hB1.cell, hBr.cell, hg30_6, GR]; rfl) ?_
           refine WL.qq (by simp only [EN, Nat.reduceEqDiff, reduceIte, qv_pick, pk_and, pk_or, GR, hB1.cell, hB1.cell, hB1.cell, hB1.cell, hB4.cell, hB1.cell, hBr.cell]; rfl) ?_
           refine WL.nil (th_norm ?_)
           refine hx_cond (by simp only [EN, Nat.reduceEqDiff, reduceIte, hB1.cell, hB1.cell, hB1.cell, hB1.cell, hB4.cell, hB1.cell, hBr.cell]; rfl) (fun hct174 => ?_) (fun hct174 => ?_)
           ·
            try simp only [BD] at hct174
            refine hx_region ?_
            iterate 2 refine WL.qq (by simp only [EN, Nat.reduceEqDiff, reduceIte, qv_move, k8_c28, hB1.cell, hB1.cell, hB1.cell, hB1.cell, hB4.cell, hB1.cell, hBr.cell, qv_load, ld121, readN, AR, Nat.zero_add, Nat.reduceAdd, k13_c28]; rfl) ?_
            refine WL.push (bytes := 48) Tryz.underlying96 (inf_of Tryz.type121) rfl rfl rfl rfl (by decide) (by decide) sz121 zr121 (fun u => by simp only [EN, Nat.reduceEqDiff, reduceIte, k1_c28, k4_c28, k8_c28, k9_c28, k10_c28, k12_c28, k13_c28, hB1.cell, hB1.cell, hB1.cell, hB1.cell, hB4.cell, hB1.cell, hBr.cell]) ho (c := (rxL ⟨x.s, z.s, tknE E x.s j, acE E x j⟩).toArray) (by simp only [EN, Nat.reduceEqDiff, reduceIte, k1_c28, k4_c28, k8_c28, k9_c28, k10_c28, k12_c28, k13_c28, hB1.cell, hB1.cell, hB1.cell, hB1.cell, hB4.cell, hB1.cell, hBr.cell, Value.cells] <;> rfl) rfl (by simp [Value.oneCell']) (by simp only [maxLen]; omega) (by omega) hXs.size ?_
            intro h40 v40 B40 ho40 hg40 hp40 hn40
            have hX40 := hg40.ext hXs (fun c hc => (ho.block c hc).1)
            have hB140 := hB1.gr hg40 (ho.ncell hB1 (by decide))
            skip
            refine WL.qq (by simp only [EN, Nat.reduceEqDiff, reduceIte, qv_assign, hB1.cell, hB1.cell, hB1.cell, hB1.cell, hB4.cell, hB1.cell, hBr.cell]; rfl) ?_
            refine WL.nil (bl_norm (th_norm (hx_region ?_)))
            iterate 3 refine WL.qq (by simp only [EN, Nat.reduceEqDiff, reduceIte, qv_move, k12_c28, hB1.cell, hB1.cell, hB1.cell, hB1.cell, hB4.cell, hB1.cell, hBr.cell, qv_binOp, binv_add, qv_assign]; (try simp (disch := omega) only [w64, w8, wu64]); rfl) ?_
            refine WL.nil (th_norm ?_)
            refine ⟨rfl, ?_, _, ?_, j + 1, v40, M ++ [⟨x.s, z.s, tknE E x.s j, acE E x j⟩], rfl, ?_, ?_, ?_, ?_, ?_, ?_, ?_⟩
            · (repeat (first | exact Fr.refl _ _ | refine Fr.set rfl ?_ | refine Fr.put rfl ?_ | with_reducible refine Fr.put0 ?_ | refine Fr.trans ?_ (Fr.of hfc28 rfl)))
            · omega
            · omega
            · exact hX40
            · exact hB140
            · rw [List.length_append, List.flatMap_append]; exact ho40
            · rw [hst, hM, List.append_assoc]; simp only [rxF]; rw [if_pos (by omega)]; rfl
            · simp only [EN, Nat.reduceEqDiff, reduceIte, k1_c28, k4_c28, k8_c28, k9_c28, k10_c28, k12_c28, k13_c28, hB1.cell, hB1.cell, hB1.cell, hB1.cell, hB4.cell, hB1.cell, hBr.cell] <;> first | rfl | (congr 1; omega)
            · simp only [EN, Nat.reduceEqDiff, reduceIte, k1_c28, k4_c28, k8_c28, k9_c28, k10_c28, k12_c28, k13_c28, hB1.cell, hB1.cell, hB1.cell, hB1.cell, hB4.cell, hB1.cell, hBr.cell] <;> first | rfl | (congr 1; omega)
           ·
            try simp only [BD] at hct174
            refine hx_skip (bl_norm (th_norm (hx_region ?_)))
            iterate 3 refine WL.qq (by simp only [EN, Nat.reduceEqDiff, reduceIte, qv_move, k12_c28, hB1.cell, hB1.cell, hB1.cell, hB1.cell, hB4.cell, hB1.cell, hBr.cell, qv_binOp, binv_add, qv_assign]; (try simp (disch := omega) only [w64, w8, wu64]); rfl) ?_
            refine WL.nil (th_norm ?_)
            refine ⟨rfl, ?_, _, ?_, j + 1, v, M, rfl, ?_, ?_, ?_, ?_, ?_, ?_, ?_⟩
            · (repeat (first | exact Fr.refl _ _ | refine Fr.set rfl ?_ | refine Fr.put rfl ?_ | with_reducible refine Fr.put0 ?_ | refine Fr.trans ?_ (Fr.of hfc28 rfl)))
            · omega
            · omega
            · exact hXs
            · exact hB1
            · exact ho
            · rw [hst, hM]; simp only [rxF]; rw [if_neg (by omega)]; simp
            · simp only [EN, Nat.reduceEqDiff, reduceIte, k1_c28, k4_c28, k8_c28, k9_c28, k10_c28, k12_c28, k13_c28, hB1.cell, hB1.cell, hB1.cell, hB1.cell, hB4.cell, hB1.cell, hBr.cell] <;> first | rfl | (congr 1; omega)
            · simp only [EN, Nat.reduceEqDiff, reduceIte, k1_c28, k4_c28, k8_c28, k9_c28, k10_c28, k12_c28, k13_c28, hB1.cell, hB1.cell, hB1.cell, hB1.cell, hB4.cell, hB1.cell, hBr.cell] <;> first | rfl | (congr 1; omega)
         ·
          try simp only [BD] at hct123
          obtain rfl : j = E.os.length := (by omega)
          rw [List.take_of_length_le (by rw [List.length_zipIdx]; exact Nat.le_refl _)] at hM
          refine hx_exit (th_exit (th_exit (bl_hit (bl_norm (th_norm (hx_region ?_))))))
          iterate 3 refine WL.qq (by simp only [EN, Nat.reduceEqDiff, reduceIte, qv_move, k9_4, hB1.cell, hB1.cell, hB1.cell, hB1.cell, qv_binOp, binv_add, qv_assign]; (try simp (disch := omega) only [w64, w8, wu64]); rfl) ?_
          refine WL.nil (th_norm ?_)
          refine ⟨rfl, ?_, _, ?_, i + 1, v, M, rfl, ?_, ?_, ?_, ?_, ?_, ?_, ?_⟩
          · (repeat (first | exact Fr.refl _ _ | refine Fr.set rfl ?_ | refine Fr.put rfl ?_ | with_reducible refine Fr.put0 ?_ | refine Fr.trans ?_ (Fr.of hfr4 rfl) | refine Fr.trans ?_ (Fr.of hfr3 rfl)))
          · omega
          · omega
          · exact hXs
          · exact hB1
          · exact ho
          · rw [fmp_step hxi, hM, hL]; rfl
          · simp only [EN, Nat.reduceEqDiff, reduceIte, k1_4, k4_4, k9_4, k10_4, i12_4, i8_4, hB1.cell, hB1.cell, hB1.cell, hB1.cell] <;> first | rfl | (congr 1; omega)
          · simp only [EN, Nat.reduceEqDiff, reduceIte, k1_4, k4_4, k9_4, k10_4, i12_4, i8_4, hB1.cell, hB1.cell, hB1.cell, hB1.cell] <;> first | rfl | (congr 1; omega)
     ·
      try simp only [BD] at hct90
      obtain rfl : i = E.hs.length := (by omega)
      rw [List.take_length] at hL; subst hL
      refine hx_exit (th_exit (th_exit (bl_hit (th_norm (hx_seq (hx_region ?_))))))
      iterate 2 refine WL.qq (by simp only [EN, Nat.reduceEqDiff, reduceIte, qv_move, i8_2, hB1.cell, hB1.cell, hB1.cell, qv_assign]; rfl) ?_
      refine WL.nil (th_norm (hx_ret ?_))
      refine fin_ret [.tmp 2] rfl rfl (by simp only [EN, Nat.reduceEqDiff, reduceIte, resv, k1_2, k4_2, i9_2, i8_2, hB1.cell, hB1.cell, hB1.cell]; rfl) ?_
      exact ⟨hX.trans hXs, ho.base hX.size⟩
end
end GL
namespace GL
open Go Go.Proofs
set_option maxRecDepth 8000
abbrev tySu : TypeId := 27
structure SX where
  al : Option Addr
  l : List SI
  cl : Nat
  ao : Option Addr
  os : List SI
  co : Nat
  s : ByteArray
  d : Int
  m : Int
abbrev suC (x : SX) : Array Value := #[.slice x.al x.l.length x.cl, .slice x.ao x.os.length x.co, .string x.s, iV x.d, iV x.m]
structure SuI (h : Heap) (x : SX) : Prop where
  sl : SlG 2 siL h x.al x.l
  so : SlG 2 siL h x.ao x.os
  ll : x.l.length ≤ 9223372036854775807
  lo : x.os.length ≤ 9223372036854775807
  cl : x.l.length ≤ x.cl
  co : x.os.length ≤ x.co
  nl : x.al = none → x.cl = 0
  no : x.ao = none → x.co = 0
  st : ∀ y ∈ x.os, y.s.size ≤ 9223372036854775807
theorem SuI.ext {h h' : Heap} {x : SX} (hs : SuI h x) (hx : Ext h h') : SuI h' x := ⟨hs.sl.ext hx, hs.so.ext hx, hs.ll, hs.lo, hs.cl, hs.co, hs.nl, hs.no, hs.st⟩
def smE (x : SX) (n : Nat) : Prop := x.l.length ≤ 40 ∧ x.os.length ≤ 20 ∧ n ≤ 60
instance (x : SX) (n : Nat) : Decidable (smE x n) := inferInstanceAs (Decidable (_ ∧ _))
theorem c_small (x : SX) (a : Option Addr) (n c : Nat) (hn : n ≤ 9223372036854775807) (h : Heap) : HCalls Tryz.prog 11 #[.agg (suC x), .slice a n c] h (Grow (.bool (decide (smE x n))) h) := by
  refine hcalls2 Tryz.func11 rfl (by decide +kernel) (by simp only [Tryz.ntmps11]; exact of_decide_eq_true rfl) ?_
  intro e hin
  have e0 := hin 0 _ rfl
  have e1 := hin 1 _ rfl
  refine hx_seq (hx_region ?_)
  refine WL.box2 (by simp only [EN, Nat.reduceEqDiff, reduceIte, Value.cells, e0]; rfl) ?_
  intro h1 B1 hx1 hlt1 hB1
  refine WL.qq (by simp only [EN, Nat.reduceEqDiff, reduceIte, qv_assign, hB1.cell]; rfl) ?_
  refine WL.nil (th_norm (hx_seq (hx_region ?_)))
  iterate 5 refine WL.qq (by simp only [EN, Nat.reduceEqDiff, reduceIte, qv_fieldAddr, fa27_0, Nat.zero_add, Nat.reduceAdd, hB1.cell, qv_load, ld22, readN, AR, qv_len, ln22, qv_binOp, binv_leq, qv_move]; rfl) ?_
  refine WL.cq (gd_at (t := 9) rfl (by simp only [EN, Nat.reduceEqDiff, reduceIte, hB1.cell] <;> rfl)) (fun hg1_5 => by simp only [EN, Nat.reduceEqDiff, reduceIte, qv_fieldAddr, fa27_1, Nat.zero_add, Nat.reduceAdd, hB1.cell, hg1_5, GR]; rfl) ?_
  refine WL.cq (gd_at (t := 9) rfl (by simp only [EN, Nat.reduceEqDiff, reduceIte, hB1.cell] <;> rfl)) (fun hg1_6 => by simp only [EN, Nat.reduceEqDiff, reduceIte, qv_load, ld23, readN, AR, Nat.zero_add, Nat.reduceAdd, hB1.cell, hg1_6, GR]; rfl) ?_
  refine WL.cq (gd_at (t := 9) rfl (by simp only [EN, Nat.reduceEqDiff, reduceIte, hB1.cell] <;> rfl)) (fun hg1_7 => by simp only [EN, Nat.reduceEqDiff, reduceIte, qv_len, ln23, AR, hB1.cell, hg1_7, GR]; rfl) ?_
  refine WL.cq (gd_at (t := 9) rfl (by simp only [EN, Nat.reduceEqDiff, reduceIte, hB1.cell] <;> rfl)) (fun hg1_8 => by simp only [EN, Nat.reduceEqDiff, reduceIte, qv_binOp, binv_leq, hB1.cell, hg1_8, GR]; rfl) ?_
  iterate 2 refine WL.qq (by simp only [EN, Nat.reduceEqDiff, reduceIte, qv_pick, pk_and, pk_or, GR, hB1.cell, qv_move]; rfl) ?_
  refine WL.cq (gd_at (t := 15) rfl (by simp only [EN, Nat.reduceEqDiff, reduceIte, e1, hB1.cell] <;> rfl)) (fun hg1_11 => by simp only [EN, Nat.reduceEqDiff, reduceIte, qv_move, e1, hB1.cell, hg1_11, GR]; rfl) ?_
  refine WL.cq (gd_at (t := 15) rfl (by simp only [EN, Nat.reduceEqDiff, reduceIte, hB1.cell] <;> rfl)) (fun hg1_12 => by simp only [EN, Nat.reduceEqDiff, reduceIte, qv_len, ln28, AR, hB1.cell, hg1_12, GR]; rfl) ?_
  refine WL.cq (gd_at (t := 15) rfl (by simp only [EN, Nat.reduceEqDiff, reduceIte, hB1.cell] <;> rfl)) (fun hg1_13 => by simp only [EN, Nat.reduceEqDiff, reduceIte, qv_binOp, binv_leq, hB1.cell, hg1_13, GR]; rfl) ?_
  iterate 2 refine WL.qq (by simp only [EN, Nat.reduceEqDiff, reduceIte, qv_pick, pk_and, pk_or, GR, hB1.cell, qv_assign]; rfl) ?_
  refine WL.nil (th_norm (hx_ret ?_))
  refine fin_ret [.tmp 4] rfl rfl (by simp only [EN, Nat.reduceEqDiff, reduceIte, resv, e0, e1, hB1.cell]; rfl) ?_
  exact ⟨by simp only [retOf]; rw [Value.bool.injEq, Bool.eq_iff_iff, decide_eq_true_iff]; unfold smE; simp; omega, (hx1)⟩
theorem c_same (a a' : Option Addr) (R : List RR) (c c' : Nat) (hn : R.length ≤ 1000000) {h : Heap} (hs : SlG 4 rxL h a R) (hs' : SlG 4 rxL h a' R) :
    HCalls Tryz.prog 39 #[.slice a R.length c, .slice a' R.length c'] h (Pure (.bool true) h) := by
  refine hcalls2 Tryz.func39 rfl (by decide +kernel) (by simp only [Tryz.ntmps39]; exact of_decide_eq_true rfl) ?_
  intro e hin
  have e0 := hin 0 _ rfl
  have e1 := hin 1 _ rfl
  refine hx_seq (hx_region ?_)
  refine WL.qq (by simp only [EN, Nat.reduceEqDiff, reduceIte, qv_assign, strEq]; rfl) ?_
  refine WL.nil (th_norm (hx_seq (hx_seq (hx_region ?_))))
  iterate 5 refine WL.qq (by simp only [EN, Nat.reduceEqDiff, reduceIte, qv_move, e0, strEq, qv_len, ln45, AR, e1, ln96, qv_binOp, binv_neq, eq3, Option.map_some]; rfl) ?_
  refine WL.nil (th_norm ?_)
  refine hx_cond (by simp only [EN, Nat.reduceEqDiff, reduceIte, strEq]; rfl) (fun hct10 => ?_) (fun hct10 => ?_)
  ·
   simp at hct10
  ·
   try simp only [BD] at hct10
   refine hx_skip (th_norm (hx_seq (hx_seq (hx_region ?_))))
   refine WL.qq (by simp only [EN, Nat.reduceEqDiff, reduceIte, qv_assign, strEq]; rfl) ?_
   refine WL.nil (th_norm (hx_block ?_))
   refine hx_loopS [4, 5, 11, 12, 13, 14, 15, 16, 17, 18, 19, 20, 21, 22, 23, 24, 25] (fun k e => ∃ (i : Nat), R.length - i = k ∧ (i ≤ R.length) ∧ e 5 = .int .i64 i) _ ⟨0, rfl, ?_, ?_⟩ ?_
   · omega
   · simp only [EN, Nat.reduceEqDiff, reduceIte, e0, e1, strEq] <;> rfl
   ·
    rintro k e0L hfr0 ⟨i, rfl, hi, i5_0⟩
    have k0_0 := hfr0 0 rfl; try simp only [EN, Nat.reduceEqDiff, reduceIte, e0, strEq] at k0_0
    have k1_0 := hfr0 1 rfl; try simp only [EN, Nat.reduceEqDiff, reduceIte, e1, strEq] at k1_0
    refine hx_seq (hx_seq (hx_region ?_))
    iterate 4 refine WL.qq (by simp only [EN, Nat.reduceEqDiff, reduceIte, qv_move, i5_0, strEq, k0_0, qv_len, ln45, AR, qv_binOp, binv_lss]; rfl) ?_
    refine WL.nil (th_norm ?_)
    refine hx_cond (by simp only [EN, Nat.reduceEqDiff, reduceIte, strEq]; rfl) (fun hct14 => ?_) (fun hct14 => ?_)
    ·
     try simp only [BD] at hct14
     obtain ⟨x, hx⟩ := atG (l := R) (i := i) (by omega)
     obtain ⟨b1, o1, ha1, hr1⟩ := hs i x hx; obtain ⟨b2, o2, ha2, hr2⟩ := hs' i x hx
     refine hx_skip (th_norm (hx_seq (hx_block (hx_seq ?_))))
     apply hx_draw2 Rel.same [] [] [] rfl (by decide +kernel) rfl
     iterate 3 refine LD.qq rfl rfl (by simp only [EN, Nat.reduceEqDiff, reduceIte, qv_move, k0_0, strEq, i5_0, qv_indexAddr, ha1]; (try simp (disch := omega) only [ix45, Int.toNat_natCast]); rfl) ?_
     refine LD.qq rfl rfl (by simp only [EN, Nat.reduceEqDiff, reduceIte, k0_0, k1_0, i5_0, strEq, qv_load, ld64, Int.toNat_natCast, hr1]; rfl) ?_
     iterate 3 refine LD.qq rfl rfl (by simp only [EN, Nat.reduceEqDiff, reduceIte, qv_move, k1_0, strEq, i5_0, qv_indexAddr, ha2]; (try simp (disch := omega) only [ix96, Int.toNat_natCast]); rfl) ?_
     refine LD.qq rfl rfl (by simp only [EN, Nat.reduceEqDiff, reduceIte, k0_0, k1_0, i5_0, strEq, qv_load, ld121, Int.toNat_natCast, hr2]; rfl) ?_
     refine LD.qq rfl rfl (by simp only [EN, Nat.reduceEqDiff, reduceIte, qv_binOp, binv_neq, eqs121, Option.map_some, strEq]; rfl) ?_
     refine LD.nil ?_
     rintro h rfl -
     refine WL.nil (th_norm ?_)
     refine hx_cond (by simp only [EN, Nat.reduceEqDiff, reduceIte, strEq]; rfl) (fun hct25 => ?_) (fun hct25 => ?_)
     ·
      simp at hct25
     ·
      try simp only [BD] at hct25
      refine hx_skip (bl_norm (th_norm (hx_region ?_)))
      iterate 3 refine WL.qq (by simp only [EN, Nat.reduceEqDiff, reduceIte, qv_move, i5_0, strEq, qv_binOp, binv_add, qv_assign]; (try simp (disch := omega) only [w64, w8, wu64]); rfl) ?_
      refine WL.nil (th_norm ?_)
      refine ⟨rfl, rfl, ?_, _, ?_, i + 1, rfl, ?_, ?_⟩
      · (repeat (first | exact Fr.refl _ _ | refine Fr.set rfl ?_ | refine Fr.put rfl ?_ | with_reducible refine Fr.put0 ?_))
      · omega
      · omega
      · simp only [EN, Nat.reduceEqDiff, reduceIte, k0_0, k1_0, i5_0, strEq] <;> first | rfl | (congr 1; omega)
    ·
     try simp only [BD] at hct14
     refine hx_exit (th_exit (th_exit (bl_hit (th_norm (hx_seq (hx_region ?_))))))
     refine WL.qq (by simp only [EN, Nat.reduceEqDiff, reduceIte, qv_assign, strEq]; rfl) ?_
     refine WL.nil (th_norm (hx_ret ?_))
     refine fin_ret [.tmp 4] rfl rfl (by simp only [EN, Nat.reduceEqDiff, reduceIte, resv, k0_0, k1_0, i5_0, strEq]; rfl) ?_
     exact ⟨rfl, rfl⟩
theorem IsE.wrT {h h' : Heap} {N p b B : Nat} {vh vo : Value} {E : EL} {o : Obj} {c : Array Value} {T : TypeId} (hE : IsE h N p b vh vo E) (hw : Wr h h' B o) (hB : Has h B (.cells c T)) (h1 : T ≠ tyEl) (h2 : T ≠ tyH) (h3 : T ≠ tyO) : IsE h' N p b vh vo E :=
  hE.gs (Gs.ofWr hw (S := [B]) (by simp)) (by simp; intro hh; subst hh; have := hE.blk.un hB; injection this with _ h9 _; exact h1 h9.symm) (by simp; exact fun hh => (hB.nmap hE.map) hh.symm)
    (fun x hx hh => by simp at hh; subst hh; exact hE.oh.ncell hB h2 hx) (fun x hx hh => by simp at hh; subst hh; exact hE.oo.ncell hB h3 hx)
theorem RI.wrT {h h' : Heap} {vh vo vc : Value} {B : Nat} {E : EL} {o : Obj} {c : Array Value} {T : TypeId} (hI : RI h vh vo vc E) (hw : Wr h h' B o) (hB : Has h B (.cells c T)) (h1 : T ≠ tyRH) (h2 : T ≠ tyRO) (h3 : T ≠ tySl) (h4 : T ≠ tyI) : RI h' vh vo vc E := by
  obtain ⟨⟨a, c, q1, q2, q3⟩, ⟨a', c', r1, r2, r3⟩, ⟨a2, c2, rows, s1, s2, s3, s4⟩⟩ := hI
  exact ⟨⟨a, c, q1, q2, q3.wr hw hB h1⟩, ⟨a', c', r1, r2, r3.wr hw hB h2⟩, ⟨a2, c2, rows, s1, s2, s3.wr hw hB h3, ⟨s4.1, fun i x hi => by
    obtain ⟨b, c, t1, t2⟩ := s4.2 i x hi
    exact ⟨b, c, t1, t2.wr hw hB h4⟩⟩⟩⟩
abbrev erX (x : SX) : Int := erN x.l x.os x.s x.d x.m
abbrev nwX (x : SX) : EL := newE x.l x.os x.s x.d x.m
def NvI (h : Heap) (N : Nat) (x : SX) (u : Value) : Prop := (erX x ≠ 0 ∧ u = .pointer none) ∨ (erX x = 0 ∧ ∃ p b vh vo, u = .pointer (some ⟨p, 0, none⟩) ∧ IsE h N p b vh vo (nwX x))
def NwI (h : Heap) (x : SX) (w : Value) : Prop := (erX x ≠ 0 ∧ w = zRE) ∨ (erX x = 0 ∧ ∃ vh vo vc, w = reV vh vo vc (nwX x) ∧ RI h vh vo vc (nwX x))
section
variable {h h' : Heap} {N : Nat} {x : SX} {u w : Value}
theorem NvI.ext (hn : NvI h N x u) (hx : Ext h h') : NvI h' N x u := hn.imp id fun ⟨h1, p, b, vh, vo, h2, h3⟩ => ⟨h1, p, b, vh, vo, h2, h3.ext hx⟩
theorem NwI.ext (hn : NwI h x w) (hx : Ext h h') : NwI h' x w := hn.imp id fun ⟨h1, vh, vo, vc, h2, h3⟩ => ⟨h1, vh, vo, vc, h2, h3.ext hx⟩
theorem NvI.wr {B : Nat} {o : Obj} {c : Array Value} (hn : NvI h N x u) (hw : Wr h h' B o) (hB : Has h B (.cells c tyRE)) : NvI h' N x u := hn.imp id fun ⟨h1, p, b, vh, vo, h2, h3⟩ => ⟨h1, p, b, vh, vo, h2, h3.wrT hw hB (by decide) (by decide) (by decide)⟩
theorem NwI.wr {B : Nat} {o : Obj} {c : Array Value} (hn : NwI h x w) (hw : Wr h h' B o) (hB : Has h B (.cells c tyRE)) : NwI h' x w := hn.imp id fun ⟨h1, vh, vo, vc, h2, h3⟩ => ⟨h1, vh, vo, vc, h2, h3.wrT hw hB (by decide) (by decide) (by decide) (by decide)⟩
end
theorem c_new2 (x : SX) (al : Option Addr) (cl : Nat) (ao : Option Addr) (co : Nat) (hl : x.l.length ≤ 1000000) (hol : x.os.length ≤ 1000000) (hoc : x.os.length ≤ co) (hb : ∀ y ∈ x.os, y.s.size ≤ 9223372036854775807) (hon : ao = none → co = 0)
    {h : Heap} (hs : SlG 2 siL h al x.l) (ho : SlG 2 siL h ao x.os) :
    HCalls Tryz.prog 29 #[.slice al x.l.length cl, .slice ao x.os.length co, .string x.s, .agg #[iV x.d, iV x.m]] h fun v h' => Ext h h' ∧ ∃ u, v = .tuple #[u, iV (erX x)] ∧ NvI h' h.size x u := by
  refine (c_new al x.l cl ao x.os co x.s x.d x.m hl hol hoc hb hon hs ho).mono ?_
  rintro v h' ⟨hx, (⟨he, rfl⟩ | ⟨he, p, b, vh, vo, rfl, hE⟩)⟩
  · exact ⟨hx, _, rfl, .inl ⟨he, rfl⟩⟩
  · exact ⟨hx, _, by rw [show erX x = 0 from he], .inr ⟨he, p, b, vh, vo, rfl, hE⟩⟩
theorem NvI.base {h : Heap} {N N' : Nat} {x : SX} {u : Value} (hn : NvI h N x u) (hN : N' ≤ N) : NvI h N' x u := hn.imp id fun ⟨h1, p, b, vh, vo, h2, h3⟩ => ⟨h1, p, b, vh, vo, h2, ⟨h3.blk, h3.oh.base hN, h3.oo.base hN, h3.map, ⟨Nat.le_trans hN h3.lo.1, Nat.le_trans hN h3.lo.2⟩⟩⟩
theorem NwI.shape {h : Heap} {x : SX} {w : Value} (hw : NwI h x w) :
    ∃ (a0 : Option Addr) (n0 k0 : Nat) (a1 : Option Addr) (n1 k1 : Nat) (x2 x3 x4 : Int) (a5 : Option Addr) (n5 k5 : Nat) (b6 : Bool), w = .agg #[.slice a0 n0 k0, .slice a1 n1 k1, iV x2, iV x3, iV x4, .slice a5 n5 k5, .bool b6] := by
  rcases hw with ⟨_, rfl⟩ | ⟨_, vh, vo, vc, rfl, hI⟩
  · exact ⟨_, _, _, _, _, _, _, _, _, _, _, _, _, rfl⟩
  · obtain ⟨⟨a, c, rfl, _⟩, ⟨a', c', rfl, _⟩, ⟨a2, c2, r, rfl, _⟩⟩ := hI
    exact ⟨_, _, _, _, _, _, _, _, _, _, _, _, _, rfl⟩
set_option maxHeartbeats 4000000 in
theorem c_begin (x : SX) (h40 : x.l.length ≤ 40) (h20 : x.os.length ≤ 20) {h : Heap} (hs : SuI h x) :
    HCalls Tryz.prog 24 #[.agg (suC x)] h fun v h' => Ext h h' ∧ ∃ u w, v = .tuple #[u, w, iV (erX x), .bool true] ∧ NvI h' h.size x u ∧ NwI h' x w := by
  have hs0 := hs
  refine hcalls2 Tryz.func24 rfl (by decide +kernel) (by simp only [Tryz.ntmps24]; exact of_decide_eq_true rfl) ?_
  intro e hin
  have e0 := hin 0 _ rfl
  refine hx_seq (hx_region ?_)
  refine WL.box2 (by simp only [EN, Nat.reduceEqDiff, reduceIte, Value.cells, e0, decide_true, Bool.not_true, Bool.not_false, decide_false, eq_self]; rfl) ?_
  intro h1 B1 hx1 hlt1 hB1
  refine WL.qq (by simp only [EN, Nat.reduceEqDiff, reduceIte, qv_assign, decide_true, Bool.not_true, Bool.not_false, decide_false, eq_self, hB1.cell]; rfl) ?_
  refine WL.alloc2 zr34 ?_
  intro h2 B2 hx2 hlt2 hB2
  replace hB1 := hB1.ext hx2
  simp only [Value.cells] at hB2
  have hl1 := (Array.getElem?_eq_some_iff.1 hB1).1
  have hb2 : h.size ≤ B2 := (by have := hx1.size; omega)
  iterate 2 refine WL.qq (by simp only [EN, Nat.reduceEqDiff, reduceIte, qv_assign, decide_true, Bool.not_true, Bool.not_false, decide_false, eq_self, hB1.cell, hB2.cell]; rfl) ?_
  refine WL.nil (th_norm (hx_seq (hx_region ?_)))
  refine WL.qq (by simp only [EN, Nat.reduceEqDiff, reduceIte, qv_assign, decide_true, Bool.not_true, Bool.not_false, decide_false, eq_self, hB1.cell, hB2.cell]; rfl) ?_
  refine WL.nil (th_norm (hx_seq (hx_seq (hx_region ?_))))
  refine WL.qq (by simp only [EN, Nat.reduceEqDiff, reduceIte, qv_assign, decide_true, Bool.not_true, Bool.not_false, decide_false, eq_self, hB1.cell, hB2.cell]; rfl) ?_
  refine WL.nil (th_norm (hx_block ?_))
  refine hx_loopG [6, 7, 11, 12, 13, 14, 15, 16, 17, 18, 19, 20, 21, 22, 23, 24, 25, 26, 27, 28, 29, 30, 31, 32, 33] (fun k e hL0 => ∃ (i : Nat) (v : Value), x.l.length - i = k ∧ (i ≤ x.l.length) ∧ (Ext h hL0) ∧ (Has hL0 B1 (.cells (suC x) tySu)) ∧ (Has hL0 B2 (.cells #[.slice none 0 0, .slice none 0 0, iV 0, iV 0, iV 0, .slice none 0 0, .bool false] tyRE)) ∧ (Own hL0 h.size tyH 2 v i ((x.l.take i).flatMap siL)) ∧ e 7 = .int .i64 i ∧ e 6 = v) _ ⟨0, .slice none 0 0, rfl, ?_, ?_, ?_, ?_, ?_, ?_, ?_⟩ ?_
  · omega
  · exact ((hx1).trans (hx2))
  · exact hB1
  · exact hB2
  · exact Own.nil
  · simp only [EN, Nat.reduceEqDiff, reduceIte, e0, decide_true, Bool.not_true, Bool.not_false, decide_false, eq_self, hB1.cell, hB2.cell] <;> rfl
  · simp only [EN, Nat.reduceEqDiff, reduceIte, e0, decide_true, Bool.not_true, Bool.not_false, decide_false, eq_self, hB1.cell, hB2.cell] <;> rfl
  ·
   rintro k e0L hL0 hfr0 ⟨i, v, rfl, hi, hX, hB1, hB2, ho, i7_0, i6_0⟩
   have k1_0 := hfr0 1 rfl; try simp only [EN, Nat.reduceEqDiff, reduceIte, decide_true, Bool.not_true, Bool.not_false, decide_false, eq_self, hB1.cell, hB2.cell] at k1_0
   have k3_0 := hfr0 3 rfl; try simp only [EN, Nat.reduceEqDiff, reduceIte, decide_true, Bool.not_true, Bool.not_false, decide_false, eq_self, hB1.cell, hB2.cell] at k3_0
   refine hx_seq (hx_seq (hx_region ?_))
   iterate 5 refine WL.qq (by simp only [EN, Nat.reduceEqDiff, reduceIte, qv_move, i7_0, decide_true, Bool.not_true, Bool.not_false, decide_false, eq_self, hB1.cell, hB2.cell, hB1.cell, hB2.cell, qv_fieldAddr, fa27_0, Nat.zero_add, Nat.reduceAdd, k1_0, qv_load, ld22, readN, AR, qv_len, ln22, qv_binOp, binv_lss]; rfl) ?_
   refine WL.nil (th_norm ?_)
   refine hx_cond (by simp only [EN, Nat.reduceEqDiff, reduceIte, decide_true, Bool.not_true, Bool.not_false, decide_false, eq_self, hB1.cell, hB2.cell, hB1.cell, hB2.cell]; rfl) (fun hct15 => ?_) (fun hct15 => ?_)
   ·
    try simp only [BD] at hct15
    obtain ⟨y, hy⟩ := atG (l := x.l) (i := i) (by omega); obtain ⟨b3, o3, ha3, _, hr2, hr3⟩ := si_rd (hs0.sl.ext hX) hy
    refine hx_skip (th_norm (hx_seq (hx_block ?_)))
    apply hx_draw2 Rel.grows [15, 16] [14] [(14, (Spec.ls (Array.size hL0) (siL y).toArray tyH 1))] rfl (by decide +kernel) rfl
    iterate 4 refine LD.qq rfl rfl (by simp only [EN, Nat.reduceEqDiff, reduceIte, qv_move, i6_0, decide_true, Bool.not_true, Bool.not_false, decide_false, eq_self, hB1.cell, hB2.cell, hB1.cell, hB2.cell, qv_fieldAddr, fa27_0, Nat.zero_add, Nat.reduceAdd, k1_0, qv_load, ld22, readN, AR, i7_0]; rfl) ?_
    refine LD.qq rfl rfl (by simp only [EN, Nat.reduceEqDiff, reduceIte, qv_indexAddr, decide_true, Bool.not_true, Bool.not_false, decide_false, eq_self, hB1.cell, hB2.cell, hB1.cell, hB2.cell, ha3]; (try simp (disch := omega) only [ix22, Int.toNat_natCast]); rfl) ?_
    refine LD.qq rfl rfl (by simp only [EN, Nat.reduceEqDiff, reduceIte, qv_fieldAddr, fa66_0, Nat.zero_add, Nat.reduceAdd, decide_true, Bool.not_true, Bool.not_false, decide_false, eq_self, hB1.cell, hB2.cell, hB1.cell, hB2.cell]; rfl) ?_
    refine LD.qq rfl rfl (by simp only [EN, Nat.reduceEqDiff, reduceIte, k1_0, k3_0, i7_0, i6_0, decide_true, Bool.not_true, Bool.not_false, decide_false, eq_self, hB1.cell, hB2.cell, hB1.cell, hB2.cell, qv_load, ld9, Int.toNat_natCast, hr2]; rfl) ?_
    iterate 3 refine LD.qq rfl rfl (by simp only [EN, Nat.reduceEqDiff, reduceIte, qv_fieldAddr, fa27_0, Nat.zero_add, Nat.reduceAdd, k1_0, decide_true, Bool.not_true, Bool.not_false, decide_false, eq_self, hB1.cell, hB2.cell, hB1.cell, hB2.cell, qv_load, ld22, readN, AR, qv_move, i7_0]; rfl) ?_
    refine LD.qq rfl rfl (by simp only [EN, Nat.reduceEqDiff, reduceIte, qv_indexAddr, decide_true, Bool.not_true, Bool.not_false, decide_false, eq_self, hB1.cell, hB2.cell, hB1.cell, hB2.cell, ha3]; (try simp (disch := omega) only [ix22, Int.toNat_natCast]); rfl) ?_
    refine LD.qq rfl rfl (by simp only [EN, Nat.reduceEqDiff, reduceIte, qv_fieldAddr, fa66_1, Nat.zero_add, Nat.reduceAdd, decide_true, Bool.not_true, Bool.not_false, decide_false, eq_self, hB1.cell, hB2.cell, hB1.cell, hB2.cell]; rfl) ?_
    refine LD.qq rfl rfl (by simp only [EN, Nat.reduceEqDiff, reduceIte, k1_0, k3_0, i7_0, i6_0, decide_true, Bool.not_true, Bool.not_false, decide_false, eq_self, hB1.cell, hB2.cell, hB1.cell, hB2.cell, qv_load, ld2, Int.toNat_natCast, hr3]; rfl) ?_
    refine LD.qq rfl rfl (by refine qv_bld (by simp only [EN, Nat.reduceEqDiff, reduceIte, AR, decide_true, Bool.not_true, Bool.not_false, decide_false, eq_self, hB1.cell, hB2.cell, hB1.cell, hB2.cell] <;> rfl) (by rw [bl78]; simp [Instr.fill, Value.cells]; rfl)) ?_
    refine LD.es rfl rfl (by intro hD hr hf; have hx : Ext _ _ := hr; have hX := hX.ext hx; have hB1 := hB1.ext hx; have hB2 := hB2.ext hx; have ho := ho.ext hx; exact e_lit1 (N := Array.size hL0) hx.size Tryz.underlying79 sz78 zr78 (by decide) (by simp only [EN, Nat.reduceEqDiff, reduceIte, k1_0, k3_0, i7_0, i6_0, decide_true, Bool.not_true, Bool.not_false, decide_false, eq_self, hB1.cell, hB2.cell, hB1.cell, hB2.cell, Value.cells] <;> rfl) rfl) ?_
    intro u5_14 w5_14
    obtain ⟨B14, hlt14, rfl⟩ := w5_14
    refine LD.skip rfl ?_
    refine LD.skip rfl ?_
    refine LD.nil ?_
    rintro h3 hx3 hF5
    replace hx3 : Ext _ _ := hx3
    replace hX := hX.ext hx3
    replace hB1 := hB1.ext hx3
    replace hB2 := hB2.ext hx3
    replace ho := ho.ext hx3
    have hB14 := hF5 (14, .slice (some ⟨B14, 0, none⟩) 1 1) (by simp) _ rfl B14 rfl
    refine WL.app1 (bytes := 24) Tryz.underlying79 (inf_of Tryz.type78) rfl rfl rfl rfl (by decide) (by simp only [EN, Nat.reduceEqDiff, reduceIte, k1_0, k3_0, i7_0, i6_0, decide_true, Bool.not_true, Bool.not_false, decide_false, eq_self, hB1.cell, hB2.cell, hB1.cell, hB2.cell]) ho (by simp only [EN, Nat.reduceEqDiff, reduceIte, k1_0, k3_0, i7_0, i6_0, decide_true, Bool.not_true, Bool.not_false, decide_false, eq_self, hB1.cell, hB2.cell, hB1.cell, hB2.cell] <;> rfl) hB14 rfl (by simp [Value.oneCell']) (by simp only [maxLen]; omega) (by omega) hX.size ?_
    intro h40 v40 ho40 hg40 hp40 hn40
    have hX40 := hg40.ext hX (fun c hc => (ho.block c hc).1)
    have hB140 := hB1.gr hg40 (ho.ncell hB1 (by decide))
    have hB240 := hB2.gr hg40 (ho.ncell hB2 (by decide))
    refine WL.qq (by simp only [EN, Nat.reduceEqDiff, reduceIte, qv_assign, decide_true, Bool.not_true, Bool.not_false, decide_false, eq_self, hB1.cell, hB2.cell, hB1.cell, hB2.cell]; rfl) ?_
    refine WL.nil (bl_norm (th_norm (hx_region ?_)))
    iterate 3 refine WL.qq (by simp only [EN, Nat.reduceEqDiff, reduceIte, qv_move, i7_0, decide_true, Bool.not_true, Bool.not_false, decide_false, eq_self, hB1.cell, hB2.cell, hB1.cell, hB2.cell, qv_binOp, binv_add, qv_assign]; (try simp (disch := omega) only [w64, w8, wu64]); rfl) ?_
    refine WL.nil (th_norm ?_)
    refine ⟨rfl, ?_, _, ?_, i + 1, v40, rfl, ?_, ?_, ?_, ?_, ?_, ?_, ?_⟩
    · (repeat (first | exact Fr.refl _ _ | refine Fr.set rfl ?_ | refine Fr.put rfl ?_ | with_reducible refine Fr.put0 ?_))
    · omega
    · omega
    · exact hX40
    · exact hB140
    · exact hB240
    · rw [fm_step' hy]; exact ho40
    · simp only [EN, Nat.reduceEqDiff, reduceIte, k1_0, k3_0, i7_0, i6_0, decide_true, Bool.not_true, Bool.not_false, decide_false, eq_self, hB1.cell, hB2.cell, hB1.cell, hB2.cell] <;> first | rfl | (congr 1; omega)
    · simp only [EN, Nat.reduceEqDiff, reduceIte, k1_0, k3_0, i7_0, i6_0, decide_true, Bool.not_true, Bool.not_false, decide_false, eq_self, hB1.cell, hB2.cell, hB1.cell, hB2.cell] <;> first | rfl | (congr 1; omega)
   ·
    try simp only [BD] at hct15
    obtain rfl : i = x.l.length := (by omega)
    rw [List.take_length] at ho; obtain ⟨a6, c6, rfl, hc6, hn6, _⟩ := ho.shape; have hs6 := SlR.own (f := siL) (sz := 2) (fun _ => rfl) ho rfl
    refine hx_exit (th_exit (th_exit (bl_hit (th_norm (hx_seq (hx_region ?_))))))
    refine WL.qq (by simp only [EN, Nat.reduceEqDiff, reduceIte, qv_assign, decide_true, Bool.not_true, Bool.not_false, decide_false, eq_self, hB1.cell, hB2.cell, hB1.cell, hB2.cell]; rfl) ?_
    refine WL.nil (th_norm (hx_seq (hx_seq (hx_region ?_))))
    refine WL.qq (by simp only [EN, Nat.reduceEqDiff, reduceIte, qv_assign, decide_true, Bool.not_true, Bool.not_false, decide_false, eq_self, hB1.cell, hB2.cell, hB1.cell, hB2.cell]; rfl) ?_
    refine WL.nil (th_norm (hx_block ?_))
    refine hx_loopG [8, 9, 34, 35, 36, 37, 38, 39, 40, 41, 42, 43, 44, 45, 46, 47, 48] (fun k e hL1 => ∃ (i : Nat) (v : Value), x.os.length - i = k ∧ (i ≤ x.os.length) ∧ (Ext h hL1) ∧ (Has hL1 B1 (.cells (suC x) tySu)) ∧ (Has hL1 B2 (.cells #[.slice none 0 0, .slice none 0 0, iV 0, iV 0, iV 0, .slice none 0 0, .bool false] tyRE)) ∧ (SlR tyH 2 siL hL1 a6 x.l) ∧ (Own hL1 h.size tyO 2 v i ((x.os.take i).flatMap siL)) ∧ e 9 = .int .i64 i ∧ e 8 = v) _ ⟨0, .slice none 0 0, rfl, ?_, ?_, ?_, ?_, ?_, ?_, ?_, ?_⟩ ?_
    · omega
    · exact hX
    · exact hB1
    · exact hB2
    · exact hs6
    · exact Own.nil
    · simp only [EN, Nat.reduceEqDiff, reduceIte, k1_0, k3_0, i7_0, i6_0, decide_true, Bool.not_true, Bool.not_false, decide_false, eq_self, hB1.cell, hB2.cell, hB1.cell, hB2.cell] <;> rfl
    · simp only [EN, Nat.reduceEqDiff, reduceIte, k1_0, k3_0, i7_0, i6_0, decide_true, Bool.not_true, Bool.not_false, decide_false, eq_self, hB1.cell, hB2.cell, hB1.cell, hB2.cell] <;> rfl
    ·
     rintro k e1L hL1 hfr1 ⟨i, v, rfl, hi, hX, hB1, hB2, hs6, ho, i9_1, i8_1⟩
     have k1_1 := hfr1 1 rfl; try simp only [EN, Nat.reduceEqDiff, reduceIte, k1_0, decide_true, Bool.not_true, Bool.not_false, decide_false, eq_self, hB1.cell, hB2.cell, hB1.cell, hB2.cell] at k1_1
     have k3_1 := hfr1 3 rfl; try simp only [EN, Nat.reduceEqDiff, reduceIte, k3_0, decide_true, Bool.not_true, Bool.not_false, decide_false, eq_self, hB1.cell, hB2.cell, hB1.cell, hB2.cell] at k3_1
     have k6_1 := hfr1 6 rfl; try simp only [EN, Nat.reduceEqDiff, reduceIte, i6_0, decide_true, Bool.not_true, Bool.not_false, decide_false, eq_self, hB1.cell, hB2.cell, hB1.cell, hB2.cell] at k6_1
     refine hx_seq (hx_seq (hx_region ?_))
     iterate 5 refine WL.qq (by simp only [EN, Nat.reduceEqDiff, reduceIte, qv_move, i9_1, decide_true, Bool.not_true, Bool.not_false, decide_false, eq_self, hB1.cell, hB2.cell, hB1.cell, hB2.cell, hB1.cell, hB2.cell, qv_fieldAddr, fa27_1, Nat.zero_add, Nat.reduceAdd, k1_1, qv_load, ld23, readN, AR, qv_len, ln23, qv_binOp, binv_lss]; rfl) ?_
     refine WL.nil (th_norm ?_)
     refine hx_cond (by simp only [EN, Nat.reduceEqDiff, reduceIte, decide_true, Bool.not_true, Bool.not_false, decide_false, eq_self, hB1.cell, hB2.cell, hB1.cell, hB2.cell, hB1.cell, hB2.cell]; rfl) (fun hct38 => ?_) (fun hct38 => ?_)
     ·
      try simp only [BD] at hct38
      obtain ⟨y, hy⟩ := atG (l := x.os) (i := i) (by omega); obtain ⟨b3, o3, ha3, hr3, _⟩ := si_rd (hs0.so.ext hX) hy
      refine hx_skip (th_norm (hx_seq (hx_block (hx_region ?_))))
      iterate 4 refine WL.qq (by simp only [EN, Nat.reduceEqDiff, reduceIte, qv_move, i8_1, decide_true, Bool.not_true, Bool.not_false, decide_false, eq_self, hB1.cell, hB2.cell, hB1.cell, hB2.cell, hB1.cell, hB2.cell, qv_fieldAddr, fa27_1, Nat.zero_add, Nat.reduceAdd, k1_1, qv_load, ld23, readN, AR, i9_1]; rfl) ?_
      refine WL.qq (by simp only [EN, Nat.reduceEqDiff, reduceIte, qv_indexAddr, decide_true, Bool.not_true, Bool.not_false, decide_false, eq_self, hB1.cell, hB2.cell, hB1.cell, hB2.cell, hB1.cell, hB2.cell, ha3]; (try simp (disch := omega) only [ix23, Int.toNat_natCast]); rfl) ?_
      refine WL.qq (by simp only [EN, Nat.reduceEqDiff, reduceIte, k1_1, k3_1, k6_1, i9_1, i8_1, decide_true, Bool.not_true, Bool.not_false, decide_false, eq_self, hB1.cell, hB2.cell, hB1.cell, hB2.cell, hB1.cell, hB2.cell, qv_load, ld68, Int.toNat_natCast, hr3]; rfl) ?_
      refine WL.push (bytes := 24) Tryz.underlying81 (inf_of Tryz.type80) rfl rfl rfl rfl (by decide) (by decide) sz80 zr80 (fun u => by simp only [EN, Nat.reduceEqDiff, reduceIte, k1_1, k3_1, k6_1, i9_1, i8_1, decide_true, Bool.not_true, Bool.not_false, decide_false, eq_self, hB1.cell, hB2.cell, hB1.cell, hB2.cell, hB1.cell, hB2.cell]) ho (c := (siL y).toArray) (by simp only [EN, Nat.reduceEqDiff, reduceIte, k1_1, k3_1, k6_1, i9_1, i8_1, decide_true, Bool.not_true, Bool.not_false, decide_false, eq_self, hB1.cell, hB2.cell, hB1.cell, hB2.cell, hB1.cell, hB2.cell, Value.cells] <;> rfl) rfl (by simp [Value.oneCell']) (by simp only [maxLen]; omega) (by omega) hX.size ?_
      intro h40 v40 B40 ho40 hg40 hp40 hn40
      have hX40 := hg40.ext hX (fun c hc => (ho.block c hc).1)
      have hB140 := hB1.gr hg40 (ho.ncell hB1 (by decide))
      have hB240 := hB2.gr hg40 (ho.ncell hB2 (by decide))
      have hs640 := hs6.gro hg40 ho (by decide)
      skip
      refine WL.qq (by simp only [EN, Nat.reduceEqDiff, reduceIte, qv_assign, decide_true, Bool.not_true, Bool.not_false, decide_false, eq_self, hB1.cell, hB2.cell, hB1.cell, hB2.cell, hB1.cell, hB2.cell]; rfl) ?_
      refine WL.nil (bl_norm (th_norm (hx_region ?_)))
      iterate 3 refine WL.qq (by simp only [EN, Nat.reduceEqDiff, reduceIte, qv_move, i9_1, decide_true, Bool.not_true, Bool.not_false, decide_false, eq_self, hB1.cell, hB2.cell, hB1.cell, hB2.cell, hB1.cell, hB2.cell, qv_binOp, binv_add, qv_assign]; (try simp (disch := omega) only [w64, w8, wu64]); rfl) ?_
      refine WL.nil (th_norm ?_)
      refine ⟨rfl, ?_, _, ?_, i + 1, v40, rfl, ?_, ?_, ?_, ?_, ?_, ?_, ?_, ?_⟩
      · (repeat (first | exact Fr.refl _ _ | refine Fr.set rfl ?_ | refine Fr.put rfl ?_ | with_reducible refine Fr.put0 ?_))
      · omega
      · omega
      · exact hX40
      · exact hB140
      · exact hB240
      · exact hs640
      · rw [fm_step' hy]; exact ho40
      · simp only [EN, Nat.reduceEqDiff, reduceIte, k1_1, k3_1, k6_1, i9_1, i8_1, decide_true, Bool.not_true, Bool.not_false, decide_false, eq_self, hB1.cell, hB2.cell, hB1.cell, hB2.cell, hB1.cell, hB2.cell] <;> first | rfl | (congr 1; omega)
      · simp only [EN, Nat.reduceEqDiff, reduceIte, k1_1, k3_1, k6_1, i9_1, i8_1, decide_true, Bool.not_true, Bool.not_false, decide_false, eq_self, hB1.cell, hB2.cell, hB1.cell, hB2.cell, hB1.cell, hB2.cell] <;> first | rfl | (congr 1; omega)
     ·
      try simp only [BD] at hct38
      obtain rfl : i = x.os.length := (by omega)
      rw [List.take_length] at ho; obtain ⟨a8, c8, rfl, hc8, hn8, _⟩ := ho.shape; have hs8 := slG_own (f := siL) (sz := 2) (fun _ => rfl) ho rfl; have hzX := hX.size
      refine hx_exit (th_exit (th_exit (bl_hit (th_norm (hx_seq (hx_region ?_))))))
      iterate 6 refine WL.qq (by simp only [EN, Nat.reduceEqDiff, reduceIte, qv_move, k6_1, decide_true, Bool.not_true, Bool.not_false, decide_false, eq_self, hB1.cell, hB2.cell, hB1.cell, hB2.cell, hB1.cell, hB2.cell, i8_1, qv_fieldAddr, fa27_2, Nat.zero_add, Nat.reduceAdd, k1_1, qv_load, ld9, readN, AR, fa27_3, ld25]; rfl) ?_
      refine WL.ce Tryz.call29 (by simp only [EN, Nat.reduceEqDiff, reduceIte, AR, decide_true, Bool.not_true, Bool.not_false, decide_false, eq_self, hB1.cell, hB2.cell, hB1.cell, hB2.cell, hB1.cell, hB2.cell]; exact c_new2 x a6 c6 a8 c8 (by omega) (by omega) hc8 hs0.st hn8 hs6.rd hs8) ?_
      rintro _ h4 ⟨hx4, u, rfl, hNV⟩
      replace hX := hX.ext hx4
      replace hB1 := hB1.ext hx4
      replace hB2 := hB2.ext hx4
      replace hs6 := hs6.ext hx4
      replace ho := ho.ext hx4
      simp only [put_some]
      replace hNV := hNV.base hzX
      iterate 5 refine WL.qq (by simp only [EN, Nat.reduceEqDiff, reduceIte, qv_move, decide_true, Bool.not_true, Bool.not_false, decide_false, eq_self, hB1.cell, hB2.cell, hB1.cell, hB2.cell, hB1.cell, hB2.cell, qv_extract, AR, qv_assign]; rfl) ?_
      refine WL.nil (th_norm (hx_seq (hx_region ?_)))
      iterate 8 refine WL.qq (by simp only [EN, Nat.reduceEqDiff, reduceIte, qv_fieldAddr, fa27_0, Nat.zero_add, Nat.reduceAdd, k1_1, decide_true, Bool.not_true, Bool.not_false, decide_false, eq_self, hB1.cell, hB2.cell, hB1.cell, hB2.cell, hB1.cell, hB2.cell, qv_load, ld22, readN, AR, fa27_1, ld23, fa27_2, ld9, fa27_3, ld25]; rfl) ?_
      refine WL.ce Tryz.call46 (by simp only [EN, Nat.reduceEqDiff, reduceIte, AR, decide_true, Bool.not_true, Bool.not_false, decide_false, eq_self, hB1.cell, hB2.cell, hB1.cell, hB2.cell, hB1.cell, hB2.cell]; exact c_rNew x.al x.l x.cl x.ao x.os x.co x.s x.d x.m (by omega) (by omega) hs0.st hs0.no (hs0.sl.ext hX) (hs0.so.ext hX)) ?_
      rintro _ h5 ⟨hx5, w, rfl, hNW⟩
      replace hX := hX.ext hx5
      replace hB1 := hB1.ext hx5
      replace hB2 := hB2.ext hx5
      replace hs6 := hs6.ext hx5
      replace ho := ho.ext hx5
      replace hNV := hNV.ext hx5
      simp only [put_some]
      replace hNW : NwI h5 x w := hNW
      obtain ⟨a0, n0, k0, a1, n1, k1, x2, x3, x4, a5, n5, k5, b6, rfl⟩ := hNW.shape
      iterate 3 refine WL.qq (by simp only [EN, Nat.reduceEqDiff, reduceIte, qv_move, decide_true, Bool.not_true, Bool.not_false, decide_false, eq_self, hB1.cell, hB2.cell, hB1.cell, hB2.cell, hB1.cell, hB2.cell, qv_extract, AR]; rfl) ?_
      refine WL.store (by simp only [EN, Nat.reduceEqDiff, reduceIte, k3_1, decide_true, Bool.not_true, Bool.not_false, decide_false, eq_self, hB1.cell, hB2.cell, hB1.cell, hB2.cell, hB1.cell, hB2.cell] <;> rfl) sz34 (by simp only [EN, Nat.reduceEqDiff, reduceIte, Value.cells, k3_1, decide_true, Bool.not_true, Bool.not_false, decide_false, eq_self, hB1.cell, hB2.cell, hB1.cell, hB2.cell, hB1.cell, hB2.cell] <;> rfl) rfl hB2 (by first | (simp [true_and]; done) | (simp [true_and]; omega) | omega) (by simp [Value.oneCell']) ?_
      intro h6 hw6
      have hX13 := hw6.ext hX hb2
      have hW13 := hw6
      replace hNV := hNV.wr hw6 hB2
      replace hNW := hNW.wr hw6 hB2
      replace hB2 := hw6.at_
      try simp only [splc, List.take_succ_cons, List.take_zero, List.take_nil, List.drop_succ_cons, List.drop_zero, List.drop_nil, List.cons_append, List.nil_append, List.length_cons, List.length_nil, Nat.zero_add, Nat.add_zero, Nat.reduceAdd, List.append_nil] at hB2
      refine WL.qq (by simp only [EN, Nat.reduceEqDiff, reduceIte, qv_assign, decide_true, Bool.not_true, Bool.not_false, decide_false, eq_self, hB1.cell, hB2.cell, hB1.cell, hB2.cell, hB1.cell, hB2.cell]; rfl) ?_
      refine WL.nil (th_norm (hx_seq ?_))
      rcases id hNV with ⟨he, rfl⟩ | ⟨he, p, b, vh, vo, rfl, hE⟩
      ·
       apply hx_draw2 Rel.same [14, 15, 16] [] [] rfl (by decide +kernel) rfl
       have hsz13 := hX.size
       iterate 7 refine LD.qq rfl rfl (by simp only [EN, Nat.reduceEqDiff, reduceIte, qv_move, decide_true, Bool.not_true, Bool.not_false, decide_false, eq_self, hB1.cell, hB2.cell, hB1.cell, hB2.cell, hB1.cell, hB2.cell, qv_load, ld34, readN, AR, Nat.zero_add, Nat.reduceAdd, k3_1, qv_binOp, binv_eql, eq3, Option.map_some]; rfl) ?_
       refine LD.cq rfl rfl (gd_at (t := 77) rfl (by simp only [EN, Nat.reduceEqDiff, reduceIte, decide_true, Bool.not_true, Bool.not_false, decide_false, eq_self, hB1.cell, hB2.cell, hB1.cell, hB2.cell, hB1.cell, hB2.cell] <;> rfl)) (fun hg13_7 => by simp only [EN, Nat.reduceEqDiff, reduceIte, qv_move, decide_true, Bool.not_true, Bool.not_false, decide_false, eq_self, hB1.cell, hB2.cell, hB1.cell, hB2.cell, hB1.cell, hB2.cell, hg13_7, GR]; rfl) ?_
       refine LD.cq rfl rfl (gd_at (t := 77) rfl (by simp only [EN, Nat.reduceEqDiff, reduceIte, decide_true, Bool.not_true, Bool.not_false, decide_false, eq_self, hB1.cell, hB2.cell, hB1.cell, hB2.cell, hB1.cell, hB2.cell] <;> rfl)) (fun hg13_8 => by simp only [EN, Nat.reduceEqDiff, reduceIte, qv_binOp, binv_eql, eqz31, eqn31, eqm31, Option.map_some, decide_true, Bool.not_true, Bool.not_false, decide_false, eq_self, hB1.cell, hB2.cell, hB1.cell, hB2.cell, hB1.cell, hB2.cell, hg13_8, GR]; rfl) ?_
       refine LD.cq rfl rfl (gd_at (t := 77) rfl (by simp only [EN, Nat.reduceEqDiff, reduceIte, decide_true, Bool.not_true, Bool.not_false, decide_false, eq_self, hB1.cell, hB2.cell, hB1.cell, hB2.cell, hB1.cell, hB2.cell] <;> rfl)) (fun hg13_9 => by simp only [EN, Nat.reduceEqDiff, reduceIte, qv_move, decide_true, Bool.not_true, Bool.not_false, decide_false, eq_self, hB1.cell, hB2.cell, hB1.cell, hB2.cell, hB1.cell, hB2.cell, hg13_9, GR]; rfl) ?_
       refine LD.cq rfl rfl (gd_at (t := 77) rfl (by simp only [EN, Nat.reduceEqDiff, reduceIte, decide_true, Bool.not_true, Bool.not_false, decide_false, eq_self, hB1.cell, hB2.cell, hB1.cell, hB2.cell, hB1.cell, hB2.cell] <;> rfl)) (fun hg13_10 => by simp only [EN, Nat.reduceEqDiff, reduceIte, qv_binOp, binv_neq, eq46, Option.map_some, decide_true, Bool.not_true, Bool.not_false, decide_false, eq_self, hB1.cell, hB2.cell, hB1.cell, hB2.cell, hB1.cell, hB2.cell, hg13_10, GR]; rfl) ?_
       refine LD.cq rfl rfl (gd_at (t := 77) rfl (by simp only [EN, Nat.reduceEqDiff, reduceIte, decide_true, Bool.not_true, Bool.not_false, decide_false, eq_self, hB1.cell, hB2.cell, hB1.cell, hB2.cell, hB1.cell, hB2.cell] <;> rfl)) (fun hg13_11 => by simp only [EN, Nat.reduceEqDiff, reduceIte, qv_binOp, binv_eql, eq4, Option.map_some, decide_true, Bool.not_true, Bool.not_false, decide_false, eq_self, hB1.cell, hB2.cell, hB1.cell, hB2.cell, hB1.cell, hB2.cell, hg13_11, GR]; rfl) ?_
       iterate 2 refine LD.qq rfl rfl (by simp only [EN, Nat.reduceEqDiff, reduceIte, qv_pick, pk_and, pk_or, GR, decide_true, Bool.not_true, Bool.not_false, decide_false, eq_self, hB1.cell, hB2.cell, hB1.cell, hB2.cell, hB1.cell, hB2.cell, qv_assign]; rfl) ?_
       refine LD.skip rfl ?_
       refine LD.skip rfl ?_
       refine LD.skip rfl ?_
       refine LD.nil ?_
       rintro h6 rfl -
       refine WL.store (by simp only [EN, Nat.reduceEqDiff, reduceIte, k3_1, decide_true, Bool.not_true, Bool.not_false, decide_false, eq_self, hB1.cell, hB2.cell, hB1.cell, hB2.cell, hB1.cell, hB2.cell] <;> rfl) sz34 (by simp only [EN, Nat.reduceEqDiff, reduceIte, Value.cells, k3_1, decide_true, Bool.not_true, Bool.not_false, decide_false, eq_self, hB1.cell, hB2.cell, hB1.cell, hB2.cell, hB1.cell, hB2.cell] <;> rfl) rfl hB2 (by first | (simp [true_and]; done) | (simp [true_and]; omega) | omega) (by simp [Value.oneCell']) ?_
       intro h7 hw7
       have hX14 := hw7.ext hX13 hb2
       have hW14 := hw7
       replace hNV := hNV.wr hw7 hB2
       replace hNW := hNW.wr hw7 hB2
       replace hB2 := hw7.at_
       try simp only [splc, List.take_succ_cons, List.take_zero, List.take_nil, List.drop_succ_cons, List.drop_zero, List.drop_nil, List.cons_append, List.nil_append, List.length_cons, List.length_nil, Nat.zero_add, Nat.add_zero, Nat.reduceAdd, List.append_nil] at hB2
       iterate 2 refine WL.qq (by simp only [EN, Nat.reduceEqDiff, reduceIte, qv_assign, decide_true, Bool.not_true, Bool.not_false, decide_false, eq_self, hB1.cell, hB2.cell, hB1.cell, hB2.cell, hB1.cell, hB2.cell]; rfl) ?_
       refine WL.nil (th_norm (hx_ret ?_))
       refine fin_ret [.tmp 2, .cell 3 34, .tmp 4, .tmp 5] rfl rfl (by simp only [EN, Nat.reduceEqDiff, reduceIte, resv, ld34, readN, AR, Nat.zero_add, Nat.reduceAdd, k1_1, k3_1, k6_1, i9_1, i8_1, decide_true, Bool.not_true, Bool.not_false, decide_false, eq_self, hB1.cell, hB2.cell, hB1.cell, hB2.cell, hB1.cell, hB2.cell]; rfl) ?_
       refine ⟨hX14, _, _, ?_, hNV, hNW⟩
       simp only [retOf]; first | (rw [decide_eq_false he]; rfl) | (rw [decide_eq_true he]; rfl)
      ·
       apply hx_draw2 Rel.same [14, 15, 16] [] [] rfl (by decide +kernel) rfl
       have hsz13 := hX.size
       iterate 7 refine LD.qq rfl rfl (by simp only [EN, Nat.reduceEqDiff, reduceIte, qv_move, decide_true, Bool.not_true, Bool.not_false, decide_false, eq_self, hB1.cell, hB2.cell, hB1.cell, hB2.cell, hB1.cell, hB2.cell, qv_load, ld34, readN, AR, Nat.zero_add, Nat.reduceAdd, k3_1, qv_binOp, binv_eql, eq3, Option.map_some]; rfl) ?_
       refine LD.cq rfl rfl (gd_at (t := 77) rfl (by simp only [EN, Nat.reduceEqDiff, reduceIte, decide_true, Bool.not_true, Bool.not_false, decide_false, eq_self, hB1.cell, hB2.cell, hB1.cell, hB2.cell, hB1.cell, hB2.cell] <;> rfl)) (fun hg13_7 => by simp only [EN, Nat.reduceEqDiff, reduceIte, qv_move, decide_true, Bool.not_true, Bool.not_false, decide_false, eq_self, hB1.cell, hB2.cell, hB1.cell, hB2.cell, hB1.cell, hB2.cell, hg13_7, GR]; rfl) ?_
       refine LD.cq rfl rfl (gd_at (t := 77) rfl (by simp only [EN, Nat.reduceEqDiff, reduceIte, decide_true, Bool.not_true, Bool.not_false, decide_false, eq_self, hB1.cell, hB2.cell, hB1.cell, hB2.cell, hB1.cell, hB2.cell] <;> rfl)) (fun hg13_8 => by simp only [EN, Nat.reduceEqDiff, reduceIte, qv_binOp, binv_eql, eqz31, eqn31, eqm31, Option.map_some, decide_true, Bool.not_true, Bool.not_false, decide_false, eq_self, hB1.cell, hB2.cell, hB1.cell, hB2.cell, hB1.cell, hB2.cell, hg13_8, GR]; rfl) ?_
       refine LD.cq rfl rfl (gd_at (t := 77) rfl (by simp only [EN, Nat.reduceEqDiff, reduceIte, decide_true, Bool.not_true, Bool.not_false, decide_false, eq_self, hB1.cell, hB2.cell, hB1.cell, hB2.cell, hB1.cell, hB2.cell] <;> rfl)) (fun hg13_9 => by simp only [EN, Nat.reduceEqDiff, reduceIte, qv_move, decide_true, Bool.not_true, Bool.not_false, decide_false, eq_self, hB1.cell, hB2.cell, hB1.cell, hB2.cell, hB1.cell, hB2.cell, hg13_9, GR]; rfl) ?_
       refine LD.cq rfl rfl (gd_at (t := 77) rfl (by simp only [EN, Nat.reduceEqDiff, reduceIte, decide_true, Bool.not_true, Bool.not_false, decide_false, eq_self, hB1.cell, hB2.cell, hB1.cell, hB2.cell, hB1.cell, hB2.cell] <;> rfl)) (fun hg13_10 => by simp only [EN, Nat.reduceEqDiff, reduceIte, qv_binOp, binv_neq, eq46, Option.map_some, decide_true, Bool.not_true, Bool.not_false, decide_false, eq_self, hB1.cell, hB2.cell, hB1.cell, hB2.cell, hB1.cell, hB2.cell, hg13_10, GR]; rfl) ?_
       refine LD.cq rfl rfl (gd_at (t := 77) rfl (by simp only [EN, Nat.reduceEqDiff, reduceIte, decide_true, Bool.not_true, Bool.not_false, decide_false, eq_self, hB1.cell, hB2.cell, hB1.cell, hB2.cell, hB1.cell, hB2.cell] <;> rfl)) (fun hg13_11 => by simp only [EN, Nat.reduceEqDiff, reduceIte, qv_binOp, binv_eql, eq4, Option.map_some, decide_true, Bool.not_true, Bool.not_false, decide_false, eq_self, hB1.cell, hB2.cell, hB1.cell, hB2.cell, hB1.cell, hB2.cell, hg13_11, GR]; rfl) ?_
       iterate 2 refine LD.qq rfl rfl (by simp only [EN, Nat.reduceEqDiff, reduceIte, qv_pick, pk_and, pk_or, GR, decide_true, Bool.not_true, Bool.not_false, decide_false, eq_self, hB1.cell, hB2.cell, hB1.cell, hB2.cell, hB1.cell, hB2.cell, qv_assign]; rfl) ?_
       refine LD.skip rfl ?_
       refine LD.skip rfl ?_
       refine LD.skip rfl ?_
       refine LD.nil ?_
       rintro h6 rfl -
       refine WL.store (by simp only [EN, Nat.reduceEqDiff, reduceIte, k3_1, decide_true, Bool.not_true, Bool.not_false, decide_false, eq_self, hB1.cell, hB2.cell, hB1.cell, hB2.cell, hB1.cell, hB2.cell] <;> rfl) sz34 (by simp only [EN, Nat.reduceEqDiff, reduceIte, Value.cells, k3_1, decide_true, Bool.not_true, Bool.not_false, decide_false, eq_self, hB1.cell, hB2.cell, hB1.cell, hB2.cell, hB1.cell, hB2.cell] <;> rfl) rfl hB2 (by first | (simp [true_and]; done) | (simp [true_and]; omega) | omega) (by simp [Value.oneCell']) ?_
       intro h8 hw8
       have hX14 := hw8.ext hX13 hb2
       have hW14 := hw8
       replace hNV := hNV.wr hw8 hB2
       replace hNW := hNW.wr hw8 hB2
       replace hB2 := hw8.at_
       try simp only [splc, List.take_succ_cons, List.take_zero, List.take_nil, List.drop_succ_cons, List.drop_zero, List.drop_nil, List.cons_append, List.nil_append, List.length_cons, List.length_nil, Nat.zero_add, Nat.add_zero, Nat.reduceAdd, List.append_nil] at hB2
       iterate 2 refine WL.qq (by simp only [EN, Nat.reduceEqDiff, reduceIte, qv_assign, decide_true, Bool.not_true, Bool.not_false, decide_false, eq_self, hB1.cell, hB2.cell, hB1.cell, hB2.cell, hB1.cell, hB2.cell]; rfl) ?_
       refine WL.nil (th_norm (hx_ret ?_))
       refine fin_ret [.tmp 2, .cell 3 34, .tmp 4, .tmp 5] rfl rfl (by simp only [EN, Nat.reduceEqDiff, reduceIte, resv, ld34, readN, AR, Nat.zero_add, Nat.reduceAdd, k1_1, k3_1, k6_1, i9_1, i8_1, decide_true, Bool.not_true, Bool.not_false, decide_false, eq_self, hB1.cell, hB2.cell, hB1.cell, hB2.cell, hB1.cell, hB2.cell]; rfl) ?_
       refine ⟨hX14, _, _, ?_, hNV, hNW⟩
       simp only [retOf]; first | (rw [decide_eq_false he]; rfl) | (rw [decide_eq_true he]; rfl)
end GL
namespace GL
open Go Go.Proofs
set_option maxRecDepth 8000
structure OX where
  k : Int
  o : ByteArray
  p : ByteArray
  q : Int
  ad : Int
  am : Int
abbrev oxL (x : OX) : List Value := [.int .u8 x.k, .string x.o, .string x.p, iV x.q, iV x.ad, iV x.am]
def stepE (E : EL) (o : OX) : EL := if o.k = 0 then (if chX E o.o o.p o.q o.ad o.am = 0 then chsE E o.o o.p o.q else E) else (if clX E o.ad o.am = 0 then { E with cl := true } else E)
theorem good_step {E : EL} (g : GoodE E) (o : OX) : GoodE (stepE E o) := by
  unfold stepE
  split
  · split
    · rename_i h; exact good_choose g h
    · exact g
  · split
    · exact good_shut g true
    · exact g
theorem step_hs {E : EL} (o : OX) : (stepE E o).hs = E.hs ∧ (stepE E o).os = E.os := by
  unfold stepE
  split <;> split <;> exact ⟨rfl, rfl⟩
theorem Gs.sup {a c : Heap} {S T : List Nat} (h : Gs a c S) (hS : ∀ x ∈ S, x ∈ T) : Gs a c T := ⟨h.size, fun x hx hn => h.same x hx fun hh => hn (hS x hh)⟩
theorem RI.gs {h h' : Heap} {N p b : Nat} {vh vo wh wo wc : Value} {E F : EL} (hI : RI h wh wo wc E) (hg : Gs h h' [p, b]) (hE : IsE h N p b vh vo F) : RI h' wh wo wc E := by
  have key : ∀ {el g : Nat} {cur : Array Value}, el ≠ tyEl → Has h g (.cells cur el) → g ∉ [p, b] := by
    intro el g cur hne hc hm
    rcases List.mem_cons.1 hm with rfl | hm
    · have := hE.blk.un hc; injection this with _ h9 _; exact hne h9.symm
    · simp at hm; exact hc.nmap hE.map hm
  have rk : ∀ {α : Type} {f : α → List Value} {sz el : Nat} {a : Option Addr} {l : List α}, el ≠ tyEl → SlR el sz f h a l → SlR el sz f h' a l := fun hne hs =>
    hs.gs hg fun g off ha => by obtain ⟨cur, hc⟩ := hs.ty g off ha; exact key hne hc
  obtain ⟨⟨a, c, q1, q2, q3⟩, ⟨a', c', r1, r2, r3⟩, ⟨a2, c2, rows, s1, s2, s3, s4⟩⟩ := hI
  exact ⟨⟨a, c, q1, q2, rk (by decide) q3⟩, ⟨a', c', r1, r2, rk (by decide) r3⟩, ⟨a2, c2, rows, s1, s2, rk (by decide) s3, ⟨s4.1, fun i x hi => by
    obtain ⟨b, c, t1, t2⟩ := s4.2 i x hi
    exact ⟨b, c, t1, rk (by decide) t2⟩⟩⟩⟩
def Rel.isE (j N p b : Nat) (vh vo : Value) (E E' : EL) : Rel where
  r := fun x y => Gs x y [p, b] ∧ (IsE x N p b vh vo E' → IsE y N p b vh vo E')
  refl := fun x => ⟨Gs.refl x _, id⟩
  trans := fun h h' => ⟨h.1.trans h'.1, fun q => h'.2 (h.2 q)⟩
  neg := fun k h => k = j → IsE h N p b vh vo E
instance {j N p b : Nat} {vh vo : Value} {E E' : EL} : RelF (Rel.isE j N p b vh vo E E') := ⟨fun _ => rfl⟩
instance {j N p b : Nat} {vh vo : Value} {E E' : EL} : RelL (Rel.isE j N p b vh vo E E') := ⟨fun _ _ _ => trivial⟩
def Spec.isE (v : Value) (N p b : Nat) (vh vo : Value) (E' : EL) : Spec := ⟨fun u => u = v, fun _ h => IsE h N p b vh vo E', ⟨v, rfl⟩, fun _ _ _ hx hm => hm.ext hx⟩
theorem isE_stable {i j N p b : Nat} {v vh vo : Value} {E E' : EL} : Stable (Rel.isE j N p b vh vo E E') (specOf [(i, Spec.isE v N p b vh vo E')]) := by
  intro i s hi u a b hr hm
  simp only [specOf, List.lookup] at hi
  repeat' split at hi
  all_goals cases hi
  exact hr.2 hm
theorem c_rChooseS {h : Heap} {vh vo vc : Value} {E E' : EL} (g : GoodE E) (s o : ByteArray) (q ad am : Int) (hI : RI h vh vo vc E) (hE' : E' = if chX E s o q ad am = 0 then chsE E s o q else E) :
    HCalls Tryz.prog 36 #[reV vh vo vc E, .string s, .string o, iV q, .agg #[iV ad, iV am]] h fun v h' => Ext h h' ∧ ∃ vc', v = .tuple #[reV vh vo vc' E', iV (chX E s o q ad am)] ∧ RI h' vh vo vc' E' := by
  subst hE'; exact c_rChoose g s o q ad am hI rfl
section
variable {h : Heap} {N p b : Nat} {vh vo wh wo wc : Value} {E : EL}
set_option maxHeartbeats 4000000 in
theorem c_do (g : GoodE E) (h40 : E.hs.length ≤ 40) (hE : IsE h N p b vh vo E) (hI : RI h wh wo wc E) (hb : b < h.size) (o : OX) :
    HCalls Tryz.prog 16 #[.pointer (some ⟨p, 0, none⟩), reV wh wo wc E, .agg (oxL o).toArray] h fun v h' => Gs h h' [p, b] ∧ ∃ wc', v = .tuple #[reV wh wo wc' (stepE E o), .bool true] ∧ IsE h' N p b vh vo (stepE E o) ∧ RI h' wh wo wc' (stepE E o) := by
  have hpl := (Array.getElem?_eq_some_iff.1 hE.blk).1
  obtain ⟨E', hE'⟩ : ∃ E', E' = if chX E o.o o.p o.q o.ad o.am = 0 then chsE E o.o o.p o.q else E := ⟨_, rfl⟩
  obtain ⟨ah, ch, rfl, _⟩ := id hI.sh
  obtain ⟨ao, co, rfl, _⟩ := id hI.so
  obtain ⟨ac, cc, rows0, rfl, _⟩ := id hI.sc
  refine hcalls2 Tryz.func16 rfl (by decide +kernel) (by simp only [Tryz.ntmps16]; exact of_decide_eq_true rfl) ?_
  intro e hin
  have e0 := hin 0 _ rfl
  have e1 := hin 1 _ rfl
  have e2 := hin 2 _ rfl
  refine hx_seq (hx_region ?_)
  refine WL.box2 (by simp only [EN, Nat.reduceEqDiff, reduceIte, Value.cells, e1, decide_true, Bool.not_true, Bool.not_false, decide_false, eq_self]; rfl) ?_
  intro h1 B1 hx1 hlt1 hB1
  replace hE := hE.ext hx1
  replace hI := hI.ext hx1
  have hl1 := (Array.getElem?_eq_some_iff.1 hB1).1
  refine WL.box2 (by simp only [EN, Nat.reduceEqDiff, reduceIte, Value.cells, e2, decide_true, Bool.not_true, Bool.not_false, decide_false, eq_self, hB1.cell]; rfl) ?_
  intro h2 B2 hx2 hlt2 hB2
  replace hE := hE.ext hx2
  replace hI := hI.ext hx2
  replace hB1 := hB1.ext hx2
  refine WL.alloc2 zr34 ?_
  intro h3 B3 hx3 hlt3 hB3
  replace hE := hE.ext hx3
  replace hI := hI.ext hx3
  replace hB1 := hB1.ext hx3
  replace hB2 := hB2.ext hx3
  simp only [Value.cells] at hB3
  refine WL.qq (by simp only [EN, Nat.reduceEqDiff, reduceIte, qv_assign, decide_true, Bool.not_true, Bool.not_false, decide_false, eq_self, hB1.cell, hB2.cell, hB3.cell]; rfl) ?_
  refine WL.nil (th_norm (hx_seq (hx_seq (hx_region ?_))))
  have hX3 := ((hx1).trans ((hx2).trans (hx3))); have hz1 := hx1.size; have hz2 := hx2.size; have hz3 := hx3.size
  have hb3 : h.size ≤ B3 := (by omega); have hn2 : B2 ∉ [p, b] := (by simp; omega); have hn3 : B3 ∉ [p, b] := (by simp; omega); have hn1 : B1 ∉ [p, b] := (by simp; omega)
  iterate 3 refine WL.qq (by simp only [EN, Nat.reduceEqDiff, reduceIte, qv_fieldAddr, fa43_0, Nat.zero_add, Nat.reduceAdd, decide_true, Bool.not_true, Bool.not_false, decide_false, eq_self, hB1.cell, hB2.cell, hB3.cell, qv_load, ld5, readN, AR, qv_binOp, binv_eql, eq5, Option.map_some]; rfl) ?_
  refine WL.nil (th_norm ?_)
  refine hx_cond (by simp only [EN, Nat.reduceEqDiff, reduceIte, decide_true, Bool.not_true, Bool.not_false, decide_false, eq_self, hB1.cell, hB2.cell, hB3.cell]; rfl) (fun hct15 => ?_) (fun hct15 => ?_)
  ·
   try simp only [BD] at hct15
   refine hx_seq (hx_region ?_)
   iterate 9 refine WL.qq (by simp only [EN, Nat.reduceEqDiff, reduceIte, qv_load, ld34, readN, AR, Nat.zero_add, Nat.reduceAdd, decide_true, Bool.not_true, Bool.not_false, decide_false, eq_self, hB1.cell, hB2.cell, hB3.cell, qv_fieldAddr, fa43_1, ld9, fa43_2, fa43_3, ld2, fa43_4, ld25]; rfl) ?_
   refine WL.ce Tryz.call36 (by simp only [EN, Nat.reduceEqDiff, reduceIte, AR, decide_true, Bool.not_true, Bool.not_false, decide_false, eq_self, hB1.cell, hB2.cell, hB3.cell]; exact c_rChooseS g o.o o.p o.q o.ad o.am hI hE') ?_
   rintro _ h4 ⟨hx4, wc', rfl, hI'⟩
   replace hE := hE.ext hx4
   replace hI := hI.ext hx4
   replace hB1 := hB1.ext hx4
   replace hB2 := hB2.ext hx4
   replace hB3 := hB3.ext hx4
   simp only [put_some]
   obtain ⟨ac', cc', rows', rfl, _⟩ := id hI'.sc
   iterate 3 refine WL.qq (by simp only [EN, Nat.reduceEqDiff, reduceIte, qv_move, decide_true, Bool.not_true, Bool.not_false, decide_false, eq_self, hB1.cell, hB2.cell, hB3.cell, qv_extract, AR]; rfl) ?_
   refine WL.allocSt zr34 sz34 (fun u => by simp only [EN, Nat.reduceEqDiff, reduceIte, Value.cells, decide_true, Bool.not_true, Bool.not_false, decide_false, eq_self, hB1.cell, hB2.cell, hB3.cell]; rfl) ⟨rfl, rfl⟩ (by simp [Value.oneCell']) ?_
   intro h5 B5 hx5 hlt5 hB5
   replace hE := hE.ext hx5
   replace hI := hI.ext hx5
   replace hB1 := hB1.ext hx5
   replace hB2 := hB2.ext hx5
   replace hB3 := hB3.ext hx5
   replace hI' := hI'.ext hx5
   refine WL.qq (by simp only [EN, Nat.reduceEqDiff, reduceIte, qv_assign, decide_true, Bool.not_true, Bool.not_false, decide_false, eq_self, hB1.cell, hB2.cell, hB3.cell, hB5.cell]; rfl) ?_
   refine WL.nil (th_norm (hx_seq ?_))
   apply hx_draw2M (Rel.isE 10 N p b vh vo E E') [13, 14] [10] [(10, Spec.isE (iV (chX E o.o o.p o.q o.ad o.am)) N p b vh vo E')] rfl (by decide +kernel) rfl isE_stable (fun _ _ => hE)
   have hX5 := ((hx1).trans ((hx2).trans ((hx3).trans ((hx4).trans (hx5))))); have hn5 : B5 ∉ [p, b] := (by have := hX3.size; have := hx4.size; simp; omega)
   refine LD.qr rfl rfl (fun hD hr => by have hB2 := hB2.gs hr.1 hn2; have hB5 := hB5.gs hr.1 hn5; simp only [EN, Nat.reduceEqDiff, reduceIte, qv_load, ld34, readN, AR, Nat.zero_add, Nat.reduceAdd, decide_true, Bool.not_true, Bool.not_false, decide_false, eq_self, hB1.cell, hB2.cell, hB3.cell, hB5.cell]; rfl) ?_
   refine LD.qr rfl rfl (fun hD hr => by have hB2 := hB2.gs hr.1 hn2; have hB5 := hB5.gs hr.1 hn5; simp only [EN, Nat.reduceEqDiff, reduceIte, qv_move, e0, decide_true, Bool.not_true, Bool.not_false, decide_false, eq_self, hB1.cell, hB2.cell, hB3.cell, hB5.cell]; rfl) ?_
   refine LD.qr rfl rfl (fun hD hr => by have hB2 := hB2.gs hr.1 hn2; have hB5 := hB5.gs hr.1 hn5; simp only [EN, Nat.reduceEqDiff, reduceIte, qv_fieldAddr, fa43_1, Nat.zero_add, Nat.reduceAdd, decide_true, Bool.not_true, Bool.not_false, decide_false, eq_self, hB1.cell, hB2.cell, hB3.cell, hB5.cell]; rfl) ?_
   refine LD.qr rfl rfl (fun hD hr => by have hB2 := hB2.gs hr.1 hn2; have hB5 := hB5.gs hr.1 hn5; simp only [EN, Nat.reduceEqDiff, reduceIte, qv_load, ld9, readN, AR, Nat.zero_add, Nat.reduceAdd, decide_true, Bool.not_true, Bool.not_false, decide_false, eq_self, hB1.cell, hB2.cell, hB3.cell, hB5.cell]; rfl) ?_
   refine LD.qr rfl rfl (fun hD hr => by have hB2 := hB2.gs hr.1 hn2; have hB5 := hB5.gs hr.1 hn5; simp only [EN, Nat.reduceEqDiff, reduceIte, qv_fieldAddr, fa43_2, Nat.zero_add, Nat.reduceAdd, decide_true, Bool.not_true, Bool.not_false, decide_false, eq_self, hB1.cell, hB2.cell, hB3.cell, hB5.cell]; rfl) ?_
   refine LD.qr rfl rfl (fun hD hr => by have hB2 := hB2.gs hr.1 hn2; have hB5 := hB5.gs hr.1 hn5; simp only [EN, Nat.reduceEqDiff, reduceIte, qv_load, ld9, readN, AR, Nat.zero_add, Nat.reduceAdd, decide_true, Bool.not_true, Bool.not_false, decide_false, eq_self, hB1.cell, hB2.cell, hB3.cell, hB5.cell]; rfl) ?_
   refine LD.qr rfl rfl (fun hD hr => by have hB2 := hB2.gs hr.1 hn2; have hB5 := hB5.gs hr.1 hn5; simp only [EN, Nat.reduceEqDiff, reduceIte, qv_fieldAddr, fa43_3, Nat.zero_add, Nat.reduceAdd, decide_true, Bool.not_true, Bool.not_false, decide_false, eq_self, hB1.cell, hB2.cell, hB3.cell, hB5.cell]; rfl) ?_
   refine LD.qr rfl rfl (fun hD hr => by have hB2 := hB2.gs hr.1 hn2; have hB5 := hB5.gs hr.1 hn5; simp only [EN, Nat.reduceEqDiff, reduceIte, qv_load, ld2, readN, AR, Nat.zero_add, Nat.reduceAdd, decide_true, Bool.not_true, Bool.not_false, decide_false, eq_self, hB1.cell, hB2.cell, hB3.cell, hB5.cell]; rfl) ?_
   refine LD.qr rfl rfl (fun hD hr => by have hB2 := hB2.gs hr.1 hn2; have hB5 := hB5.gs hr.1 hn5; simp only [EN, Nat.reduceEqDiff, reduceIte, qv_fieldAddr, fa43_4, Nat.zero_add, Nat.reduceAdd, decide_true, Bool.not_true, Bool.not_false, decide_false, eq_self, hB1.cell, hB2.cell, hB3.cell, hB5.cell]; rfl) ?_
   refine LD.qr rfl rfl (fun hD hr => by have hB2 := hB2.gs hr.1 hn2; have hB5 := hB5.gs hr.1 hn5; simp only [EN, Nat.reduceEqDiff, reduceIte, qv_load, ld25, readN, AR, Nat.zero_add, Nat.reduceAdd, decide_true, Bool.not_true, Bool.not_false, decide_false, eq_self, hB1.cell, hB2.cell, hB3.cell, hB5.cell]; rfl) ?_
   refine LD.en rfl rfl (by intro hD hr hng hf; have hB2 := hB2.gs hr.1 hn2; have hB5 := hB5.gs hr.1 hn5; exact EOp.mono (e_call Tryz.call18 (by simp only [EN, Nat.reduceEqDiff, reduceIte, e0, e1, e2, decide_true, Bool.not_true, Bool.not_false, decide_false, eq_self, hB1.cell, hB2.cell, hB3.cell, hB5.cell, List.map_toArray, List.map_cons, List.map_nil]; exact c_choose g.b o.o o.p o.q o.ad o.am (hng rfl) rfl)) (fun v h' hh => by obtain ⟨rfl, h1, h2⟩ := hh; have h3 : IsE h' N p b vh vo E' := (by rw [hE']; exact h2); exact ⟨⟨h1.sup (by simp), fun _ => h3⟩, rfl, h3, fun k' hk' _ _ hk => absurd hk hk'⟩)) ?_
   intro u3_10 w3_10
   have hu : u3_10 = _ := w3_10
   subst hu
   refine LD.qr rfl rfl (fun hD hr => by have hB2 := hB2.gs hr.1 hn2; have hB5 := hB5.gs hr.1 hn5; simp only [EN, Nat.reduceEqDiff, reduceIte, qv_move, decide_true, Bool.not_true, Bool.not_false, decide_false, eq_self, hB1.cell, hB2.cell, hB3.cell, hB5.cell]; rfl) ?_
   refine LD.qr rfl rfl (fun hD hr => by have hB2 := hB2.gs hr.1 hn2; have hB5 := hB5.gs hr.1 hn5; simp only [EN, Nat.reduceEqDiff, reduceIte, qv_binOp, binv_eql, eq3, Option.map_some, decide_true, Bool.not_true, Bool.not_false, decide_false, eq_self, hB1.cell, hB2.cell, hB3.cell, hB5.cell]; rfl) ?_
   refine LD.skip rfl ?_
   refine LD.skip rfl ?_
   refine LD.nil ?_
   rintro h6 hr3 hF3
   have hT : IsE h6 N p b vh vo E' := hF3 (10, iV (chX E o.o o.p o.q o.ad o.am)) (by simp) _ rfl
   replace hB3 := hB3.gs hr3.1 hn3
   have hI2 := hI'.gs hr3.1 hE
   have hG : Gs h h6 [p, b] := (Gs.ofExt hX5).trans hr3.1
   refine WL.store (by simp only [EN, Nat.reduceEqDiff, reduceIte, decide_true, Bool.not_true, Bool.not_false, decide_false, eq_self, hB1.cell, hB2.cell, hB3.cell, hB5.cell] <;> rfl) sz34 (by simp only [EN, Nat.reduceEqDiff, reduceIte, Value.cells, decide_true, Bool.not_true, Bool.not_false, decide_false, eq_self, hB1.cell, hB2.cell, hB3.cell, hB5.cell] <;> rfl) rfl hB3 (by first | (simp [true_and]; done) | (simp [true_and]; omega) | omega) (by simp [Value.oneCell']) ?_
   intro h7 hw7
   have hG2 := hG.stp (.inr ⟨_, hw7⟩) (.inr hb3)
   replace hT := hT.wrT hw7 hB3 (by decide) (by decide) (by decide)
   have hI3 := hI2.wrT hw7 hB3 (by decide) (by decide) (by decide) (by decide)
   replace hB3 := hw7.at_
   try simp only [splc, List.take_succ_cons, List.take_zero, List.take_nil, List.drop_succ_cons, List.drop_zero, List.drop_nil, List.cons_append, List.nil_append, List.length_cons, List.length_nil, Nat.zero_add, Nat.add_zero, Nat.reduceAdd, List.append_nil] at hB3
   refine WL.qq (by simp only [EN, Nat.reduceEqDiff, reduceIte, qv_assign, decide_true, Bool.not_true, Bool.not_false, decide_false, eq_self, hB1.cell, hB2.cell, hB3.cell, hB5.cell]; rfl) ?_
   refine WL.nil (th_norm (hx_ret (th_ret ?_)))
   refine fin_ret [.cell 6 34, .tmp 7] rfl rfl (by simp only [EN, Nat.reduceEqDiff, reduceIte, resv, ld34, readN, AR, Nat.zero_add, Nat.reduceAdd, e0, e1, e2, decide_true, Bool.not_true, Bool.not_false, decide_false, eq_self, hB1.cell, hB2.cell, hB3.cell, hB5.cell]; rfl) ?_
   have hS : stepE E o = E' := (by unfold stepE; rw [if_pos (by omega), hE'])
   rw [hS]
   exact ⟨hG2, _, rfl, hT, hI3⟩
  ·
   try simp only [BD] at hct15
   have hk0 : ¬ o.k = 0 := (by omega); have hS : stepE E o = if clX E o.ad o.am = 0 then { E with cl := true } else E := if_neg hk0
   refine hx_skip (th_norm (hx_seq (hx_region ?_)))
   iterate 3 refine WL.qq (by simp only [EN, Nat.reduceEqDiff, reduceIte, qv_move, e0, decide_true, Bool.not_true, Bool.not_false, decide_false, eq_self, hB1.cell, hB2.cell, hB3.cell, qv_fieldAddr, fa43_4, Nat.zero_add, Nat.reduceAdd, qv_load, ld25, readN, AR]; rfl) ?_
   refine WL.ce Tryz.call17 (by simp only [EN, Nat.reduceEqDiff, reduceIte, AR, decide_true, Bool.not_true, Bool.not_false, decide_false, eq_self, hB1.cell, hB2.cell, hB3.cell]; exact c_close (g.cl h40) o.ad o.am hE (by omega) rfl) ?_
   rintro _ h20 ⟨hGc, u, rfl, hE5, hu⟩
   simp only [put_some]
   have hGp : Gs h h20 [p, b] := (Gs.ofExt hX3).trans (hGc.sup (by simp))
   replace hB1 := hB1.gs (hGc.sup (by simp)) hn1
   replace hB2 := hB2.gs (hGc.sup (by simp)) hn2
   replace hB3 := hB3.gs (hGc.sup (by simp)) hn3
   replace hI := hI.gs (hGc.sup (by simp)) hE
   have hZ : Ext h20 h20 := Ext.refl _
   iterate 5 refine WL.qq (by simp only [EN, Nat.reduceEqDiff, reduceIte, qv_move, decide_true, Bool.not_true, Bool.not_false, decide_false, eq_self, hB1.cell, hB2.cell, hB3.cell, qv_extract, AR, qv_assign]; rfl) ?_
   refine WL.nil (th_norm (hx_seq (hx_block (hx_seq (hx_region ?_)))))
   iterate 3 refine WL.qq (by simp only [EN, Nat.reduceEqDiff, reduceIte, qv_fieldAddr, fa34_5, Nat.zero_add, Nat.reduceAdd, decide_true, Bool.not_true, Bool.not_false, decide_false, eq_self, hB1.cell, hB2.cell, hB3.cell, qv_load, ld4, readN, AR, qv_assign]; rfl) ?_
   refine WL.nil (th_norm ?_)
   refine hx_cond (by simp only [EN, Nat.reduceEqDiff, reduceIte, decide_true, Bool.not_true, Bool.not_false, decide_false, eq_self, hB1.cell, hB2.cell, hB3.cell]; rfl) (fun hct49 => ?_) (fun hct49 => ?_)
   ·
    try simp only [BD] at hct49
    have hz : clX E o.ad o.am = 21 := if_pos hct49; rw [hz, if_neg (by decide)] at hE5 hu hS; subst hu
    refine hx_seq (hx_region ?_)
    iterate 4 refine WL.qq (by simp only [EN, Nat.reduceEqDiff, reduceIte, qv_load, ld34, readN, AR, Nat.zero_add, Nat.reduceAdd, decide_true, Bool.not_true, Bool.not_false, decide_false, eq_self, hB1.cell, hB2.cell, hB3.cell, qv_move, qv_binOp, binv_eql, eq46, Option.map_some, hz]; rfl) ?_
    refine WL.cq (gd_at (t := 55) rfl (by simp only [EN, Nat.reduceEqDiff, reduceIte, decide_true, Bool.not_true, Bool.not_false, decide_false, eq_self, hB1.cell, hB2.cell, hB3.cell] <;> rfl)) (fun hg6_4 => by simp only [EN, Nat.reduceEqDiff, reduceIte, qv_move, decide_true, Bool.not_true, Bool.not_false, decide_false, eq_self, hB1.cell, hB2.cell, hB3.cell, hg6_4, GR]; rfl) ?_
    refine WL.cq (gd_at (t := 55) rfl (by simp only [EN, Nat.reduceEqDiff, reduceIte, decide_true, Bool.not_true, Bool.not_false, decide_false, eq_self, hB1.cell, hB2.cell, hB3.cell] <;> rfl)) (fun hg6_5 => by simp only [EN, Nat.reduceEqDiff, reduceIte, qv_len, ln45, AR, decide_true, Bool.not_true, Bool.not_false, decide_false, eq_self, hB1.cell, hB2.cell, hB3.cell, hg6_5, GR]; rfl) ?_
    refine WL.cq (gd_at (t := 55) rfl (by simp only [EN, Nat.reduceEqDiff, reduceIte, decide_true, Bool.not_true, Bool.not_false, decide_false, eq_self, hB1.cell, hB2.cell, hB3.cell] <;> rfl)) (fun hg6_6 => by simp only [EN, Nat.reduceEqDiff, reduceIte, qv_binOp, binv_eql, eq3, Option.map_some, decide_true, Bool.not_true, Bool.not_false, decide_false, eq_self, hB1.cell, hB2.cell, hB3.cell, hg6_6, GR]; rfl) ?_
    refine WL.qq (by simp only [EN, Nat.reduceEqDiff, reduceIte, qv_pick, pk_and, pk_or, GR, decide_true, Bool.not_true, Bool.not_false, decide_false, eq_self, hB1.cell, hB2.cell, hB3.cell]; rfl) ?_
    refine WL.store (by simp only [EN, Nat.reduceEqDiff, reduceIte, decide_true, Bool.not_true, Bool.not_false, decide_false, eq_self, hB1.cell, hB2.cell, hB3.cell] <;> rfl) sz34 (by simp only [EN, Nat.reduceEqDiff, reduceIte, Value.cells, decide_true, Bool.not_true, Bool.not_false, decide_false, eq_self, hB1.cell, hB2.cell, hB3.cell] <;> rfl) rfl hB3 (by first | (simp [true_and]; done) | (simp [true_and]; omega) | omega) (by simp [Value.oneCell']) ?_
    intro h8 hw8
    have hG2 := (hGp.ext ((hZ))).stp (.inr ⟨_, hw8⟩) (.inr hb3)
    replace hE5 := hE5.wrT hw8 hB3 (by decide) (by decide) (by decide)
    replace hI := hI.wrT hw8 hB3 (by decide) (by decide) (by decide) (by decide)
    replace hB3 := hw8.at_
    try simp only [splc, List.take_succ_cons, List.take_zero, List.take_nil, List.drop_succ_cons, List.drop_zero, List.drop_nil, List.cons_append, List.nil_append, List.length_cons, List.length_nil, Nat.zero_add, Nat.add_zero, Nat.reduceAdd, List.append_nil] at hB3
    refine WL.qq (by simp only [EN, Nat.reduceEqDiff, reduceIte, qv_assign, decide_true, Bool.not_true, Bool.not_false, decide_false, eq_self, hB1.cell, hB2.cell, hB3.cell]; rfl) ?_
    refine WL.nil (th_norm (hx_ret (bl_ret (th_ret ?_))))
    refine fin_ret [.cell 6 34, .tmp 7] rfl rfl (by simp only [EN, Nat.reduceEqDiff, reduceIte, resv, ld34, readN, AR, Nat.zero_add, Nat.reduceAdd, e0, e1, e2, decide_true, Bool.not_true, Bool.not_false, decide_false, eq_self, hB1.cell, hB2.cell, hB3.cell]; rfl) ?_
    rw [hS]
    exact ⟨hG2, _, rfl, hE5, hI⟩
   ·
    try simp only [BD] at hct49
    refine hx_seq (hx_region ?_)
    iterate 4 refine WL.qq (by simp only [EN, Nat.reduceEqDiff, reduceIte, qv_fieldAddr, fa43_4, Nat.zero_add, Nat.reduceAdd, decide_true, Bool.not_true, Bool.not_false, decide_false, eq_self, hB1.cell, hB2.cell, hB3.cell, qv_load, ld25, readN, AR, fa34_3]; rfl) ?_
    refine WL.cg Tryz.call37 (by simp only [EN, Nat.reduceEqDiff, reduceIte, AR, decide_true, Bool.not_true, Bool.not_false, decide_false, eq_self, hB1.cell, hB2.cell, hB3.cell]; exact c_after o.ad o.am E.dd E.dm _) ?_
    intro h9 hx9
    replace hE5 := hE5.ext hx9
    replace hI := hI.ext hx9
    replace hB1 := hB1.ext hx9
    replace hB2 := hB2.ext hx9
    replace hB3 := hB3.ext hx9
    iterate 2 refine WL.qq (by simp only [EN, Nat.reduceEqDiff, reduceIte, qv_unOp, unv_not, decide_true, Bool.not_true, Bool.not_false, decide_false, eq_self, hB1.cell, hB2.cell, hB3.cell, qv_assign]; rfl) ?_
    refine WL.nil (th_norm ?_)
    refine hx_cond (by simp only [EN, Nat.reduceEqDiff, reduceIte, decide_true, Bool.not_true, Bool.not_false, decide_false, eq_self, hB1.cell, hB2.cell, hB3.cell]; rfl) (fun hct60 => ?_) (fun hct60 => ?_)
    ·
     try simp only [BD] at hct60
     have hz : clX E o.ad o.am = 10 := (by unfold clX; rw [if_neg (by simpa using hct49), if_pos (by omega)]); rw [hz, if_neg (by decide)] at hE5 hu hS; subst hu
     refine hx_seq (hx_region ?_)
     iterate 4 refine WL.qq (by simp only [EN, Nat.reduceEqDiff, reduceIte, qv_load, ld34, readN, AR, Nat.zero_add, Nat.reduceAdd, decide_true, Bool.not_true, Bool.not_false, decide_false, eq_self, hB1.cell, hB2.cell, hB3.cell, qv_move, qv_binOp, binv_eql, eq46, Option.map_some, hz]; rfl) ?_
     refine WL.cq (gd_at (t := 70) rfl (by simp only [EN, Nat.reduceEqDiff, reduceIte, decide_true, Bool.not_true, Bool.not_false, decide_false, eq_self, hB1.cell, hB2.cell, hB3.cell] <;> rfl)) (fun hg8_4 => by simp only [EN, Nat.reduceEqDiff, reduceIte, qv_move, decide_true, Bool.not_true, Bool.not_false, decide_false, eq_self, hB1.cell, hB2.cell, hB3.cell, hg8_4, GR]; rfl) ?_
     refine WL.cq (gd_at (t := 70) rfl (by simp only [EN, Nat.reduceEqDiff, reduceIte, decide_true, Bool.not_true, Bool.not_false, decide_false, eq_self, hB1.cell, hB2.cell, hB3.cell] <;> rfl)) (fun hg8_5 => by simp only [EN, Nat.reduceEqDiff, reduceIte, qv_len, ln45, AR, decide_true, Bool.not_true, Bool.not_false, decide_false, eq_self, hB1.cell, hB2.cell, hB3.cell, hg8_5, GR]; rfl) ?_
     refine WL.cq (gd_at (t := 70) rfl (by simp only [EN, Nat.reduceEqDiff, reduceIte, decide_true, Bool.not_true, Bool.not_false, decide_false, eq_self, hB1.cell, hB2.cell, hB3.cell] <;> rfl)) (fun hg8_6 => by simp only [EN, Nat.reduceEqDiff, reduceIte, qv_binOp, binv_eql, eq3, Option.map_some, decide_true, Bool.not_true, Bool.not_false, decide_false, eq_self, hB1.cell, hB2.cell, hB3.cell, hg8_6, GR]; rfl) ?_
     refine WL.qq (by simp only [EN, Nat.reduceEqDiff, reduceIte, qv_pick, pk_and, pk_or, GR, decide_true, Bool.not_true, Bool.not_false, decide_false, eq_self, hB1.cell, hB2.cell, hB3.cell]; rfl) ?_
     refine WL.store (by simp only [EN, Nat.reduceEqDiff, reduceIte, decide_true, Bool.not_true, Bool.not_false, decide_false, eq_self, hB1.cell, hB2.cell, hB3.cell] <;> rfl) sz34 (by simp only [EN, Nat.reduceEqDiff, reduceIte, Value.cells, decide_true, Bool.not_true, Bool.not_false, decide_false, eq_self, hB1.cell, hB2.cell, hB3.cell] <;> rfl) rfl hB3 (by first | (simp [true_and]; done) | (simp [true_and]; omega) | omega) (by simp [Value.oneCell']) ?_
     intro h10 hw10
     have hG2 := (hGp.ext (((hZ).trans (hx9)))).stp (.inr ⟨_, hw10⟩) (.inr hb3)
     replace hE5 := hE5.wrT hw10 hB3 (by decide) (by decide) (by decide)
     replace hI := hI.wrT hw10 hB3 (by decide) (by decide) (by decide) (by decide)
     replace hB3 := hw10.at_
     try simp only [splc, List.take_succ_cons, List.take_zero, List.take_nil, List.drop_succ_cons, List.drop_zero, List.drop_nil, List.cons_append, List.nil_append, List.length_cons, List.length_nil, Nat.zero_add, Nat.add_zero, Nat.reduceAdd, List.append_nil] at hB3
     refine WL.qq (by simp only [EN, Nat.reduceEqDiff, reduceIte, qv_assign, decide_true, Bool.not_true, Bool.not_false, decide_false, eq_self, hB1.cell, hB2.cell, hB3.cell]; rfl) ?_
     refine WL.nil (th_norm (hx_ret (bl_ret (th_ret ?_))))
     refine fin_ret [.cell 6 34, .tmp 7] rfl rfl (by simp only [EN, Nat.reduceEqDiff, reduceIte, resv, ld34, readN, AR, Nat.zero_add, Nat.reduceAdd, e0, e1, e2, decide_true, Bool.not_true, Bool.not_false, decide_false, eq_self, hB1.cell, hB2.cell, hB3.cell]; rfl) ?_
     rw [hS]
     exact ⟨hG2, _, rfl, hE5, hI⟩
    ·
     try simp only [BD] at hct60
     have hz : clX E o.ad o.am = 0 := (by unfold clX; rw [if_neg (by simpa using hct49), if_neg (by omega)]); rw [hz, if_pos rfl] at hE5 hu hS; obtain ⟨au, cu, rfl⟩ := hu.slice; replace hu := hu.ext ((hZ).trans (hx9))
     refine hx_skip (bl_norm (th_norm (hx_seq (hx_region ?_))))
     refine WL.qq (by simp only [EN, Nat.reduceEqDiff, reduceIte, qv_load, ld34, readN, AR, Nat.zero_add, Nat.reduceAdd, decide_true, Bool.not_true, Bool.not_false, decide_false, eq_self, hB1.cell, hB2.cell, hB3.cell]; rfl) ?_
     refine WL.ce Tryz.call38 (by simp only [EN, Nat.reduceEqDiff, reduceIte, AR, decide_true, Bool.not_true, Bool.not_false, decide_false, eq_self, hB1.cell, hB2.cell, hB3.cell]; exact c_rResults g h40 hI) ?_
     rintro _ h11 ⟨hx11, hoR⟩
     replace hE5 := hE5.ext hx11
     replace hI := hI.ext hx11
     replace hB1 := hB1.ext hx11
     replace hB2 := hB2.ext hx11
     replace hB3 := hB3.ext hx11
     simp only [put_some]
     obtain ⟨aR, cR, rfl⟩ := hoR.slice
     replace hu := hu.ext hx11
     have hGX := hGp.ext (((hZ).trans ((hx9).trans (hx11))))
     refine WL.qq (by simp only [EN, Nat.reduceEqDiff, reduceIte, qv_assign, decide_true, Bool.not_true, Bool.not_false, decide_false, eq_self, hB1.cell, hB2.cell, hB3.cell]; rfl) ?_
     refine WL.nil (th_norm (hx_seq (hx_region ?_)))
     refine WL.qq (by simp only [EN, Nat.reduceEqDiff, reduceIte, qv_fieldAddr, fa34_5, Nat.zero_add, Nat.reduceAdd, decide_true, Bool.not_true, Bool.not_false, decide_false, eq_self, hB1.cell, hB2.cell, hB3.cell]; rfl) ?_
     refine WL.store (by simp only [EN, Nat.reduceEqDiff, reduceIte, decide_true, Bool.not_true, Bool.not_false, decide_false, eq_self, hB1.cell, hB2.cell, hB3.cell] <;> rfl) sz4 (by simp only [EN, Nat.reduceEqDiff, reduceIte, Value.cells, decide_true, Bool.not_true, Bool.not_false, decide_false, eq_self, hB1.cell, hB2.cell, hB3.cell] <;> rfl) rfl hB1 (by first | (simp [true_and]; done) | (simp [true_and]; omega) | omega) (by simp [Value.oneCell']) ?_
     intro h12 hw12
     have hG2 := hGX.stp (.inr ⟨_, hw12⟩) (.inr hlt1)
     replace hE5 := hE5.wrT hw12 hB1 (by decide) (by decide) (by decide)
     replace hI := hI.wrT hw12 hB1 (by decide) (by decide) (by decide) (by decide)
     replace hu := hu.keep (h' := h12) (fun c hc => hw12.same c (fun hh => by subst hh; exact hu.ncell hB1 (by decide) hc))
     replace hoR := hoR.keep (h' := h12) (fun c hc => hw12.same c (fun hh => by subst hh; exact hoR.ncell hB1 (by decide) hc))
     replace hB3 := hB3.wr hw12 (by omega)
     replace hB1 := hw12.at_
     try simp only [splc, List.take_succ_cons, List.take_zero, List.take_nil, List.drop_succ_cons, List.drop_zero, List.drop_nil, List.cons_append, List.nil_append, List.length_cons, List.length_nil, Nat.zero_add, Nat.add_zero, Nat.reduceAdd, List.append_nil] at hB1
     have hR6 : (resE E).length ≤ 640 := (by have h9 := resE_len h40 g.on.2 E.hs.length; rw [List.take_length] at h9; exact h9)
     refine WL.nil (th_norm (hx_seq ?_))
     apply hx_draw2 Rel.same [8, 9] [6] [(6, Spec.is _)] rfl (by decide +kernel) rfl
     iterate 4 refine LD.qq rfl rfl (by simp only [EN, Nat.reduceEqDiff, reduceIte, qv_load, ld34, readN, AR, Nat.zero_add, Nat.reduceAdd, decide_true, Bool.not_true, Bool.not_false, decide_false, eq_self, hB1.cell, hB2.cell, hB3.cell, qv_move, qv_binOp, binv_eql, eq46, Option.map_some, hz]; rfl) ?_
     refine LD.on (by rw [gOk_s (gd_at (t := 81) rfl (by simp only [EN, Nat.reduceEqDiff, reduceIte, decide_true, Bool.not_true, Bool.not_false, decide_false, eq_self, hB1.cell, hB2.cell, hB3.cell] <;> rfl))]; rfl) ?_
     refine LD.qq rfl rfl (by simp only [EN, Nat.reduceEqDiff, reduceIte, qv_move, decide_true, Bool.not_true, Bool.not_false, decide_false, eq_self, hB1.cell, hB2.cell, hB3.cell]; rfl) ?_
     refine LD.on (by rw [gOk_s (gd_at (t := 81) rfl (by simp only [EN, Nat.reduceEqDiff, reduceIte, decide_true, Bool.not_true, Bool.not_false, decide_false, eq_self, hB1.cell, hB2.cell, hB3.cell] <;> rfl))]; rfl) ?_
     refine LD.qq rfl rfl (by simp only [EN, Nat.reduceEqDiff, reduceIte, qv_move, decide_true, Bool.not_true, Bool.not_false, decide_false, eq_self, hB1.cell, hB2.cell, hB3.cell]; rfl) ?_
     refine LD.on (by rw [gOk_s (gd_at (t := 81) rfl (by simp only [EN, Nat.reduceEqDiff, reduceIte, decide_true, Bool.not_true, Bool.not_false, decide_false, eq_self, hB1.cell, hB2.cell, hB3.cell] <;> rfl))]; rfl) ?_
     refine LD.ck rfl rfl Tryz.call39 (by intro hD hr; obtain rfl : hD = _ := hr; simp only [EN, Nat.reduceEqDiff, reduceIte, AR, decide_true, Bool.not_true, Bool.not_false, decide_false, eq_self, hB1.cell, hB2.cell, hB3.cell]; exact c_same au aR (resE E) cu cR (by omega) (slG_own (f := rxL) (sz := 4) (fun _ => rfl) hu rfl) (slG_own (f := rxL) (sz := 4) (fun _ => rfl) hoR rfl)) ?_
     refine LD.qq rfl rfl (by simp only [EN, Nat.reduceEqDiff, reduceIte, qv_pick, pk_and, pk_or, GR, decide_true, Bool.not_true, Bool.not_false, decide_false, eq_self, hB1.cell, hB2.cell, hB3.cell]; rfl) ?_
     refine LD.skip rfl ?_
     refine LD.skip rfl ?_
     refine LD.nil ?_
     rintro h12 rfl -
     refine WL.store (by simp only [EN, Nat.reduceEqDiff, reduceIte, decide_true, Bool.not_true, Bool.not_false, decide_false, eq_self, hB1.cell, hB2.cell, hB3.cell] <;> rfl) sz34 (by simp only [EN, Nat.reduceEqDiff, reduceIte, Value.cells, decide_true, Bool.not_true, Bool.not_false, decide_false, eq_self, hB1.cell, hB2.cell, hB3.cell] <;> rfl) rfl hB3 (by first | (simp [true_and]; done) | (simp [true_and]; omega) | omega) (by simp [Value.oneCell']) ?_
     intro h13 hw13
     have hG3 := hG2.stp (.inr ⟨_, hw13⟩) (.inr hb3)
     replace hE5 := hE5.wrT hw13 hB3 (by decide) (by decide) (by decide)
     replace hI := hI.wrT hw13 hB3 (by decide) (by decide) (by decide) (by decide)
     replace hB3 := hw13.at_
     try simp only [splc, List.take_succ_cons, List.take_zero, List.take_nil, List.drop_succ_cons, List.drop_zero, List.drop_nil, List.cons_append, List.nil_append, List.length_cons, List.length_nil, Nat.zero_add, Nat.add_zero, Nat.reduceAdd, List.append_nil] at hB3
     refine WL.qq (by simp only [EN, Nat.reduceEqDiff, reduceIte, qv_assign, decide_true, Bool.not_true, Bool.not_false, decide_false, eq_self, hB1.cell, hB2.cell, hB3.cell]; rfl) ?_
     refine WL.nil (th_norm (hx_ret ?_))
     refine fin_ret [.cell 6 34, .tmp 7] rfl rfl (by simp only [EN, Nat.reduceEqDiff, reduceIte, resv, ld34, readN, AR, Nat.zero_add, Nat.reduceAdd, e0, e1, e2, decide_true, Bool.not_true, Bool.not_false, decide_false, eq_self, hB1.cell, hB2.cell, hB3.cell]; rfl) ?_
     rw [hS]
     exact ⟨hG3, _, rfl, hE5, ⟨hI.sh, hI.so, hI.sc⟩⟩
end
end GL
namespace GL
open Go Go.Proofs Go.ChangeShapes Go.WideShapes Go.ChangeAt Go.RowKit
set_option maxRecDepth 8000
section
variable {H : Type} {enc : TypeId × Value → H} {W : World}
theorem clS : Tryz.prog.cellsOf 9 = 1 := by kernel_rfl
theorem clI : Tryz.prog.cellsOf 3 = 1 := by kernel_rfl
theorem clD : Tryz.prog.cellsOf 2 = 1 := by kernel_rfl
theorem clU : Tryz.prog.cellsOf 5 = 1 := by kernel_rfl
theorem clH : Tryz.prog.cellsOf 66 = 2 := by kernel_rfl
theorem clO : Tryz.prog.cellsOf 68 = 2 := by kernel_rfl
theorem clK : Tryz.prog.cellsOf 25 = 2 := by kernel_rfl
theorem clHs : Tryz.prog.cellsOf 22 = 1 := by kernel_rfl
theorem clOs : Tryz.prog.cellsOf 23 = 1 := by kernel_rfl
theorem clSu : Tryz.prog.cellsOf 27 = 5 := by kernel_rfl
theorem clOp : Tryz.prog.cellsOf 43 = 6 := by kernel_rfl
def pS (cs : List Value) : Prop := ∃ s : ByteArray, cs = [.string s] ∧ s.size ≤ 9223372036854775807
def pI (cs : List Value) : Prop := ∃ n, cs = [iV n]
def pU (cs : List Value) : Prop := ∃ n, cs = [.int .u8 n]
theorem vw_S : VW enc Tryz.prog W 9 pS := (vw_str Tryz.underlying9).mono fun cs ⟨s, h1, h2⟩ => ⟨s, h1, h2⟩
theorem vw_I : VW enc Tryz.prog W 3 pI := (vw_int Tryz.underlying3).mono fun cs ⟨n, h1, _⟩ => ⟨n, h1⟩
theorem vw_D : VW enc Tryz.prog W 2 pI := (vw_int Tryz.underlying2).mono fun cs ⟨n, h1, _⟩ => ⟨n, h1⟩
theorem vw_U : VW enc Tryz.prog W 5 pU := (vw_int Tryz.underlying5).mono fun cs ⟨n, h1, _⟩ => ⟨n, h1⟩
def pSI (cs : List Value) : Prop := ∃ x : SI, cs = siL x ∧ x.s.size ≤ 9223372036854775807
theorem vw_H : VW enc Tryz.prog W 66 pSI := by
  refine (vw_struct (Q := fun i => match i with | 0 => pS | _ => pI) Tryz.underlying66 ?_).mono ?_
  · intro i f hf
    rcases i with _ | _ | i <;> simp at hf <;> subst hf
    · exact vw_S
    · exact vw_D
  · rintro cs ⟨hl, hq⟩
    rw [clH] at hl
    match cs, hl with
    | [a, b], _ =>
      obtain ⟨x, hx, hx2⟩ : pS [a] := VW.fld (Q := pS) (off := 0) (hq 0 _ rfl) clS
      obtain ⟨y, hy⟩ : pI [b] := VW.fld (Q := pI) (off := 1) (hq 1 _ rfl) clD
      cases hx; cases hy
      exact ⟨⟨x, y⟩, rfl, hx2⟩
theorem vw_O : VW enc Tryz.prog W 68 pSI := by
  refine (vw_struct (Q := fun i => match i with | 0 => pS | _ => pI) Tryz.underlying68 ?_).mono ?_
  · intro i f hf
    rcases i with _ | _ | i <;> simp at hf <;> subst hf
    · exact vw_S
    · exact vw_D
  · rintro cs ⟨hl, hq⟩
    rw [clO] at hl
    match cs, hl with
    | [a, b], _ =>
      obtain ⟨x, hx, hx2⟩ : pS [a] := VW.fld (Q := pS) (off := 0) (hq 0 _ rfl) clS
      obtain ⟨y, hy⟩ : pI [b] := VW.fld (Q := pI) (off := 1) (hq 1 _ rfl) clD
      cases hx; cases hy
      exact ⟨⟨x, y⟩, rfl, hx2⟩
def pK (cs : List Value) : Prop := ∃ d m, cs = [iV d, iV m]
theorem vw_K : VW enc Tryz.prog W 25 pK := by
  refine (vw_struct (Q := fun _ => pI) Tryz.underlying25 ?_).mono ?_
  · intro i f hf
    rcases i with _ | _ | i <;> simp at hf <;> subst hf
    · exact vw_I
    · exact vw_I
  · rintro cs ⟨hl, hq⟩
    rw [clK] at hl
    match cs, hl with
    | [a, b], _ =>
      obtain ⟨x, hx⟩ : pI [a] := VW.fld (Q := pI) (off := 0) (hq 0 _ rfl) clI
      obtain ⟨y, hy⟩ : pI [b] := VW.fld (Q := pI) (off := 1) (hq 1 _ rfl) clI
      cases hx; cases hy
      exact ⟨x, y, rfl⟩
def pSIs (h : Heap) (cs : List Value) : Prop := ∃ a L cap, cs = [.slice a L.length cap] ∧ SlG 2 siL h a L ∧ L.length ≤ cap ∧ cap ≤ 9223372036854775807 ∧ (a = none → cap = 0) ∧ ∀ x ∈ L, x.s.size ≤ 9223372036854775807
theorem vw_Hs : VW enc Tryz.prog W 22 (pSIs W.heap) := vw_sl (f := siL) (p := fun x => x.s.size ≤ 9223372036854775807) Tryz.underlying22 clH (by decide) vw_H
theorem vw_Os : VW enc Tryz.prog W 23 (pSIs W.heap) := vw_sl (f := siL) (p := fun x => x.s.size ≤ 9223372036854775807) Tryz.underlying23 clO (by decide) vw_O
def pSu (h : Heap) (cs : List Value) : Prop := ∃ x : SX, cs = (suC x).toList ∧ SuI h x
theorem vw_Su : VW enc Tryz.prog W 27 (pSu W.heap) := by
  refine (vw_struct (Q := fun i => match i with | 0 => pSIs W.heap | 1 => pSIs W.heap | 2 => pS | _ => pK) Tryz.underlying27 ?_).mono ?_
  · intro i f hf
    rcases i with _ | _ | _ | _ | i <;> simp at hf <;> subst hf
    · exact vw_Hs
    · exact vw_Os
    · exact vw_S
    · exact vw_K
  · rintro cs ⟨hl, hq⟩
    rw [clSu] at hl
    match cs, hl with
    | [a, b, c, d, e], _ =>
      obtain ⟨al, l, cl, h1, h2, h3, h4, h5, h6⟩ : pSIs W.heap [a] := VW.fld (Q := pSIs W.heap) (off := 0) (hq 0 _ rfl) clHs
      obtain ⟨am, m, cm, g1, g2, g3, g4, g5, g6⟩ : pSIs W.heap [b] := VW.fld (Q := pSIs W.heap) (off := 1) (hq 1 _ rfl) clOs
      obtain ⟨x, hx, _⟩ : pS [c] := VW.fld (Q := pS) (off := 2) (hq 2 _ rfl) clS
      obtain ⟨y, z, hy⟩ : pK [d, e] := VW.fld (Q := pK) (off := 3) (hq 3 _ rfl) clK
      cases hx; cases hy; cases h1; cases g1
      exact ⟨⟨al, l, cl, am, m, cm, x, y, z⟩, rfl, ⟨h2, g2, Nat.le_trans h3 h4, Nat.le_trans g3 g4, h3, g3, h5, g5, g6⟩⟩
def pOp (cs : List Value) : Prop := ∃ x : OX, cs = oxL x ∧ True
theorem vw_Op : VW enc Tryz.prog W 43 pOp := by
  refine (vw_struct (Q := fun i => match i with | 0 => pU | 1 => pS | 2 => pS | 3 => pI | _ => pK) Tryz.underlying43 ?_).mono ?_
  · intro i f hf
    rcases i with _ | _ | _ | _ | _ | i <;> simp at hf <;> subst hf
    · exact vw_U
    · exact vw_S
    · exact vw_S
    · exact vw_D
    · exact vw_K
  · rintro cs ⟨hl, hq⟩
    rw [clOp] at hl
    match cs, hl with
    | [a, b, c, d, e, f], _ =>
      obtain ⟨k, hk⟩ : pU [a] := VW.fld (Q := pU) (off := 0) (hq 0 _ rfl) clU
      obtain ⟨x, hx, _⟩ : pS [b] := VW.fld (Q := pS) (off := 1) (hq 1 _ rfl) clS
      obtain ⟨y, hy, _⟩ : pS [c] := VW.fld (Q := pS) (off := 2) (hq 2 _ rfl) clS
      obtain ⟨q, hq2⟩ : pI [d] := VW.fld (Q := pI) (off := 3) (hq 3 _ rfl) clD
      obtain ⟨u, v, hu⟩ : pK [e, f] := VW.fld (Q := pK) (off := 4) (hq 4 _ rfl) clK
      cases hk; cases hx; cases hy; cases hq2; cases hu
      exact ⟨⟨k, x, y, q, u, v⟩, rfl, trivial⟩
theorem view_su {r : Reach} {b0 : Nat} {v : Value} {d : DataW H} {q : List MemPlace} (hv : Value.okWide Tryz.prog W r b0 27 v) (h : DataW.Trod enc Tryz.prog W 0 (fun _ => true) true 27 v d q) :
    ∃ x : SX, v = .agg (suC x) ∧ SuI W.heap x := by
  obtain ⟨cs, rfl, x, h1, h2⟩ := view_vst Tryz.underlying27 vw_Su hv h
  exact ⟨x, by rw [← Array.toArray_toList (xs := cs), h1], h2⟩
theorem view_ops {r : Reach} {b0 : Nat} {v : Value} {d : DataW H} {q : List MemPlace} (hv : Value.okWide Tryz.prog W r b0 28 v) (h : DataW.Trod enc Tryz.prog W 0 (fun _ => true) true 28 v d q) :
    ∃ (al : Option Addr) (l : List OX) (cl : Nat), v = .slice al l.length cl ∧ SlG 6 oxL W.heap al l ∧ l.length ≤ 9223372036854775807 := by
  obtain ⟨a, n, cap, rfl, al, l, cl, h1, h2, h3, h4, h5, h6⟩ := view_vsl Tryz.underlying28 (vw_sl (f := oxL) (p := fun _ => True) Tryz.underlying28 clOp (by decide) vw_Op) hv h
  simp only [List.cons.injEq, and_true] at h1
  rw [h1]
  exact ⟨al, l, cl, rfl, h2, Nat.le_trans h3 h4⟩
end
end GL
namespace GL
open Go Go.Proofs
set_option maxRecDepth 8000
def runE (E : EL) (L : List OX) : EL := L.foldl stepE E
theorem runE_step {E : EL} {L : List OX} {i : Nat} {o : OX} (ho : L[i]? = some o) : runE E (L.take (i + 1)) = stepE (runE E (L.take i)) o := by
  unfold runE
  rw [List.take_add_one, ho, List.foldl_append]; rfl
theorem runE_hs (E : EL) : ∀ L : List OX, (runE E L).hs = E.hs ∧ (runE E L).os = E.os := by
  intro L
  induction L generalizing E with
  | nil => exact ⟨rfl, rfl⟩
  | cons o L ih =>
    have h1 := ih (stepE E o)
    have h2 := step_hs (E := E) o
    exact ⟨h1.1.trans h2.1, h1.2.trans h2.2⟩
theorem good_run {E : EL} (g : GoodE E) : ∀ L : List OX, GoodE (runE E L) := by
  intro L
  induction L generalizing E with
  | nil => exact g
  | cons o L ih => exact ih (good_step g o)
theorem nw_len {x : SX} (he : erX x = 0) : (nwX x).hs.length = x.l.length := by
  have h1 := ordH_len (l := x.l) (i := x.l.length) (Nat.le_refl _)
  rwa [List.take_length] at h1
def RnV (h : Heap) (N : Nat) (x : SX) (E : EL) (u w : Value) : Prop :=
  (erX x ≠ 0 ∧ u = .pointer none ∧ w = zRE) ∨ (erX x = 0 ∧ ∃ p b vh vo wh wo wc, u = .pointer (some ⟨p, 0, none⟩) ∧ w = reV wh wo wc E ∧ IsE h N p b vh vo E ∧ RI h wh wo wc E)
def Spec.dox (wh wo : Value) (N p b : Nat) (vh vo : Value) (E' : EL) : Spec := ⟨fun v => ∃ a n c, v = .tuple #[reV wh wo (.slice a n c) E', .bool true],
  fun v h => IsE h N p b vh vo E' ∧ ∀ wc, v = .tuple #[reV wh wo wc E', .bool true] → RI h wh wo wc E', ⟨_, none, 0, 0, rfl⟩, fun v h h' hx hm => ⟨hm.1.ext hx, fun wc hv => (hm.2 wc hv).ext hx⟩⟩
theorem dox_stable {i j N p b : Nat} {wh wo vh vo : Value} {E E' : EL} : Stable (Rel.isE j N p b vh vo E E') (specOf [(i, Spec.dox wh wo N p b vh vo E')]) := by
  intro i s hi u a b hr hm
  simp only [specOf, List.lookup] at hi
  repeat' split at hi
  all_goals cases hi
  exact ⟨hr.2 hm.1, fun wc hv => (hm.2 wc hv).gs hr.1 hm.1⟩
theorem c_doX {h : Heap} {N p b : Nat} {vh vo wh wo wc : Value} {E : EL} (g : GoodE E) (h40 : E.hs.length ≤ 40) (hE : IsE h N p b vh vo E) (hI : RI h wh wo wc E) (hb : b < h.size) (o : OX) :
    HCalls Tryz.prog 16 #[.pointer (some ⟨p, 0, none⟩), reV wh wo wc E, .agg (oxL o).toArray] h fun v h' => Gs h h' [p, b] ∧ (Spec.dox wh wo N p b vh vo (stepE E o)).val v ∧ (Spec.dox wh wo N p b vh vo (stepE E o)).mem v h' := by
  refine (c_do g h40 hE hI hb o).mono ?_
  rintro v h' ⟨hG, wc', rfl, hE2, hI2⟩
  obtain ⟨a, c, rows, hq, _⟩ := hI2.sc
  subst hq
  exact ⟨hG, ⟨a, _, c, rfl⟩, hE2, fun wc hv => by
    have h1 : Value.slice a (stepE E o).hs.length c = wc := by simpa using hv
    subst h1; exact hI2⟩
theorem IsE.lower {h : Heap} {N N' p b : Nat} {vh vo : Value} {E : EL} (hE : IsE h N p b vh vo E) (hN : N' ≤ N) : IsE h N' p b vh vo E := ⟨hE.blk, hE.oh.base hN, hE.oo.base hN, hE.map, ⟨Nat.le_trans hN hE.lo.1, Nat.le_trans hN hE.lo.2⟩⟩
set_option maxHeartbeats 4000000 in
theorem c_run (x : SX) (h40 : x.l.length ≤ 40) (h20 : x.os.length ≤ 20) (a : Option Addr) (L : List OX) (c : Nat) (hL : L.length ≤ 1000000) {h : Heap} (hs : SuI h x) (hsL : SlG 6 oxL h a L) :
    HCalls Tryz.prog 12 #[.agg (suC x), .slice a L.length c] h fun v h' => Ext h h' ∧ ∃ u w, v = .tuple #[u, w, .bool (decide (erX x = 0)), .bool true] ∧ RnV h' h.size x (runE (nwX x) L) u w := by
  have hsL0 := hsL
  refine hcalls2 Tryz.func12 rfl (by decide +kernel) (by simp only [Tryz.ntmps12]; exact of_decide_eq_true rfl) ?_
  intro e hin
  have e0 := hin 0 _ rfl
  have e1 := hin 1 _ rfl
  refine hx_seq (hx_region ?_)
  refine WL.box2 (by simp only [EN, Nat.reduceEqDiff, reduceIte, Value.cells, e0, decide_true, Bool.not_true, Bool.not_false, decide_false, eq_self]; rfl) ?_
  intro h1 B1 hx1 hlt1 hB1
  replace hs := hs.ext hx1
  refine WL.qq (by simp only [EN, Nat.reduceEqDiff, reduceIte, qv_assign, decide_true, Bool.not_true, Bool.not_false, decide_false, eq_self, hB1.cell]; rfl) ?_
  refine WL.alloc2 zr34 ?_
  intro h2 B2 hx2 hlt2 hB2
  replace hs := hs.ext hx2
  replace hB1 := hB1.ext hx2
  simp only [Value.cells] at hB2
  have hb2 : h.size ≤ B2 := (by have := hx1.size; omega)
  iterate 2 refine WL.qq (by simp only [EN, Nat.reduceEqDiff, reduceIte, qv_assign, decide_true, Bool.not_true, Bool.not_false, decide_false, eq_self, hB1.cell, hB2.cell]; rfl) ?_
  refine WL.nil (th_norm (hx_seq (hx_region ?_)))
  refine WL.qq (by simp only [EN, Nat.reduceEqDiff, reduceIte, qv_load, ld27, readN, AR, Nat.zero_add, Nat.reduceAdd, decide_true, Bool.not_true, Bool.not_false, decide_false, eq_self, hB1.cell, hB2.cell]; rfl) ?_
  have hz2 := Ext.size ((hx1).trans (hx2))
  refine WL.ce Tryz.call24 (by simp only [EN, Nat.reduceEqDiff, reduceIte, AR, decide_true, Bool.not_true, Bool.not_false, decide_false, eq_self, hB1.cell, hB2.cell]; exact c_begin x h40 h20 hs) ?_
  rintro _ h3 ⟨hx3, u, w, rfl, hNV, hNW⟩
  replace hs := hs.ext hx3
  replace hB1 := hB1.ext hx3
  replace hB2 := hB2.ext hx3
  simp only [put_some]
  obtain ⟨a0, n0, k0, a1, n1, k1, x2, x3, x4, a5, n5, k5, b6, rfl⟩ := hNW.shape
  have hX3 := ((hx1).trans ((hx2).trans (hx3)))
  have hzB := (Array.getElem?_eq_some_iff.1 hB2).1
  iterate 6 refine WL.qq (by simp only [EN, Nat.reduceEqDiff, reduceIte, qv_move, decide_true, Bool.not_true, Bool.not_false, decide_false, eq_self, hB1.cell, hB2.cell, qv_extract, AR, qv_assign]; rfl) ?_
  refine WL.store (by simp only [EN, Nat.reduceEqDiff, reduceIte, decide_true, Bool.not_true, Bool.not_false, decide_false, eq_self, hB1.cell, hB2.cell] <;> rfl) sz34 (by simp only [EN, Nat.reduceEqDiff, reduceIte, Value.cells, decide_true, Bool.not_true, Bool.not_false, decide_false, eq_self, hB1.cell, hB2.cell] <;> rfl) rfl hB2 (by first | (simp [true_and]; done) | (simp [true_and]; omega) | omega) (by simp [Value.oneCell']) ?_
  intro h4 hw4
  have hX := hw4.ext hX3 hb2
  replace hNV := hNV.wr hw4 hB2
  replace hNW := hNW.wr hw4 hB2
  replace hB2 := hw4.at_
  try simp only [splc, List.take_succ_cons, List.take_zero, List.take_nil, List.drop_succ_cons, List.drop_zero, List.drop_nil, List.cons_append, List.nil_append, List.length_cons, List.length_nil, Nat.zero_add, Nat.add_zero, Nat.reduceAdd, List.append_nil] at hB2
  iterate 2 refine WL.qq (by simp only [EN, Nat.reduceEqDiff, reduceIte, qv_assign, decide_true, Bool.not_true, Bool.not_false, decide_false, eq_self, hB1.cell, hB2.cell]; rfl) ?_
  refine WL.nil (th_norm (hx_seq (hx_seq (hx_region ?_))))
  iterate 3 refine WL.qq (by simp only [EN, Nat.reduceEqDiff, reduceIte, qv_move, decide_true, Bool.not_true, Bool.not_false, decide_false, eq_self, hB1.cell, hB2.cell, qv_unOp, unv_not]; rfl) ?_
  refine WL.cq (gd_at (t := 19) rfl (by simp only [EN, Nat.reduceEqDiff, reduceIte, decide_true, Bool.not_true, Bool.not_false, decide_false, eq_self, hB1.cell, hB2.cell] <;> rfl)) (fun hg2_3 => by simp only [EN, Nat.reduceEqDiff, reduceIte, qv_move, decide_true, Bool.not_true, Bool.not_false, decide_false, eq_self, hB1.cell, hB2.cell, hg2_3, GR]; rfl) ?_
  refine WL.cq (gd_at (t := 19) rfl (by simp only [EN, Nat.reduceEqDiff, reduceIte, decide_true, Bool.not_true, Bool.not_false, decide_false, eq_self, hB1.cell, hB2.cell] <;> rfl)) (fun hg2_4 => by simp only [EN, Nat.reduceEqDiff, reduceIte, qv_binOp, binv_neq, eq46, Option.map_some, decide_true, Bool.not_true, Bool.not_false, decide_false, eq_self, hB1.cell, hB2.cell, hg2_4, GR]; rfl) ?_
  refine WL.qq (by simp only [EN, Nat.reduceEqDiff, reduceIte, qv_pick, pk_and, pk_or, GR, decide_true, Bool.not_true, Bool.not_false, decide_false, eq_self, hB1.cell, hB2.cell]; rfl) ?_
  refine WL.nil (th_norm ?_)
  refine hx_cond (by simp only [EN, Nat.reduceEqDiff, reduceIte, decide_true, Bool.not_true, Bool.not_false, decide_false, eq_self, hB1.cell, hB2.cell]; rfl) (fun hct22 => ?_) (fun hct22 => ?_)
  ·
   try simp only [BD] at hct22
   have he : erX x ≠ 0 := (by simpa using hct22); obtain ⟨_, hw0⟩ : erX x ≠ 0 ∧ _ = zRE := hNW.resolve_right (fun hh => he hh.1)
   refine hx_seq ?_
   apply hx_draw2 Rel.same [3, 4, 5] [] [] rfl (by decide +kernel) rfl
   iterate 3 refine LD.qq rfl rfl (by simp only [EN, Nat.reduceEqDiff, reduceIte, qv_load, ld34, readN, AR, Nat.zero_add, Nat.reduceAdd, decide_true, Bool.not_true, Bool.not_false, decide_false, eq_self, hB1.cell, hB2.cell, qv_move, qv_assign]; rfl) ?_
   refine LD.skip rfl ?_
   refine LD.skip rfl ?_
   refine LD.skip rfl ?_
   refine LD.nil ?_
   rintro h4 rfl -
   refine WL.store (by simp only [EN, Nat.reduceEqDiff, reduceIte, decide_true, Bool.not_true, Bool.not_false, decide_false, eq_self, hB1.cell, hB2.cell] <;> rfl) sz34 (by simp only [EN, Nat.reduceEqDiff, reduceIte, Value.cells, decide_true, Bool.not_true, Bool.not_false, decide_false, eq_self, hB1.cell, hB2.cell] <;> rfl) rfl hB2 (by first | (simp [true_and]; done) | (simp [true_and]; omega) | omega) (by simp [Value.oneCell']) ?_
   intro h5 hw5
   have hX4 := hw5.ext hX hb2
   replace hB2 := hw5.at_
   try simp only [splc, List.take_succ_cons, List.take_zero, List.take_nil, List.drop_succ_cons, List.drop_zero, List.drop_nil, List.cons_append, List.nil_append, List.length_cons, List.length_nil, Nat.zero_add, Nat.add_zero, Nat.reduceAdd, List.append_nil] at hB2
   iterate 2 refine WL.qq (by simp only [EN, Nat.reduceEqDiff, reduceIte, qv_assign, decide_true, Bool.not_true, Bool.not_false, decide_false, eq_self, hB1.cell, hB2.cell]; rfl) ?_
   refine WL.nil (th_norm (hx_ret (th_ret ?_)))
   refine fin_ret [.tmp 4, .cell 5 34, .tmp 6, .tmp 7] rfl rfl (by simp only [EN, Nat.reduceEqDiff, reduceIte, resv, ld34, readN, AR, Nat.zero_add, Nat.reduceAdd, e0, e1, decide_true, Bool.not_true, Bool.not_false, decide_false, eq_self, hB1.cell, hB2.cell]; rfl) ?_
   exact ⟨hX4, _, _, by rw [decide_eq_false he]; rfl, .inl ⟨he, rfl, hw0⟩⟩
  ·
   try simp only [BD] at hct22
   have he : erX x = 0 := (by simpa using hct22)
   obtain ⟨_, p, b, vh, vo, rfl, hE⟩ := hNV.resolve_left (fun hh => hh.1 he); obtain ⟨_, wh, wo, wc, hwe, hI⟩ := hNW.resolve_left (fun hh => hh.1 he)
   replace hE := hE.lower hz2
   have hq := Value.agg.inj hwe; rw [hq] at hB2; clear hwe hq; obtain ⟨ah, ch, rfl, _⟩ := id hI.sh; obtain ⟨ao, co, rfl, _⟩ := id hI.so; obtain ⟨ac, cc, rows0, rfl, _⟩ := id hI.sc
   have hlo := hE.lo; have hl40 : (nwX x).hs.length ≤ 40 := (by rw [nw_len he]; exact h40)
   obtain ⟨nH, hnH⟩ : ∃ n, n = (nwX x).hs.length := ⟨_, rfl⟩; obtain ⟨nO, hnO⟩ : ∃ n, n = (nwX x).os.length := ⟨_, rfl⟩; rw [← hnH, ← hnO] at hB2 hI
   have hn2 : B2 ∉ [p, b] := (by simp only [List.mem_cons, List.not_mem_nil, or_false]; rintro (hh | hh); (subst hh; have := hE.blk.un hB2; injection this with _ h9 _; exact absurd h9 (by decide)); exact hB2.nmap hE.map hh)
   refine hx_skip (th_norm (hx_seq (hx_seq (hx_region ?_))))
   refine WL.qq (by simp only [EN, Nat.reduceEqDiff, reduceIte, qv_assign, decide_true, Bool.not_true, Bool.not_false, decide_false, eq_self, hB1.cell, hB2.cell]; rfl) ?_
   refine WL.nil (th_norm (hx_block ?_))
   refine hx_loopG [4, 6, 7, 9, 25, 26, 27, 28, 29, 30, 31, 32, 33, 34, 35, 36, 37, 38, 39, 40, 41, 42, 43, 44] (fun k e hL0 => ∃ (i : Nat) (E : EL) (ax : Option Addr) (nx : Nat) (cx : Nat), L.length - i = k ∧ (i ≤ L.length) ∧ (Ext h hL0) ∧ (Has hL0 B2 (.cells #[.slice ah nH ch, .slice ao nO co, iV E.d, iV E.dd, iV E.dm, .slice ax nx cx, .bool E.cl] tyRE)) ∧ (GoodE E) ∧ (E = runE (nwX x) (L.take i)) ∧ (IsE hL0 h.size p b vh vo E) ∧ (RI hL0 (.slice ah nH ch) (.slice ao nO co) (.slice ax nx cx) E) ∧ (b < Array.size hL0) ∧ e 9 = .int .i64 i ∧ e 4 = .pointer (some ⟨p, 0, none⟩)) _ ⟨0, nwX x, ac, nH, cc, rfl, ?_, ?_, ?_, ?_, ?_, ?_, ?_, ?_, ?_, ?_⟩ ?_
   · omega
   · exact hX
   · exact hB2
   · exact new_good he
   · rfl
   · exact hE
   · exact hI
   · exact hE.map.lt
   · simp only [EN, Nat.reduceEqDiff, reduceIte, e0, e1, decide_true, Bool.not_true, Bool.not_false, decide_false, eq_self, hB1.cell, hB2.cell] <;> rfl
   · simp only [EN, Nat.reduceEqDiff, reduceIte, e0, e1, decide_true, Bool.not_true, Bool.not_false, decide_false, eq_self, hB1.cell, hB2.cell] <;> rfl
   ·
    rintro k e0L hL0 hfr0 ⟨i, E, ax, nx, cx, rfl, hi, hX, hB2, g, hEe, hE, hI, hbb, i9_0, i4_0⟩
    have k1_0 := hfr0 1 rfl; try simp only [EN, Nat.reduceEqDiff, reduceIte, e1, decide_true, Bool.not_true, Bool.not_false, decide_false, eq_self, hB1.cell, hB2.cell] at k1_0
    have k5_0 := hfr0 5 rfl; try simp only [EN, Nat.reduceEqDiff, reduceIte, decide_true, Bool.not_true, Bool.not_false, decide_false, eq_self, hB1.cell, hB2.cell] at k5_0
    refine hx_seq (hx_seq (hx_region ?_))
    iterate 4 refine WL.qq (by simp only [EN, Nat.reduceEqDiff, reduceIte, qv_move, i9_0, decide_true, Bool.not_true, Bool.not_false, decide_false, eq_self, hB1.cell, hB2.cell, hB2.cell, k1_0, qv_len, ln28, AR, qv_binOp, binv_lss]; rfl) ?_
    refine WL.nil (th_norm ?_)
    refine hx_cond (by simp only [EN, Nat.reduceEqDiff, reduceIte, decide_true, Bool.not_true, Bool.not_false, decide_false, eq_self, hB1.cell, hB2.cell, hB2.cell]; rfl) (fun hct28 => ?_) (fun hct28 => ?_)
    ·
     try simp only [BD] at hct28
     obtain ⟨o, ho⟩ := atG (l := L) (i := i) (by omega); obtain ⟨b1, o1, ha1, hr1⟩ := (hsL0.ext hX) i o ho
     have hst := runE_step (E := nwX x) ho; rw [← hEe] at hst; have hhs := runE_hs (nwX x) (L.take i); rw [← hEe] at hhs; have h40E : E.hs.length ≤ 40 := (by rw [hhs.1]; exact hl40)
     have hnb : b1 ∉ [p, b] := (by obtain ⟨_, _, h8, h9⟩ := hsL0 i o ho; rw [ha1] at h8; cases h8; have h7 := readN_cell h9 0 _ rfl; have := cell_at h7; simp; omega)
     refine hx_skip (th_norm (hx_seq (hx_block (hx_seq ?_))))
     apply hx_draw2M (Rel.isE 6 h.size p b vh vo E (stepE E o)) [10, 11] [6] [(6, (Spec.dox (.slice ah nH ch) (.slice ao nO co) h.size p b vh vo (stepE E o)))] rfl (by decide +kernel) rfl dox_stable (fun _ _ => hE)
     refine LD.qr rfl rfl (fun hD hr => by have hB2 := hB2.gs hr.1 hn2; simp only [EN, Nat.reduceEqDiff, reduceIte, qv_move, i4_0, decide_true, Bool.not_true, Bool.not_false, decide_false, eq_self, hB1.cell, hB2.cell, hB2.cell]; rfl) ?_
     refine LD.qr rfl rfl (fun hD hr => by have hB2 := hB2.gs hr.1 hn2; simp only [EN, Nat.reduceEqDiff, reduceIte, qv_load, ld34, readN, AR, Nat.zero_add, Nat.reduceAdd, k5_0, decide_true, Bool.not_true, Bool.not_false, decide_false, eq_self, hB1.cell, hB2.cell, hB2.cell]; rfl) ?_
     refine LD.qr rfl rfl (fun hD hr => by have hB2 := hB2.gs hr.1 hn2; simp only [EN, Nat.reduceEqDiff, reduceIte, qv_move, k1_0, decide_true, Bool.not_true, Bool.not_false, decide_false, eq_self, hB1.cell, hB2.cell, hB2.cell]; rfl) ?_
     refine LD.qr rfl rfl (fun hD hr => by have hB2 := hB2.gs hr.1 hn2; simp only [EN, Nat.reduceEqDiff, reduceIte, qv_move, i9_0, decide_true, Bool.not_true, Bool.not_false, decide_false, eq_self, hB1.cell, hB2.cell, hB2.cell]; rfl) ?_
     refine LD.qr rfl rfl (fun hD hr => by have hB2 := hB2.gs hr.1 hn2; simp only [EN, Nat.reduceEqDiff, reduceIte, qv_indexAddr, decide_true, Bool.not_true, Bool.not_false, decide_false, eq_self, hB1.cell, hB2.cell, hB2.cell, ha1]; (try simp (disch := omega) only [ix28, Int.toNat_natCast]); rfl) ?_
     refine LD.qr rfl rfl (fun hD hr => by have hB2 := hB2.gs hr.1 hn2; simp only [EN, Nat.reduceEqDiff, reduceIte, k1_0, k5_0, i9_0, i4_0, decide_true, Bool.not_true, Bool.not_false, decide_false, eq_self, hB1.cell, hB2.cell, hB2.cell, qv_load, ld43, Int.toNat_natCast, hr.1.rd hr1 (by simp) hnb]; rfl) ?_
     refine LD.en rfl rfl (by intro hD hr hng hf; have hB2 := hB2.gs hr.1 hn2; exact EOp.mono (e_call Tryz.call16 (by simp only [EN, Nat.reduceEqDiff, reduceIte, k1_0, k5_0, i9_0, i4_0, decide_true, Bool.not_true, Bool.not_false, decide_false, eq_self, hB1.cell, hB2.cell, hB2.cell, List.map_toArray, List.map_cons, List.map_nil]; exact c_doX g h40E (hng rfl) (hI.gs hr.1 hE) (Nat.lt_of_lt_of_le hbb hr.1.size) o)) (fun v h' hh => by obtain ⟨q1, q2, q3⟩ := hh; exact ⟨⟨q1, fun _ => q3.1⟩, q2, q3, fun k' hk' _ _ hk => absurd hk hk'⟩)) ?_
     intro u7_6 w7_6
     obtain ⟨a6, n6, c6, rfl⟩ := w7_6
     refine LD.qr rfl rfl (fun hD hr => by have hB2 := hB2.gs hr.1 hn2; simp only [EN, Nat.reduceEqDiff, reduceIte, qv_move, decide_true, Bool.not_true, Bool.not_false, decide_false, eq_self, hB1.cell, hB2.cell, hB2.cell]; rfl) ?_
     refine LD.qr rfl rfl (fun hD hr => by have hB2 := hB2.gs hr.1 hn2; simp only [EN, Nat.reduceEqDiff, reduceIte, qv_extract, AR, decide_true, Bool.not_true, Bool.not_false, decide_false, eq_self, hB1.cell, hB2.cell, hB2.cell]; rfl) ?_
     refine LD.qr rfl rfl (fun hD hr => by have hB2 := hB2.gs hr.1 hn2; simp only [EN, Nat.reduceEqDiff, reduceIte, qv_extract, AR, decide_true, Bool.not_true, Bool.not_false, decide_false, eq_self, hB1.cell, hB2.cell, hB2.cell]; rfl) ?_
     refine LD.skip rfl ?_
     refine LD.skip rfl ?_
     refine LD.nil ?_
     rintro h6 hr7 hF7
     obtain ⟨hT, hRI⟩ := hF7 (6, .tuple #[reV (.slice ah nH ch) (.slice ao nO co) (.slice a6 n6 c6) (stepE E o), .bool true]) (by simp) _ rfl
     have hI2 := hRI _ rfl
     replace hB2 := hB2.gs hr7.1 hn2
     have hX7 : Ext h h6 := hr7.1.toExt hX (by simp; omega)
     have hb7 : b < Array.size h6 := Nat.lt_of_lt_of_le hbb hr7.1.size
     refine WL.store (by simp only [EN, Nat.reduceEqDiff, reduceIte, k5_0, decide_true, Bool.not_true, Bool.not_false, decide_false, eq_self, hB1.cell, hB2.cell, hB2.cell] <;> rfl) sz34 (by simp only [EN, Nat.reduceEqDiff, reduceIte, Value.cells, k5_0, decide_true, Bool.not_true, Bool.not_false, decide_false, eq_self, hB1.cell, hB2.cell, hB2.cell] <;> rfl) rfl hB2 (by first | (simp [true_and]; done) | (simp [true_and]; omega) | omega) (by simp [Value.oneCell']) ?_
     intro h7 hw7
     replace hX7 := hw7.ext hX7 hb2
     replace hT := hT.wrT hw7 hB2 (by decide) (by decide) (by decide)
     replace hI2 := hI2.wrT hw7 hB2 (by decide) (by decide) (by decide) (by decide)
     rw [← hw7.size] at hb7
     replace hB2 := hw7.at_
     try simp only [splc, List.take_succ_cons, List.take_zero, List.take_nil, List.drop_succ_cons, List.drop_zero, List.drop_nil, List.cons_append, List.nil_append, List.length_cons, List.length_nil, Nat.zero_add, Nat.add_zero, Nat.reduceAdd, List.append_nil] at hB2
     refine WL.qq (by simp only [EN, Nat.reduceEqDiff, reduceIte, qv_assign, decide_true, Bool.not_true, Bool.not_false, decide_false, eq_self, hB1.cell, hB2.cell, hB2.cell]; rfl) ?_
     refine WL.nil (th_norm (hx_seq (hx_region ?_)))
     iterate 2 refine WL.qq (by simp only [EN, Nat.reduceEqDiff, reduceIte, qv_move, decide_true, Bool.not_true, Bool.not_false, decide_false, eq_self, hB1.cell, hB2.cell, hB2.cell, qv_unOp, unv_not]; rfl) ?_
     refine WL.nil (th_norm ?_)
     refine hx_cond (by simp only [EN, Nat.reduceEqDiff, reduceIte, decide_true, Bool.not_true, Bool.not_false, decide_false, eq_self, hB1.cell, hB2.cell, hB2.cell]; rfl) (fun hct42 => ?_) (fun hct42 => ?_)
     ·
      simp at hct42
     ·
      try simp only [BD] at hct42
      refine hx_skip (bl_norm (th_norm (hx_region ?_)))
      iterate 3 refine WL.qq (by simp only [EN, Nat.reduceEqDiff, reduceIte, qv_move, i9_0, decide_true, Bool.not_true, Bool.not_false, decide_false, eq_self, hB1.cell, hB2.cell, hB2.cell, qv_binOp, binv_add, qv_assign]; (try simp (disch := omega) only [w64, w8, wu64]); rfl) ?_
      refine WL.nil (th_norm ?_)
      refine ⟨rfl, ?_, _, ?_, i + 1, stepE E o, a6, n6, c6, rfl, ?_, ?_, ?_, ?_, ?_, ?_, ?_, ?_, ?_, ?_⟩
      · (repeat (first | exact Fr.refl _ _ | refine Fr.set rfl ?_ | refine Fr.put rfl ?_ | with_reducible refine Fr.put0 ?_))
      · omega
      · omega
      · exact hX7
      · exact hB2
      · exact good_step g o
      · exact hst.symm
      · exact hT
      · exact hI2
      · exact hb7
      · simp only [EN, Nat.reduceEqDiff, reduceIte, k1_0, k5_0, i9_0, i4_0, decide_true, Bool.not_true, Bool.not_false, decide_false, eq_self, hB1.cell, hB2.cell, hB2.cell] <;> first | rfl | (congr 1; omega)
      · simp only [EN, Nat.reduceEqDiff, reduceIte, k1_0, k5_0, i9_0, i4_0, decide_true, Bool.not_true, Bool.not_false, decide_false, eq_self, hB1.cell, hB2.cell, hB2.cell] <;> first | rfl | (congr 1; omega)
    ·
     try simp only [BD] at hct28
     obtain rfl : i = L.length := (by omega)
     rw [List.take_length] at hEe; subst hEe
     refine hx_exit (th_exit (th_exit (bl_hit (th_norm (hx_seq ?_)))))
     apply hx_draw2 Rel.same [3, 4, 5] [] [] rfl (by decide +kernel) rfl
     iterate 3 refine LD.qq rfl rfl (by simp only [EN, Nat.reduceEqDiff, reduceIte, qv_move, i4_0, decide_true, Bool.not_true, Bool.not_false, decide_false, eq_self, hB1.cell, hB2.cell, hB2.cell, qv_load, ld34, readN, AR, Nat.zero_add, Nat.reduceAdd, k5_0, qv_assign]; rfl) ?_
     refine LD.skip rfl ?_
     refine LD.skip rfl ?_
     refine LD.skip rfl ?_
     refine LD.nil ?_
     rintro hL0 rfl -
     refine WL.store (by simp only [EN, Nat.reduceEqDiff, reduceIte, k5_0, decide_true, Bool.not_true, Bool.not_false, decide_false, eq_self, hB1.cell, hB2.cell, hB2.cell] <;> rfl) sz34 (by simp only [EN, Nat.reduceEqDiff, reduceIte, Value.cells, k5_0, decide_true, Bool.not_true, Bool.not_false, decide_false, eq_self, hB1.cell, hB2.cell, hB2.cell] <;> rfl) rfl hB2 (by first | (simp [true_and]; done) | (simp [true_and]; omega) | omega) (by simp [Value.oneCell']) ?_
     intro h8 hw8
     have hX4 := hw8.ext hX hb2
     replace hE := hE.wrT hw8 hB2 (by decide) (by decide) (by decide)
     replace hI := hI.wrT hw8 hB2 (by decide) (by decide) (by decide) (by decide)
     replace hB2 := hw8.at_
     try simp only [splc, List.take_succ_cons, List.take_zero, List.take_nil, List.drop_succ_cons, List.drop_zero, List.drop_nil, List.cons_append, List.nil_append, List.length_cons, List.length_nil, Nat.zero_add, Nat.add_zero, Nat.reduceAdd, List.append_nil] at hB2
     iterate 2 refine WL.qq (by simp only [EN, Nat.reduceEqDiff, reduceIte, qv_assign, decide_true, Bool.not_true, Bool.not_false, decide_false, eq_self, hB1.cell, hB2.cell, hB2.cell]; rfl) ?_
     refine WL.nil (th_norm (hx_ret ?_))
     refine fin_ret [.tmp 4, .cell 5 34, .tmp 6, .tmp 7] rfl rfl (by simp only [EN, Nat.reduceEqDiff, reduceIte, resv, ld34, readN, AR, Nat.zero_add, Nat.reduceAdd, k1_0, k5_0, i9_0, i4_0, decide_true, Bool.not_true, Bool.not_false, decide_false, eq_self, hB1.cell, hB2.cell, hB2.cell]; rfl) ?_
     exact ⟨hX4, _, _, by rw [decide_eq_true he]; rfl, .inr ⟨he, p, b, vh, vo, _, _, _, rfl, rfl, hE, hI⟩⟩
end GL

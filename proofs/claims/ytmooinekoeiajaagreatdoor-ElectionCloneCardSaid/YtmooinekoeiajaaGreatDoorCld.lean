/- Part 4 of the texts of one law: what it needs of the logic of heaps, of the walks, of the plain facts. -/
import Derived.Test.YtmooinekoeiajaaGreatDoorClc
set_option linter.unusedSimpArgs false
set_option linter.unusedVariables false
set_option linter.unnecessarySimpa false
namespace GL
open Go Go.Proofs
set_option maxRecDepth 8000
theorem bsz {n : Nat} {h : Heap} {b : Nat} {el : TypeId} {v : Value} {bs : List UInt8} (ho : OwnM h b el v n (bs.map u8V)) : (⟨bs.toArray⟩ : ByteArray).size = n := by
  have := ho.1
  rw [List.length_map] at this
  rw [← this]; rfl
theorem c_format (n : Int) (h : Heap) : HCalls Tryz.prog 63 #[.int .i64 n] h fun v h' => Ext h h' ∧ ∃ s : ByteArray, v = .tuple #[.string s, iV (if validM n = true then 0 else 2)] ∧ s.size ≤ 100 := by
  refine hcalls2 Tryz.func63 rfl (by decide +kernel) (by simp only [Tryz.ntmps63]; exact of_decide_eq_true rfl) ?_
  intro e hin
  have e0 := hin 0 _ rfl
  refine hx_seq (hx_region ?_)
  iterate 2 refine WL.qq (by simp only [EN, Nat.reduceEqDiff, reduceIte, qv_assign]; rfl) ?_
  refine WL.nil (th_norm (hx_seq (hx_region ?_)))
  refine WL.qq (by simp only [EN, Nat.reduceEqDiff, reduceIte, qv_move, e0]; rfl) ?_
  refine WL.ce Tryz.call87 (by simp only [EN, Nat.reduceEqDiff, reduceIte, AR]; exact c_toCivil n _) ?_
  rintro _ h1 ⟨hx1, y, m, d, r, rfl, hr, hy1, hy2, hm1, hm2, hd1, hd2⟩
  simp only [put_some]
  iterate 3 refine WL.qq (by simp only [EN, Nat.reduceEqDiff, reduceIte, qv_move, qv_extract, AR]; rfl) ?_
  refine WL.allocSt zr162 sz162 (fun u => by simp only [EN, Nat.reduceEqDiff, reduceIte, Value.cells]; rfl) ⟨rfl, rfl⟩ (by simp [Value.oneCell']) ?_
  intro h2 B2 hx2 hlt2 hB2
  refine WL.qq (by simp only [EN, Nat.reduceEqDiff, reduceIte, qv_assign, hB2.cell]; rfl) ?_
  refine WL.nil (th_norm (hx_seq (hx_seq (hx_region ?_))))
  iterate 2 refine WL.qq (by simp only [EN, Nat.reduceEqDiff, reduceIte, qv_move, hB2.cell, qv_binOp, binv_neq, eq46, Option.map_some]; rfl) ?_
  refine WL.nil (th_norm ?_)
  refine hx_cond (by simp only [EN, Nat.reduceEqDiff, reduceIte, hB2.cell]; rfl) (fun hct13 => ?_) (fun hct13 => ?_)
  ·
   try simp only [BD] at hct13
   refine hx_seq (hx_region ?_)
   iterate 3 refine WL.qq (by simp only [EN, Nat.reduceEqDiff, reduceIte, qv_move, hB2.cell, qv_assign]; rfl) ?_
   refine WL.nil (th_norm (hx_ret (th_ret ?_)))
   refine fin_ret [.tmp 2, .tmp 3] rfl rfl (by simp only [EN, Nat.reduceEqDiff, reduceIte, resv, e0, hB2.cell]; rfl) ?_
   have hv : ¬ validM n = true := (fun hh => by rw [if_pos hh] at hr; omega)
   rw [if_neg hv] at hr ⊢
   exact ⟨((hx1).trans (hx2)), em, by rw [hr]; rfl, by decide⟩
  ·
   try simp only [BD] at hct13
   have hv : validM n = true := (by by_cases hh : validM n = true; exact hh; rw [if_neg hh] at hr; omega)
   have hX0 := ((hx1).trans (hx2)); have hBo := hB2; obtain ⟨hN, hNe⟩ : ∃ q, q = h2 := ⟨_, rfl⟩
   refine hx_skip (th_norm (hx_seq (hx_region ?_)))
   iterate 2 refine WL.qq (by simp only [EN, Nat.reduceEqDiff, reduceIte, qv_fieldAddr, fa162_0, Nat.zero_add, Nat.reduceAdd, hB2.cell, qv_load, ld3, readN, AR]; rfl) ?_
   refine WL.ce Tryz.call64 (by simp only [EN, Nat.reduceEqDiff, reduceIte, e0, hB2.cell, AR]; exact c_digits (h0 := h2) 3 4 y _ 0 [] (by omega) (by omega) (by omega) hy1 (by have : (10 : Int) ^ (3 + 1) = 10000 := (by decide); omega) (by omega) (Ext.refl _) OwnM.nil) ?_
   rintro _ h20 ⟨hX20, n20, xs20, ho20, hn20, hz20⟩
   simp only [put_some]
   rw [← hNe] at hX20 ho20 hX0 hBo
   refine WL.pushM (n := n20) Tryz.underlying132 (inf_of Tryz.type5) rfl rfl rfl rfl sz5 zr5 (fun u => by simp only [EN, Nat.reduceEqDiff, reduceIte, e0, hB2.cell]) ho20 (u := u8V 45) (by simp only [EN, Nat.reduceEqDiff, reduceIte, e0, hB2.cell, Value.cells] <;> rfl) rfl (by omega) hX20.size ?_
   intro h21 v21 B21 ho21 hg21
   have hX21 := hg21.ext hX20 (fun c hc => (ho20.block c hc).1)
   replace hB2 := hBo.ext hX21
   skip
   refine WL.qq (by simp only [EN, Nat.reduceEqDiff, reduceIte, qv_assign, hB2.cell]; rfl) ?_
   refine WL.nil (th_norm (hx_seq (hx_region ?_)))
   iterate 3 refine WL.qq (by simp only [EN, Nat.reduceEqDiff, reduceIte, qv_move, hB2.cell, qv_fieldAddr, fa162_1, Nat.zero_add, Nat.reduceAdd, qv_load, ld3, readN, AR]; rfl) ?_
   refine WL.ce Tryz.call64 (by simp only [EN, Nat.reduceEqDiff, reduceIte, e0, hB2.cell, AR]; exact c_digits (h0 := hN) 1 2 m _ (n20 + 1) (xs20 ++ [45]) (by omega) (by omega) (by omega) hm1 (by have : (10 : Int) ^ (1 + 1) = 100 := (by decide); omega) (by omega) hX21 (by rw [List.map_append]; exact ho21)) ?_
   rintro _ h22 ⟨hX22, n22, xs22, ho22, hn22, hz22⟩
   simp only [put_some]
   replace hB2 := hBo.ext hX22
   refine WL.pushM (n := n22) Tryz.underlying132 (inf_of Tryz.type5) rfl rfl rfl rfl sz5 zr5 (fun u => by simp only [EN, Nat.reduceEqDiff, reduceIte, e0, hB2.cell]) ho22 (u := u8V 45) (by simp only [EN, Nat.reduceEqDiff, reduceIte, e0, hB2.cell, Value.cells] <;> rfl) rfl (by omega) hX22.size ?_
   intro h23 v23 B23 ho23 hg23
   have hX23 := hg23.ext hX22 (fun c hc => (ho22.block c hc).1)
   replace hB2 := hBo.ext hX23
   skip
   refine WL.qq (by simp only [EN, Nat.reduceEqDiff, reduceIte, qv_assign, hB2.cell]; rfl) ?_
   refine WL.nil (th_norm (hx_seq (hx_region ?_)))
   iterate 3 refine WL.qq (by simp only [EN, Nat.reduceEqDiff, reduceIte, qv_move, hB2.cell, qv_fieldAddr, fa162_2, Nat.zero_add, Nat.reduceAdd, qv_load, ld3, readN, AR]; rfl) ?_
   refine WL.ce Tryz.call64 (by simp only [EN, Nat.reduceEqDiff, reduceIte, e0, hB2.cell, AR]; exact c_digits (h0 := hN) 2 2 d _ (n22 + 1) (xs22 ++ [45]) (by omega) (by omega) (by omega) hd1 (by have : (10 : Int) ^ (2 + 1) = 1000 := (by decide); omega) (by omega) hX23 (by rw [List.map_append]; exact ho23)) ?_
   rintro _ h24 ⟨hX24, n24, xs24, ho24, hn24, hz24⟩
   simp only [put_some]
   refine WL.qq (by simp only [EN, Nat.reduceEqDiff, reduceIte, e0, hB2.cell, qv_convert]; exact convM ho24 hz24 Tryz.underlying132 Tryz.underlying5 Tryz.underlying9) ?_
   iterate 2 refine WL.qq (by simp only [EN, Nat.reduceEqDiff, reduceIte, qv_assign, hB2.cell]; rfl) ?_
   refine WL.nil (th_norm (hx_ret ?_))
   refine fin_ret [.tmp 2, .tmp 3] rfl rfl (by simp only [EN, Nat.reduceEqDiff, reduceIte, resv, e0, hB2.cell]; rfl) ?_
   have hsz := bsz ho24
   exact ⟨hX0.trans hX24, _, by rw [if_pos hv]; rfl, by omega⟩
def clkE (d m : Int) : Int := if validM d = true ∧ 0 ≤ m ∧ m ≤ 1439 then 0 else 2
theorem c_fclock (d m : Int) (h : Heap) : HCalls Tryz.prog 49 #[.agg #[.int .i64 d, .int .i64 m]] h fun v h' => Ext h h' ∧ ∃ s : ByteArray, v = .tuple #[.string s, iV (clkE d m)] := by
  refine hcalls2 Tryz.func49 rfl (by decide +kernel) (by simp only [Tryz.ntmps49]; exact of_decide_eq_true rfl) ?_
  intro e hin
  have e0 := hin 0 _ rfl
  refine hx_seq (hx_region ?_)
  refine WL.box2 (by simp only [EN, Nat.reduceEqDiff, reduceIte, Value.cells, e0]; rfl) ?_
  intro h1 B1 hx1 hlt1 hB1
  iterate 2 refine WL.qq (by simp only [EN, Nat.reduceEqDiff, reduceIte, qv_assign, hB1.cell]; rfl) ?_
  refine WL.nil (th_norm (hx_seq (hx_region ?_)))
  iterate 2 refine WL.qq (by simp only [EN, Nat.reduceEqDiff, reduceIte, qv_fieldAddr, fa49_0, Nat.zero_add, Nat.reduceAdd, hB1.cell, qv_load, ld3, readN, AR]; rfl) ?_
  refine WL.ce Tryz.call63 (by simp only [EN, Nat.reduceEqDiff, reduceIte, AR, hB1.cell]; exact c_format d _) ?_
  rintro _ h2 ⟨hx2, s, rfl, hsl⟩
  replace hB1 := hB1.ext hx2
  simp only [put_some]
  iterate 5 refine WL.qq (by simp only [EN, Nat.reduceEqDiff, reduceIte, qv_move, hB1.cell, qv_extract, AR, qv_assign]; rfl) ?_
  refine WL.nil (th_norm (hx_seq (hx_seq (hx_region ?_))))
  iterate 3 refine WL.qq (by simp only [EN, Nat.reduceEqDiff, reduceIte, qv_move, hB1.cell, qv_binOp, binv_neq, eq46, Option.map_some]; rfl) ?_
  refine WL.cq (gd_at (t := 15) rfl (by simp only [EN, Nat.reduceEqDiff, reduceIte, hB1.cell] <;> rfl)) (fun hg2_3 => by simp only [EN, Nat.reduceEqDiff, reduceIte, qv_fieldAddr, fa49_1, Nat.zero_add, Nat.reduceAdd, hB1.cell, hg2_3, GR]; rfl) ?_
  refine WL.cq (gd_at (t := 15) rfl (by simp only [EN, Nat.reduceEqDiff, reduceIte, hB1.cell] <;> rfl)) (fun hg2_4 => by simp only [EN, Nat.reduceEqDiff, reduceIte, qv_load, ld3, readN, AR, Nat.zero_add, Nat.reduceAdd, hB1.cell, hg2_4, GR]; rfl) ?_
  refine WL.cq (gd_at (t := 15) rfl (by simp only [EN, Nat.reduceEqDiff, reduceIte, hB1.cell] <;> rfl)) (fun hg2_5 => by simp only [EN, Nat.reduceEqDiff, reduceIte, qv_binOp, binv_lss, hB1.cell, hg2_5, GR]; rfl) ?_
  iterate 2 refine WL.qq (by simp only [EN, Nat.reduceEqDiff, reduceIte, qv_pick, pk_and, pk_or, GR, hB1.cell, qv_move]; rfl) ?_
  refine WL.cq (gd_at (t := 20) rfl (by simp only [EN, Nat.reduceEqDiff, reduceIte, hB1.cell] <;> rfl)) (fun hg2_8 => by simp only [EN, Nat.reduceEqDiff, reduceIte, qv_fieldAddr, fa49_1, Nat.zero_add, Nat.reduceAdd, hB1.cell, hg2_8, GR]; rfl) ?_
  refine WL.cq (gd_at (t := 20) rfl (by simp only [EN, Nat.reduceEqDiff, reduceIte, hB1.cell] <;> rfl)) (fun hg2_9 => by simp only [EN, Nat.reduceEqDiff, reduceIte, qv_load, ld3, readN, AR, Nat.zero_add, Nat.reduceAdd, hB1.cell, hg2_9, GR]; rfl) ?_
  refine WL.cq (gd_at (t := 20) rfl (by simp only [EN, Nat.reduceEqDiff, reduceIte, hB1.cell] <;> rfl)) (fun hg2_10 => by simp only [EN, Nat.reduceEqDiff, reduceIte, qv_binOp, binv_gtr, hB1.cell, hg2_10, GR]; rfl) ?_
  refine WL.qq (by simp only [EN, Nat.reduceEqDiff, reduceIte, qv_pick, pk_and, pk_or, GR, hB1.cell]; rfl) ?_
  refine WL.nil (th_norm ?_)
  refine hx_cond (by simp only [EN, Nat.reduceEqDiff, reduceIte, hB1.cell]; rfl) (fun hct24 => ?_) (fun hct24 => ?_)
  ·
   try simp only [BD] at hct24
   refine hx_seq (hx_region ?_)
   iterate 2 refine WL.qq (by simp only [EN, Nat.reduceEqDiff, reduceIte, qv_assign, hB1.cell]; rfl) ?_
   refine WL.nil (th_norm (hx_ret (th_ret ?_)))
   refine fin_ret [.tmp 2, .tmp 3] rfl rfl (by simp only [EN, Nat.reduceEqDiff, reduceIte, resv, e0, hB1.cell]; rfl) ?_
   have hv : ¬ (validM d = true ∧ 0 ≤ m ∧ m ≤ 1439) := (fun hh => by rw [if_pos hh.1] at hct24; omega)
   exact ⟨((hx1).trans (hx2)), em, by rw [clkE, if_neg hv]; rfl⟩
  ·
   try simp only [BD] at hct24
   have hv : validM d = true := (by by_cases hh : validM d = true; exact hh; rw [if_neg hh] at hct24; omega)
   have hX0 := ((hx1).trans (hx2)); have hBo := hB1; obtain ⟨hN, hNe⟩ : ∃ q, q = h2 := ⟨_, rfl⟩
   refine hx_skip (th_norm (hx_seq (hx_region ?_)))
   refine WL.qq (by simp only [EN, Nat.reduceEqDiff, reduceIte, qv_move, hB1.cell]; rfl) ?_
   refine WL.ef _ (e_conv Tryz.underlying9 Tryz.underlying132 Tryz.underlying5 (by simp only [EN, Nat.reduceEqDiff, reduceIte, e0, hB1.cell] <;> rfl) (by omega)) ?_
   rintro v20 h20 ⟨hX20, ho20⟩
   simp only [put_some]
   have hn20 : s.size ≤ 100 := hsl
   rw [← hNe] at hX20 ho20 hX0 hBo
   refine WL.pushM (n := s.size) Tryz.underlying132 (inf_of Tryz.type5) rfl rfl rfl rfl sz5 zr5 (fun u => by simp only [EN, Nat.reduceEqDiff, reduceIte, e0, hB1.cell]) ho20 (u := u8V 32) (by simp only [EN, Nat.reduceEqDiff, reduceIte, e0, hB1.cell, Value.cells] <;> rfl) rfl (by omega) hX20.size ?_
   intro h21 v21 B21 ho21 hg21
   have hX21 := hg21.ext hX20 (fun c hc => (ho20.block c hc).1)
   replace hB1 := hBo.ext hX21
   skip
   refine WL.qq (by simp only [EN, Nat.reduceEqDiff, reduceIte, qv_assign, hB1.cell]; rfl) ?_
   refine WL.nil (th_norm (hx_seq (hx_region ?_)))
   iterate 3 refine WL.qq (by simp only [EN, Nat.reduceEqDiff, reduceIte, qv_move, hB1.cell, qv_fieldAddr, fa49_1, Nat.zero_add, Nat.reduceAdd, qv_load, ld3, readN, AR]; rfl) ?_
   refine WL.qq (by refine Eq.trans (b := some (iV (m / 60))) ?_ rfl; simp only [EN, Nat.reduceEqDiff, reduceIte, e0, hB1.cell, qv_binOp]; rw [binv_quo (by decide), Int.tdiv_eq_ediv_of_nonneg (by omega), w64 (by omega) (by omega)]) ?_
   refine WL.ce Tryz.call64 (by simp only [EN, Nat.reduceEqDiff, reduceIte, e0, hB1.cell, AR]; exact c_digits (h0 := hN) 1 2 (m / 60) _ (s.size + 1) (s.data.toList ++ [32]) (by omega) (by omega) (by omega) (by omega) (by have : (10 : Int) ^ (1 + 1) = 100 := (by decide); omega) (by omega) hX21 (by rw [List.map_append]; exact ho21)) ?_
   rintro _ h22 ⟨hX22, n22, xs22, ho22, hn22, hz22⟩
   simp only [put_some]
   replace hB1 := hBo.ext hX22
   refine WL.pushM (n := n22) Tryz.underlying132 (inf_of Tryz.type5) rfl rfl rfl rfl sz5 zr5 (fun u => by simp only [EN, Nat.reduceEqDiff, reduceIte, e0, hB1.cell]) ho22 (u := u8V 58) (by simp only [EN, Nat.reduceEqDiff, reduceIte, e0, hB1.cell, Value.cells] <;> rfl) rfl (by omega) hX22.size ?_
   intro h23 v23 B23 ho23 hg23
   have hX23 := hg23.ext hX22 (fun c hc => (ho22.block c hc).1)
   replace hB1 := hBo.ext hX23
   skip
   refine WL.qq (by simp only [EN, Nat.reduceEqDiff, reduceIte, qv_assign, hB1.cell]; rfl) ?_
   refine WL.nil (th_norm (hx_seq (hx_region ?_)))
   iterate 3 refine WL.qq (by simp only [EN, Nat.reduceEqDiff, reduceIte, qv_move, hB1.cell, qv_fieldAddr, fa49_1, Nat.zero_add, Nat.reduceAdd, qv_load, ld3, readN, AR]; rfl) ?_
   refine WL.qq (by refine Eq.trans (b := some (iV (m % 60))) ?_ rfl; simp only [EN, Nat.reduceEqDiff, reduceIte, e0, hB1.cell, qv_binOp]; rw [binv_rem (by decide), Int.tmod_eq_emod_of_nonneg (by omega)]) ?_
   refine WL.ce Tryz.call64 (by simp only [EN, Nat.reduceEqDiff, reduceIte, e0, hB1.cell, AR]; exact c_digits (h0 := hN) 1 2 (m % 60) _ (n22 + 1) (xs22 ++ [58]) (by omega) (by omega) (by omega) (by omega) (by have : (10 : Int) ^ (1 + 1) = 100 := (by decide); omega) (by omega) hX23 (by rw [List.map_append]; exact ho23)) ?_
   rintro _ h24 ⟨hX24, n24, xs24, ho24, hn24, hz24⟩
   simp only [put_some]
   refine WL.qq (by simp only [EN, Nat.reduceEqDiff, reduceIte, e0, hB1.cell, qv_convert]; exact convM ho24 hz24 Tryz.underlying132 Tryz.underlying5 Tryz.underlying9) ?_
   iterate 2 refine WL.qq (by simp only [EN, Nat.reduceEqDiff, reduceIte, qv_assign, hB1.cell]; rfl) ?_
   refine WL.nil (th_norm (hx_ret ?_))
   refine fin_ret [.tmp 2, .tmp 3] rfl rfl (by simp only [EN, Nat.reduceEqDiff, reduceIte, resv, e0, hB1.cell]; rfl) ?_
   exact ⟨hX0.trans hX24, _, by rw [clkE, if_pos ⟨hv, by omega⟩]; rfl⟩
end GL
namespace GL
open Go Go.Proofs
set_option maxRecDepth 8000
theorem c_hValues (a : Option Addr) (cap : Nat) (l : List SI) (h : Heap) :
    HCalls Tryz.prog 51 #[.slice a l.length cap] h fun v h' => Ext h h' ∧ ∃ B, v = .func (.func 67) #[] #[.pointer (some ⟨B, 0, none⟩)] ∧ Has h' B (.cells #[.slice a l.length cap] 79) := by
  refine hcalls2 Tryz.func51 rfl (by decide +kernel) (by simp only [Tryz.ntmps51]; exact of_decide_eq_true rfl) ?_
  intro e hin
  have e0 := hin 0 _ rfl
  refine hx_seq (hx_region ?_)
  refine WL.box2 (by simp only [EN, Nat.reduceEqDiff, reduceIte, Value.cells, e0]; rfl) ?_
  intro h1 B1 hx1 hlt1 hB1
  refine WL.qq (by simp only [EN, Nat.reduceEqDiff, reduceIte, qv_assign, hB1.cell]; rfl) ?_
  refine WL.nil (th_norm (hx_seq (hx_region ?_)))
  iterate 2 refine WL.qq (by simp only [EN, Nat.reduceEqDiff, reduceIte, qv_makeFunc, AR, hB1.cell, qv_assign]; rfl) ?_
  refine WL.nil (th_norm (hx_ret ?_))
  refine fin_ret [.tmp 2] rfl rfl (by simp only [EN, Nat.reduceEqDiff, reduceIte, resv, e0, hB1.cell]; rfl) ?_
  exact ⟨(hx1), B1, rfl, hB1⟩
theorem c_vYield {h0 : Heap} (B : Nat) (a : Option Addr) (cap : Nat) (l : List SI) (lp : Nat) (J : Nat → Heap → Prop) (hlen : l.length ≤ 1000000) (hX : ∀ i h h', J i h → Ext h h' → J i h')
    (hJs : ∀ i h, J i h → SlG 2 siL h a l) (hy : ∀ i x h, l[i]? = some x → J i h → HY Tryz.prog lp #[siV x] h fun v h' => v = .bool true ∧ J (i + 1) h')
    (hB : Has h0 B (.cells #[.slice a l.length cap] 79)) (h00 : J 0 h0) :
    HCalls Tryz.prog 67 #[.func (.yield lp) #[] #[], .pointer (some ⟨B, 0, none⟩)] h0 fun _ h' => J l.length h' := by
  refine hcalls2 Tryz.func67 rfl (by decide +kernel) (by simp only [Tryz.ntmps67]; exact of_decide_eq_true rfl) ?_
  intro e hin
  have e0 := hin 0 _ rfl
  have e1 := hin 1 _ rfl
  refine hx_seq (hx_region ?_)
  iterate 3 refine WL.qq (by simp only [EN, Nat.reduceEqDiff, reduceIte, qv_load, ld79, readN, AR, Nat.zero_add, Nat.reduceAdd, e1, hB.cell, qv_len, ln79, qv_move]; rfl) ?_
  refine WL.nil (th_norm (hx_block ?_))
  refine hx_loopG [4, 7, 8, 9, 10, 11, 12, 13, 14, 15] (fun k e hL0 => ∃ (i : Nat), l.length - i = k ∧ (i ≤ l.length) ∧ (KJ J hX i hL0) ∧ e 7 = .int .i64 i) _ ⟨0, rfl, ?_, ?_, ?_⟩ ?_
  · omega
  · exact ⟨h00⟩
  · simp only [EN, Nat.reduceEqDiff, reduceIte, e0, e1, hB.cell] <;> rfl
  ·
   rintro k e0L hL0 hfr0 ⟨i, rfl, hi, hJ, i7_0⟩
   have k0_0 := hfr0 0 rfl; try simp only [EN, Nat.reduceEqDiff, reduceIte, e0, hB.cell] at k0_0
   have k5_0 := hfr0 5 rfl; try simp only [EN, Nat.reduceEqDiff, reduceIte, hB.cell] at k5_0
   have k6_0 := hfr0 6 rfl; try simp only [EN, Nat.reduceEqDiff, reduceIte, hB.cell] at k6_0
   refine hx_seq (hx_region ?_)
   refine WL.qq (by simp only [EN, Nat.reduceEqDiff, reduceIte, qv_binOp, binv_lss, k6_0, i7_0, hB.cell]; rfl) ?_
   refine WL.nil (th_norm (hx_seq ?_))
   refine hx_cond (by simp only [EN, Nat.reduceEqDiff, reduceIte, hB.cell]; rfl) (fun hct8 => ?_) (fun hct8 => ?_)
   ·
    try simp only [BD] at hct8
    obtain ⟨x, hx⟩ := atG (l := l) (i := i) (by omega)
    obtain ⟨b1, o1, ha1, hr2, _⟩ := si_rd (hJs i _ hJ.j) hx
    refine hx_skip (th_norm (hx_seq (hx_block (hx_seq (hx_region ?_)))))
    refine WL.qq (by simp only [EN, Nat.reduceEqDiff, reduceIte, qv_indexAddr, k5_0, i7_0, hB.cell, ha1]; (try simp (disch := omega) only [ix79, Int.toNat_natCast]); rfl) ?_
    refine WL.qq (by simp only [EN, Nat.reduceEqDiff, reduceIte, k0_0, k5_0, k6_0, i7_0, hB.cell, qv_load, ld78, Int.toNat_natCast, hr2]; rfl) ?_
    refine WL.allocSt zr78 sz78 (fun u => by simp only [EN, Nat.reduceEqDiff, reduceIte, Value.cells, hB.cell]; rfl) ⟨rfl, rfl⟩ (by simp [Value.oneCell']) ?_
    intro h1 B1 hx1 hlt1 hB1
    replace hJ := hJ.ext hx1
    refine WL.nil (th_norm (hx_seq (hx_region ?_)))
    iterate 2 refine WL.qq (by simp only [EN, Nat.reduceEqDiff, reduceIte, qv_move, k0_0, hB.cell, hB1.cell, qv_load, ld78, readN, AR, Nat.zero_add, Nat.reduceAdd]; rfl) ?_
    refine WL.ef _ (e_yield (l := lp) (by simp only [EN, Nat.reduceEqDiff, reduceIte, k0_0, k5_0, k6_0, i7_0, hB.cell, hB1.cell]) (by simp only [EN, Nat.reduceEqDiff, reduceIte, k0_0, k5_0, k6_0, i7_0, hB.cell, hB1.cell, AR]; exact hy i x _ hx hJ.j)) ?_
    rintro _ h22 ⟨rfl, hJ2⟩
    simp only [put_some]
    refine WL.qq (by simp only [EN, Nat.reduceEqDiff, reduceIte, qv_unOp, unv_not, hB.cell, hB1.cell]; rfl) ?_
    refine WL.nil (th_norm ?_)
    refine hx_cond (by simp only [EN, Nat.reduceEqDiff, reduceIte, hB.cell, hB1.cell]; rfl) (fun hct14 => ?_) (fun hct14 => ?_)
    ·
     simp at hct14
    ·
     try simp only [BD] at hct14
     refine hx_skip (bl_norm (th_norm (hx_region ?_)))
     iterate 2 refine WL.qq (by simp only [EN, Nat.reduceEqDiff, reduceIte, qv_binOp, binv_add, i7_0, hB.cell, hB1.cell, qv_move]; (try simp (disch := omega) only [w64, w8, wu64]); rfl) ?_
     refine WL.nil (th_norm ?_)
     refine ⟨rfl, ?_, _, ?_, i + 1, rfl, ?_, ?_, ?_⟩
     · (repeat (first | exact Fr.refl _ _ | refine Fr.set rfl ?_ | refine Fr.put rfl ?_ | with_reducible refine Fr.put0 ?_))
     · omega
     · omega
     · exact ⟨hJ2⟩
     · simp only [EN, Nat.reduceEqDiff, reduceIte, k0_0, k5_0, k6_0, i7_0, hB.cell, hB1.cell] <;> first | rfl | (congr 1; omega)
   ·
    try simp only [BD] at hct8
    obtain rfl : i = l.length := (by omega)
    refine hx_exit (th_exit (th_exit (bl_hit ?_)))
    refine fin_end [] rfl rfl (by simp only [EN, Nat.reduceEqDiff, reduceIte, resv, k0_0, k5_0, k6_0, i7_0, hB.cell]; rfl) ?_
    exact hJ.j
set_option maxHeartbeats 1000000 in
theorem c_hAppend (Bm : Nat) (a : Option Addr) (cap : Nat) (l : List SI) (hlen : l.length ≤ 1000000) {h : Heap} (hB : Has h Bm (.cells #[.slice a l.length cap] 79)) (hs : SlG 2 siL h a l) :
    HCalls Tryz.prog 88 #[.slice none 0 0, .func (.func 67) #[] #[.pointer (some ⟨Bm, 0, none⟩)]] h
      fun v h' => Ext h h' ∧ Own h' h.size tyH 2 v l.length (l.flatMap siL) := by
  have hs0 := hs
  refine hcalls2 Tryz.func88 rfl (by decide +kernel) (by simp only [Tryz.ntmps88]; exact of_decide_eq_true rfl) ?_
  intro e hin
  have e0 := hin 0 _ rfl
  have e1 := hin 1 _ rfl
  refine hx_seq (hx_region ?_)
  refine WL.box2 (by simp only [EN, Nat.reduceEqDiff, reduceIte, Value.cells, e0]; rfl) ?_
  intro h1 B1 hx1 hlt1 hB1
  replace hB := hB.ext hx1
  replace hs := hs.ext hx1
  refine WL.qq (by simp only [EN, Nat.reduceEqDiff, reduceIte, qv_assign, hB1.cell]; rfl) ?_
  refine WL.nil (th_norm (hx_seq (hx_seq (hx_region ?_))))
  refine WL.qq (by simp only [EN, Nat.reduceEqDiff, reduceIte, qv_move, e1, hB1.cell]; rfl) ?_
  refine WL.nil (th_norm (hx_block ?_))
  refine hx_range (by simp only [EN, Nat.reduceEqDiff, reduceIte, e0, e1, hB1.cell]; rfl) Tryz.call67 ?_
  intro fnR0 hR0 hxR0 hsR0 hdR0 hrR0
  have hlt : B1 < h1.size := (Array.getElem?_eq_some_iff.1 hB1).1
  generalize hrec : recOf _ _ _ _ _ _ _ = rec at hrR0
  refine (c_vYield Bm a cap l (h1.size + 1) (fun i hx => ∃ v, RC h h1 B1 79 tyH 2 rec v i ((l.take i).flatMap siL) hx) hlen ?_ ?_ ?_ (hB.ext hxR0) ?_).mono ?_
  · rintro i h1 h2 ⟨v, q1⟩ he; exact ⟨v, q1.ext he⟩
  · rintro i hx ⟨v, q1⟩; exact hs0.ext q1.ex
  rotate_left
  · exact ⟨.slice none 0 0, RC.start hB1 hxR0 hsR0 hdR0 hrR0 hx1 hlt1⟩
  rotate_left
  ·
   rintro i x hx hix ⟨v, hC⟩
   have hsz := hC.size
   have hil := (List.getElem?_eq_some_iff.1 hix).1
   subst hrec
   refine hy_body (vs := [siV x]) (ps := [7]) hC.rc rfl rfl rfl (by decide) rfl rfl ?_
   simp only [pars, List.zip_cons_cons, List.zip_nil_left, List.foldl_cons, List.foldl_nil]
   refine hx_region ?_
   refine WL.allocSt zr78 sz78 (fun u => by simp only [EN, Nat.reduceEqDiff, reduceIte, Value.cells, hB1.cell]; rfl) ⟨rfl, rfl⟩ (by simp [Value.oneCell']) ?_
   intro h2 B2 hx2 hlt2 hB2
   replace hC := hC.ext hx2
   refine WL.nil (th_norm ?_)
   refine ⟨_, hC.rc, rfl, ?_⟩
   intro h20 hw20
   replace hC := hC.turn hw20
   have hT := hC.out
   replace hB2 := hB2.wr hw20 (by omega)
   refine hx_block (hx_region ?_)
   iterate 2 refine WL.qq (by simp only [EN, Nat.reduceEqDiff, reduceIte, qv_load, ld79, readN, AR, Nat.zero_add, Nat.reduceAdd, hB1.cell, hB2.cell, hT.cell, ld78]; rfl) ?_
   refine WL.push (bytes := 24) Tryz.underlying79 (inf_of Tryz.type78) rfl rfl rfl rfl (by decide) (by decide) sz78 zr78 (fun u => by simp only [EN, Nat.reduceEqDiff, reduceIte, e0, e1, hB1.cell, hB2.cell]) hC.own (c := (siL x).toArray) (by simp only [EN, Nat.reduceEqDiff, reduceIte, e0, e1, hB1.cell, hB2.cell, Value.cells] <;> rfl) rfl (by simp [Value.oneCell']) (by simp only [maxLen]; omega) (by omega) hC.size ?_
   intro h40 v40 B40 ho40 hg40 hp40 hn40
   skip
   refine WL.store (by simp only [EN, Nat.reduceEqDiff, reduceIte, e0, e1, hB1.cell, hB2.cell] <;> rfl) sz79 (by simp only [EN, Nat.reduceEqDiff, reduceIte, e0, e1, hB1.cell, hB2.cell]; exact ho40.cells) rfl (hC.out.gr hg40 (hC.own.ncell hC.out (by decide))) (by simp) (by simp [ho40.one]) ?_
   intro h41 hw41
   have hC2 := hC.app ho40 hg40 hw41 rfl
   refine WL.nil (bl_norm ?_)
   refine ⟨_, hC2.rc, ?_⟩
   intro h30 hw30
   refine ⟨rfl, v40, ?_⟩
   rw [fm_step' hix]; exact hC2.turn hw30
  ·
   rintro v0 h3 ⟨v, hC⟩
   rw [List.take_length] at hC
   refine after_any hC.rc (by subst hrec; rfl) (.inl ⟨by subst hrec; rfl, ?_⟩)
   intro h31 o hw31
   have hs9 := hC.base
   have ho31 := (hC.own.keep (h' := h31) (fun c hc => hw31.same c (by have := (hC.own.block c hc).1; omega)))
   have hO := hC.out.wr hw31 (by have := hC.hi; omega)
   have hd31 : h31[h1.size]? = some (.deferred (some [])) := by rw [hw31.same _ (by omega)]; exact hC.df
   have hE31 := hw31.ext hC.ex (by omega)
   refine bl_norm (th_norm (hx_seq (hx_region ?_)))
   iterate 2 refine WL.qq (by simp only [EN, Nat.reduceEqDiff, reduceIte, qv_load, ld79, readN, AR, Nat.zero_add, Nat.reduceAdd, hB1.cell, hO.cell, qv_assign]; rfl) ?_
   refine WL.nil (th_norm (hx_ret ?_))
   refine fin_mark (.inr rfl) [.tmp 4] rfl rfl hd31 ?_
   intro h5 hw5
   refine ⟨[v], by simp only [resv, EN, Nat.reduceEqDiff, reduceIte, e0, e1, hB1.cell, hO.cell] <;> rfl, hw5.ext hE31 (by omega), ?_⟩
   exact (ho31.keep (h' := h5) (fun c hc => hw5.same c (by have := (ho31.block c hc).1; omega))).base (by omega)
theorem c_hCollect (Bm : Nat) (a : Option Addr) (cap : Nat) (l : List SI) (hlen : l.length ≤ 1000000) {h : Heap} (hB : Has h Bm (.cells #[.slice a l.length cap] 79)) (hs : SlG 2 siL h a l) :
    HCalls Tryz.prog 65 #[.func (.func 67) #[] #[.pointer (some ⟨Bm, 0, none⟩)]] h
      fun v h' => Ext h h' ∧ Own h' h.size tyH 2 v l.length (l.flatMap siL) := by
  refine hcalls2 Tryz.func65 rfl (by decide +kernel) (by simp only [Tryz.ntmps65]; exact of_decide_eq_true rfl) ?_
  intro e hin
  have e0 := hin 0 _ rfl
  refine hx_seq (hx_region ?_)
  refine WL.qq (by simp only [EN, Nat.reduceEqDiff, reduceIte, qv_assign]; rfl) ?_
  refine WL.nil (th_norm (hx_seq (hx_region ?_)))
  refine WL.qq (by simp only [EN, Nat.reduceEqDiff, reduceIte, qv_move, e0]; rfl) ?_
  refine WL.ce Tryz.call88 (by simp only [EN, Nat.reduceEqDiff, reduceIte, AR]; exact c_hAppend Bm a cap l hlen hB hs) ?_
  rintro _ h1 ⟨hx1, ho⟩
  simp only [put_some]
  refine WL.qq (by simp only [EN, Nat.reduceEqDiff, reduceIte, qv_assign]; rfl) ?_
  refine WL.nil (th_norm (hx_ret ?_))
  refine fin_ret [.tmp 2] rfl rfl (by simp only [EN, Nat.reduceEqDiff, reduceIte, resv, e0]; rfl) ?_
  exact ⟨hx1, ho⟩
def nLt (x y : SI) : Prop := sLt x.s y.s = true
theorem ltOf_h {x y : SI} : ltOf cmpH x y = true ↔ nLt x y := by rw [ltOf_iff, cmpH, cmpS_lt]; rfl
theorem ltOf_hf {x y : SI} : ltOf cmpH x y = false ↔ ¬ nLt x y := by rw [← ltOf_h, Bool.not_eq_true]
theorem nLt_irrefl (x : SI) : ¬ nLt x x := by unfold nLt; rw [sLt_irrefl]; decide
theorem nLt_trans {x y z : SI} (h1 : nLt x y) (h2 : nLt y z) : nLt x z := sLt_trans h1 h2
theorem nLt_tri {x y : SI} (h1 : ¬ nLt x y) (h2 : ¬ nLt y x) : x.s = y.s := sLt_tri (by simpa [nLt] using h1) (by simpa [nLt] using h2)
theorem swoH : Go.Sort.SWO (ltOf cmpH) where
  irrefl x := ltOf_hf.2 (nLt_irrefl _)
  trans x y z h1 h2 := ltOf_h.2 (nLt_trans (ltOf_h.1 h1) (ltOf_h.1 h2))
  ntrans x y z h1 h2 := by
    rw [ltOf_hf] at *
    intro h
    by_cases h3 : nLt y x
    · exact h2 (nLt_trans h3 h)
    · have h4 := nLt_tri h1 h3
      unfold nLt at h h2
      rw [h4] at h; exact h2 h
theorem isAggH (w : World) : (isAgg (Tryz.sortH_ren.t 24)).run Tryz.prog w = .ok true w := run_isAgg_of (by kernel_rfl) w
theorem szH (w : World) : (Go.sizeOf (Tryz.sortH_ren.t 24)).run Tryz.prog w = .ok 2 w := run_sizeOf_of (by kernel_rfl) w
theorem c_hSorted (Bm : Nat) (a : Option Addr) (cap : Nat) (l : List SI) (hlen : l.length ≤ 1000000) {h : Heap} (hB : Has h Bm (.cells #[.slice a l.length cap] 79)) (hs : SlG 2 siL h a l) :
    HCalls Tryz.prog 50 #[.func (.func 67) #[] #[.pointer (some ⟨Bm, 0, none⟩)], .func (.func 52) #[] #[]] h
      fun v h' => Ext h h' ∧ ∃ s : List SI, s.Perm l ∧ s.Pairwise (fun x y => ¬ nLt y x) ∧ Own h' h.size tyH 2 v s.length (s.flatMap siL) := by
  refine hcalls2 Tryz.func50 rfl (by decide +kernel) (by simp only [Tryz.ntmps50]; exact of_decide_eq_true rfl) ?_
  intro e hin
  have e0 := hin 0 _ rfl
  have e1 := hin 1 _ rfl
  refine hx_seq (hx_region ?_)
  refine WL.qq (by simp only [EN, Nat.reduceEqDiff, reduceIte, qv_assign]; rfl) ?_
  refine WL.nil (th_norm (hx_seq (hx_region ?_)))
  refine WL.qq (by simp only [EN, Nat.reduceEqDiff, reduceIte, qv_move, e0]; rfl) ?_
  refine WL.ce Tryz.call65 (by simp only [EN, Nat.reduceEqDiff, reduceIte, AR]; exact c_hCollect Bm a cap l hlen hB hs) ?_
  rintro _ h1 ⟨hx1, ho⟩
  simp only [put_some]
  refine WL.qq (by simp only [EN, Nat.reduceEqDiff, reduceIte, qv_assign]; rfl) ?_
  refine WL.nil (th_norm (hx_seq (hx_region ?_)))
  iterate 2 refine WL.qq (by simp only [EN, Nat.reduceEqDiff, reduceIte, qv_move, e1]; rfl) ?_
  refine WL.ce Tryz.call66 (by simp only [EN, Nat.reduceEqDiff, reduceIte, e0, e1, AR]; exact hc_sort Tryz.sortH isAggH szH (fun _ => rfl) siL_one swoH Tryz.call52 c_new1 ho rfl (by omega) (by decide)) ?_
  rintro _ h60 ⟨L, hLp, hLs, hLo, hLg⟩
  simp only [put_some]
  have hE60 := hLg.ext hx1 (fun c hc => (ho.block c hc).1)
  refine WL.nil (th_norm (hx_seq (hx_region ?_)))
  iterate 2 refine WL.qq (by simp only [EN, Nat.reduceEqDiff, reduceIte, qv_move, qv_assign]; rfl) ?_
  refine WL.nil (th_norm (hx_ret ?_))
  refine fin_ret [.tmp 4] rfl rfl (by simp only [EN, Nat.reduceEqDiff, reduceIte, resv, e0, e1]; rfl) ?_
  exact ⟨hE60, L, hLp, hLs.imp (fun hxy => ltOf_hf.1 hxy), by rw [hLp.length_eq]; exact hLo⟩
end GL
namespace GL
open Go Go.Proofs
set_option maxRecDepth 8000
def atH (x : SI) (out : List SI) : Nat → Nat
  | 0 => 0
  | n + 1 => match out[n]? with
    | some y => if sLt x.s y.s = true then atH x out n else n + 1
    | none => n + 1
def insH (x : SI) (out : List SI) : List SI := out.take (atH x out out.length) ++ x :: out.drop (atH x out out.length)
def ordH (l : List SI) : List SI := l.foldl (fun out x => insH x out) []
theorem atH_spec (x : SI) (out : List SI) : ∀ n, n ≤ out.length → atH x out n ≤ n ∧ (∀ j y, atH x out n ≤ j → j < n → out[j]? = some y → nLt x y) ∧ (∀ k y, atH x out n = k + 1 → out[k]? = some y → ¬ nLt x y)
  | 0, _ => ⟨Nat.le_refl _, fun j y _ h => absurd h (Nat.not_lt_zero _), fun k y h => by simp [atH] at h⟩
  | n + 1, hn => by
    obtain ⟨y, hy⟩ := atG (l := out) (i := n) (by omega)
    have ih := atH_spec x out n (by omega)
    unfold atH
    rw [hy]
    simp only
    split
    · rename_i hlt
      refine ⟨by omega, fun j z hj hj2 hz => ?_, ih.2.2⟩
      by_cases hjn : j = n
      · subst hjn; rw [hy] at hz; cases hz; exact hlt
      · exact ih.2.1 j z hj (by omega) hz
    · rename_i hlt
      refine ⟨by omega, fun j z hj hj2 hz => by omega, fun k z hk hz => ?_⟩
      obtain rfl : k = n := by omega
      rw [hy] at hz; cases hz; exact hlt
theorem insH_perm (x : SI) (out : List SI) : (insH x out).Perm (x :: out) := by
  unfold insH
  refine List.perm_middle.trans ?_
  rw [List.take_append_drop]
theorem insH_sorted {x : SI} {out : List SI} (hs : out.Pairwise nLt) (hx : ∀ y ∈ out, y.s ≠ x.s) : (insH x out).Pairwise nLt := by
  obtain ⟨h1, h2, h3⟩ := atH_spec x out out.length (Nat.le_refl _)
  unfold insH
  generalize hk : atH x out out.length = k at h1 h2 h3 ⊢
  have hp := List.pairwise_iff_getElem.1 hs
  have hlow : ∀ y ∈ out.take k, nLt y x := by
    intro y hy
    obtain ⟨j, hj⟩ := List.getElem?_of_mem hy
    rw [List.getElem?_take] at hj
    split at hj
    · rename_i hjk
      obtain ⟨k', rfl⟩ : ∃ k', k = k' + 1 := ⟨k - 1, by omega⟩
      obtain ⟨z, hz⟩ := atG (l := out) (i := k') (by omega)
      have hz2 := h3 k' z rfl hz
      have hzx : nLt z x := by
        by_cases h4 : nLt z x
        · exact h4
        · exact absurd (nLt_tri hz2 h4).symm (hx z (List.mem_of_getElem? hz))
      by_cases hjk2 : j = k'
      · subst hjk2; rw [hz] at hj; cases hj; exact hzx
      · obtain ⟨a1, rfl⟩ := List.getElem?_eq_some_iff.1 hj
        obtain ⟨a2, rfl⟩ := List.getElem?_eq_some_iff.1 hz
        exact nLt_trans (hp j k' a1 a2 (by omega)) hzx
    · cases hj
  have hhigh : ∀ y ∈ out.drop k, nLt x y := by
    intro y hy
    obtain ⟨j, hj⟩ := List.getElem?_of_mem hy
    rw [List.getElem?_drop] at hj
    exact h2 (k + j) y (by omega) (List.getElem?_eq_some_iff.1 hj).1 hj
  rw [List.pairwise_append, List.pairwise_cons]
  refine ⟨hs.sublist (List.take_sublist _ _), ⟨hhigh, hs.sublist (List.drop_sublist _ _)⟩, fun a ha b hb => ?_⟩
  rcases List.mem_cons.1 hb with rfl | hb
  · exact hlow a ha
  · exact nLt_trans (hlow a ha) (hhigh b hb)
theorem ordH_go : ∀ (l out : List SI), out.Pairwise nLt → ((out ++ l).map SI.s).Nodup → (l.foldl (fun out x => insH x out) out).Pairwise nLt ∧ (l.foldl (fun out x => insH x out) out).Perm (out ++ l)
  | [], out, hs, _ => ⟨hs, by simp⟩
  | x :: l, out, hs, hn => by
    have hp := insH_perm x out
    have hx : ∀ y ∈ out, y.s ≠ x.s := by
      intro y hy hh
      rw [List.map_append, List.nodup_append] at hn
      exact hn.2.2 y.s (List.mem_map_of_mem hy) x.s (by simp) hh
    have hp2 : (insH x out ++ l).Perm (out ++ x :: l) := (hp.append_right l).trans (by simpa using (List.perm_middle (a := x) (l₁ := out) (l₂ := l)).symm)
    have hn2 : ((insH x out ++ l).map SI.s).Nodup := ((hp2.map SI.s).nodup_iff).2 hn
    have ih := ordH_go l (insH x out) (insH_sorted hs hx) hn2
    exact ⟨ih.1, ih.2.trans hp2⟩
theorem ordH_spec {l : List SI} (hn : (l.map SI.s).Nodup) : (ordH l).Pairwise nLt ∧ (ordH l).Perm l := by
  have h := ordH_go l [] List.Pairwise.nil (by simpa using hn)
  exact ⟨h.1, by have h2 := h.2; rw [List.nil_append] at h2; exact h2⟩
theorem ordH_uni {l m : List SI} (hp : m.Perm l) (hn : (l.map SI.s).Nodup) (hs : m.Pairwise fun x y => ¬ nLt y x) : m = ordH l := by
  have ho := ordH_spec hn
  have hn2 : (m.map SI.s).Nodup := ((hp.map SI.s).nodup_iff).2 hn
  have hs2 : m.Pairwise nLt := by
    refine (List.Pairwise.and hs (List.pairwise_map.1 hn2)).imp fun {a b} h => ?_
    by_cases h3 : nLt a b
    · exact h3
    · exact absurd (nLt_tri h3 h.1) h.2
  exact srt_uni nLt_irrefl (fun _ _ _ => nLt_trans) hs2 ho.1 fun q => by rw [hp.mem_iff, ho.2.mem_iff]
structure OkH (l : List SI) : Prop where
  ne : l.length ≠ 0
  le : l.length ≤ 1024
  q : ∀ x ∈ l, x.s ≠ em ∧ 1 ≤ x.n ∧ x.n ≤ 1000000000000000
  nd : (l.map SI.s).Nodup
  su : sumF SI.n l ≤ 1000000000000000
theorem ckH_0 {pre : List SI} {x : SI} : ckH pre x = 0 ↔ x.s ≠ em ∧ (∀ y ∈ pre, y.s ≠ x.s) ∧ 1 ≤ x.n ∧ x.n ≤ 1000000000000000 := by
  unfold ckH
  constructor
  · intro h
    split at h
    · omega
    rename_i h1
    split at h
    · omega
    rename_i h2
    split at h
    · omega
    rename_i h3
    refine ⟨h1, fun y hy hh => h2 (List.any_eq_true.2 ⟨y, hy, by simpa using hh⟩), by omega⟩
  · rintro ⟨h1, h2, h3⟩
    rw [if_neg h1, if_neg (by
      intro h4
      obtain ⟨y, hy, hh⟩ := List.any_eq_true.1 h4
      exact h2 y hy (by simpa using hh)), if_neg (by omega)]
theorem goH_0 : ∀ (l pre : List SI), goH pre l = 0 ↔ (∀ x ∈ l, x.s ≠ em ∧ (∀ y ∈ pre, y.s ≠ x.s) ∧ 1 ≤ x.n ∧ x.n ≤ 1000000000000000) ∧ (l.map SI.s).Nodup
  | [], pre => by simp [goH]
  | x :: l, pre => by
    unfold goH
    have ih := goH_0 l (pre ++ [x])
    constructor
    · intro h
      split at h
      · rename_i h1
        rw [ckH_0] at h1
        rw [ih] at h
        refine ⟨fun y hy => ?_, ?_⟩
        · rcases List.mem_cons.1 hy with rfl | hy
          · exact h1
          · have h2 := h.1 y hy
            exact ⟨h2.1, fun z hz => h2.2.1 z (List.mem_append_left _ hz), h2.2.2⟩
        · rw [List.map_cons, List.nodup_cons]
          refine ⟨fun hm => ?_, h.2⟩
          obtain ⟨y, hy, hh⟩ := List.mem_map.1 hm
          exact (h.1 y hy).2.1 x (by simp) hh.symm
      · rename_i h1; exact absurd h h1
    · rintro ⟨h1, h2⟩
      rw [List.map_cons, List.nodup_cons] at h2
      have h3 := h1 x (by simp)
      rw [if_pos (ckH_0.2 h3), ih]
      refine ⟨fun y hy => ?_, h2.2⟩
      have h4 := h1 y (by simp [hy])
      refine ⟨h4.1, fun z hz => ?_, h4.2.2⟩
      rcases List.mem_append.1 hz with hz | hz
      · exact h4.2.1 z hz
      · simp at hz; subst hz
        intro hh; exact h2.1 (List.mem_map.2 ⟨y, hy, hh.symm⟩)
theorem erH_0 {l : List SI} : erH l = 0 ↔ OkH l := by
  have hg := goH_0 l []
  unfold erH
  constructor
  · intro h
    split at h
    · omega
    rename_i h1
    split at h
    · rename_i h2; exact absurd h h2
    rename_i h2
    split at h
    · omega
    rename_i h3
    have h4 := hg.1 (by simpa using h2)
    exact ⟨by omega, by omega, fun x hx => ⟨(h4.1 x hx).1, (h4.1 x hx).2.2⟩, h4.2, by omega⟩
  · intro h
    have h1 := h.ne; have h2 := h.le; have h3 := h.su
    have h4 := hg.2 ⟨fun x hx => ⟨(h.q x hx).1, (fun y hy => by cases hy), (h.q x hx).2⟩, h.nd⟩
    rw [if_neg (by omega), if_neg (by simpa using h4), if_neg (by omega)]
structure OkO (l : List SI) : Prop where
  ne : l.length ≠ 0
  le : l.length ≤ 16
  q : ∀ x ∈ l, 0 ≤ x.n ∧ x.n ≤ 1000000000000000
  nd : (l.map SI.s).Nodup
theorem goO_0 : ∀ (l pre : List SI), goO pre l = 0 → (∀ x ∈ l, (∀ y ∈ pre, y.s ≠ x.s) ∧ 0 ≤ x.n ∧ x.n ≤ 1000000000000000) ∧ (l.map SI.s).Nodup
  | [], pre, _ => by simp
  | x :: l, pre, h => by
    have ih := goO_0 l (pre ++ [x])
    unfold goO at h
    split at h
    · rename_i h1
      have h2 := ih h
      have h3 : (∀ y ∈ pre, y.s ≠ x.s) ∧ 0 ≤ x.n ∧ x.n ≤ 1000000000000000 := by
        unfold ckO at h1
        split at h1
        · omega
        split at h1
        · omega
        rename_i h4
        split at h1
        · omega
        rename_i h5
        refine ⟨?_, by omega⟩
        rcases idxS_cases x.s pre with ⟨_, h6⟩ | ⟨i, y, h6, _⟩
        · exact h6
        · omega
      refine ⟨fun y hy => ?_, ?_⟩
      · rcases List.mem_cons.1 hy with rfl | hy
        · exact h3
        · have h4 := h2.1 y hy
          exact ⟨fun z hz => h4.1 z (List.mem_append_left _ hz), h4.2⟩
      · rw [List.map_cons, List.nodup_cons]
        refine ⟨fun hm => ?_, h2.2⟩
        obtain ⟨y, hy, hh⟩ := List.mem_map.1 hm
        exact (h2.1 y hy).1 x (by simp) hh.symm
    · rename_i h1; exact absurd h h1
theorem erO_0 {l : List SI} (h : erO l = 0) : OkO l := by
  unfold erO at h
  split at h
  · omega
  rename_i h1
  have h2 := goO_0 l [] h
  exact ⟨by omega, by omega, fun x hx => (h2.1 x hx).2, h2.2⟩
def capE (os : List SI) (i : Int) : Int := (os[i.toNat]?.getD ⟨em, 0⟩).n
def erN (l os : List SI) (s : ByteArray) (d m : Int) : Int :=
  if erH l ≠ 0 then erH l else if erO os ≠ 0 then erO os else if idxS s os < 0 then 9 else if capE os (idxS s os) ≠ 0 then 11 else if clkE d m ≠ 0 then 28 else 0
def newE (l os : List SI) (s : ByteArray) (d m : Int) : EL := ⟨ordH l, os, (idxS s os).toNat, d, m, [], false⟩
structure GoodE (E : EL) : Prop where
  hn : 1 ≤ E.hs.length ∧ E.hs.length ≤ 1024
  srt : E.hs.Pairwise nLt
  hq : ∀ x ∈ E.hs, 1 ≤ x.n ∧ x.n ≤ 1000000000000000
  hsum : sumF SI.n E.hs ≤ 1000000000000000
  on : 1 ≤ E.os.length ∧ E.os.length ≤ 16
  ond : (E.os.map SI.s).Nodup
  oq : ∀ x ∈ E.os, 0 ≤ x.n ∧ x.n ≤ 1000000000000000
  dft : ∃ x, E.os[E.d]? = some x ∧ x.n = 0
  dl : 0 ≤ E.dd ∧ E.dd ≤ 73048 ∧ 0 ≤ E.dm ∧ E.dm ≤ 1439
  mnd : (E.m.map Prod.fst).Nodup
  mks : ∀ p ∈ E.m, (∃ x ∈ E.hs, x.s = p.1.o) ∧ 0 ≤ p.1.k ∧ p.1.k < E.os.length ∧ 1 ≤ p.2 ∧ p.2 ≤ 1000000000000000
  su : ∀ x ∈ E.hs, sumE E x.s ≤ x.n
theorem lk_look {κ : Type} [DecidableEq κ] {l : List (κ × Int)} {q : κ} : lk l q = 0 ∨ ∃ p ∈ l, p.1 = q ∧ lk l q = p.2 := by
  unfold lk
  cases h : l.lookup q with
  | none => exact .inl rfl
  | some v => exact .inr ⟨(q, v), mem_lookup h, rfl, rfl⟩
section
variable {E : EL}
theorem GoodE.nd (g : GoodE E) : (E.hs.map SI.s).Nodup := by
  rw [List.Nodup, List.pairwise_map]
  refine g.srt.imp fun {a b} h hh => ?_
  unfold nLt at h
  rw [hh, sLt_irrefl] at h; cases h
theorem GoodE.ch (g : GoodE E) (q : PK) : 0 ≤ lk E.m q ∧ lk E.m q ≤ 1000000000000000 := by
  rcases lk_look (l := E.m) (q := q) with h | ⟨p, hp, _, h⟩
  · omega
  · have := g.mks p hp; omega
theorem GoodE.b (g : GoodE E) : BdE E := ⟨g.hn.2, g.on.2, g.hq, g.ch⟩
theorem GoodE.che (g : GoodE E) (s : ByteArray) (k : Nat) : 0 ≤ chE E s k ∧ chE E s k ≤ 1000000000000000 := g.ch _
theorem sumF_part {α : Type} {f : α → Int} {l : List α} (h : ∀ x ∈ l, 0 ≤ f x) : 0 ≤ sumF f l ∧ ∀ x ∈ l, f x ≤ sumF f l := by
  induction l with
  | nil => exact ⟨Int.le_refl _, fun x hx => by cases hx⟩
  | cons y l ih =>
    have h1 := ih fun z hz => h z (by simp [hz])
    have h2 := h y (by simp)
    simp only [sumF]
    refine ⟨by omega, fun x hx => ?_⟩
    rcases List.mem_cons.1 hx with rfl | hx
    · omega
    · have := h1.2 x hx; omega
theorem sumF_mono {α : Type} {f g : α → Int} {l : List α} (h : ∀ x ∈ l, f x ≤ g x) : sumF f l ≤ sumF g l := by
  induction l with
  | nil => exact Int.le_refl _
  | cons y l ih =>
    have h1 := ih fun z hz => h z (by simp [hz])
    have h2 := h y (by simp)
    simp only [sumF]; omega
theorem GoodE.chle (g : GoodE E) (s : ByteArray) {k : Nat} (hk : k < E.os.length) : chE E s k ≤ sumE E s :=
  (sumF_part (f := chE E s) (l := List.range E.os.length) fun j _ => (g.che s j).1).2 k (List.mem_range.2 hk)
theorem GoodE.ch0 (g : GoodE E) {s : ByteArray} {k : Nat} (hk : E.os.length ≤ k) : chE E s k = 0 := by
  rcases lk_look (l := E.m) (q := ⟨s, k⟩) with h | ⟨p, hp, h1, h⟩
  · exact h
  · have h2 := g.mks p hp
    rw [h1] at h2
    simp only at h2
    omega
theorem GoodE.chx (g : GoodE E) {x : SI} (hx : x ∈ E.hs) (k : Nat) : chE E x.s k ≤ x.n := by
  by_cases hk : k < E.os.length
  · have := g.chle x.s hk; have := g.su x hx; omega
  · rw [g.ch0 (by omega)]; have := g.hq x hx; omega
theorem wsE_sum (g : GoodE E) (k : Nat) : ((wsE E k).sum : Int) = sumF (fun x => chE E x.s k) E.hs := by
  unfold wsE
  have : ∀ l : List SI, (((l.map fun x => chN E x.s k).sum : Nat) : Int) = sumF (fun x => chE E x.s k) l := by
    intro l
    induction l with
    | nil => rfl
    | cons x l ih =>
      rw [List.map_cons, List.sum_cons, Int.natCast_add, ih, sumF, chN_i g.b]
  exact this _
theorem GoodE.cl (g : GoodE E) (h40 : E.hs.length ≤ 40) : ClE E := by
  refine ⟨g.b, h40, g.nd, fun k => ?_, g.oq⟩
  have h1 := wsE_sum g k
  have h2 := sumF_mono (f := fun x : SI => chE E x.s k) (g := SI.n) (l := E.hs) fun x hx => g.chx hx k
  have h3 := g.hsum
  omega
end
theorem new_good {l os : List SI} {s : ByteArray} {d m : Int} (h : erN l os s d m = 0) : GoodE (newE l os s d m) := by
  unfold erN at h
  split at h
  · rename_i h1; exact absurd h h1
  rename_i h1
  split at h
  · rename_i h2; exact absurd h h2
  rename_i h2
  split at h
  · omega
  rename_i h3
  split at h
  · omega
  rename_i h4
  split at h
  · omega
  rename_i h5
  have oh := erH_0.1 (by simpa using h1)
  have oo := erO_0 (by simpa using h2)
  have ho := ordH_spec oh.nd
  have hcl : validM d = true ∧ 0 ≤ m ∧ m ≤ 1439 := by
    by_cases hh : validM d = true ∧ 0 ≤ m ∧ m ≤ 1439
    · exact hh
    · unfold clkE at h5; rw [if_neg hh] at h5; simp at h5
  have hv := hcl.1
  simp only [validM, Bool.and_eq_true, decide_eq_true_eq] at hv
  refine ⟨?_, ho.1, fun x hx => (oh.q x (ho.2.mem_iff.1 hx)).2, ?_, ?_, oo.nd, oo.q, ?_, ⟨hv.1, hv.2, hcl.2⟩, List.nodup_nil, fun p hp => (by cases hp), fun x hx => ?_⟩
  · simp only [newE]; rw [ho.2.length_eq]; have := oh.ne; have := oh.le; omega
  · simp only [newE]; rw [sumF_perm ho.2]; exact oh.su
  · simp only [newE]; have := oo.ne; have := oo.le; omega
  · rcases idxS_cases s os with ⟨h6, _⟩ | ⟨i, x, h6, hx, _⟩
    · omega
    · refine ⟨x, ?_, ?_⟩
      · simp only [newE, h6, Int.toNat_natCast]; exact hx
      · simp only [capE, h6, Int.toNat_natCast, hx, Option.getD_some] at h4; simpa using h4
  · have h6 := (oh.q x (ho.2.mem_iff.1 hx)).2
    have h7 : sumE (newE l os s d m) x.s = 0 := sumF_zero fun k _ => rfl
    rw [h7]; omega
theorem lk_chM {m : List (PK × Int)} {x y : PK} {q : Int} : lk (chM m x q) y = if y = x then q else lk m y := by
  unfold chM
  split
  · rename_i h
    unfold lk
    rw [lookup_mdel]
    split
    · rw [h]; rfl
    · rfl
  · rw [lk_mset]
    by_cases h : x = y
    · subst h; simp
    · rw [if_neg h, if_neg fun hh => h hh.symm]
theorem chM_mem {m : List (PK × Int)} {x : PK} {q : Int} {p : PK × Int} (h : p ∈ chM m x q) : p ∈ m ∨ (p = (x, q) ∧ q ≠ 0) := by
  unfold chM at h
  split at h
  · exact .inl (List.mem_filter.1 h).1
  · rename_i hq
    revert h
    induction m with
    | nil => intro h; simp [mset] at h; exact .inr ⟨h, hq⟩
    | cons y m ih =>
      intro h
      unfold mset at h
      split at h
      · rcases List.mem_cons.1 h with h | h
        · exact .inr ⟨h, hq⟩
        · exact .inl (List.mem_cons_of_mem _ h)
      · rcases List.mem_cons.1 h with h | h
        · exact .inl (by rw [h]; exact List.mem_cons_self)
        · rcases ih h with h | h
          · exact .inl (List.mem_cons_of_mem _ h)
          · exact .inr h
abbrev chsE (E : EL) (s o : ByteArray) (q : Int) : EL := { E with m := chM E.m ⟨s, idxS o E.os⟩ q }
theorem chE_chs {E : EL} {s o : ByteArray} {q : Int} (t : ByteArray) (k : Nat) : chE (chsE E s o q) t k = if t = s ∧ (k : Int) = idxS o E.os then q else chE E t k := by
  unfold chE
  simp only [chsE]
  rw [lk_chM]
  congr 1
  rw [eq_iff_iff, pk_eq]
theorem chX_0 {E : EL} {s o : ByteArray} {q ad am : Int} (h : chX E s o q ad am = 0) : E.cl = false ∧ ¬ 0 < cmpC (ad, am) (E.dd, E.dm) ∧ 0 ≤ idxS s E.hs ∧ 0 ≤ idxS o E.os ∧ 0 ≤ q ∧ q ≤ 1000000000000000 ∧ sumE E s - lk E.m ⟨s, idxS o E.os⟩ + q ≤ (hldE E s).n := by
  unfold chX at h
  split at h
  · omega
  rename_i h1
  split at h
  · omega
  split at h
  · omega
  split at h
  · omega
  split at h
  · omega
  split at h
  · omega
  refine ⟨by simpa using h1, ?_⟩
  omega
theorem sum_chs {E : EL} {s o : ByteArray} {q : Int} (hi : 0 ≤ idxS o E.os) (t : ByteArray) : sumE (chsE E s o q) t = if t = s then sumE E t - lk E.m ⟨s, idxS o E.os⟩ + q else sumE E t := by
  have hlt := (idxS_lt o E.os).2
  unfold sumE
  have hos : (chsE E s o q).os = E.os := rfl
  rw [hos]
  split
  · rename_i hts
    subst hts
    obtain ⟨i, hi2⟩ : ∃ i : Nat, idxS o E.os = i := ⟨(idxS o E.os).toNat, by omega⟩
    have hil : i < E.os.length := by omega
    have hsp : ∀ f : Nat → Int, sumF f (List.range E.os.length) = sumF f ((List.range E.os.length).take i) + f i + sumF f ((List.range E.os.length).drop (i + 1)) := by
      intro f
      have h1 := sumF_step (f := f) (l := List.range E.os.length) (i := i) (x := i) (by rw [List.getElem?_range hil])
      have h2 : sumF f (List.range E.os.length) = sumF f ((List.range E.os.length).take (i + 1)) + sumF f ((List.range E.os.length).drop (i + 1)) := by
        rw [← sumF_app, List.take_append_drop]
      omega
    rw [hsp, hsp (chE E t)]
    have e1 : sumF (chE (chsE E t o q) t) ((List.range E.os.length).take i) = sumF (chE E t) ((List.range E.os.length).take i) := by
      refine sumF_congr fun k hk => ?_
      rw [chE_chs, if_neg]
      intro hh
      obtain ⟨j, hj, rfl⟩ := List.mem_take_iff_getElem.1 hk
      simp at hh
      omega
    have e2 : sumF (chE (chsE E t o q) t) ((List.range E.os.length).drop (i + 1)) = sumF (chE E t) ((List.range E.os.length).drop (i + 1)) := by
      refine sumF_congr fun k hk => ?_
      rw [chE_chs, if_neg]
      intro hh
      obtain ⟨j, hj, rfl⟩ := List.mem_drop_iff_getElem.1 hk
      simp at hh
      omega
    rw [e1, e2, chE_chs, if_pos ⟨rfl, by omega⟩, hi2]
    unfold chE
    omega
  · rename_i hts
    refine sumF_congr fun k _ => ?_
    rw [chE_chs, if_neg (fun hh => hts hh.1)]
theorem hld_mem {E : EL} {s : ByteArray} (h : 0 ≤ idxS s E.hs) : hldE E s ∈ E.hs ∧ (hldE E s).s = s := by
  rcases idxS_cases s E.hs with ⟨h1, _⟩ | ⟨i, x, h1, hx, hxs, hno⟩
  · omega
  · rw [hld_yes hno hx hxs]
    exact ⟨List.mem_of_getElem? hx, hxs⟩
theorem name_eq {E : EL} (g : GoodE E) {x y : SI} (hx : x ∈ E.hs) (hy : y ∈ E.hs) (h : x.s = y.s) : x = y := by
  obtain ⟨i, hi⟩ := List.getElem?_of_mem hx
  obtain ⟨j, hj⟩ := List.getElem?_of_mem hy
  have h1 := idx_of g.nd hi
  have h2 := idx_of g.nd hj
  rw [h, h2] at h1
  have : i = j := by omega
  subst this
  rw [hi] at hj; exact Option.some.inj hj
theorem good_choose {E : EL} (g : GoodE E) {s o : ByteArray} {q ad am : Int} (h : chX E s o q ad am = 0) : GoodE (chsE E s o q) := by
  obtain ⟨_, _, h1, h2, h3, h4, h5⟩ := chX_0 h
  have h6 := hld_mem h1
  refine ⟨g.hn, g.srt, g.hq, g.hsum, g.on, g.ond, g.oq, g.dft, g.dl, ?_, fun p hp => ?_, fun x hx => ?_⟩
  · simp only [chsE, chM]
    split
    · exact mdel_nd g.mnd
    · exact mset_nodup g.mnd
  · rcases chM_mem hp with hp | ⟨rfl, hq0⟩
    · exact g.mks p hp
    · refine ⟨⟨_, h6.1, h6.2⟩, h2, (idxS_lt o E.os).2, ?_, h4⟩
      simp only; omega
  · rw [sum_chs h2]
    split
    · rename_i hts
      have h7 := name_eq g hx h6.1 (by rw [h6.2]; exact hts)
      subst h7
      rw [hts]; exact h5
    · exact g.su x hx
theorem good_shut {E : EL} (g : GoodE E) (c : Bool) : GoodE { E with cl := c } := ⟨g.hn, g.srt, g.hq, g.hsum, g.on, g.ond, g.oq, g.dft, g.dl, g.mnd, g.mks, g.su⟩
theorem len_sub {α : Type} [DecidableEq α] : ∀ {l m : List α}, l.Nodup → (∀ q ∈ l, q ∈ m) → l.length ≤ m.length
  | [], m, _, _ => Nat.zero_le _
  | a :: l, m, hn, hs => by
    rw [List.nodup_cons] at hn
    have ha := hs a (by simp)
    have h1 := len_sub (l := l) (m := m.erase a) hn.2 fun q hq => (List.mem_erase_of_ne (fun hh => hn.1 (by rw [← hh]; exact hq))).2 (hs q (by simp [hq]))
    rw [List.length_erase_of_mem ha] at h1
    have := List.length_pos_of_mem ha
    rw [List.length_cons]; omega
def samE (E F : EL) : Prop := E.hs = F.hs ∧ E.os = F.os ∧ E.d = F.d ∧ E.dd = F.dd ∧ E.dm = F.dm ∧ E.cl = F.cl ∧ ∀ x ∈ E.hs, ∀ k, k < E.os.length → chE E x.s k = chE F x.s k
theorem eq_sam {E F : EL} (g : GoodE E) (g' : GoodE F) : eqE E F ↔ samE E F := by
  have key : E.hs = F.hs → E.os = F.os → (mapEq E.m F.m ↔ ∀ x ∈ E.hs, ∀ k, k < E.os.length → chE E x.s k = chE F x.s k) := by
    intro e1 e2
    have lsome : ∀ {G : EL}, GoodE G → ∀ q v, (G.m.lookup q = some v ↔ lk G.m q = v ∧ v ≠ 0) := by
      intro G gG q v
      unfold lk
      cases hl : G.m.lookup q with
      | none => simp; intro h; exact h.symm
      | some w =>
        have := gG.mks _ (mem_lookup hl)
        simp only at this
        simp; intro h; omega
    constructor
    · rintro ⟨hl, hm⟩ x hx k hk
      by_cases h0 : chE E x.s k = 0
      · rw [h0]
        by_cases h1 : chE F x.s k = 0
        · exact h1.symm
        · exfalso
          -- a key of F that E lacks: the keys of E would be fewer
          have hF : (⟨x.s, k⟩ : PK) ∈ F.m.map Prod.fst := List.mem_map.2 ⟨_, mem_lookup (((lsome g') ⟨x.s, k⟩ _).2 ⟨rfl, h1⟩), rfl⟩
          have hsub : ∀ q ∈ E.m.map Prod.fst, q ∈ (F.m.map Prod.fst).erase ⟨x.s, k⟩ := by
            intro q hq
            obtain ⟨p, hp, rfl⟩ := List.mem_map.1 hq
            have h3 := hm p hp
            rw [g'.mnd.mem_erase_iff]
            refine ⟨fun hh => ?_, List.mem_map.2 ⟨_, mem_lookup h3, rfl⟩⟩
            have h4 := lk_mem g.mnd (show (p.1, p.2) ∈ E.m from hp)
            rw [hh] at h4
            have h5 := g.mks p hp
            unfold chE at h0
            omega
          have h6 := len_sub g.mnd hsub
          rw [List.length_erase_of_mem hF, List.length_map, List.length_map] at h6
          have h7 : 0 < F.m.length := by
            have := List.length_pos_of_mem hF
            rwa [List.length_map] at this
          omega
      · have h2 := hm (⟨x.s, k⟩, chE E x.s k) (mem_lookup (((lsome g) ⟨x.s, k⟩ _).2 ⟨rfl, h0⟩))
        exact (((lsome g') _ _).1 h2).1.symm
    · intro h
      have hall : ∀ q, lk E.m q = lk F.m q := by
        intro q
        by_cases hq : (∃ x ∈ E.hs, x.s = q.o) ∧ 0 ≤ q.k ∧ q.k < E.os.length
        · obtain ⟨⟨x, hx, hxs⟩, hk1, hk2⟩ := hq
          have h1 := h x hx q.k.toNat (by omega)
          unfold chE at h1
          have h2 : (⟨x.s, (q.k.toNat : Int)⟩ : PK) = q := by rw [pk_eq]; exact ⟨hxs, by simp only; omega⟩
          rw [h2] at h1; exact h1
        · have z1 : lk E.m q = 0 := by
            rcases lk_look (l := E.m) (q := q) with h1 | ⟨p, hp, h1, _⟩
            · exact h1
            · have h2 := g.mks p hp
              rw [h1] at h2
              exact absurd ⟨h2.1, h2.2.1, h2.2.2.1⟩ hq
          have z2 : lk F.m q = 0 := by
            rcases lk_look (l := F.m) (q := q) with h1 | ⟨p, hp, h1, _⟩
            · exact h1
            · have h2 := g'.mks p hp
              rw [h1, ← e1, ← e2] at h2
              exact absurd ⟨h2.1, h2.2.1, h2.2.2.1⟩ hq
          rw [z1, z2]
      have hfw : ∀ {G H : EL}, GoodE G → GoodE H → (∀ q, lk G.m q = lk H.m q) → ∀ p ∈ G.m, H.m.lookup p.1 = some p.2 := by
        intro G H gG gH hGH p hp
        have h1 := lk_mem gG.mnd (show (p.1, p.2) ∈ G.m from hp)
        have h2 := gG.mks p hp
        exact ((lsome gH) _ _).2 ⟨by rw [← hGH, h1], by omega⟩
      refine ⟨?_, hfw g g' hall⟩
      have s1 : (E.m.map Prod.fst).length ≤ (F.m.map Prod.fst).length := len_sub g.mnd fun q hq => by
        obtain ⟨p, hp, rfl⟩ := List.mem_map.1 hq
        exact List.mem_map.2 ⟨_, mem_lookup (hfw g g' hall p hp), rfl⟩
      have s2 : (F.m.map Prod.fst).length ≤ (E.m.map Prod.fst).length := len_sub g'.mnd fun q hq => by
        obtain ⟨p, hp, rfl⟩ := List.mem_map.1 hq
        exact List.mem_map.2 ⟨_, mem_lookup (hfw g' g (fun q => (hall q).symm) p hp), rfl⟩
      rw [List.length_map, List.length_map] at s1 s2
      omega
  constructor
  · rintro ⟨h1, h2, h3, h4, h5, h6, h7⟩
    exact ⟨h1, h2, h3, h4, h5, h7, (key h1 h2).1 h6⟩
  · rintro ⟨h1, h2, h3, h4, h5, h6, h7⟩
    exact ⟨h1, h2, h3, h4, h5, (key h1 h2).2 h7, h6⟩
theorem sam_refl (E : EL) : samE E E := ⟨rfl, rfl, rfl, rfl, rfl, rfl, fun _ _ _ _ => rfl⟩
end GL
namespace GL
open Go Go.Proofs
set_option maxRecDepth 8000
abbrev tyRE : TypeId := 34
abbrev tyRH : TypeId := 66
abbrev tyRO : TypeId := 68
abbrev tySl : TypeId := 55
structure SV where
  a : Option Addr
  n : Nat
  c : Nat
abbrev svL (x : SV) : List Value := [.slice x.a x.n x.c]
theorem svL_one (x : SV) : ∀ u ∈ svL x, u.oneCell' = true := fun u hu => by simp at hu; subst hu; rfl
def lc (c : UInt8) : Bool := (65 ≤ c && c ≤ 90) || (48 ≤ c && c ≤ 57)
theorem lc_iff (c : UInt8) : lc c = true ↔ (65 ≤ (c.toNat : Int) ∧ (c.toNat : Int) ≤ 90) ∨ (48 ≤ (c.toNat : Int) ∧ (c.toNat : Int) ≤ 57) := by
  simp only [lc, Bool.or_eq_true, Bool.and_eq_true, decide_eq_true_eq, UInt8.le_iff_toNat_le]
  have e1 : (65 : UInt8).toNat = 65 := rfl
  have e2 : (90 : UInt8).toNat = 90 := rfl
  have e3 : (48 : UInt8).toNat = 48 := rfl
  have e4 : (57 : UInt8).toNat = 57 := rfl
  rw [e1, e2, e3, e4]
  omega
def okC (s : ByteArray) : Bool := decide (¬ (s = em ∨ 16 < s.size ∨ ltS s = false))
theorem em_size {s : ByteArray} : s = em ↔ s.size = 0 := by
  constructor
  · rintro rfl; rfl
  · intro h
    apply ByteArray.ext
    exact Array.eq_empty_of_size_eq_zero h
theorem elS {s : ByteArray} {i : Nat} {c : UInt8} (h : s[i]? = some c) : elemv Tryz.prog 9 (.string s) (iV i) = some (.int .u8 (c.toNat : Int)) := by
  rw [el9 _ _ _ (by omega), Int.toNat_natCast, h]; rfl
theorem all_step {α : Type} {p : α → Bool} {l : List α} {i : Nat} {x : α} (hx : l[i]? = some x) : (l.take (i + 1)).all p = ((l.take i).all p && p x) := by
  rw [List.take_add_one, hx, List.all_append]; simp
theorem c_code (s : ByteArray) (hs : s.size ≤ 9223372036854775807) (h : Heap) : HCalls Tryz.prog 61 #[.string s] h (Pure (.bool (okC s)) h) := by
  refine hcalls2 Tryz.func61 rfl (by decide +kernel) (by simp only [Tryz.ntmps61]; exact of_decide_eq_true rfl) ?_
  intro e hin
  have e0 := hin 0 _ rfl
  refine hx_seq (hx_region ?_)
  refine WL.qq (by simp only [EN, Nat.reduceEqDiff, reduceIte, qv_assign]; rfl) ?_
  refine WL.nil (th_norm (hx_seq (hx_seq (hx_region ?_))))
  refine WL.qq (by simp only [EN, Nat.reduceEqDiff, reduceIte, qv_assign]; rfl) ?_
  refine WL.nil (th_norm (hx_block ?_))
  refine hx_loopS [2, 3, 4, 5, 6, 7, 8, 9, 10, 11, 12, 13, 14, 15, 16, 17, 18, 19, 20, 21, 22, 23, 24, 25, 26, 27, 28, 29, 30, 31, 32] (fun k e => ∃ (i : Nat), s.size - i = k ∧ (i ≤ s.size) ∧ ((s.toList.take i).all lc = true) ∧ e 3 = .int .i64 i) _ ⟨0, rfl, ?_, ?_, ?_⟩ ?_
  · omega
  · rfl
  · simp only [EN, Nat.reduceEqDiff, reduceIte, e0] <;> rfl
  ·
   rintro k e0L hfr0 ⟨i, rfl, hi, hall, i3_0⟩
   have k0_0 := hfr0 0 rfl; try simp only [EN, Nat.reduceEqDiff, reduceIte, e0] at k0_0
   refine hx_seq (hx_seq (hx_region ?_))
   iterate 4 refine WL.qq (by simp only [EN, Nat.reduceEqDiff, reduceIte, qv_move, i3_0, k0_0, qv_len, ln9, AR, qv_binOp, binv_lss]; rfl) ?_
   refine WL.nil (th_norm ?_)
   refine hx_cond (by simp only [EN, Nat.reduceEqDiff, reduceIte]; rfl) (fun hct7 => ?_) (fun hct7 => ?_)
   ·
    try simp only [BD] at hct7
    obtain ⟨c, hc, hc2⟩ := ba_at (a := s) (i := i) (by omega)
    have hel := elS hc; have hst := all_step (p := lc) hc2; rw [hall, Bool.true_and] at hst; have hli := lc_iff c
    refine hx_skip (th_norm (hx_seq (hx_block (hx_seq (hx_region ?_)))))
    iterate 5 refine WL.qq (by simp only [EN, Nat.reduceEqDiff, reduceIte, qv_move, k0_0, i3_0, qv_index, hel, qv_binOp, binv_geq]; (try simp (disch := omega) only [el9, Int.toNat_natCast]); rfl) ?_
    refine WL.cq (gd_at (t := 14) rfl (by simp only [EN, Nat.reduceEqDiff, reduceIte, k0_0] <;> rfl)) (fun hg4_5 => by simp only [EN, Nat.reduceEqDiff, reduceIte, qv_move, k0_0, hg4_5, GR]; rfl) ?_
    refine WL.cq (gd_at (t := 14) rfl (by simp only [EN, Nat.reduceEqDiff, reduceIte, i3_0] <;> rfl)) (fun hg4_6 => by simp only [EN, Nat.reduceEqDiff, reduceIte, qv_move, i3_0, hg4_6, GR]; rfl) ?_
    refine WL.cq (gd_at (t := 14) rfl (by simp only [EN, Nat.reduceEqDiff, reduceIte] <;> rfl)) (fun hg4_7 => by have hq0 := hg4_7; (try simp only [BD] at hq0); simp only [EN, Nat.reduceEqDiff, reduceIte, qv_index, hel, hg4_7, GR]; (try simp (disch := omega) only [el9, Int.toNat_natCast]); rfl) ?_
    refine WL.cq (gd_at (t := 14) rfl (by simp only [EN, Nat.reduceEqDiff, reduceIte] <;> rfl)) (fun hg4_8 => by simp only [EN, Nat.reduceEqDiff, reduceIte, qv_binOp, binv_leq, hg4_8, GR]; rfl) ?_
    iterate 2 refine WL.qq (by simp only [EN, Nat.reduceEqDiff, reduceIte, qv_pick, pk_and, pk_or, GR, qv_move]; rfl) ?_
    refine WL.cq (gd_at (t := 20) rfl (by simp only [EN, Nat.reduceEqDiff, reduceIte, k0_0] <;> rfl)) (fun hg4_11 => by simp only [EN, Nat.reduceEqDiff, reduceIte, qv_move, k0_0, hg4_11, GR]; rfl) ?_
    refine WL.cq (gd_at (t := 20) rfl (by simp only [EN, Nat.reduceEqDiff, reduceIte, i3_0] <;> rfl)) (fun hg4_12 => by simp only [EN, Nat.reduceEqDiff, reduceIte, qv_move, i3_0, hg4_12, GR]; rfl) ?_
    refine WL.cq (gd_at (t := 20) rfl (by simp only [EN, Nat.reduceEqDiff, reduceIte] <;> rfl)) (fun hg4_13 => by have hq0 := hg4_13; (try simp only [BD] at hq0); simp only [EN, Nat.reduceEqDiff, reduceIte, qv_index, hel, hg4_13, GR]; (try simp (disch := omega) only [el9, Int.toNat_natCast]); rfl) ?_
    refine WL.cq (gd_at (t := 20) rfl (by simp only [EN, Nat.reduceEqDiff, reduceIte] <;> rfl)) (fun hg4_14 => by simp only [EN, Nat.reduceEqDiff, reduceIte, qv_binOp, binv_geq, hg4_14, GR]; rfl) ?_
    refine WL.cq (gd_at (t := 20) rfl (by simp only [EN, Nat.reduceEqDiff, reduceIte] <;> rfl)) (fun hg4_15 => by simp only [EN, Nat.reduceEqDiff, reduceIte, qv_move, hg4_15, GR]; rfl) ?_
    refine WL.cq2 (t := 25) rfl (by simp only [EN, Nat.reduceEqDiff, reduceIte, k0_0]; rfl) (fun hC4_16 hg4_16 => by simp only [EN, Nat.reduceEqDiff, reduceIte, qv_move, k0_0, hC4_16, hg4_16, GR]; rfl) ?_
    refine WL.cq2 (t := 25) rfl (by simp only [EN, Nat.reduceEqDiff, reduceIte, i3_0]; rfl) (fun hC4_17 hg4_17 => by simp only [EN, Nat.reduceEqDiff, reduceIte, qv_move, i3_0, hC4_17, hg4_17, GR]; rfl) ?_
    refine WL.cq2 (t := 25) rfl (by simp only [EN, Nat.reduceEqDiff, reduceIte]; rfl) (fun hC4_18 hg4_18 => by have hC4_18o := hC4_18; (try simp only [hg4_18] at hC4_18); have hq0 := hC4_18; (try simp only [BD] at hq0); have hq1 := hg4_18; (try simp only [BD] at hq1); simp only [EN, Nat.reduceEqDiff, reduceIte, qv_index, hel, hC4_18o, hC4_18, hg4_18, GR]; (try simp (disch := omega) only [el9, Int.toNat_natCast]); rfl) ?_
    refine WL.cq2 (t := 25) rfl (by simp only [EN, Nat.reduceEqDiff, reduceIte]; rfl) (fun hC4_19 hg4_19 => by have hC4_19o := hC4_19; (try simp only [hg4_19] at hC4_19); simp only [EN, Nat.reduceEqDiff, reduceIte, qv_binOp, binv_leq, hC4_19o, hC4_19, hg4_19, GR]; rfl) ?_
    refine WL.cq (gd_at (t := 20) rfl (by simp only [EN, Nat.reduceEqDiff, reduceIte] <;> rfl)) (fun hg4_20 => by simp only [EN, Nat.reduceEqDiff, reduceIte, qv_pick, pk_and, pk_or, GR, hg4_20, GR]; rfl) ?_
    iterate 2 refine WL.qq (by simp only [EN, Nat.reduceEqDiff, reduceIte, qv_pick, pk_and, pk_or, GR, qv_unOp, unv_not]; rfl) ?_
    refine WL.nil (th_norm ?_)
    refine hx_cond (by simp only [EN, Nat.reduceEqDiff, reduceIte]; rfl) (fun hct32 => ?_) (fun hct32 => ?_)
    ·
     try simp only [BD] at hct32
     refine hx_seq (hx_region ?_)
     refine WL.qq (by simp only [EN, Nat.reduceEqDiff, reduceIte, qv_assign]; rfl) ?_
     refine WL.nil (th_norm (hx_ret (bl_ret (th_ret (th_ret (bl_ret (th_ret ?_)))))))
     refine fin_ret [.tmp 2] rfl rfl (by simp only [EN, Nat.reduceEqDiff, reduceIte, resv, k0_0, i3_0]; rfl) ?_
     exact ⟨by have h9 : lc c = false := (by rw [← Bool.not_eq_true, hli]; omega); have h8 : ltS s = false := (by rw [← Bool.not_eq_true]; intro hh; have h7 := List.all_eq_true.1 hh c (List.mem_of_getElem? hc2); change lc c = true at h7; rw [h9] at h7; cases h7); simp [retOf, okC, h8], rfl⟩
    ·
     try simp only [BD] at hct32
     refine hx_skip (bl_norm (th_norm (hx_region ?_)))
     iterate 3 refine WL.qq (by simp only [EN, Nat.reduceEqDiff, reduceIte, qv_move, i3_0, qv_binOp, binv_add, qv_assign]; (try simp (disch := omega) only [w64, w8, wu64]); rfl) ?_
     refine WL.nil (th_norm ?_)
     refine ⟨rfl, rfl, ?_, _, ?_, i + 1, rfl, ?_, ?_, ?_⟩
     · (repeat (first | exact Fr.refl _ _ | refine Fr.set rfl ?_ | refine Fr.put rfl ?_ | with_reducible refine Fr.put0 ?_))
     · omega
     · omega
     · rw [hst, hli]; omega
     · simp only [EN, Nat.reduceEqDiff, reduceIte, k0_0, i3_0] <;> first | rfl | (congr 1; omega)
   ·
    try simp only [BD] at hct7
    have hfin : ltS s = true := (by rw [List.take_of_length_le (by rw [ba_len]; omega)] at hall; exact hall)
    refine hx_exit (th_exit (th_exit (bl_hit (th_norm (hx_seq (hx_region ?_))))))
    iterate 4 refine WL.qq (by simp only [EN, Nat.reduceEqDiff, reduceIte, qv_move, k0_0, qv_len, ln9, AR, qv_binOp, binv_geq]; rfl) ?_
    refine WL.cq (gd_at (t := 36) rfl (by simp only [EN, Nat.reduceEqDiff, reduceIte, k0_0] <;> rfl)) (fun hg6_4 => by simp only [EN, Nat.reduceEqDiff, reduceIte, qv_move, k0_0, hg6_4, GR]; rfl) ?_
    refine WL.cq (gd_at (t := 36) rfl (by simp only [EN, Nat.reduceEqDiff, reduceIte] <;> rfl)) (fun hg6_5 => by simp only [EN, Nat.reduceEqDiff, reduceIte, qv_len, ln9, AR, hg6_5, GR]; rfl) ?_
    refine WL.cq (gd_at (t := 36) rfl (by simp only [EN, Nat.reduceEqDiff, reduceIte] <;> rfl)) (fun hg6_6 => by simp only [EN, Nat.reduceEqDiff, reduceIte, qv_binOp, binv_leq, hg6_6, GR]; rfl) ?_
    iterate 2 refine WL.qq (by simp only [EN, Nat.reduceEqDiff, reduceIte, qv_pick, pk_and, pk_or, GR, qv_assign]; rfl) ?_
    refine WL.nil (th_norm (hx_ret ?_))
    refine fin_ret [.tmp 2] rfl rfl (by simp only [EN, Nat.reduceEqDiff, reduceIte, resv, k0_0, i3_0]; rfl) ?_
    exact ⟨by have h8 := em_size (s := s); simp only [retOf, okC]; rw [Value.bool.injEq, hfin, Bool.eq_iff_iff]; simp; rw [h8]; omega, rfl⟩
theorem c_after (d m d' m' : Int) (h : Heap) : HCalls Tryz.prog 37 #[.agg #[.int .i64 d, .int .i64 m], .agg #[.int .i64 d', .int .i64 m']] h (Grow (.bool (decide (0 < cmpC (d, m) (d', m')))) h) := by
  refine hcalls2 Tryz.func37 rfl (by decide +kernel) (by simp only [Tryz.ntmps37]; exact of_decide_eq_true rfl) ?_
  intro e hin
  have e0 := hin 0 _ rfl
  have e1 := hin 1 _ rfl
  refine hx_seq (hx_region ?_)
  refine WL.box2 (by simp only [EN, Nat.reduceEqDiff, reduceIte, Value.cells, e0]; rfl) ?_
  intro h1 B1 hx1 hlt1 hB1
  refine WL.box2 (by simp only [EN, Nat.reduceEqDiff, reduceIte, Value.cells, e1, hB1.cell]; rfl) ?_
  intro h2 B2 hx2 hlt2 hB2
  replace hB1 := hB1.ext hx2
  refine WL.qq (by simp only [EN, Nat.reduceEqDiff, reduceIte, qv_assign, hB1.cell, hB2.cell]; rfl) ?_
  refine WL.nil (th_norm (hx_seq (hx_region ?_)))
  iterate 6 refine WL.qq (by simp only [EN, Nat.reduceEqDiff, reduceIte, qv_fieldAddr, fa25_0, Nat.zero_add, Nat.reduceAdd, hB1.cell, hB2.cell, qv_load, ld3, readN, AR, qv_binOp, binv_gtr, qv_move]; rfl) ?_
  refine WL.cq (gd_at (t := 10) rfl (by simp only [EN, Nat.reduceEqDiff, reduceIte, hB1.cell, hB2.cell] <;> rfl)) (fun hg1_6 => by simp only [EN, Nat.reduceEqDiff, reduceIte, qv_fieldAddr, fa25_0, Nat.zero_add, Nat.reduceAdd, hB1.cell, hB2.cell, hg1_6, GR]; rfl) ?_
  refine WL.cq (gd_at (t := 10) rfl (by simp only [EN, Nat.reduceEqDiff, reduceIte, hB1.cell, hB2.cell] <;> rfl)) (fun hg1_7 => by simp only [EN, Nat.reduceEqDiff, reduceIte, qv_load, ld3, readN, AR, Nat.zero_add, Nat.reduceAdd, hB1.cell, hB2.cell, hg1_7, GR]; rfl) ?_
  refine WL.cq (gd_at (t := 10) rfl (by simp only [EN, Nat.reduceEqDiff, reduceIte, hB1.cell, hB2.cell] <;> rfl)) (fun hg1_8 => by simp only [EN, Nat.reduceEqDiff, reduceIte, qv_fieldAddr, fa25_0, Nat.zero_add, Nat.reduceAdd, hB1.cell, hB2.cell, hg1_8, GR]; rfl) ?_
  refine WL.cq (gd_at (t := 10) rfl (by simp only [EN, Nat.reduceEqDiff, reduceIte, hB1.cell, hB2.cell] <;> rfl)) (fun hg1_9 => by simp only [EN, Nat.reduceEqDiff, reduceIte, qv_load, ld3, readN, AR, Nat.zero_add, Nat.reduceAdd, hB1.cell, hB2.cell, hg1_9, GR]; rfl) ?_
  refine WL.cq (gd_at (t := 10) rfl (by simp only [EN, Nat.reduceEqDiff, reduceIte, hB1.cell, hB2.cell] <;> rfl)) (fun hg1_10 => by simp only [EN, Nat.reduceEqDiff, reduceIte, qv_binOp, binv_eql, eq3, Option.map_some, hB1.cell, hB2.cell, hg1_10, GR]; rfl) ?_
  refine WL.cq (gd_at (t := 10) rfl (by simp only [EN, Nat.reduceEqDiff, reduceIte, hB1.cell, hB2.cell] <;> rfl)) (fun hg1_11 => by simp only [EN, Nat.reduceEqDiff, reduceIte, qv_move, hB1.cell, hB2.cell, hg1_11, GR]; rfl) ?_
  refine WL.cq2 (t := 16) rfl (by simp only [EN, Nat.reduceEqDiff, reduceIte, hB1.cell, hB2.cell]; rfl) (fun hC1_12 hg1_12 => by simp only [EN, Nat.reduceEqDiff, reduceIte, qv_fieldAddr, fa25_1, Nat.zero_add, Nat.reduceAdd, hB1.cell, hB2.cell, hC1_12, hg1_12, GR]; rfl) ?_
  refine WL.cq2 (t := 16) rfl (by simp only [EN, Nat.reduceEqDiff, reduceIte, hB1.cell, hB2.cell]; rfl) (fun hC1_13 hg1_13 => by simp only [EN, Nat.reduceEqDiff, reduceIte, qv_load, ld3, readN, AR, Nat.zero_add, Nat.reduceAdd, hB1.cell, hB2.cell, hC1_13, hg1_13, GR]; rfl) ?_
  refine WL.cq2 (t := 16) rfl (by simp only [EN, Nat.reduceEqDiff, reduceIte, hB1.cell, hB2.cell]; rfl) (fun hC1_14 hg1_14 => by simp only [EN, Nat.reduceEqDiff, reduceIte, qv_fieldAddr, fa25_1, Nat.zero_add, Nat.reduceAdd, hB1.cell, hB2.cell, hC1_14, hg1_14, GR]; rfl) ?_
  refine WL.cq2 (t := 16) rfl (by simp only [EN, Nat.reduceEqDiff, reduceIte, hB1.cell, hB2.cell]; rfl) (fun hC1_15 hg1_15 => by simp only [EN, Nat.reduceEqDiff, reduceIte, qv_load, ld3, readN, AR, Nat.zero_add, Nat.reduceAdd, hB1.cell, hB2.cell, hC1_15, hg1_15, GR]; rfl) ?_
  refine WL.cq2 (t := 16) rfl (by simp only [EN, Nat.reduceEqDiff, reduceIte, hB1.cell, hB2.cell]; rfl) (fun hC1_16 hg1_16 => by have hC1_16o := hC1_16; (try simp only [hg1_16] at hC1_16); simp only [EN, Nat.reduceEqDiff, reduceIte, qv_binOp, binv_gtr, hB1.cell, hB2.cell, hC1_16o, hC1_16, hg1_16, GR]; rfl) ?_
  refine WL.cq (gd_at (t := 10) rfl (by simp only [EN, Nat.reduceEqDiff, reduceIte, hB1.cell, hB2.cell] <;> rfl)) (fun hg1_17 => by simp only [EN, Nat.reduceEqDiff, reduceIte, qv_pick, pk_and, pk_or, GR, hB1.cell, hB2.cell, hg1_17, GR]; rfl) ?_
  iterate 2 refine WL.qq (by simp only [EN, Nat.reduceEqDiff, reduceIte, qv_pick, pk_and, pk_or, GR, hB1.cell, hB2.cell, qv_assign]; rfl) ?_
  refine WL.nil (th_norm (hx_ret ?_))
  refine fin_ret [.tmp 4] rfl rfl (by simp only [EN, Nat.reduceEqDiff, reduceIte, resv, e0, e1, hB1.cell, hB2.cell]; rfl) ?_
  exact ⟨by simp only [retOf, cmpC]; rw [Value.bool.injEq, Bool.eq_iff_iff]; simp; (repeat' split) <;> omega, ((hx1).trans (hx2))⟩
def rowM (E : EL) (x : SI) : List Int := (List.range E.os.length).map (chE E x.s)
theorem rowM_len {E : EL} {x : SI} : (rowM E x).length = E.os.length := by simp [rowM]
theorem rowM_at {E : EL} {x : SI} {k : Nat} (hk : k < E.os.length) : (rowM E x)[k]? = some (chE E x.s k) := by
  unfold rowM
  rw [List.getElem?_map, List.getElem?_range hk]; rfl
abbrev reV (vh vo vc : Value) (E : EL) : Value := .agg #[vh, vo, iV E.d, iV E.dd, iV E.dm, vc, .bool E.cl]
def RowI (h : Heap) (E : EL) (rows : List SV) : Prop := rows.length = E.hs.length ∧ ∀ (i : Nat) (x : SI), E.hs[i]? = some x → ∃ b c, rows[i]? = some ⟨b, E.os.length, c⟩ ∧ SlR tyI 1 intL h b (rowM E x)
structure RI (h : Heap) (vh vo vc : Value) (E : EL) : Prop where
  sh : ∃ a c, vh = .slice a E.hs.length c ∧ E.hs.length ≤ c ∧ SlR tyRH 2 siL h a E.hs
  so : ∃ a c, vo = .slice a E.os.length c ∧ E.os.length ≤ c ∧ SlR tyRO 2 siL h a E.os
  sc : ∃ a c rows, vc = .slice a E.hs.length c ∧ E.hs.length ≤ c ∧ SlR tySl 1 svL h a rows ∧ RowI h E rows
section
variable {h h' : Heap} {vh vo vc : Value} {E : EL}
theorem RowI.ext {rows : List SV} (hr : RowI h E rows) (hx : Ext h h') : RowI h' E rows := ⟨hr.1, fun i x hi => by
  obtain ⟨b, c, h1, h2⟩ := hr.2 i x hi
  exact ⟨b, c, h1, h2.ext hx⟩⟩
theorem RI.ext (hI : RI h vh vo vc E) (hx : Ext h h') : RI h' vh vo vc E := by
  obtain ⟨⟨a, c, h1, h2, h3⟩, ⟨a', c', h1', h2', h3'⟩, ⟨a2, c2, rows, h4, h5, h6, h7⟩⟩ := hI
  exact ⟨⟨a, c, h1, h2, h3.ext hx⟩, ⟨a', c', h1', h2', h3'.ext hx⟩, ⟨a2, c2, rows, h4, h5, h6.ext hx, h7.ext hx⟩⟩
theorem row_rd {a : Option Addr} {rows : List SV} (hs : SlG 1 svL h a rows) (hr : RowI h E rows) {i k : Nat} {x : SI} (hx : E.hs[i]? = some x) (hk : k < E.os.length) :
    ∃ b off b2 off2 c, a = some ⟨b, off, none⟩ ∧ GL.cell h b (off + i) = some (.slice (some ⟨b2, off2, none⟩) E.os.length c) ∧ GL.cell h b2 (off2 + k) = some (iV (chE E x.s k)) := by
  obtain ⟨b2, c, h1, h2⟩ := hr.2 i x hx
  obtain ⟨b, off, ha, hc⟩ := one_at' hs h1 rfl
  obtain ⟨g, o, hb, hc2⟩ := one_at' h2.rd (rowM_at hk) (y := iV (chE E x.s k)) rfl
  subst hb
  exact ⟨b, off, g, o, c, ha, hc, hc2⟩
end
theorem idxS_hit {s : ByteArray} {l : List SI} {i : Nat} {x : SI} (hnd : (l.map SI.s).Nodup) (hx : l[i]? = some x) (h : x.s = s) : idxS s (l.take (i + 1)) = (i : Int) := by
  have h1 := idx_of hnd hx
  have hil := (List.getElem?_eq_some_iff.1 hx).1
  rw [h] at h1
  rcases idxS_cases s l with ⟨h2, _⟩ | ⟨j, y, h2, hy, hys, hno⟩
  · omega
  · have : j = i := by omega
    subst this
    refine idxS_yes (p := y) (fun z hz => ?_) (by rw [List.getElem?_take, if_pos (by omega)]; exact hy) hys
    rw [List.take_take, Nat.min_eq_left (by omega)] at hz
    exact hno z hz
theorem idxS_miss {s : ByteArray} {l : List SI} {i : Nat} {x : SI} (hx : l[i]? = some x) (h : x.s ≠ s) : idxS s (l.take (i + 1)) = idxS s (l.take i) := by
  have hil := (List.getElem?_eq_some_iff.1 hx).1
  rcases idxS_cases s (l.take i) with ⟨h2, hno⟩ | ⟨j, y, h2, hy, hys, hno⟩
  · rw [h2]
    exact idxS_no (all_take hno hx h)
  · rw [h2]
    have hjl := (List.getElem?_eq_some_iff.1 hy).1
    rw [List.length_take] at hjl
    rw [List.getElem?_take, if_pos (by omega)] at hy
    rw [List.take_take, Nat.min_eq_left (by omega)] at hno
    refine idxS_yes (p := y) (fun z hz => ?_) (by rw [List.getElem?_take, if_pos (by omega)]; exact hy) hys
    rw [List.take_take, Nat.min_eq_left (by omega)] at hz
    exact hno z hz
section
variable {h : Heap} {vh vo vc : Value} {E : EL}
theorem c_rFind (g : GoodE E) (s o : ByteArray) (hI : RI h vh vo vc E) :
    HCalls Tryz.prog 27 #[reV vh vo vc E, .string s, .string o] h (Grow (.tuple #[iV (idxS s E.hs), iV (idxS o E.os)]) h) := by
  obtain ⟨ah, ch, rfl, _, hsh⟩ := hI.sh
  obtain ⟨ao, co, rfl, _, hso⟩ := hI.so
  have hnh := g.hn.2; have hno := g.on.2
  refine hcalls2 Tryz.func27 rfl (by decide +kernel) (by simp only [Tryz.ntmps27]; exact of_decide_eq_true rfl) ?_
  intro e hin
  have e0 := hin 0 _ rfl
  have e1 := hin 1 _ rfl
  have e2 := hin 2 _ rfl
  refine hx_seq (hx_region ?_)
  refine WL.box2 (by simp only [EN, Nat.reduceEqDiff, reduceIte, Value.cells, e0, strEq]; rfl) ?_
  intro h1 B1 hx1 hlt1 hB1
  replace hsh := hsh.ext hx1
  replace hso := hso.ext hx1
  iterate 2 refine WL.qq (by simp only [EN, Nat.reduceEqDiff, reduceIte, qv_assign, strEq, hB1.cell]; rfl) ?_
  refine WL.nil (th_norm (hx_seq (hx_region ?_)))
  iterate 2 refine WL.qq (by simp only [EN, Nat.reduceEqDiff, reduceIte, qv_assign, strEq, hB1.cell]; rfl) ?_
  refine WL.nil (th_norm (hx_seq (hx_seq (hx_region ?_))))
  refine WL.qq (by simp only [EN, Nat.reduceEqDiff, reduceIte, qv_assign, strEq, hB1.cell]; rfl) ?_
  refine WL.nil (th_norm (hx_block ?_))
  refine hx_loopS [8, 10, 12, 13, 14, 15, 16, 17, 18, 19, 20, 21, 22, 23, 24, 25, 26, 27] (fun k e => ∃ (i : Nat), E.hs.length - i = k ∧ (i ≤ E.hs.length) ∧ e 10 = .int .i64 i ∧ e 8 = iV (idxS s (E.hs.take i))) _ ⟨0, rfl, ?_, ?_, ?_⟩ ?_
  · omega
  · simp only [EN, Nat.reduceEqDiff, reduceIte, e0, e1, e2, strEq, hB1.cell] <;> rfl
  · simp only [EN, Nat.reduceEqDiff, reduceIte, e0, e1, e2, strEq, hB1.cell] <;> rfl
  ·
   rintro k e0L hfr0 ⟨i, rfl, hi, i10_0, i8_0⟩
   have k1_0 := hfr0 1 rfl; try simp only [EN, Nat.reduceEqDiff, reduceIte, e1, strEq, hB1.cell] at k1_0
   have k2_0 := hfr0 2 rfl; try simp only [EN, Nat.reduceEqDiff, reduceIte, e2, strEq, hB1.cell] at k2_0
   have k3_0 := hfr0 3 rfl; try simp only [EN, Nat.reduceEqDiff, reduceIte, strEq, hB1.cell] at k3_0
   have k9_0 := hfr0 9 rfl; try simp only [EN, Nat.reduceEqDiff, reduceIte, strEq, hB1.cell] at k9_0
   refine hx_seq (hx_seq (hx_region ?_))
   iterate 5 refine WL.qq (by simp only [EN, Nat.reduceEqDiff, reduceIte, qv_move, i10_0, strEq, hB1.cell, qv_fieldAddr, fa34_0, Nat.zero_add, Nat.reduceAdd, k3_0, qv_load, ld22, readN, AR, qv_len, ln22, qv_binOp, binv_lss]; rfl) ?_
   refine WL.nil (th_norm ?_)
   refine hx_cond (by simp only [EN, Nat.reduceEqDiff, reduceIte, strEq, hB1.cell]; rfl) (fun hct16 => ?_) (fun hct16 => ?_)
   ·
    try simp only [BD] at hct16
    obtain ⟨x, hx⟩ := atG (l := E.hs) (i := i) (by omega)
    obtain ⟨b1, o1, ha1, _, hr2, _⟩ := si_rd hsh.rd hx
    refine hx_skip (th_norm (hx_seq (hx_block (hx_seq (hx_region ?_)))))
    iterate 3 refine WL.qq (by simp only [EN, Nat.reduceEqDiff, reduceIte, qv_fieldAddr, fa34_0, Nat.zero_add, Nat.reduceAdd, k3_0, strEq, hB1.cell, qv_load, ld22, readN, AR, qv_move, i10_0]; rfl) ?_
    refine WL.qq (by simp only [EN, Nat.reduceEqDiff, reduceIte, qv_indexAddr, strEq, hB1.cell, ha1]; (try simp (disch := omega) only [ix22, Int.toNat_natCast]); rfl) ?_
    refine WL.qq (by simp only [EN, Nat.reduceEqDiff, reduceIte, qv_fieldAddr, fa66_0, Nat.zero_add, Nat.reduceAdd, strEq, hB1.cell]; rfl) ?_
    refine WL.qq (by simp only [EN, Nat.reduceEqDiff, reduceIte, k1_0, k2_0, k3_0, k9_0, i10_0, i8_0, strEq, hB1.cell, qv_load, ld9, Int.toNat_natCast, hr2]; rfl) ?_
    iterate 2 refine WL.qq (by simp only [EN, Nat.reduceEqDiff, reduceIte, qv_move, k1_0, strEq, hB1.cell, qv_binOp, binv_eql, eq9, Option.map_some]; rfl) ?_
    refine WL.nil (th_norm ?_)
    refine hx_cond (by simp only [EN, Nat.reduceEqDiff, reduceIte, strEq, hB1.cell]; rfl) (fun hct26 => ?_) (fun hct26 => ?_)
    ·
     try simp only [BD] at hct26
     have hq := idxS_hit (s := s) g.nd hx (by simpa using hct26)
     refine hx_region ?_
     iterate 2 refine WL.qq (by simp only [EN, Nat.reduceEqDiff, reduceIte, qv_move, i10_0, strEq, hB1.cell, qv_assign]; rfl) ?_
     refine WL.nil (bl_norm (th_norm (hx_region ?_)))
     iterate 3 refine WL.qq (by simp only [EN, Nat.reduceEqDiff, reduceIte, qv_move, i10_0, strEq, hB1.cell, qv_binOp, binv_add, qv_assign]; (try simp (disch := omega) only [w64, w8, wu64]); rfl) ?_
     refine WL.nil (th_norm ?_)
     refine ⟨rfl, rfl, ?_, _, ?_, i + 1, rfl, ?_, ?_, ?_⟩
     · (repeat (first | exact Fr.refl _ _ | refine Fr.set rfl ?_ | refine Fr.put rfl ?_ | with_reducible refine Fr.put0 ?_))
     · omega
     · omega
     · simp only [EN, Nat.reduceEqDiff, reduceIte, k1_0, k2_0, k3_0, k9_0, i10_0, i8_0, strEq, hB1.cell] <;> first | rfl | (congr 1; omega)
     · simp only [EN, Nat.reduceEqDiff, reduceIte, k1_0, k2_0, k3_0, k9_0, i10_0, i8_0, strEq, hB1.cell] <;> rw [hq]
    ·
     try simp only [BD] at hct26
     have hq := idxS_miss (s := s) hx (by simpa using hct26)
     refine hx_skip (bl_norm (th_norm (hx_region ?_)))
     iterate 3 refine WL.qq (by simp only [EN, Nat.reduceEqDiff, reduceIte, qv_move, i10_0, strEq, hB1.cell, qv_binOp, binv_add, qv_assign]; (try simp (disch := omega) only [w64, w8, wu64]); rfl) ?_
     refine WL.nil (th_norm ?_)
     refine ⟨rfl, rfl, ?_, _, ?_, i + 1, rfl, ?_, ?_, ?_⟩
     · (repeat (first | exact Fr.refl _ _ | refine Fr.set rfl ?_ | refine Fr.put rfl ?_ | with_reducible refine Fr.put0 ?_))
     · omega
     · omega
     · simp only [EN, Nat.reduceEqDiff, reduceIte, k1_0, k2_0, k3_0, k9_0, i10_0, i8_0, strEq, hB1.cell] <;> first | rfl | (congr 1; omega)
     · simp only [EN, Nat.reduceEqDiff, reduceIte, k1_0, k2_0, k3_0, k9_0, i10_0, i8_0, strEq, hB1.cell] <;> rw [hq]
   ·
    try simp only [BD] at hct16
    obtain rfl : i = E.hs.length := (by omega)
    rw [List.take_length] at i8_0
    refine hx_exit (th_exit (th_exit (bl_hit (th_norm (hx_seq (hx_seq (hx_region ?_)))))))
    refine WL.qq (by simp only [EN, Nat.reduceEqDiff, reduceIte, qv_assign, strEq, hB1.cell]; rfl) ?_
    refine WL.nil (th_norm (hx_block ?_))
    refine hx_loopS [9, 11, 28, 29, 30, 31, 32, 33, 34, 35, 36, 37, 38, 39, 40, 41, 42, 43] (fun k e => ∃ (j : Nat), E.os.length - j = k ∧ (j ≤ E.os.length) ∧ e 11 = .int .i64 j ∧ e 9 = iV (idxS o (E.os.take j))) _ ⟨0, rfl, ?_, ?_, ?_⟩ ?_
    · omega
    · simp only [EN, Nat.reduceEqDiff, reduceIte, k1_0, k2_0, k3_0, k9_0, i10_0, i8_0, strEq, hB1.cell] <;> rfl
    · simp only [EN, Nat.reduceEqDiff, reduceIte, k1_0, k2_0, k3_0, k9_0, i10_0, i8_0, strEq, hB1.cell] <;> rfl
    ·
     rintro k e1L hfr1 ⟨j, rfl, hj, i11_1, i9_1⟩
     have k2_1 := hfr1 2 rfl; try simp only [EN, Nat.reduceEqDiff, reduceIte, k2_0, strEq, hB1.cell] at k2_1
     have k3_1 := hfr1 3 rfl; try simp only [EN, Nat.reduceEqDiff, reduceIte, k3_0, strEq, hB1.cell] at k3_1
     have k8_1 := hfr1 8 rfl; try simp only [EN, Nat.reduceEqDiff, reduceIte, i8_0, strEq, hB1.cell] at k8_1
     refine hx_seq (hx_seq (hx_region ?_))
     iterate 5 refine WL.qq (by simp only [EN, Nat.reduceEqDiff, reduceIte, qv_move, i11_1, strEq, hB1.cell, qv_fieldAddr, fa34_1, Nat.zero_add, Nat.reduceAdd, k3_1, qv_load, ld23, readN, AR, qv_len, ln23, qv_binOp, binv_lss]; rfl) ?_
     refine WL.nil (th_norm ?_)
     refine hx_cond (by simp only [EN, Nat.reduceEqDiff, reduceIte, strEq, hB1.cell]; rfl) (fun hct32 => ?_) (fun hct32 => ?_)
     ·
      try simp only [BD] at hct32
      obtain ⟨x, hx⟩ := atG (l := E.os) (i := j) (by omega)
      obtain ⟨b1, o1, ha1, _, hr2, _⟩ := si_rd hso.rd hx
      refine hx_skip (th_norm (hx_seq (hx_block (hx_seq (hx_region ?_)))))
      iterate 3 refine WL.qq (by simp only [EN, Nat.reduceEqDiff, reduceIte, qv_fieldAddr, fa34_1, Nat.zero_add, Nat.reduceAdd, k3_1, strEq, hB1.cell, qv_load, ld23, readN, AR, qv_move, i11_1]; rfl) ?_
      refine WL.qq (by simp only [EN, Nat.reduceEqDiff, reduceIte, qv_indexAddr, strEq, hB1.cell, ha1]; (try simp (disch := omega) only [ix23, Int.toNat_natCast]); rfl) ?_
      refine WL.qq (by simp only [EN, Nat.reduceEqDiff, reduceIte, qv_fieldAddr, fa68_0, Nat.zero_add, Nat.reduceAdd, strEq, hB1.cell]; rfl) ?_
      refine WL.qq (by simp only [EN, Nat.reduceEqDiff, reduceIte, k2_1, k3_1, k8_1, i11_1, i9_1, strEq, hB1.cell, qv_load, ld9, Int.toNat_natCast, hr2]; rfl) ?_
      iterate 2 refine WL.qq (by simp only [EN, Nat.reduceEqDiff, reduceIte, qv_move, k2_1, strEq, hB1.cell, qv_binOp, binv_eql, eq9, Option.map_some]; rfl) ?_
      refine WL.nil (th_norm ?_)
      refine hx_cond (by simp only [EN, Nat.reduceEqDiff, reduceIte, strEq, hB1.cell]; rfl) (fun hct42 => ?_) (fun hct42 => ?_)
      ·
       try simp only [BD] at hct42
       have hq := idxS_hit (s := o) g.ond hx (by simpa using hct42)
       refine hx_region ?_
       iterate 2 refine WL.qq (by simp only [EN, Nat.reduceEqDiff, reduceIte, qv_move, i11_1, strEq, hB1.cell, qv_assign]; rfl) ?_
       refine WL.nil (bl_norm (th_norm (hx_region ?_)))
       iterate 3 refine WL.qq (by simp only [EN, Nat.reduceEqDiff, reduceIte, qv_move, i11_1, strEq, hB1.cell, qv_binOp, binv_add, qv_assign]; (try simp (disch := omega) only [w64, w8, wu64]); rfl) ?_
       refine WL.nil (th_norm ?_)
       refine ⟨rfl, rfl, ?_, _, ?_, j + 1, rfl, ?_, ?_, ?_⟩
       · (repeat (first | exact Fr.refl _ _ | refine Fr.set rfl ?_ | refine Fr.put rfl ?_ | with_reducible refine Fr.put0 ?_))
       · omega
       · omega
       · simp only [EN, Nat.reduceEqDiff, reduceIte, k2_1, k3_1, k8_1, i11_1, i9_1, strEq, hB1.cell] <;> first | rfl | (congr 1; omega)
       · simp only [EN, Nat.reduceEqDiff, reduceIte, k2_1, k3_1, k8_1, i11_1, i9_1, strEq, hB1.cell] <;> rw [hq]
      ·
       try simp only [BD] at hct42
       have hq := idxS_miss (s := o) hx (by simpa using hct42)
       refine hx_skip (bl_norm (th_norm (hx_region ?_)))
       iterate 3 refine WL.qq (by simp only [EN, Nat.reduceEqDiff, reduceIte, qv_move, i11_1, strEq, hB1.cell, qv_binOp, binv_add, qv_assign]; (try simp (disch := omega) only [w64, w8, wu64]); rfl) ?_
       refine WL.nil (th_norm ?_)
       refine ⟨rfl, rfl, ?_, _, ?_, j + 1, rfl, ?_, ?_, ?_⟩
       · (repeat (first | exact Fr.refl _ _ | refine Fr.set rfl ?_ | refine Fr.put rfl ?_ | with_reducible refine Fr.put0 ?_))
       · omega
       · omega
       · simp only [EN, Nat.reduceEqDiff, reduceIte, k2_1, k3_1, k8_1, i11_1, i9_1, strEq, hB1.cell] <;> first | rfl | (congr 1; omega)
       · simp only [EN, Nat.reduceEqDiff, reduceIte, k2_1, k3_1, k8_1, i11_1, i9_1, strEq, hB1.cell] <;> rw [hq]
     ·
      try simp only [BD] at hct32
      obtain rfl : j = E.os.length := (by omega)
      rw [List.take_length] at i9_1
      refine hx_exit (th_exit (th_exit (bl_hit (th_norm (hx_seq (hx_region ?_))))))
      iterate 4 refine WL.qq (by simp only [EN, Nat.reduceEqDiff, reduceIte, qv_move, k8_1, strEq, hB1.cell, i9_1, qv_assign]; rfl) ?_
      refine WL.nil (th_norm (hx_ret ?_))
      refine fin_ret [.tmp 6, .tmp 7] rfl rfl (by simp only [EN, Nat.reduceEqDiff, reduceIte, resv, k2_1, k3_1, k8_1, i11_1, i9_1, strEq, hB1.cell]; rfl) ?_
      exact ⟨rfl, (hx1)⟩
theorem c_rFree (g : GoodE E) {i : Nat} {x : SI} (hx : E.hs[i]? = some x) (hI : RI h vh vo vc E) :
    HCalls Tryz.prog 28 #[reV vh vo vc E, iV i] h (Grow (iV (x.n - sumE E x.s)) h) := by
  obtain ⟨ah, ch, rfl, _, hsh⟩ := hI.sh
  obtain ⟨ao, co, rfl, _, hso⟩ := hI.so
  obtain ⟨ac, cc, rows, rfl, _, hsc, hri⟩ := hI.sc
  have hnh := g.hn.2; have hno := g.on.2
  have hil := (List.getElem?_eq_some_iff.1 hx).1
  have hq := g.hq x (List.mem_of_getElem? hx)
  refine hcalls2 Tryz.func28 rfl (by decide +kernel) (by simp only [Tryz.ntmps28]; exact of_decide_eq_true rfl) ?_
  intro e hin
  have e0 := hin 0 _ rfl
  have e1 := hin 1 _ rfl
  refine hx_seq (hx_region ?_)
  refine WL.box2 (by simp only [EN, Nat.reduceEqDiff, reduceIte, Value.cells, e0]; rfl) ?_
  intro h1 B1 hx1 hlt1 hB1
  replace hsh := hsh.ext hx1
  replace hso := hso.ext hx1
  replace hsc := hsc.ext hx1
  replace hri := hri.ext hx1
  refine WL.qq (by simp only [EN, Nat.reduceEqDiff, reduceIte, qv_assign, hB1.cell]; rfl) ?_
  refine WL.nil (th_norm (hx_seq (hx_region ?_)))
  obtain ⟨b1, o1, ha1, _, _, hr3⟩ := si_rd hsh.rd hx
  iterate 3 refine WL.qq (by simp only [EN, Nat.reduceEqDiff, reduceIte, qv_fieldAddr, fa34_0, Nat.zero_add, Nat.reduceAdd, hB1.cell, qv_load, ld22, readN, AR, qv_move, e1]; rfl) ?_
  refine WL.qq (by simp only [EN, Nat.reduceEqDiff, reduceIte, qv_indexAddr, hB1.cell, ha1]; (try simp (disch := omega) only [ix22, Int.toNat_natCast]); rfl) ?_
  refine WL.qq (by simp only [EN, Nat.reduceEqDiff, reduceIte, qv_fieldAddr, fa66_1, Nat.zero_add, Nat.reduceAdd, hB1.cell]; rfl) ?_
  refine WL.qq (by simp only [EN, Nat.reduceEqDiff, reduceIte, e0, e1, hB1.cell, qv_load, ld2, Int.toNat_natCast, hr3]; rfl) ?_
  refine WL.qq (by simp only [EN, Nat.reduceEqDiff, reduceIte, qv_assign, hB1.cell]; rfl) ?_
  refine WL.nil (th_norm (hx_seq (hx_seq (hx_region ?_))))
  refine WL.qq (by simp only [EN, Nat.reduceEqDiff, reduceIte, qv_assign, hB1.cell]; rfl) ?_
  refine WL.nil (th_norm (hx_block ?_))
  refine hx_loopS [5, 6, 13, 14, 15, 16, 17, 18, 19, 20, 21, 22, 23, 24, 25, 26, 27, 28, 29] (fun k e => ∃ (k2 : Nat), E.os.length - k2 = k ∧ (k2 ≤ E.os.length) ∧ e 6 = .int .i64 k2 ∧ e 5 = iV (x.n - sumF (chE E x.s) ((List.range E.os.length).take k2))) _ ⟨0, rfl, ?_, ?_, ?_⟩ ?_
  · omega
  · simp only [EN, Nat.reduceEqDiff, reduceIte, e0, e1, hB1.cell] <;> rfl
  · simp only [EN, Nat.reduceEqDiff, reduceIte, e0, e1, hB1.cell] <;> simp [sumF]
  ·
   rintro k e0L hfr0 ⟨k2, rfl, hk2, i6_0, i5_0⟩
   have k1_0 := hfr0 1 rfl; try simp only [EN, Nat.reduceEqDiff, reduceIte, e1, hB1.cell] at k1_0
   have k2_0 := hfr0 2 rfl; try simp only [EN, Nat.reduceEqDiff, reduceIte, hB1.cell] at k2_0
   refine hx_seq (hx_seq (hx_region ?_))
   iterate 5 refine WL.qq (by simp only [EN, Nat.reduceEqDiff, reduceIte, qv_move, i6_0, hB1.cell, qv_fieldAddr, fa34_1, Nat.zero_add, Nat.reduceAdd, k2_0, qv_load, ld23, readN, AR, qv_len, ln23, qv_binOp, binv_lss]; rfl) ?_
   refine WL.nil (th_norm ?_)
   refine hx_cond (by simp only [EN, Nat.reduceEqDiff, reduceIte, hB1.cell]; rfl) (fun hct17 => ?_) (fun hct17 => ?_)
   ·
    try simp only [BD] at hct17
    obtain ⟨b2, o2, b3, o3, c3, ha2, hc2, hc3⟩ := row_rd hsc.rd hri hx (k := k2) (by omega)
    have hst := sumF_step (f := chE E x.s) (l := List.range E.os.length) (i := k2) (x := k2) (by rw [List.getElem?_range (by omega)])
    have hb1 := g.b.part x.s (k2 + 1); have hb0 := g.b.part x.s k2; rw [hst] at hb1; have hbc := g.che x.s k2
    refine hx_skip (th_norm (hx_seq (hx_block (hx_region ?_))))
    iterate 4 refine WL.qq (by simp only [EN, Nat.reduceEqDiff, reduceIte, qv_move, i5_0, hB1.cell, qv_fieldAddr, fa34_4, Nat.zero_add, Nat.reduceAdd, k2_0, qv_load, ld32, readN, AR, k1_0]; rfl) ?_
    refine WL.qq (by simp only [EN, Nat.reduceEqDiff, reduceIte, qv_indexAddr, hB1.cell, ha2]; (try simp (disch := omega) only [ix32, Int.toNat_natCast]); rfl) ?_
    refine WL.qq (by simp only [EN, Nat.reduceEqDiff, reduceIte, k1_0, k2_0, i6_0, i5_0, hB1.cell, qv_load, ld55, Int.toNat_natCast, Nat.mul_one, hc2]; rfl) ?_
    iterate 2 refine WL.qq (by simp only [EN, Nat.reduceEqDiff, reduceIte, qv_move, i6_0, hB1.cell, qv_indexAddr]; (try simp (disch := omega) only [ix55, Int.toNat_natCast]); rfl) ?_
    refine WL.qq (by simp only [EN, Nat.reduceEqDiff, reduceIte, k1_0, k2_0, i6_0, i5_0, hB1.cell, qv_load, ld2, Int.toNat_natCast, Nat.mul_one, hc3]; rfl) ?_
    iterate 2 refine WL.qq (by simp only [EN, Nat.reduceEqDiff, reduceIte, qv_binOp, binv_sub, hB1.cell, qv_assign]; (try simp (disch := omega) only [w64, w8, wu64]); rfl) ?_
    refine WL.nil (bl_norm (th_norm (hx_region ?_)))
    iterate 3 refine WL.qq (by simp only [EN, Nat.reduceEqDiff, reduceIte, qv_move, i6_0, hB1.cell, qv_binOp, binv_add, qv_assign]; (try simp (disch := omega) only [w64, w8, wu64]); rfl) ?_
    refine WL.nil (th_norm ?_)
    refine ⟨rfl, rfl, ?_, _, ?_, k2 + 1, rfl, ?_, ?_, ?_⟩
    · (repeat (first | exact Fr.refl _ _ | refine Fr.set rfl ?_ | refine Fr.put rfl ?_ | with_reducible refine Fr.put0 ?_))
    · omega
    · omega
    · simp only [EN, Nat.reduceEqDiff, reduceIte, k1_0, k2_0, i6_0, i5_0, hB1.cell] <;> first | rfl | (congr 1; omega)
    · simp only [EN, Nat.reduceEqDiff, reduceIte, k1_0, k2_0, i6_0, i5_0, hB1.cell] <;> rw [hst]; congr 1; omega
   ·
    try simp only [BD] at hct17
    refine hx_exit (th_exit (th_exit (bl_hit (th_norm (hx_seq (hx_region ?_))))))
    iterate 2 refine WL.qq (by simp only [EN, Nat.reduceEqDiff, reduceIte, qv_move, i5_0, hB1.cell, qv_assign]; rfl) ?_
    refine WL.nil (th_norm (hx_ret ?_))
    refine fin_ret [.tmp 4] rfl rfl (by simp only [EN, Nat.reduceEqDiff, reduceIte, resv, k1_0, k2_0, i6_0, i5_0, hB1.cell]; rfl) ?_
    exact ⟨by rw [List.take_of_length_le (by rw [List.length_range]; omega)]; rfl, (hx1)⟩
end
end GL
namespace GL
open Go Go.Proofs
set_option maxRecDepth 8000
abbrev zRE : Value := .agg #[.slice none 0 0, .slice none 0 0, iV 0, iV 0, iV 0, .slice none 0 0, .bool false]
theorem sl_lo {α : Type} {P : Program} {t el : TypeId} {sz : Nat} {f : α → List Value} {h : Heap} {a : Option Addr} {L : List α} {cap : Nat} (hu : P.underlying t = some (.slice el)) (hz : sizeB P el = some sz) (hs : SlG sz f h a L)
    (hc : L.length ≤ cap) (hn : a = none → cap = 0) (ha : ∀ x, a = some x → ∃ g, x = ⟨g, 0, none⟩) (lo : Nat) (hl : lo ≤ L.length) :
    ∃ a', slicev P t (.slice a L.length cap) (some (iV lo)) none none = some (.slice a' (L.length - lo) (cap - lo)) ∧ SlG sz f h a' (L.drop lo) ∧ (a' = none → cap - lo = 0) := by
  cases a with
  | none =>
    have h1 := hn rfl
    subst h1
    obtain rfl : L = [] := hs.emp
    have h2 := slicev_lo hu hz (P := P) none 0 0 .i64 (lo : Int) (by omega) (by simpa using hl) (Nat.le_refl _)
    refine ⟨none, ?_, by rw [List.drop_nil]; exact SlG.nil, fun _ => by omega⟩
    simp only [Option.map_none, ite_self, Int.toNat_natCast] at h2
    exact h2
  | some x =>
    obtain ⟨g, rfl⟩ := ha x rfl
    have h2 := slicev_l hu hz (P := P) g 0 L.length cap .i64 (lo : Int) (by omega) (by omega)
    rw [Int.toNat_natCast] at h2
    exact ⟨_, h2, hs.drop lo hc, fun hh => by cases hh⟩
theorem idxS_hit2 {s : ByteArray} {l : List SI} {i : Nat} {x : SI} (hno : ∀ y ∈ l.take i, y.s ≠ x.s) (hx : l[i]? = some x) (h : x.s = s) : idxS s (l.take (i + 1)) = (i : Int) := by
  have hil := (List.getElem?_eq_some_iff.1 hx).1
  refine idxS_yes (p := x) (fun z hz => ?_) (by rw [List.getElem?_take, if_pos (by omega)]; exact hx) h
  rw [List.take_take, Nat.min_eq_left (by omega)] at hz
  rw [← h]; exact hno z hz
theorem ordH_step {l : List SI} {i : Nat} {x : SI} (hx : l[i]? = some x) : ordH (l.take (i + 1)) = insH x (ordH (l.take i)) := by
  unfold ordH
  rw [List.take_add_one, hx, List.foldl_append]; rfl
theorem insH_len (x : SI) (out : List SI) : (insH x out).length = out.length + 1 := (insH_perm x out).length_eq
theorem ordH_len : ∀ {l : List SI} {i : Nat}, i ≤ l.length → (ordH (l.take i)).length = i
  | l, 0, _ => by simp [ordH]
  | l, i + 1, h => by
    obtain ⟨x, hx⟩ := atG (l := l) (i := i) (by omega)
    rw [ordH_step hx, insH_len, ordH_len (by omega)]
def Spec.lr (N n : Nat) : Spec := ⟨fun v => ∃ B, N ≤ B ∧ v = .slice (some ⟨B, 0, none⟩) 1 1,
  fun v h => ∀ B, v = .slice (some ⟨B, 0, none⟩) 1 1 → ∃ x : SV, x.n = n ∧ Has h B (.cells #[.slice x.a x.n x.c] tySl) ∧ SlR tyI 1 intL h x.a (List.replicate n (0 : Int)),
  ⟨.slice (some ⟨N, 0, none⟩) 1 1, N, Nat.le_refl _, rfl⟩, fun v h h' hx hm B hv => by
    obtain ⟨x, h1, h2, h3⟩ := hm B hv
    exact ⟨x, h1, h2.ext hx, h3.ext hx⟩⟩
def RowZ (h : Heap) (n : Nat) (rows : List SV) : Prop := ∀ v ∈ rows, v.n = n ∧ SlR tyI 1 intL h v.a (List.replicate n (0 : Int))
section
variable {h h' : Heap} {n : Nat} {rows : List SV}
theorem RowZ.ext (hr : RowZ h n rows) (hx : Ext h h') : RowZ h' n rows := fun v hv => by
  exact ⟨(hr v hv).1, (hr v hv).2.ext hx⟩
theorem RowZ.wr {b : Nat} {o : Obj} {c : Array Value} {T : TypeId} (hr : RowZ h n rows) (hw : Wr h h' b o) (hb : Has h b (.cells c T)) (hT : T ≠ tyI) : RowZ h' n rows := fun v hv => by
  exact ⟨(hr v hv).1, (hr v hv).2.wr hw hb hT⟩
theorem RowZ.gro {el : TypeId} {sz N m : Nat} {v : Value} {xs : List Value} (hr : RowZ h n rows) (hg : Gr h h' v.ownBlock) (ho : Own h N el sz v m xs) (hT : el ≠ tyI) : RowZ h' n rows := fun v hv => by
  exact ⟨(hr v hv).1, (hr v hv).2.gro hg ho hT⟩
end
theorem rowM_new (l os : List SI) (s : ByteArray) (d m : Int) (x : SI) : rowM (newE l os s d m) x = List.replicate os.length 0 := by
  unfold rowM
  have : (newE l os s d m).os = os := rfl
  rw [this]
  apply List.ext_getElem?
  intro j
  rw [List.getElem?_map, List.getElem?_replicate]
  by_cases hj : j < os.length
  · rw [List.getElem?_range hj, if_pos hj]; rfl
  · rw [if_neg hj, List.getElem?_eq_none (by rw [List.length_range]; omega)]; rfl
set_option maxHeartbeats 4000000 in
theorem c_rNew (al : Option Addr) (l : List SI) (cl : Nat) (ao : Option Addr) (os : List SI) (co : Nat) (s : ByteArray) (d m : Int) (hl : l.length ≤ 1000000) (hol : os.length ≤ 1000000) (hb : ∀ x ∈ os, x.s.size ≤ 9223372036854775807) (hon : ao = none → co = 0)
    {h : Heap} (hs : SlG 2 siL h al l) (ho : SlG 2 siL h ao os) :
    HCalls Tryz.prog 46 #[.slice al l.length cl, .slice ao os.length co, .string s, .agg #[iV d, iV m]] h fun v h' => Ext h h' ∧ ∃ w, v = .tuple #[w, iV (erN l os s d m)] ∧
      ((erN l os s d m ≠ 0 ∧ w = zRE) ∨ (erN l os s d m = 0 ∧ ∃ vh vo vc, w = reV vh vo vc (newE l os s d m) ∧ RI h' vh vo vc (newE l os s d m))) := by
  have hs0 := hs
  have ho0 := ho
  refine hcalls2 Tryz.func46 rfl (by decide +kernel) (by simp only [Tryz.ntmps46]; exact of_decide_eq_true rfl) ?_
  intro e hin
  have e0 := hin 0 _ rfl
  have e1 := hin 1 _ rfl
  have e2 := hin 2 _ rfl
  have e3 := hin 3 _ rfl
  refine hx_seq (hx_region ?_)
  refine WL.box2 (by simp only [EN, Nat.reduceEqDiff, reduceIte, Value.cells, e3, strEq]; rfl) ?_
  intro h1 B1 hx1 hlt1 hB1
  replace hs := hs.ext hx1
  replace ho := ho.ext hx1
  refine WL.alloc2 zr34 ?_
  intro h2 B2 hx2 hlt2 hB2
  replace hs := hs.ext hx2
  replace ho := ho.ext hx2
  replace hB1 := hB1.ext hx2
  simp only [Value.cells] at hB2
  refine WL.qq (by simp only [EN, Nat.reduceEqDiff, reduceIte, qv_assign, strEq, hB1.cell, hB2.cell]; rfl) ?_
  refine WL.nil (th_norm (hx_seq (hx_seq (hx_region ?_))))
  iterate 4 refine WL.qq (by simp only [EN, Nat.reduceEqDiff, reduceIte, qv_move, e0, strEq, hB1.cell, hB2.cell, qv_len, ln22, AR, qv_binOp, binv_eql, eq3, Option.map_some]; rfl) ?_
  refine WL.cq (gd_at (t := 23) rfl (by simp only [EN, Nat.reduceEqDiff, reduceIte, e0, strEq, hB1.cell, hB2.cell] <;> rfl)) (fun hg1_4 => by simp only [EN, Nat.reduceEqDiff, reduceIte, qv_move, e0, strEq, hB1.cell, hB2.cell, hg1_4, GR]; rfl) ?_
  refine WL.cq (gd_at (t := 23) rfl (by simp only [EN, Nat.reduceEqDiff, reduceIte, strEq, hB1.cell, hB2.cell] <;> rfl)) (fun hg1_5 => by simp only [EN, Nat.reduceEqDiff, reduceIte, qv_len, ln22, AR, strEq, hB1.cell, hB2.cell, hg1_5, GR]; rfl) ?_
  refine WL.cq (gd_at (t := 23) rfl (by simp only [EN, Nat.reduceEqDiff, reduceIte, strEq, hB1.cell, hB2.cell] <;> rfl)) (fun hg1_6 => by simp only [EN, Nat.reduceEqDiff, reduceIte, qv_binOp, binv_gtr, strEq, hB1.cell, hB2.cell, hg1_6, GR]; rfl) ?_
  refine WL.qq (by simp only [EN, Nat.reduceEqDiff, reduceIte, qv_pick, pk_and, pk_or, GR, strEq, hB1.cell, hB2.cell]; rfl) ?_
  refine WL.nil (th_norm ?_)
  refine hx_cond (by simp only [EN, Nat.reduceEqDiff, reduceIte, strEq, hB1.cell, hB2.cell]; rfl) (fun hct27 => ?_) (fun hct27 => ?_)
  ·
   try simp only [BD] at hct27
   refine hx_seq (hx_region ?_)
   refine WL.qq (by refine qv_bld (by simp only [EN, Nat.reduceEqDiff, reduceIte, AR, strEq, hB1.cell, hB2.cell] <;> rfl) (by rw [bl34]; simp [Instr.fill, Value.cells]; rfl)) ?_
   refine WL.store (by simp only [EN, Nat.reduceEqDiff, reduceIte, strEq, hB1.cell, hB2.cell] <;> rfl) sz34 (by simp only [EN, Nat.reduceEqDiff, reduceIte, Value.cells, strEq, hB1.cell, hB2.cell] <;> rfl) rfl hB2 (by first | (simp [true_and]; done) | (simp [true_and]; omega) | omega) (by simp [Value.oneCell']) ?_
   intro h3 hw3
   have hXe := hw3.ext ((hx1).trans (hx2)) (by have := hx1.size; omega)
   replace hB2 := hw3.at_
   try simp only [splc, List.take_succ_cons, List.take_zero, List.take_nil, List.drop_succ_cons, List.drop_zero, List.drop_nil, List.cons_append, List.nil_append, List.length_cons, List.length_nil, Nat.zero_add, Nat.add_zero, Nat.reduceAdd, List.append_nil] at hB2
   refine WL.qq (by simp only [EN, Nat.reduceEqDiff, reduceIte, qv_assign, strEq, hB1.cell, hB2.cell]; rfl) ?_
   refine WL.nil (th_norm (hx_ret (th_ret ?_)))
   refine fin_ret [.cell 8 34, .tmp 9] rfl rfl (by simp only [EN, Nat.reduceEqDiff, reduceIte, resv, ld34, readN, AR, Nat.zero_add, Nat.reduceAdd, e0, e1, e2, e3, strEq, hB1.cell, hB2.cell]; rfl) ?_
   have hz2 : erH l = 8 := (by rw [erH, if_pos (by omega)])
   have he : erN l os s d m = 8 := (by unfold erN; rw [hz2]; rfl)
   exact ⟨hXe, _, by rw [he]; rfl, .inl ⟨by rw [he]; decide, rfl⟩⟩
  ·
   try simp only [BD] at hct27
   have hne : ¬ (l.length = 0 ∨ 1024 < l.length) := (by omega)
   have her : erH l = if goH [] l ≠ 0 then goH [] l else if 1000000000000000 < sumF SI.n l then 12 else 0 := if_neg hne
   have hX2 := ((hx1).trans (hx2)); have hb2 : h.size ≤ B2 := (by have := hx1.size; omega)
   refine hx_skip (th_norm (hx_seq (hx_region ?_)))
   refine WL.qq (by simp only [EN, Nat.reduceEqDiff, reduceIte, qv_assign, strEq, hB1.cell, hB2.cell]; rfl) ?_
   refine WL.nil (th_norm (hx_seq (hx_seq (hx_region ?_))))
   refine WL.qq (by simp only [EN, Nat.reduceEqDiff, reduceIte, qv_assign, strEq, hB1.cell, hB2.cell]; rfl) ?_
   refine WL.nil (th_norm (hx_block ?_))
   refine hx_loopS [9, 10, 11, 12, 29, 30, 31, 32, 33, 34, 35, 36, 37, 38, 39, 40, 41, 42, 43, 44, 45, 46, 47, 48, 49, 50, 51, 52, 53, 54, 55, 56, 57, 58, 59, 60, 61, 62, 63, 64, 65, 66, 67, 68, 69, 70, 71, 72, 73, 74, 75, 76, 77, 78, 79, 80] (fun k e => ∃ (i : Nat), l.length - i = k ∧ (i ≤ l.length) ∧ (goH (l.take i) (l.drop i) = goH [] l) ∧ (∀ y ∈ l.take i, 0 ≤ y.n ∧ y.n ≤ 1000000000000000) ∧ e 11 = .int .i64 i ∧ e 10 = iV (sumF SI.n (l.take i))) _ ⟨0, rfl, ?_, ?_, ?_, ?_, ?_⟩ ?_
   · omega
   · rfl
   · intro y hy; simp at hy
   · simp only [EN, Nat.reduceEqDiff, reduceIte, e0, e1, e2, e3, strEq, hB1.cell, hB2.cell] <;> rfl
   · simp only [EN, Nat.reduceEqDiff, reduceIte, e0, e1, e2, e3, strEq, hB1.cell, hB2.cell] <;> rfl
   ·
    rintro k e0L hfr0 ⟨i, rfl, hi, hg, hq, i11_0, i10_0⟩
    have k0_0 := hfr0 0 rfl; try simp only [EN, Nat.reduceEqDiff, reduceIte, e0, strEq, hB1.cell, hB2.cell] at k0_0
    have k1_0 := hfr0 1 rfl; try simp only [EN, Nat.reduceEqDiff, reduceIte, e1, strEq, hB1.cell, hB2.cell] at k1_0
    have k2_0 := hfr0 2 rfl; try simp only [EN, Nat.reduceEqDiff, reduceIte, e2, strEq, hB1.cell, hB2.cell] at k2_0
    have k7_0 := hfr0 7 rfl; try simp only [EN, Nat.reduceEqDiff, reduceIte, strEq, hB1.cell, hB2.cell] at k7_0
    have k8_0 := hfr0 8 rfl; try simp only [EN, Nat.reduceEqDiff, reduceIte, strEq, hB1.cell, hB2.cell] at k8_0
    refine hx_seq (hx_seq (hx_region ?_))
    iterate 4 refine WL.qq (by simp only [EN, Nat.reduceEqDiff, reduceIte, qv_move, i11_0, strEq, hB1.cell, hB2.cell, k0_0, qv_len, ln22, AR, qv_binOp, binv_lss]; rfl) ?_
    refine WL.nil (th_norm ?_)
    refine hx_cond (by simp only [EN, Nat.reduceEqDiff, reduceIte, strEq, hB1.cell, hB2.cell]; rfl) (fun hct32 => ?_) (fun hct32 => ?_)
    ·
     try simp only [BD] at hct32
     obtain ⟨x, hx⟩ := atG (l := l) (i := i) (by omega)
     obtain ⟨b1, o1, ha1, hr1, hr2, hr3⟩ := si_rd hs hx
     have hst := goH_step hx; rw [hg] at hst; have hsu := sumF_step (f := SI.n) hx; have hsb := sumF_bd hq; have hln : (l.take i).length ≤ 1024 := (by rw [List.length_take]; omega)
     refine hx_skip (th_norm (hx_seq (hx_block (hx_seq (hx_seq (hx_region ?_))))))
     iterate 3 refine WL.qq (by simp only [EN, Nat.reduceEqDiff, reduceIte, qv_move, k0_0, strEq, hB1.cell, hB2.cell, i11_0, qv_indexAddr, ha1]; (try simp (disch := omega) only [ix22, Int.toNat_natCast]); rfl) ?_
     refine WL.qq (by simp only [EN, Nat.reduceEqDiff, reduceIte, qv_fieldAddr, fa66_0, Nat.zero_add, Nat.reduceAdd, strEq, hB1.cell, hB2.cell]; rfl) ?_
     refine WL.qq (by simp only [EN, Nat.reduceEqDiff, reduceIte, k0_0, k1_0, k2_0, k7_0, k8_0, i11_0, i10_0, strEq, hB1.cell, hB2.cell, qv_load, ld9, Int.toNat_natCast, hr2]; rfl) ?_
     refine WL.qq (by simp only [EN, Nat.reduceEqDiff, reduceIte, qv_binOp, binv_eql, eq9, Option.map_some, strEq, hB1.cell, hB2.cell]; rfl) ?_
     refine WL.nil (th_norm ?_)
     refine hx_cond (by simp only [EN, Nat.reduceEqDiff, reduceIte, strEq, hB1.cell, hB2.cell]; rfl) (fun hct40 => ?_) (fun hct40 => ?_)
     ·
      try simp only [BD] at hct40
      refine hx_seq (hx_region ?_)
      refine WL.qq (by refine qv_bld (by simp only [EN, Nat.reduceEqDiff, reduceIte, AR, strEq, hB1.cell, hB2.cell] <;> rfl) (by rw [bl34]; simp [Instr.fill, Value.cells]; rfl)) ?_
      refine WL.store (by simp only [EN, Nat.reduceEqDiff, reduceIte, k8_0, strEq, hB1.cell, hB2.cell] <;> rfl) sz34 (by simp only [EN, Nat.reduceEqDiff, reduceIte, Value.cells, k8_0, strEq, hB1.cell, hB2.cell] <;> rfl) rfl hB2 (by first | (simp [true_and]; done) | (simp [true_and]; omega) | omega) (by simp [Value.oneCell']) ?_
      intro h4 hw4
      have hXe := hw4.ext hX2 hb2
      replace hB2 := hw4.at_
      try simp only [splc, List.take_succ_cons, List.take_zero, List.take_nil, List.drop_succ_cons, List.drop_zero, List.drop_nil, List.cons_append, List.nil_append, List.length_cons, List.length_nil, Nat.zero_add, Nat.add_zero, Nat.reduceAdd, List.append_nil] at hB2
      refine WL.qq (by simp only [EN, Nat.reduceEqDiff, reduceIte, qv_assign, strEq, hB1.cell, hB2.cell]; rfl) ?_
      refine WL.nil (th_norm (hx_ret (th_ret (bl_ret (th_ret (th_ret (bl_ret (th_ret ?_))))))))
      refine fin_ret [.cell 8 34, .tmp 9] rfl rfl (by simp only [EN, Nat.reduceEqDiff, reduceIte, resv, ld34, readN, AR, Nat.zero_add, Nat.reduceAdd, k0_0, k1_0, k2_0, k7_0, k8_0, i11_0, i10_0, strEq, hB1.cell, hB2.cell]; rfl) ?_
      have hz : ckH (l.take i) x = 6 := if_pos (by simpa using hct40)
      have hz2 : erH l = 6 := (by rw [her, hst, hz]; rfl)
      have he : erN l os s d m = 6 := (by unfold erN; rw [hz2]; rfl)
      exact ⟨hXe, _, by rw [he]; rfl, .inl ⟨by rw [he]; decide, rfl⟩⟩
     ·
      try simp only [BD] at hct40
      have c1 : ¬ x.s = em := (by simpa using hct40)
      refine hx_skip (th_norm (hx_seq (hx_seq (hx_region ?_))))
      refine WL.qq (by simp only [EN, Nat.reduceEqDiff, reduceIte, qv_assign, strEq, hB1.cell, hB2.cell]; rfl) ?_
      refine WL.nil (th_norm (hx_block ?_))
      refine hx_loopS [9, 12, 42, 43, 44, 45, 46, 47, 48, 49, 50, 51, 52, 53, 54, 55, 56, 57, 58] (fun k e => ∃ (j : Nat), i - j = k ∧ (j ≤ i) ∧ ((∀ y ∈ l.take j, y.s ≠ x.s)) ∧ e 12 = .int .i64 j) _ ⟨0, rfl, ?_, ?_, ?_⟩ ?_
      · omega
      · intro y hy; simp at hy
      · simp only [EN, Nat.reduceEqDiff, reduceIte, k0_0, k1_0, k2_0, k7_0, k8_0, i11_0, i10_0, strEq, hB1.cell, hB2.cell] <;> rfl
      ·
       rintro k e1L hfr1 ⟨j, rfl, hj, hno, i12_1⟩
       have k0_1 := hfr1 0 rfl; try simp only [EN, Nat.reduceEqDiff, reduceIte, k0_0, strEq, hB1.cell, hB2.cell] at k0_1
       have k1_1 := hfr1 1 rfl; try simp only [EN, Nat.reduceEqDiff, reduceIte, k1_0, strEq, hB1.cell, hB2.cell] at k1_1
       have k2_1 := hfr1 2 rfl; try simp only [EN, Nat.reduceEqDiff, reduceIte, k2_0, strEq, hB1.cell, hB2.cell] at k2_1
       have k7_1 := hfr1 7 rfl; try simp only [EN, Nat.reduceEqDiff, reduceIte, k7_0, strEq, hB1.cell, hB2.cell] at k7_1
       have k8_1 := hfr1 8 rfl; try simp only [EN, Nat.reduceEqDiff, reduceIte, k8_0, strEq, hB1.cell, hB2.cell] at k8_1
       have k10_1 := hfr1 10 rfl; try simp only [EN, Nat.reduceEqDiff, reduceIte, i10_0, strEq, hB1.cell, hB2.cell] at k10_1
       have k11_1 := hfr1 11 rfl; try simp only [EN, Nat.reduceEqDiff, reduceIte, i11_0, strEq, hB1.cell, hB2.cell] at k11_1
       refine hx_seq (hx_seq (hx_region ?_))
       iterate 3 refine WL.qq (by simp only [EN, Nat.reduceEqDiff, reduceIte, qv_move, i12_1, strEq, hB1.cell, hB2.cell, k11_1, qv_binOp, binv_lss]; rfl) ?_
       refine WL.nil (th_norm ?_)
       refine hx_cond (by simp only [EN, Nat.reduceEqDiff, reduceIte, strEq, hB1.cell, hB2.cell]; rfl) (fun hct44 => ?_) (fun hct44 => ?_)
       ·
        try simp only [BD] at hct44
        obtain ⟨y, hy⟩ := atG (l := l) (i := j) (by omega)
        obtain ⟨b2, o2, ha2, _, hr22, _⟩ := si_rd hs hy
        refine hx_skip (th_norm (hx_seq (hx_block (hx_seq ?_))))
        apply hx_draw2 Rel.same [] [] [] rfl (by decide +kernel) rfl
        iterate 3 refine LD.qq rfl rfl (by simp only [EN, Nat.reduceEqDiff, reduceIte, qv_move, k0_1, strEq, hB1.cell, hB2.cell, i12_1, qv_indexAddr, ha2]; (try simp (disch := omega) only [ix22, Int.toNat_natCast]); rfl) ?_
        refine LD.qq rfl rfl (by simp only [EN, Nat.reduceEqDiff, reduceIte, qv_fieldAddr, fa66_0, Nat.zero_add, Nat.reduceAdd, strEq, hB1.cell, hB2.cell]; rfl) ?_
        refine LD.qq rfl rfl (by simp only [EN, Nat.reduceEqDiff, reduceIte, k0_1, k1_1, k2_1, k7_1, k8_1, k10_1, k11_1, i12_1, strEq, hB1.cell, hB2.cell, qv_load, ld9, Int.toNat_natCast, hr22]; rfl) ?_
        iterate 3 refine LD.qq rfl rfl (by simp only [EN, Nat.reduceEqDiff, reduceIte, qv_move, k0_1, strEq, hB1.cell, hB2.cell, k11_1, qv_indexAddr, ha1]; (try simp (disch := omega) only [ix22, Int.toNat_natCast]); rfl) ?_
        refine LD.qq rfl rfl (by simp only [EN, Nat.reduceEqDiff, reduceIte, qv_fieldAddr, fa66_0, Nat.zero_add, Nat.reduceAdd, strEq, hB1.cell, hB2.cell]; rfl) ?_
        refine LD.qq rfl rfl (by simp only [EN, Nat.reduceEqDiff, reduceIte, k0_1, k1_1, k2_1, k7_1, k8_1, k10_1, k11_1, i12_1, strEq, hB1.cell, hB2.cell, qv_load, ld9, Int.toNat_natCast, hr2]; rfl) ?_
        refine LD.qq rfl rfl (by simp only [EN, Nat.reduceEqDiff, reduceIte, qv_binOp, binv_eql, eq9, Option.map_some, strEq, hB1.cell, hB2.cell]; rfl) ?_
        refine LD.nil ?_
        rintro h2 rfl -
        refine WL.nil (th_norm ?_)
        refine hx_cond (by simp only [EN, Nat.reduceEqDiff, reduceIte, strEq, hB1.cell, hB2.cell]; rfl) (fun hct57 => ?_) (fun hct57 => ?_)
        ·
         try simp only [BD] at hct57
         refine hx_seq (hx_region ?_)
         refine WL.qq (by refine qv_bld (by simp only [EN, Nat.reduceEqDiff, reduceIte, AR, strEq, hB1.cell, hB2.cell] <;> rfl) (by rw [bl34]; simp [Instr.fill, Value.cells]; rfl)) ?_
         refine WL.store (by simp only [EN, Nat.reduceEqDiff, reduceIte, k8_1, strEq, hB1.cell, hB2.cell] <;> rfl) sz34 (by simp only [EN, Nat.reduceEqDiff, reduceIte, Value.cells, k8_1, strEq, hB1.cell, hB2.cell] <;> rfl) rfl hB2 (by first | (simp [true_and]; done) | (simp [true_and]; omega) | omega) (by simp [Value.oneCell']) ?_
         intro h5 hw5
         have hXe := hw5.ext hX2 hb2
         replace hB2 := hw5.at_
         try simp only [splc, List.take_succ_cons, List.take_zero, List.take_nil, List.drop_succ_cons, List.drop_zero, List.drop_nil, List.cons_append, List.nil_append, List.length_cons, List.length_nil, Nat.zero_add, Nat.add_zero, Nat.reduceAdd, List.append_nil] at hB2
         refine WL.qq (by simp only [EN, Nat.reduceEqDiff, reduceIte, qv_assign, strEq, hB1.cell, hB2.cell]; rfl) ?_
         refine WL.nil (th_norm (hx_ret (bl_ret (th_ret (th_ret (bl_ret (th_ret (bl_ret (th_ret (th_ret (bl_ret (th_ret ?_))))))))))))
         refine fin_ret [.cell 8 34, .tmp 9] rfl rfl (by simp only [EN, Nat.reduceEqDiff, reduceIte, resv, ld34, readN, AR, Nat.zero_add, Nat.reduceAdd, k0_1, k1_1, k2_1, k7_1, k8_1, k10_1, k11_1, i12_1, strEq, hB1.cell, hB2.cell]; rfl) ?_
         have hz : ckH (l.take i) x = 7 := (by unfold ckH; rw [if_neg c1, if_pos (List.any_eq_true.2 ⟨y, List.mem_of_getElem? (i := j) (by rw [List.getElem?_take, if_pos (by omega)]; exact hy), by simpa using hct57⟩)])
         have hz2 : erH l = 7 := (by rw [her, hst, hz]; rfl)
         have he : erN l os s d m = 7 := (by unfold erN; rw [hz2]; rfl)
         exact ⟨hXe, _, by rw [he]; rfl, .inl ⟨by rw [he]; decide, rfl⟩⟩
        ·
         try simp only [BD] at hct57
         refine hx_skip (bl_norm (th_norm (hx_region ?_)))
         iterate 3 refine WL.qq (by simp only [EN, Nat.reduceEqDiff, reduceIte, qv_move, i12_1, strEq, hB1.cell, hB2.cell, qv_binOp, binv_add, qv_assign]; (try simp (disch := omega) only [w64, w8, wu64]); rfl) ?_
         refine WL.nil (th_norm ?_)
         refine ⟨rfl, rfl, ?_, _, ?_, j + 1, rfl, ?_, ?_, ?_⟩
         · (repeat (first | exact Fr.refl _ _ | refine Fr.set rfl ?_ | refine Fr.put rfl ?_ | with_reducible refine Fr.put0 ?_))
         · omega
         · omega
         · exact all_take hno hy (by simpa using hct57)
         · simp only [EN, Nat.reduceEqDiff, reduceIte, k0_1, k1_1, k2_1, k7_1, k8_1, k10_1, k11_1, i12_1, strEq, hB1.cell, hB2.cell] <;> first | rfl | (congr 1; omega)
       ·
        try simp only [BD] at hct44
        obtain rfl : j = i := (by omega)
        have c2 : ¬ (l.take j).any (fun y => decide (y.s = x.s)) = true := (fun hh => by obtain ⟨y, hy, hyx⟩ := List.any_eq_true.1 hh; exact hno y hy (by simpa using hyx))
        refine hx_exit (th_exit (th_exit (bl_hit (th_norm (hx_seq (hx_seq (hx_region ?_)))))))
        iterate 3 refine WL.qq (by simp only [EN, Nat.reduceEqDiff, reduceIte, qv_move, k0_1, strEq, hB1.cell, hB2.cell, k11_1, qv_indexAddr, ha1]; (try simp (disch := omega) only [ix22, Int.toNat_natCast]); rfl) ?_
        refine WL.qq (by simp only [EN, Nat.reduceEqDiff, reduceIte, qv_fieldAddr, fa66_1, Nat.zero_add, Nat.reduceAdd, strEq, hB1.cell, hB2.cell]; rfl) ?_
        refine WL.qq (by simp only [EN, Nat.reduceEqDiff, reduceIte, k0_1, k1_1, k2_1, k7_1, k8_1, k10_1, k11_1, i12_1, strEq, hB1.cell, hB2.cell, qv_load, ld2, Int.toNat_natCast, hr3]; rfl) ?_
        iterate 2 refine WL.qq (by simp only [EN, Nat.reduceEqDiff, reduceIte, qv_binOp, binv_lss, strEq, hB1.cell, hB2.cell, qv_move]; rfl) ?_
        refine WL.cq (gd_at (t := 65) rfl (by simp only [EN, Nat.reduceEqDiff, reduceIte, k0_1, strEq, hB1.cell, hB2.cell] <;> rfl)) (fun hg14_7 => by simp only [EN, Nat.reduceEqDiff, reduceIte, qv_move, k0_1, strEq, hB1.cell, hB2.cell, hg14_7, GR]; rfl) ?_
        refine WL.cq (gd_at (t := 65) rfl (by simp only [EN, Nat.reduceEqDiff, reduceIte, k11_1, strEq, hB1.cell, hB2.cell] <;> rfl)) (fun hg14_8 => by simp only [EN, Nat.reduceEqDiff, reduceIte, qv_move, k11_1, strEq, hB1.cell, hB2.cell, hg14_8, GR]; rfl) ?_
        refine WL.cq (gd_at (t := 65) rfl (by simp only [EN, Nat.reduceEqDiff, reduceIte, strEq, hB1.cell, hB2.cell] <;> rfl)) (fun hg14_9 => by have hq0 := hg14_9; (try simp only [BD] at hq0); simp only [EN, Nat.reduceEqDiff, reduceIte, qv_indexAddr, strEq, hB1.cell, hB2.cell, ha1, hg14_9, GR]; (try simp (disch := omega) only [ix22, Int.toNat_natCast]); rfl) ?_
        refine WL.cq (gd_at (t := 65) rfl (by simp only [EN, Nat.reduceEqDiff, reduceIte, strEq, hB1.cell, hB2.cell] <;> rfl)) (fun hg14_10 => by simp only [EN, Nat.reduceEqDiff, reduceIte, qv_fieldAddr, fa66_1, Nat.zero_add, Nat.reduceAdd, strEq, hB1.cell, hB2.cell, hg14_10, GR]; rfl) ?_
        refine WL.cq (gd_at (t := 65) rfl (by simp only [EN, Nat.reduceEqDiff, reduceIte, strEq, hB1.cell, hB2.cell] <;> rfl)) (fun hg14_11 => by simp only [EN, Nat.reduceEqDiff, reduceIte, k0_1, k1_1, k2_1, k7_1, k8_1, k10_1, k11_1, i12_1, strEq, hB1.cell, hB2.cell, GR, hg14_11, qv_load, ld2, Int.toNat_natCast, hr3]; rfl) ?_
        refine WL.cq (gd_at (t := 65) rfl (by simp only [EN, Nat.reduceEqDiff, reduceIte, strEq, hB1.cell, hB2.cell] <;> rfl)) (fun hg14_12 => by simp only [EN, Nat.reduceEqDiff, reduceIte, qv_binOp, binv_gtr, strEq, hB1.cell, hB2.cell, hg14_12, GR]; rfl) ?_
        refine WL.qq (by simp only [EN, Nat.reduceEqDiff, reduceIte, qv_pick, pk_and, pk_or, GR, strEq, hB1.cell, hB2.cell]; rfl) ?_
        refine WL.nil (th_norm ?_)
        refine hx_cond (by simp only [EN, Nat.reduceEqDiff, reduceIte, strEq, hB1.cell, hB2.cell]; rfl) (fun hct72 => ?_) (fun hct72 => ?_)
        ·
         try simp only [BD] at hct72
         refine hx_seq (hx_region ?_)
         refine WL.qq (by refine qv_bld (by simp only [EN, Nat.reduceEqDiff, reduceIte, AR, strEq, hB1.cell, hB2.cell] <;> rfl) (by rw [bl34]; simp [Instr.fill, Value.cells]; rfl)) ?_
         refine WL.store (by simp only [EN, Nat.reduceEqDiff, reduceIte, k8_1, strEq, hB1.cell, hB2.cell] <;> rfl) sz34 (by simp only [EN, Nat.reduceEqDiff, reduceIte, Value.cells, k8_1, strEq, hB1.cell, hB2.cell] <;> rfl) rfl hB2 (by first | (simp [true_and]; done) | (simp [true_and]; omega) | omega) (by simp [Value.oneCell']) ?_
         intro h6 hw6
         have hXe := hw6.ext hX2 hb2
         replace hB2 := hw6.at_
         try simp only [splc, List.take_succ_cons, List.take_zero, List.take_nil, List.drop_succ_cons, List.drop_zero, List.drop_nil, List.cons_append, List.nil_append, List.length_cons, List.length_nil, Nat.zero_add, Nat.add_zero, Nat.reduceAdd, List.append_nil] at hB2
         refine WL.qq (by simp only [EN, Nat.reduceEqDiff, reduceIte, qv_assign, strEq, hB1.cell, hB2.cell]; rfl) ?_
         refine WL.nil (th_norm (hx_ret (th_ret (bl_ret (th_ret (th_ret (bl_ret (th_ret ?_))))))))
         refine fin_ret [.cell 8 34, .tmp 9] rfl rfl (by simp only [EN, Nat.reduceEqDiff, reduceIte, resv, ld34, readN, AR, Nat.zero_add, Nat.reduceAdd, k0_1, k1_1, k2_1, k7_1, k8_1, k10_1, k11_1, i12_1, strEq, hB1.cell, hB2.cell]; rfl) ?_
         have hz : ckH (l.take j) x = 2 := (by unfold ckH; rw [if_neg c1, if_neg c2, if_pos (by omega)])
         have hz2 : erH l = 2 := (by rw [her, hst, hz]; rfl)
         have he : erN l os s d m = 2 := (by unfold erN; rw [hz2]; rfl)
         exact ⟨hXe, _, by rw [he]; rfl, .inl ⟨by rw [he]; decide, rfl⟩⟩
        ·
         try simp only [BD] at hct72
         have c3 : ¬ (x.n < 1 ∨ 1000000000000000 < x.n) := (by omega)
         have hz : ckH (l.take j) x = 0 := (by unfold ckH; rw [if_neg c1, if_neg c2, if_neg c3]); rw [if_pos hz] at hst
         refine hx_skip (th_norm (hx_region ?_))
         iterate 4 refine WL.qq (by simp only [EN, Nat.reduceEqDiff, reduceIte, qv_move, k10_1, strEq, hB1.cell, hB2.cell, k0_1, k11_1, qv_indexAddr, ha1]; (try simp (disch := omega) only [ix22, Int.toNat_natCast]); rfl) ?_
         refine WL.qq (by simp only [EN, Nat.reduceEqDiff, reduceIte, qv_fieldAddr, fa66_1, Nat.zero_add, Nat.reduceAdd, strEq, hB1.cell, hB2.cell]; rfl) ?_
         refine WL.qq (by simp only [EN, Nat.reduceEqDiff, reduceIte, k0_1, k1_1, k2_1, k7_1, k8_1, k10_1, k11_1, i12_1, strEq, hB1.cell, hB2.cell, qv_load, ld2, Int.toNat_natCast, hr3]; rfl) ?_
         iterate 2 refine WL.qq (by simp only [EN, Nat.reduceEqDiff, reduceIte, qv_binOp, binv_add, strEq, hB1.cell, hB2.cell, qv_assign]; (try simp (disch := omega) only [w64, w8, wu64]); rfl) ?_
         refine WL.nil (bl_norm (th_norm (hx_region ?_)))
         iterate 3 refine WL.qq (by simp only [EN, Nat.reduceEqDiff, reduceIte, qv_move, k11_1, strEq, hB1.cell, hB2.cell, qv_binOp, binv_add, qv_assign]; (try simp (disch := omega) only [w64, w8, wu64]); rfl) ?_
         refine WL.nil (th_norm ?_)
         refine ⟨rfl, rfl, ?_, _, ?_, j + 1, rfl, ?_, ?_, ?_, ?_, ?_⟩
         · (repeat (first | exact Fr.refl _ _ | refine Fr.set rfl ?_ | refine Fr.put rfl ?_ | with_reducible refine Fr.put0 ?_ | refine Fr.trans ?_ (Fr.of hfr1 rfl)))
         · omega
         · omega
         · exact hst.symm
         · exact all_take (p := fun y => 0 ≤ y.n ∧ y.n ≤ 1000000000000000) hq hx (by omega)
         · simp only [EN, Nat.reduceEqDiff, reduceIte, k0_1, k1_1, k2_1, k7_1, k8_1, k10_1, k11_1, i12_1, strEq, hB1.cell, hB2.cell] <;> first | rfl | (congr 1; omega)
         · simp only [EN, Nat.reduceEqDiff, reduceIte, k0_1, k1_1, k2_1, k7_1, k8_1, k10_1, k11_1, i12_1, strEq, hB1.cell, hB2.cell] <;> rw [hsu]
    ·
     try simp only [BD] at hct32
     obtain rfl : i = l.length := (by omega)
     rw [List.drop_length, List.take_length] at hg; have hg0 : goH [] l = 0 := hg.symm; rw [List.take_length] at i10_0; rw [hg0, if_neg (by decide)] at her
     refine hx_exit (th_exit (th_exit (bl_hit (th_norm (hx_seq (hx_seq (hx_region ?_)))))))
     iterate 2 refine WL.qq (by simp only [EN, Nat.reduceEqDiff, reduceIte, qv_move, i10_0, strEq, hB1.cell, hB2.cell, qv_binOp, binv_gtr]; rfl) ?_
     refine WL.nil (th_norm ?_)
     refine hx_cond (by simp only [EN, Nat.reduceEqDiff, reduceIte, strEq, hB1.cell, hB2.cell]; rfl) (fun hct82 => ?_) (fun hct82 => ?_)
     ·
      try simp only [BD] at hct82
      refine hx_seq (hx_region ?_)
      refine WL.qq (by refine qv_bld (by simp only [EN, Nat.reduceEqDiff, reduceIte, AR, strEq, hB1.cell, hB2.cell] <;> rfl) (by rw [bl34]; simp [Instr.fill, Value.cells]; rfl)) ?_
      refine WL.store (by simp only [EN, Nat.reduceEqDiff, reduceIte, k8_0, strEq, hB1.cell, hB2.cell] <;> rfl) sz34 (by simp only [EN, Nat.reduceEqDiff, reduceIte, Value.cells, k8_0, strEq, hB1.cell, hB2.cell] <;> rfl) rfl hB2 (by first | (simp [true_and]; done) | (simp [true_and]; omega) | omega) (by simp [Value.oneCell']) ?_
      intro h7 hw7
      have hXe := hw7.ext hX2 hb2
      replace hB2 := hw7.at_
      try simp only [splc, List.take_succ_cons, List.take_zero, List.take_nil, List.drop_succ_cons, List.drop_zero, List.drop_nil, List.cons_append, List.nil_append, List.length_cons, List.length_nil, Nat.zero_add, Nat.add_zero, Nat.reduceAdd, List.append_nil] at hB2
      refine WL.qq (by simp only [EN, Nat.reduceEqDiff, reduceIte, qv_assign, strEq, hB1.cell, hB2.cell]; rfl) ?_
      refine WL.nil (th_norm (hx_ret (th_ret ?_)))
      refine fin_ret [.cell 8 34, .tmp 9] rfl rfl (by simp only [EN, Nat.reduceEqDiff, reduceIte, resv, ld34, readN, AR, Nat.zero_add, Nat.reduceAdd, k0_0, k1_0, k2_0, k7_0, k8_0, i11_0, i10_0, strEq, hB1.cell, hB2.cell]; rfl) ?_
      have hz2 : erH l = 12 := (by rw [her, if_pos (by omega)])
      have he : erN l os s d m = 12 := (by unfold erN; rw [hz2]; rfl)
      exact ⟨hXe, _, by rw [he]; rfl, .inl ⟨by rw [he]; decide, rfl⟩⟩
     ·
      try simp only [BD] at hct82
      have hH : erH l = 0 := (by rw [her, if_neg (by omega)])
      have heN : erN l os s d m = if erO os ≠ 0 then erO os else if idxS s os < 0 then 9 else if capE os (idxS s os) ≠ 0 then 11 else if clkE d m ≠ 0 then 28 else 0 := (by unfold erN; rw [hH]; rfl)
      refine hx_skip (th_norm (hx_seq (hx_seq (hx_region ?_))))
      iterate 4 refine WL.qq (by simp only [EN, Nat.reduceEqDiff, reduceIte, qv_move, k1_0, strEq, hB1.cell, hB2.cell, qv_len, ln23, AR, qv_binOp, binv_eql, eq3, Option.map_some]; rfl) ?_
      refine WL.cq (gd_at (t := 87) rfl (by simp only [EN, Nat.reduceEqDiff, reduceIte, k1_0, strEq, hB1.cell, hB2.cell] <;> rfl)) (fun hg19_4 => by simp only [EN, Nat.reduceEqDiff, reduceIte, qv_move, k1_0, strEq, hB1.cell, hB2.cell, hg19_4, GR]; rfl) ?_
      refine WL.cq (gd_at (t := 87) rfl (by simp only [EN, Nat.reduceEqDiff, reduceIte, strEq, hB1.cell, hB2.cell] <;> rfl)) (fun hg19_5 => by simp only [EN, Nat.reduceEqDiff, reduceIte, qv_len, ln23, AR, strEq, hB1.cell, hB2.cell, hg19_5, GR]; rfl) ?_
      refine WL.cq (gd_at (t := 87) rfl (by simp only [EN, Nat.reduceEqDiff, reduceIte, strEq, hB1.cell, hB2.cell] <;> rfl)) (fun hg19_6 => by simp only [EN, Nat.reduceEqDiff, reduceIte, qv_binOp, binv_gtr, strEq, hB1.cell, hB2.cell, hg19_6, GR]; rfl) ?_
      refine WL.qq (by simp only [EN, Nat.reduceEqDiff, reduceIte, qv_pick, pk_and, pk_or, GR, strEq, hB1.cell, hB2.cell]; rfl) ?_
      refine WL.nil (th_norm ?_)
      refine hx_cond (by simp only [EN, Nat.reduceEqDiff, reduceIte, strEq, hB1.cell, hB2.cell]; rfl) (fun hct91 => ?_) (fun hct91 => ?_)
      ·
       try simp only [BD] at hct91
       refine hx_seq (hx_region ?_)
       refine WL.qq (by refine qv_bld (by simp only [EN, Nat.reduceEqDiff, reduceIte, AR, strEq, hB1.cell, hB2.cell] <;> rfl) (by rw [bl34]; simp [Instr.fill, Value.cells]; rfl)) ?_
       refine WL.store (by simp only [EN, Nat.reduceEqDiff, reduceIte, k8_0, strEq, hB1.cell, hB2.cell] <;> rfl) sz34 (by simp only [EN, Nat.reduceEqDiff, reduceIte, Value.cells, k8_0, strEq, hB1.cell, hB2.cell] <;> rfl) rfl hB2 (by first | (simp [true_and]; done) | (simp [true_and]; omega) | omega) (by simp [Value.oneCell']) ?_
       intro h8 hw8
       have hXe := hw8.ext hX2 hb2
       replace hB2 := hw8.at_
       try simp only [splc, List.take_succ_cons, List.take_zero, List.take_nil, List.drop_succ_cons, List.drop_zero, List.drop_nil, List.cons_append, List.nil_append, List.length_cons, List.length_nil, Nat.zero_add, Nat.add_zero, Nat.reduceAdd, List.append_nil] at hB2
       refine WL.qq (by simp only [EN, Nat.reduceEqDiff, reduceIte, qv_assign, strEq, hB1.cell, hB2.cell]; rfl) ?_
       refine WL.nil (th_norm (hx_ret (th_ret ?_)))
       refine fin_ret [.cell 8 34, .tmp 9] rfl rfl (by simp only [EN, Nat.reduceEqDiff, reduceIte, resv, ld34, readN, AR, Nat.zero_add, Nat.reduceAdd, k0_0, k1_0, k2_0, k7_0, k8_0, i11_0, i10_0, strEq, hB1.cell, hB2.cell]; rfl) ?_
       have hz2 : erO os = 8 := (by rw [erO, if_pos (by omega)])
       have he : erN l os s d m = 8 := (by rw [heN, hz2]; rfl)
       exact ⟨hXe, _, by rw [he]; rfl, .inl ⟨by rw [he]; decide, rfl⟩⟩
      ·
       try simp only [BD] at hct91
       have hne2 : ¬ (os.length = 0 ∨ 16 < os.length) := (by omega)
       have her2 : erO os = goO [] os := if_neg hne2
       refine hx_skip (th_norm (hx_seq ?_))
       apply hx_draw2 Rel.grows [6] [1, 3, 5] [(1, (Spec.ls (Array.size h2) #[] tyRO 0)), (3, (Spec.own (Array.size h2) tyRO 2 os.length (os.flatMap siL))), (5, Spec.blk _ _ 34)] rfl (by decide +kernel) rfl
       have hB1o := hB1; have hB2o := hB2; have hl1 := (Array.getElem?_eq_some_iff.1 hB1o).1; have hl2 := (Array.getElem?_eq_some_iff.1 hB2o).1
       refine LD.qq rfl rfl (by simp only [EN, Nat.reduceEqDiff, reduceIte, qv_load, ld25, readN, AR, Nat.zero_add, Nat.reduceAdd, k7_0, strEq, hB1.cell, hB2.cell]; rfl) ?_
       refine LD.es rfl rfl (by intro hD hr hf; have hx : Ext _ _ := hr; have hs := hs.ext hx; have ho := ho.ext hx; have hB1 := hB1.ext hx; have hB2 := hB2.ext hx; exact e_lit0 (N := Array.size h2) hx.size Tryz.underlying23 sz68) ?_
       intro u21_1 w21_1
       obtain ⟨B21, hlt21, rfl⟩ := w21_1
       refine LD.qq rfl rfl (by simp only [EN, Nat.reduceEqDiff, reduceIte, qv_move, k1_0, strEq, hB1.cell, hB2.cell]; rfl) ?_
       refine LD.es rfl rfl (by intro hD hr hf; have hx : Ext _ _ := hr; have hs := hs.ext hx; have ho := ho.ext hx; have hB1 := hB1.ext hx; have hB2 := hB2.ext hx; have m1 := hf (1, .slice (some ⟨B21, 0, none⟩) 0 0) (by simp) (by show tb _ _ 1 = true; decide +kernel) _ rfl B21 rfl; exact e_copyG (f := siL) (base := Array.size h2) (bytes := 24) Tryz.underlying23 (inf_of Tryz.type68) rfl rfl rfl rfl (by decide) (fun _ => rfl) (by simp only [EN, Nat.reduceEqDiff, reduceIte, k0_0, k1_0, k2_0, k7_0, k8_0, i11_0, i10_0, strEq, hB1.cell, hB2.cell] <;> rfl) m1 hlt21 (by simp only [EN, Nat.reduceEqDiff, reduceIte, k0_0, k1_0, k2_0, k7_0, k8_0, i11_0, i10_0, strEq, hB1.cell, hB2.cell] <;> rfl) rfl ho (by simp only [maxLen]; omega) (by omega) hx.size) ?_
       intro u21_3 w21_3
       obtain ⟨a21, c21, rfl⟩ := w21_3
       refine LD.qq rfl rfl (by refine qv_bld (by simp only [EN, Nat.reduceEqDiff, reduceIte, AR, strEq, hB1.cell, hB2.cell] <;> rfl) (by rw [bl34]; simp [Instr.fill, Value.cells]; rfl)) ?_
       refine LD.al rfl rfl zr34 (Nat.le_refl _) ?_
       intro B9 hlt9
       refine LD.skip rfl ?_
       refine LD.nil ?_
       rintro h10 hx10 hF21
       replace hx10 : Ext _ _ := hx10
       replace hs := hs.ext hx10
       replace ho := ho.ext hx10
       replace hB1 := hB1.ext hx10
       replace hB2 := hB2.ext hx10
       have hB9 := hF21 (5, .pointer (some ⟨B9, 0, none⟩)) (by simp) _ rfl B9 rfl
       simp only [Value.cells] at hB9
       refine WL.store (by simp only [EN, Nat.reduceEqDiff, reduceIte, strEq, hB1.cell, hB2.cell, hB9.cell] <;> rfl) sz34 (by simp only [EN, Nat.reduceEqDiff, reduceIte, Value.cells, strEq, hB1.cell, hB2.cell, hB9.cell] <;> rfl) rfl hB9 (by first | (simp [true_and]; done) | (simp [true_and]; omega) | omega) (by simp [Value.oneCell']) ?_
       intro h11 hw11
       have ho21 := hF21 (3, .slice a21 os.length c21) (by simp) _ rfl
       have hx21 := hw11.ext hx10 hlt9
       replace ho21 := Own.keep (h' := h11) ho21 (fun c hc => hw11.same c (fun hh => by subst hh; exact Own.ncell ho21 hB9 (by decide) hc))
       have hX := hX2.trans hx21
       replace hB2 := hB2o.ext hx21
       replace hB1 := hB1o.ext hx21
       have hso := SlR.own (f := siL) (sz := 2) (fun _ => rfl) ho21 rfl
       have hoc : os.length ≤ c21 := (by obtain ⟨a9, c9, h9, h8, _⟩ := ho21.shape; cases h9; exact h8)
       replace hB9 := hw11.at_
       try simp only [splc, List.take_succ_cons, List.take_zero, List.take_nil, List.drop_succ_cons, List.drop_zero, List.drop_nil, List.cons_append, List.nil_append, List.length_cons, List.length_nil, Nat.zero_add, Nat.add_zero, Nat.reduceAdd, List.append_nil] at hB9
       have hb9 : h.size ≤ B9 := (by have := hX2.size; omega)
       have hn19 : B1 ≠ B9 := (by omega)
       have hn29 : B2 ≠ B9 := (by omega)
       refine WL.nil (th_norm (hx_seq (hx_seq (hx_region ?_))))
       refine WL.qq (by simp only [EN, Nat.reduceEqDiff, reduceIte, qv_assign, strEq, hB1.cell, hB2.cell, hB9.cell]; rfl) ?_
       refine WL.nil (th_norm (hx_block ?_))
       refine hx_loopG [9, 14, 15, 98, 99, 100, 101, 102, 103, 104, 105, 106, 107, 108, 109, 110, 111, 112, 113, 114, 115, 116, 117, 118, 119, 120, 121, 122, 123, 124, 125, 126, 127, 128, 129, 130, 131, 132, 133, 134, 135, 136, 137, 138, 139, 140, 141, 142, 143, 144, 145, 146, 147, 148, 149, 150, 151, 152] (fun k e hL2 => ∃ (j : Nat), os.length - j = k ∧ (j ≤ os.length) ∧ (Ext h hL2) ∧ (Has hL2 B1 (.cells #[iV d, iV m] 25)) ∧ (Has hL2 B2 (.cells #[.slice none 0 0, .slice none 0 0, iV 0, iV 0, iV 0, .slice none 0 0, .bool false] tyRE)) ∧ (Has hL2 B9 (.cells #[.slice none 0 0, .slice a21 os.length c21, iV (idxS s (os.take j)), iV d, iV m, .slice none 0 0, .bool false] tyRE)) ∧ (SlR tyRO 2 siL hL2 a21 os) ∧ (goO (os.take j) (os.drop j) = goO [] os) ∧ e 14 = .int .i64 j) _ ⟨0, rfl, ?_, ?_, ?_, ?_, ?_, ?_, ?_, ?_⟩ ?_
       · omega
       · exact hX
       · exact hB1
       · exact hB2
       · rw [show idxS s (os.take 0) = -1 from rfl]; exact hB9
       · exact hso
       · rfl
       · simp only [EN, Nat.reduceEqDiff, reduceIte, k0_0, k1_0, k2_0, k7_0, k8_0, i11_0, i10_0, strEq, hB1.cell, hB2.cell, hB9.cell] <;> rfl
       ·
        rintro k e2L hL2 hfr2 ⟨j, rfl, hj, hX, hB1, hB2, hB9, hso, hg, i14_2⟩
        have k0_2 := hfr2 0 rfl; try simp only [EN, Nat.reduceEqDiff, reduceIte, k0_0, strEq, hB1.cell, hB2.cell, hB9.cell] at k0_2
        have k1_2 := hfr2 1 rfl; try simp only [EN, Nat.reduceEqDiff, reduceIte, k1_0, strEq, hB1.cell, hB2.cell, hB9.cell] at k1_2
        have k2_2 := hfr2 2 rfl; try simp only [EN, Nat.reduceEqDiff, reduceIte, k2_0, strEq, hB1.cell, hB2.cell, hB9.cell] at k2_2
        have k7_2 := hfr2 7 rfl; try simp only [EN, Nat.reduceEqDiff, reduceIte, k7_0, strEq, hB1.cell, hB2.cell, hB9.cell] at k7_2
        have k8_2 := hfr2 8 rfl; try simp only [EN, Nat.reduceEqDiff, reduceIte, k8_0, strEq, hB1.cell, hB2.cell, hB9.cell] at k8_2
        have k13_2 := hfr2 13 rfl; try simp only [EN, Nat.reduceEqDiff, reduceIte, strEq, hB1.cell, hB2.cell, hB9.cell] at k13_2
        refine hx_seq (hx_seq (hx_region ?_))
        iterate 4 refine WL.qq (by simp only [EN, Nat.reduceEqDiff, reduceIte, qv_move, i14_2, strEq, hB1.cell, hB2.cell, hB9.cell, hB1.cell, hB2.cell, hB9.cell, k1_2, qv_len, ln23, AR, qv_binOp, binv_lss]; rfl) ?_
        refine WL.nil (th_norm ?_)
        refine hx_cond (by simp only [EN, Nat.reduceEqDiff, reduceIte, strEq, hB1.cell, hB2.cell, hB9.cell, hB1.cell, hB2.cell, hB9.cell]; rfl) (fun hct101 => ?_) (fun hct101 => ?_)
        ·
         try simp only [BD] at hct101
         obtain ⟨x, hx⟩ := atG (l := os) (i := j) (by omega)
         obtain ⟨b1, o1, ha1, hr1, hr2, hr3⟩ := si_rd (ho0.ext hX) hx
         have hst := goO_step hx; rw [hg] at hst
         refine hx_skip (th_norm (hx_seq (hx_block (hx_seq (hx_seq (hx_region ?_))))))
         iterate 3 refine WL.qq (by simp only [EN, Nat.reduceEqDiff, reduceIte, qv_move, k1_2, strEq, hB1.cell, hB2.cell, hB9.cell, hB1.cell, hB2.cell, hB9.cell, i14_2, qv_indexAddr, ha1]; (try simp (disch := omega) only [ix23, Int.toNat_natCast]); rfl) ?_
         refine WL.qq (by simp only [EN, Nat.reduceEqDiff, reduceIte, qv_fieldAddr, fa68_0, Nat.zero_add, Nat.reduceAdd, strEq, hB1.cell, hB2.cell, hB9.cell, hB1.cell, hB2.cell, hB9.cell]; rfl) ?_
         refine WL.qq (by simp only [EN, Nat.reduceEqDiff, reduceIte, k0_2, k1_2, k2_2, k7_2, k8_2, k13_2, i14_2, strEq, hB1.cell, hB2.cell, hB9.cell, hB1.cell, hB2.cell, hB9.cell, qv_load, ld9, Int.toNat_natCast, hr2]; rfl) ?_
         refine WL.ck Tryz.call61 (by simp only [EN, Nat.reduceEqDiff, reduceIte, AR, strEq, hB1.cell, hB2.cell, hB9.cell, hB1.cell, hB2.cell, hB9.cell]; exact c_code x.s (hb x (List.mem_of_getElem? hx)) _) ?_
         refine WL.qq (by simp only [EN, Nat.reduceEqDiff, reduceIte, qv_unOp, unv_not, strEq, hB1.cell, hB2.cell, hB9.cell, hB1.cell, hB2.cell, hB9.cell]; rfl) ?_
         refine WL.nil (th_norm ?_)
         refine hx_cond (by simp only [EN, Nat.reduceEqDiff, reduceIte, strEq, hB1.cell, hB2.cell, hB9.cell, hB1.cell, hB2.cell, hB9.cell]; rfl) (fun hct110 => ?_) (fun hct110 => ?_)
         ·
          try simp only [BD] at hct110
          refine hx_seq (hx_region ?_)
          refine WL.qq (by refine qv_bld (by simp only [EN, Nat.reduceEqDiff, reduceIte, AR, strEq, hB1.cell, hB2.cell, hB9.cell, hB1.cell, hB2.cell, hB9.cell] <;> rfl) (by rw [bl34]; simp [Instr.fill, Value.cells]; rfl)) ?_
          refine WL.store (by simp only [EN, Nat.reduceEqDiff, reduceIte, k8_2, strEq, hB1.cell, hB2.cell, hB9.cell, hB1.cell, hB2.cell, hB9.cell] <;> rfl) sz34 (by simp only [EN, Nat.reduceEqDiff, reduceIte, Value.cells, k8_2, strEq, hB1.cell, hB2.cell, hB9.cell, hB1.cell, hB2.cell, hB9.cell] <;> rfl) rfl hB2 (by first | (simp [true_and]; done) | (simp [true_and]; omega) | omega) (by simp [Value.oneCell']) ?_
          intro h12 hw12
          have hXe := hw12.ext hX hb2
          replace hB2 := hw12.at_
          try simp only [splc, List.take_succ_cons, List.take_zero, List.take_nil, List.drop_succ_cons, List.drop_zero, List.drop_nil, List.cons_append, List.nil_append, List.length_cons, List.length_nil, Nat.zero_add, Nat.add_zero, Nat.reduceAdd, List.append_nil] at hB2
          refine WL.qq (by simp only [EN, Nat.reduceEqDiff, reduceIte, qv_assign, strEq, hB1.cell, hB2.cell, hB9.cell, hB1.cell, hB2.cell, hB9.cell]; rfl) ?_
          refine WL.nil (th_norm (hx_ret (th_ret (bl_ret (th_ret (th_ret (bl_ret (th_ret ?_))))))))
          refine fin_ret [.cell 8 34, .tmp 9] rfl rfl (by simp only [EN, Nat.reduceEqDiff, reduceIte, resv, ld34, readN, AR, Nat.zero_add, Nat.reduceAdd, k0_2, k1_2, k2_2, k7_2, k8_2, k13_2, i14_2, strEq, hB1.cell, hB2.cell, hB9.cell, hB1.cell, hB2.cell, hB9.cell]; rfl) ?_
          have hz : ckO (os.take j) x = 3 := (by unfold ckO; rw [if_pos (Classical.not_not.1 (of_decide_eq_false hct110))])
          have hz2 : erO os = 3 := (by rw [her2, hst, hz]; rfl)
          have he : erN l os s d m = 3 := (by rw [heN, hz2]; rfl)
          exact ⟨hXe, _, by rw [he]; rfl, .inl ⟨by rw [he]; decide, rfl⟩⟩
         ·
          try simp only [BD] at hct110
          have c1 : ¬ (x.s = em ∨ 16 < x.s.size ∨ ltS x.s = false) := of_decide_eq_true hct110
          refine hx_skip (th_norm (hx_seq (hx_seq (hx_region ?_))))
          refine WL.qq (by simp only [EN, Nat.reduceEqDiff, reduceIte, qv_assign, strEq, hB1.cell, hB2.cell, hB9.cell, hB1.cell, hB2.cell, hB9.cell]; rfl) ?_
          refine WL.nil (th_norm (hx_block ?_))
          refine hx_loopS [9, 15, 112, 113, 114, 115, 116, 117, 118, 119, 120, 121, 122, 123, 124, 125, 126, 127, 128] (fun k e => ∃ (j2 : Nat), j - j2 = k ∧ (j2 ≤ j) ∧ ((∀ y ∈ os.take j2, y.s ≠ x.s)) ∧ e 15 = .int .i64 j2) _ ⟨0, rfl, ?_, ?_, ?_⟩ ?_
          · omega
          · intro y hy; simp at hy
          · simp only [EN, Nat.reduceEqDiff, reduceIte, k0_2, k1_2, k2_2, k7_2, k8_2, k13_2, i14_2, strEq, hB1.cell, hB2.cell, hB9.cell, hB1.cell, hB2.cell, hB9.cell] <;> rfl
          ·
           rintro k e3L hfr3 ⟨j2, rfl, hj2, hno, i15_3⟩
           have k0_3 := hfr3 0 rfl; try simp only [EN, Nat.reduceEqDiff, reduceIte, k0_2, strEq, hB1.cell, hB2.cell, hB9.cell, hB1.cell, hB2.cell, hB9.cell] at k0_3
           have k1_3 := hfr3 1 rfl; try simp only [EN, Nat.reduceEqDiff, reduceIte, k1_2, strEq, hB1.cell, hB2.cell, hB9.cell, hB1.cell, hB2.cell, hB9.cell] at k1_3
           have k2_3 := hfr3 2 rfl; try simp only [EN, Nat.reduceEqDiff, reduceIte, k2_2, strEq, hB1.cell, hB2.cell, hB9.cell, hB1.cell, hB2.cell, hB9.cell] at k2_3
           have k7_3 := hfr3 7 rfl; try simp only [EN, Nat.reduceEqDiff, reduceIte, k7_2, strEq, hB1.cell, hB2.cell, hB9.cell, hB1.cell, hB2.cell, hB9.cell] at k7_3
           have k8_3 := hfr3 8 rfl; try simp only [EN, Nat.reduceEqDiff, reduceIte, k8_2, strEq, hB1.cell, hB2.cell, hB9.cell, hB1.cell, hB2.cell, hB9.cell] at k8_3
           have k13_3 := hfr3 13 rfl; try simp only [EN, Nat.reduceEqDiff, reduceIte, k13_2, strEq, hB1.cell, hB2.cell, hB9.cell, hB1.cell, hB2.cell, hB9.cell] at k13_3
           have k14_3 := hfr3 14 rfl; try simp only [EN, Nat.reduceEqDiff, reduceIte, i14_2, strEq, hB1.cell, hB2.cell, hB9.cell, hB1.cell, hB2.cell, hB9.cell] at k14_3
           refine hx_seq (hx_seq (hx_region ?_))
           iterate 3 refine WL.qq (by simp only [EN, Nat.reduceEqDiff, reduceIte, qv_move, i15_3, strEq, hB1.cell, hB2.cell, hB9.cell, hB1.cell, hB2.cell, hB9.cell, k14_3, qv_binOp, binv_lss]; rfl) ?_
           refine WL.nil (th_norm ?_)
           refine hx_cond (by simp only [EN, Nat.reduceEqDiff, reduceIte, strEq, hB1.cell, hB2.cell, hB9.cell, hB1.cell, hB2.cell, hB9.cell]; rfl) (fun hct114 => ?_) (fun hct114 => ?_)
           ·
            try simp only [BD] at hct114
            obtain ⟨y, hy⟩ := atG (l := os) (i := j2) (by omega)
            obtain ⟨b2, o2, ha2, _, hr22, _⟩ := si_rd (ho0.ext hX) hy
            refine hx_skip (th_norm (hx_seq (hx_block (hx_seq ?_))))
            apply hx_draw2 Rel.same [] [] [] rfl (by decide +kernel) rfl
            iterate 3 refine LD.qq rfl rfl (by simp only [EN, Nat.reduceEqDiff, reduceIte, qv_move, k1_3, strEq, hB1.cell, hB2.cell, hB9.cell, hB1.cell, hB2.cell, hB9.cell, i15_3, qv_indexAddr, ha2]; (try simp (disch := omega) only [ix23, Int.toNat_natCast]); rfl) ?_
            refine LD.qq rfl rfl (by simp only [EN, Nat.reduceEqDiff, reduceIte, qv_fieldAddr, fa68_0, Nat.zero_add, Nat.reduceAdd, strEq, hB1.cell, hB2.cell, hB9.cell, hB1.cell, hB2.cell, hB9.cell]; rfl) ?_
            refine LD.qq rfl rfl (by simp only [EN, Nat.reduceEqDiff, reduceIte, k0_3, k1_3, k2_3, k7_3, k8_3, k13_3, k14_3, i15_3, strEq, hB1.cell, hB2.cell, hB9.cell, hB1.cell, hB2.cell, hB9.cell, qv_load, ld9, Int.toNat_natCast, hr22]; rfl) ?_
            iterate 3 refine LD.qq rfl rfl (by simp only [EN, Nat.reduceEqDiff, reduceIte, qv_move, k1_3, strEq, hB1.cell, hB2.cell, hB9.cell, hB1.cell, hB2.cell, hB9.cell, k14_3, qv_indexAddr, ha1]; (try simp (disch := omega) only [ix23, Int.toNat_natCast]); rfl) ?_
            refine LD.qq rfl rfl (by simp only [EN, Nat.reduceEqDiff, reduceIte, qv_fieldAddr, fa68_0, Nat.zero_add, Nat.reduceAdd, strEq, hB1.cell, hB2.cell, hB9.cell, hB1.cell, hB2.cell, hB9.cell]; rfl) ?_
            refine LD.qq rfl rfl (by simp only [EN, Nat.reduceEqDiff, reduceIte, k0_3, k1_3, k2_3, k7_3, k8_3, k13_3, k14_3, i15_3, strEq, hB1.cell, hB2.cell, hB9.cell, hB1.cell, hB2.cell, hB9.cell, qv_load, ld9, Int.toNat_natCast, hr2]; rfl) ?_
            refine LD.qq rfl rfl (by simp only [EN, Nat.reduceEqDiff, reduceIte, qv_binOp, binv_eql, eq9, Option.map_some, strEq, hB1.cell, hB2.cell, hB9.cell, hB1.cell, hB2.cell, hB9.cell]; rfl) ?_
            refine LD.nil ?_
            rintro hL2 rfl -
            refine WL.nil (th_norm ?_)
            refine hx_cond (by simp only [EN, Nat.reduceEqDiff, reduceIte, strEq, hB1.cell, hB2.cell, hB9.cell, hB1.cell, hB2.cell, hB9.cell]; rfl) (fun hct127 => ?_) (fun hct127 => ?_)
            ·
             try simp only [BD] at hct127
             refine hx_seq (hx_region ?_)
             refine WL.qq (by refine qv_bld (by simp only [EN, Nat.reduceEqDiff, reduceIte, AR, strEq, hB1.cell, hB2.cell, hB9.cell, hB1.cell, hB2.cell, hB9.cell] <;> rfl) (by rw [bl34]; simp [Instr.fill, Value.cells]; rfl)) ?_
             refine WL.store (by simp only [EN, Nat.reduceEqDiff, reduceIte, k8_3, strEq, hB1.cell, hB2.cell, hB9.cell, hB1.cell, hB2.cell, hB9.cell] <;> rfl) sz34 (by simp only [EN, Nat.reduceEqDiff, reduceIte, Value.cells, k8_3, strEq, hB1.cell, hB2.cell, hB9.cell, hB1.cell, hB2.cell, hB9.cell] <;> rfl) rfl hB2 (by first | (simp [true_and]; done) | (simp [true_and]; omega) | omega) (by simp [Value.oneCell']) ?_
             intro h13 hw13
             have hXe := hw13.ext hX hb2
             replace hB2 := hw13.at_
             try simp only [splc, List.take_succ_cons, List.take_zero, List.take_nil, List.drop_succ_cons, List.drop_zero, List.drop_nil, List.cons_append, List.nil_append, List.length_cons, List.length_nil, Nat.zero_add, Nat.add_zero, Nat.reduceAdd, List.append_nil] at hB2
             refine WL.qq (by simp only [EN, Nat.reduceEqDiff, reduceIte, qv_assign, strEq, hB1.cell, hB2.cell, hB9.cell, hB1.cell, hB2.cell, hB9.cell]; rfl) ?_
             refine WL.nil (th_norm (hx_ret (bl_ret (th_ret (th_ret (bl_ret (th_ret (bl_ret (th_ret (th_ret (bl_ret (th_ret ?_))))))))))))
             refine fin_ret [.cell 8 34, .tmp 9] rfl rfl (by simp only [EN, Nat.reduceEqDiff, reduceIte, resv, ld34, readN, AR, Nat.zero_add, Nat.reduceAdd, k0_3, k1_3, k2_3, k7_3, k8_3, k13_3, k14_3, i15_3, strEq, hB1.cell, hB2.cell, hB9.cell, hB1.cell, hB2.cell, hB9.cell]; rfl) ?_
             have hz : ckO (os.take j) x = 7 := (by unfold ckO; rw [if_neg c1, if_pos (by rcases idxS_cases x.s (os.take j) with ⟨_, h8⟩ | ⟨i8, _, h8, _⟩; exact absurd (by simpa using hct127) (h8 y (List.mem_of_getElem? (i := j2) (by rw [List.getElem?_take, if_pos (by omega)]; exact hy))); omega)])
             have hz2 : erO os = 7 := (by rw [her2, hst, hz]; rfl)
             have he : erN l os s d m = 7 := (by rw [heN, hz2]; rfl)
             exact ⟨hXe, _, by rw [he]; rfl, .inl ⟨by rw [he]; decide, rfl⟩⟩
            ·
             try simp only [BD] at hct127
             refine hx_skip (bl_norm (th_norm (hx_region ?_)))
             iterate 3 refine WL.qq (by simp only [EN, Nat.reduceEqDiff, reduceIte, qv_move, i15_3, strEq, hB1.cell, hB2.cell, hB9.cell, hB1.cell, hB2.cell, hB9.cell, qv_binOp, binv_add, qv_assign]; (try simp (disch := omega) only [w64, w8, wu64]); rfl) ?_
             refine WL.nil (th_norm ?_)
             refine ⟨rfl, rfl, ?_, _, ?_, j2 + 1, rfl, ?_, ?_, ?_⟩
             · (repeat (first | exact Fr.refl _ _ | refine Fr.set rfl ?_ | refine Fr.put rfl ?_ | with_reducible refine Fr.put0 ?_))
             · omega
             · omega
             · exact all_take hno hy (by simpa using hct127)
             · simp only [EN, Nat.reduceEqDiff, reduceIte, k0_3, k1_3, k2_3, k7_3, k8_3, k13_3, k14_3, i15_3, strEq, hB1.cell, hB2.cell, hB9.cell, hB1.cell, hB2.cell, hB9.cell] <;> first | rfl | (congr 1; omega)
           ·
            try simp only [BD] at hct114
            obtain rfl : j2 = j := (by omega)
            have c2 : ¬ 0 ≤ idxS x.s (os.take j2) := (by rw [idxS_no hno]; decide)
            refine hx_exit (th_exit (th_exit (bl_hit (th_norm (hx_seq (hx_seq (hx_region ?_)))))))
            iterate 3 refine WL.qq (by simp only [EN, Nat.reduceEqDiff, reduceIte, qv_move, k1_3, strEq, hB1.cell, hB2.cell, hB9.cell, hB1.cell, hB2.cell, hB9.cell, k14_3, qv_indexAddr, ha1]; (try simp (disch := omega) only [ix23, Int.toNat_natCast]); rfl) ?_
            refine WL.qq (by simp only [EN, Nat.reduceEqDiff, reduceIte, qv_fieldAddr, fa68_1, Nat.zero_add, Nat.reduceAdd, strEq, hB1.cell, hB2.cell, hB9.cell, hB1.cell, hB2.cell, hB9.cell]; rfl) ?_
            refine WL.qq (by simp only [EN, Nat.reduceEqDiff, reduceIte, k0_3, k1_3, k2_3, k7_3, k8_3, k13_3, k14_3, i15_3, strEq, hB1.cell, hB2.cell, hB9.cell, hB1.cell, hB2.cell, hB9.cell, qv_load, ld2, Int.toNat_natCast, hr3]; rfl) ?_
            iterate 2 refine WL.qq (by simp only [EN, Nat.reduceEqDiff, reduceIte, qv_binOp, binv_lss, strEq, hB1.cell, hB2.cell, hB9.cell, hB1.cell, hB2.cell, hB9.cell, qv_move]; rfl) ?_
            refine WL.cq (gd_at (t := 135) rfl (by simp only [EN, Nat.reduceEqDiff, reduceIte, k1_3, strEq, hB1.cell, hB2.cell, hB9.cell, hB1.cell, hB2.cell, hB9.cell] <;> rfl)) (fun hg32_7 => by simp only [EN, Nat.reduceEqDiff, reduceIte, qv_move, k1_3, strEq, hB1.cell, hB2.cell, hB9.cell, hB1.cell, hB2.cell, hB9.cell, hg32_7, GR]; rfl) ?_
            refine WL.cq (gd_at (t := 135) rfl (by simp only [EN, Nat.reduceEqDiff, reduceIte, k14_3, strEq, hB1.cell, hB2.cell, hB9.cell, hB1.cell, hB2.cell, hB9.cell] <;> rfl)) (fun hg32_8 => by simp only [EN, Nat.reduceEqDiff, reduceIte, qv_move, k14_3, strEq, hB1.cell, hB2.cell, hB9.cell, hB1.cell, hB2.cell, hB9.cell, hg32_8, GR]; rfl) ?_
            refine WL.cq (gd_at (t := 135) rfl (by simp only [EN, Nat.reduceEqDiff, reduceIte, strEq, hB1.cell, hB2.cell, hB9.cell, hB1.cell, hB2.cell, hB9.cell] <;> rfl)) (fun hg32_9 => by have hq0 := hg32_9; (try simp only [BD] at hq0); simp only [EN, Nat.reduceEqDiff, reduceIte, qv_indexAddr, strEq, hB1.cell, hB2.cell, hB9.cell, hB1.cell, hB2.cell, hB9.cell, ha1, hg32_9, GR]; (try simp (disch := omega) only [ix23, Int.toNat_natCast]); rfl) ?_
            refine WL.cq (gd_at (t := 135) rfl (by simp only [EN, Nat.reduceEqDiff, reduceIte, strEq, hB1.cell, hB2.cell, hB9.cell, hB1.cell, hB2.cell, hB9.cell] <;> rfl)) (fun hg32_10 => by simp only [EN, Nat.reduceEqDiff, reduceIte, qv_fieldAddr, fa68_1, Nat.zero_add, Nat.reduceAdd, strEq, hB1.cell, hB2.cell, hB9.cell, hB1.cell, hB2.cell, hB9.cell, hg32_10, GR]; rfl) ?_
            refine WL.cq (gd_at (t := 135) rfl (by simp only [EN, Nat.reduceEqDiff, reduceIte, strEq, hB1.cell, hB2.cell, hB9.cell, hB1.cell, hB2.cell, hB9.cell] <;> rfl)) (fun hg32_11 => by simp only [EN, Nat.reduceEqDiff, reduceIte, k0_3, k1_3, k2_3, k7_3, k8_3, k13_3, k14_3, i15_3, strEq, hB1.cell, hB2.cell, hB9.cell, hB1.cell, hB2.cell, hB9.cell, GR, hg32_11, qv_load, ld2, Int.toNat_natCast, hr3]; rfl) ?_
            refine WL.cq (gd_at (t := 135) rfl (by simp only [EN, Nat.reduceEqDiff, reduceIte, strEq, hB1.cell, hB2.cell, hB9.cell, hB1.cell, hB2.cell, hB9.cell] <;> rfl)) (fun hg32_12 => by simp only [EN, Nat.reduceEqDiff, reduceIte, qv_binOp, binv_gtr, strEq, hB1.cell, hB2.cell, hB9.cell, hB1.cell, hB2.cell, hB9.cell, hg32_12, GR]; rfl) ?_
            refine WL.qq (by simp only [EN, Nat.reduceEqDiff, reduceIte, qv_pick, pk_and, pk_or, GR, strEq, hB1.cell, hB2.cell, hB9.cell, hB1.cell, hB2.cell, hB9.cell]; rfl) ?_
            refine WL.nil (th_norm ?_)
            refine hx_cond (by simp only [EN, Nat.reduceEqDiff, reduceIte, strEq, hB1.cell, hB2.cell, hB9.cell, hB1.cell, hB2.cell, hB9.cell]; rfl) (fun hct142 => ?_) (fun hct142 => ?_)
            ·
             try simp only [BD] at hct142
             refine hx_seq (hx_region ?_)
             refine WL.qq (by refine qv_bld (by simp only [EN, Nat.reduceEqDiff, reduceIte, AR, strEq, hB1.cell, hB2.cell, hB9.cell, hB1.cell, hB2.cell, hB9.cell] <;> rfl) (by rw [bl34]; simp [Instr.fill, Value.cells]; rfl)) ?_
             refine WL.store (by simp only [EN, Nat.reduceEqDiff, reduceIte, k8_3, strEq, hB1.cell, hB2.cell, hB9.cell, hB1.cell, hB2.cell, hB9.cell] <;> rfl) sz34 (by simp only [EN, Nat.reduceEqDiff, reduceIte, Value.cells, k8_3, strEq, hB1.cell, hB2.cell, hB9.cell, hB1.cell, hB2.cell, hB9.cell] <;> rfl) rfl hB2 (by first | (simp [true_and]; done) | (simp [true_and]; omega) | omega) (by simp [Value.oneCell']) ?_
             intro h14 hw14
             have hXe := hw14.ext hX hb2
             replace hB2 := hw14.at_
             try simp only [splc, List.take_succ_cons, List.take_zero, List.take_nil, List.drop_succ_cons, List.drop_zero, List.drop_nil, List.cons_append, List.nil_append, List.length_cons, List.length_nil, Nat.zero_add, Nat.add_zero, Nat.reduceAdd, List.append_nil] at hB2
             refine WL.qq (by simp only [EN, Nat.reduceEqDiff, reduceIte, qv_assign, strEq, hB1.cell, hB2.cell, hB9.cell, hB1.cell, hB2.cell, hB9.cell]; rfl) ?_
             refine WL.nil (th_norm (hx_ret (th_ret (bl_ret (th_ret (th_ret (bl_ret (th_ret ?_))))))))
             refine fin_ret [.cell 8 34, .tmp 9] rfl rfl (by simp only [EN, Nat.reduceEqDiff, reduceIte, resv, ld34, readN, AR, Nat.zero_add, Nat.reduceAdd, k0_3, k1_3, k2_3, k7_3, k8_3, k13_3, k14_3, i15_3, strEq, hB1.cell, hB2.cell, hB9.cell, hB1.cell, hB2.cell, hB9.cell]; rfl) ?_
             have hz : ckO (os.take j2) x = 2 := (by unfold ckO; rw [if_neg c1, if_neg c2, if_pos (by omega)])
             have hz2 : erO os = 2 := (by rw [her2, hst, hz]; rfl)
             have he : erN l os s d m = 2 := (by rw [heN, hz2]; rfl)
             exact ⟨hXe, _, by rw [he]; rfl, .inl ⟨by rw [he]; decide, rfl⟩⟩
            ·
             try simp only [BD] at hct142
             have hz : ckO (os.take j2) x = 0 := (by unfold ckO; rw [if_neg c1, if_neg c2, if_neg (by omega)]); rw [if_pos hz] at hst
             refine hx_skip (th_norm (hx_seq (hx_region ?_)))
             iterate 3 refine WL.qq (by simp only [EN, Nat.reduceEqDiff, reduceIte, qv_move, k1_3, strEq, hB1.cell, hB2.cell, hB9.cell, hB1.cell, hB2.cell, hB9.cell, k14_3, qv_indexAddr, ha1]; (try simp (disch := omega) only [ix23, Int.toNat_natCast]); rfl) ?_
             refine WL.qq (by simp only [EN, Nat.reduceEqDiff, reduceIte, qv_fieldAddr, fa68_0, Nat.zero_add, Nat.reduceAdd, strEq, hB1.cell, hB2.cell, hB9.cell, hB1.cell, hB2.cell, hB9.cell]; rfl) ?_
             refine WL.qq (by simp only [EN, Nat.reduceEqDiff, reduceIte, k0_3, k1_3, k2_3, k7_3, k8_3, k13_3, k14_3, i15_3, strEq, hB1.cell, hB2.cell, hB9.cell, hB1.cell, hB2.cell, hB9.cell, qv_load, ld9, Int.toNat_natCast, hr2]; rfl) ?_
             iterate 2 refine WL.qq (by simp only [EN, Nat.reduceEqDiff, reduceIte, qv_move, k2_3, strEq, hB1.cell, hB2.cell, hB9.cell, hB1.cell, hB2.cell, hB9.cell, qv_binOp, binv_eql, eq9, Option.map_some]; rfl) ?_
             refine WL.nil (th_norm ?_)
             refine hx_cond (by simp only [EN, Nat.reduceEqDiff, reduceIte, strEq, hB1.cell, hB2.cell, hB9.cell, hB1.cell, hB2.cell, hB9.cell]; rfl) (fun hct150 => ?_) (fun hct150 => ?_)
             ·
              try simp only [BD] at hct150
              have hq := idxS_hit2 (s := s) hno hx (by simpa using hct150)
              refine hx_region ?_
              iterate 2 refine WL.qq (by simp only [EN, Nat.reduceEqDiff, reduceIte, qv_move, k14_3, strEq, hB1.cell, hB2.cell, hB9.cell, hB1.cell, hB2.cell, hB9.cell, qv_fieldAddr, fa34_2, Nat.zero_add, Nat.reduceAdd, k13_3]; rfl) ?_
              refine WL.store (by simp only [EN, Nat.reduceEqDiff, reduceIte, strEq, hB1.cell, hB2.cell, hB9.cell, hB1.cell, hB2.cell, hB9.cell] <;> rfl) sz3 (by simp only [EN, Nat.reduceEqDiff, reduceIte, Value.cells, strEq, hB1.cell, hB2.cell, hB9.cell, hB1.cell, hB2.cell, hB9.cell] <;> rfl) rfl hB9 (by first | (simp [true_and]; done) | (simp [true_and]; omega) | omega) (by simp [Value.oneCell']) ?_
              intro h15 hw15
              replace hX := hw15.ext hX hb9
              replace hB1 := hB1.wr hw15 hn19
              replace hB2 := hB2.wr hw15 hn29
              replace hso := hso.wr hw15 hB9 (by decide)
              replace hB9 := hw15.at_
              try simp only [splc, List.take_succ_cons, List.take_zero, List.take_nil, List.drop_succ_cons, List.drop_zero, List.drop_nil, List.cons_append, List.nil_append, List.length_cons, List.length_nil, Nat.zero_add, Nat.add_zero, Nat.reduceAdd, List.append_nil] at hB9
              refine WL.nil (bl_norm (th_norm (hx_region ?_)))
              iterate 3 refine WL.qq (by simp only [EN, Nat.reduceEqDiff, reduceIte, qv_move, k14_3, strEq, hB1.cell, hB2.cell, hB9.cell, hB1.cell, hB2.cell, hB9.cell, qv_binOp, binv_add, qv_assign]; (try simp (disch := omega) only [w64, w8, wu64]); rfl) ?_
              refine WL.nil (th_norm ?_)
              refine ⟨rfl, ?_, _, ?_, j2 + 1, rfl, ?_, ?_, ?_, ?_, ?_, ?_, ?_, ?_⟩
              · (repeat (first | exact Fr.refl _ _ | refine Fr.set rfl ?_ | refine Fr.put rfl ?_ | with_reducible refine Fr.put0 ?_ | refine Fr.trans ?_ (Fr.of hfr3 rfl)))
              · omega
              · omega
              · exact hX
              · exact hB1
              · exact hB2
              · rw [hq]; exact hB9
              · exact hso
              · exact hst.symm
              · simp only [EN, Nat.reduceEqDiff, reduceIte, k0_3, k1_3, k2_3, k7_3, k8_3, k13_3, k14_3, i15_3, strEq, hB1.cell, hB2.cell, hB9.cell, hB1.cell, hB2.cell, hB9.cell] <;> first | rfl | (congr 1; omega)
             ·
              try simp only [BD] at hct150
              have hq := idxS_miss (s := s) hx (by simpa using hct150)
              refine hx_skip (bl_norm (th_norm (hx_region ?_)))
              iterate 3 refine WL.qq (by simp only [EN, Nat.reduceEqDiff, reduceIte, qv_move, k14_3, strEq, hB1.cell, hB2.cell, hB9.cell, hB1.cell, hB2.cell, hB9.cell, qv_binOp, binv_add, qv_assign]; (try simp (disch := omega) only [w64, w8, wu64]); rfl) ?_
              refine WL.nil (th_norm ?_)
              refine ⟨rfl, ?_, _, ?_, j2 + 1, rfl, ?_, ?_, ?_, ?_, ?_, ?_, ?_, ?_⟩
              · (repeat (first | exact Fr.refl _ _ | refine Fr.set rfl ?_ | refine Fr.put rfl ?_ | with_reducible refine Fr.put0 ?_ | refine Fr.trans ?_ (Fr.of hfr3 rfl)))
              · omega
              · omega
              · exact hX
              · exact hB1
              · exact hB2
              · rw [hq]; exact hB9
              · exact hso
              · exact hst.symm
              · simp only [EN, Nat.reduceEqDiff, reduceIte, k0_3, k1_3, k2_3, k7_3, k8_3, k13_3, k14_3, i15_3, strEq, hB1.cell, hB2.cell, hB9.cell, hB1.cell, hB2.cell, hB9.cell] <;> first | rfl | (congr 1; omega)
        ·
         try simp only [BD] at hct101
         obtain rfl : j = os.length := (by omega)
         rw [List.drop_length, List.take_length] at hg; rw [List.take_length] at hB9; have hO : erO os = 0 := (by rw [her2, ← hg]; rfl); have oo := erO_0 hO
         replace heN : erN l os s d m = if idxS s os < 0 then 9 else if capE os (idxS s os) ≠ 0 then 11 else if clkE d m ≠ 0 then 28 else 0 := (by rw [heN, hO]; rfl)
         refine hx_exit (th_exit (th_exit (bl_hit (th_norm (hx_seq (hx_seq (hx_region ?_)))))))
         iterate 3 refine WL.qq (by simp only [EN, Nat.reduceEqDiff, reduceIte, qv_fieldAddr, fa34_2, Nat.zero_add, Nat.reduceAdd, k13_2, strEq, hB1.cell, hB2.cell, hB9.cell, hB1.cell, hB2.cell, hB9.cell, qv_load, ld3, readN, AR, qv_binOp, binv_lss]; rfl) ?_
         refine WL.nil (th_norm ?_)
         refine hx_cond (by simp only [EN, Nat.reduceEqDiff, reduceIte, strEq, hB1.cell, hB2.cell, hB9.cell, hB1.cell, hB2.cell, hB9.cell]; rfl) (fun hct155 => ?_) (fun hct155 => ?_)
         ·
          try simp only [BD] at hct155
          refine hx_seq (hx_region ?_)
          refine WL.qq (by refine qv_bld (by simp only [EN, Nat.reduceEqDiff, reduceIte, AR, strEq, hB1.cell, hB2.cell, hB9.cell, hB1.cell, hB2.cell, hB9.cell] <;> rfl) (by rw [bl34]; simp [Instr.fill, Value.cells]; rfl)) ?_
          refine WL.store (by simp only [EN, Nat.reduceEqDiff, reduceIte, k8_2, strEq, hB1.cell, hB2.cell, hB9.cell, hB1.cell, hB2.cell, hB9.cell] <;> rfl) sz34 (by simp only [EN, Nat.reduceEqDiff, reduceIte, Value.cells, k8_2, strEq, hB1.cell, hB2.cell, hB9.cell, hB1.cell, hB2.cell, hB9.cell] <;> rfl) rfl hB2 (by first | (simp [true_and]; done) | (simp [true_and]; omega) | omega) (by simp [Value.oneCell']) ?_
          intro h16 hw16
          have hXe := hw16.ext hX hb2
          replace hB2 := hw16.at_
          try simp only [splc, List.take_succ_cons, List.take_zero, List.take_nil, List.drop_succ_cons, List.drop_zero, List.drop_nil, List.cons_append, List.nil_append, List.length_cons, List.length_nil, Nat.zero_add, Nat.add_zero, Nat.reduceAdd, List.append_nil] at hB2
          refine WL.qq (by simp only [EN, Nat.reduceEqDiff, reduceIte, qv_assign, strEq, hB1.cell, hB2.cell, hB9.cell, hB1.cell, hB2.cell, hB9.cell]; rfl) ?_
          refine WL.nil (th_norm (hx_ret (th_ret ?_)))
          refine fin_ret [.cell 8 34, .tmp 9] rfl rfl (by simp only [EN, Nat.reduceEqDiff, reduceIte, resv, ld34, readN, AR, Nat.zero_add, Nat.reduceAdd, k0_2, k1_2, k2_2, k7_2, k8_2, k13_2, i14_2, strEq, hB1.cell, hB2.cell, hB9.cell, hB1.cell, hB2.cell, hB9.cell]; rfl) ?_
          have he : erN l os s d m = 9 := (by rw [heN, if_pos (by omega)])
          exact ⟨hXe, _, by rw [he]; rfl, .inl ⟨by rw [he]; decide, rfl⟩⟩
         ·
          try simp only [BD] at hct155
          obtain ⟨i9, x9, h91, hx9, _⟩ : ∃ i x, idxS s os = (i : Nat) ∧ os[i]? = some x ∧ x.s = s ∧ ∀ y ∈ os.take i, y.s ≠ s := (idxS_cases s os).resolve_left (fun hh => by omega)
          rw [h91] at hB9; have hi9 := (List.getElem?_eq_some_iff.1 hx9).1; have hq9 := oo.q x9 (List.mem_of_getElem? hx9)
          obtain ⟨b1, o1, ha1, _, _, hr3⟩ := si_rd (ho0.ext hX) hx9; have hcap : capE os (idxS s os) = x9.n := (by unfold capE; rw [h91, Int.toNat_natCast, hx9]; rfl)
          rw [if_neg (by omega), hcap] at heN
          refine hx_skip (th_norm (hx_seq (hx_seq (hx_region ?_))))
          iterate 3 refine WL.qq (by simp only [EN, Nat.reduceEqDiff, reduceIte, qv_move, k1_2, strEq, hB1.cell, hB2.cell, hB9.cell, hB1.cell, hB2.cell, hB9.cell, qv_fieldAddr, fa34_2, Nat.zero_add, Nat.reduceAdd, k13_2, qv_load, ld3, readN, AR]; rfl) ?_
          refine WL.qq (by simp only [EN, Nat.reduceEqDiff, reduceIte, qv_indexAddr, strEq, hB1.cell, hB2.cell, hB9.cell, hB1.cell, hB2.cell, hB9.cell, ha1]; (try simp (disch := omega) only [ix23, Int.toNat_natCast]); rfl) ?_
          refine WL.qq (by simp only [EN, Nat.reduceEqDiff, reduceIte, qv_fieldAddr, fa68_1, Nat.zero_add, Nat.reduceAdd, strEq, hB1.cell, hB2.cell, hB9.cell, hB1.cell, hB2.cell, hB9.cell]; rfl) ?_
          refine WL.qq (by simp only [EN, Nat.reduceEqDiff, reduceIte, k0_2, k1_2, k2_2, k7_2, k8_2, k13_2, i14_2, strEq, hB1.cell, hB2.cell, hB9.cell, hB1.cell, hB2.cell, hB9.cell, qv_load, ld2, Int.toNat_natCast, hr3]; rfl) ?_
          refine WL.qq (by simp only [EN, Nat.reduceEqDiff, reduceIte, qv_binOp, binv_gtr, strEq, hB1.cell, hB2.cell, hB9.cell, hB1.cell, hB2.cell, hB9.cell]; rfl) ?_
          refine WL.nil (th_norm ?_)
          refine hx_cond (by simp only [EN, Nat.reduceEqDiff, reduceIte, strEq, hB1.cell, hB2.cell, hB9.cell, hB1.cell, hB2.cell, hB9.cell]; rfl) (fun hct163 => ?_) (fun hct163 => ?_)
          ·
           try simp only [BD] at hct163
           refine hx_seq (hx_region ?_)
           refine WL.qq (by refine qv_bld (by simp only [EN, Nat.reduceEqDiff, reduceIte, AR, strEq, hB1.cell, hB2.cell, hB9.cell, hB1.cell, hB2.cell, hB9.cell] <;> rfl) (by rw [bl34]; simp [Instr.fill, Value.cells]; rfl)) ?_
           refine WL.store (by simp only [EN, Nat.reduceEqDiff, reduceIte, k8_2, strEq, hB1.cell, hB2.cell, hB9.cell, hB1.cell, hB2.cell, hB9.cell] <;> rfl) sz34 (by simp only [EN, Nat.reduceEqDiff, reduceIte, Value.cells, k8_2, strEq, hB1.cell, hB2.cell, hB9.cell, hB1.cell, hB2.cell, hB9.cell] <;> rfl) rfl hB2 (by first | (simp [true_and]; done) | (simp [true_and]; omega) | omega) (by simp [Value.oneCell']) ?_
           intro h17 hw17
           have hXe := hw17.ext hX hb2
           replace hB2 := hw17.at_
           try simp only [splc, List.take_succ_cons, List.take_zero, List.take_nil, List.drop_succ_cons, List.drop_zero, List.drop_nil, List.cons_append, List.nil_append, List.length_cons, List.length_nil, Nat.zero_add, Nat.add_zero, Nat.reduceAdd, List.append_nil] at hB2
           refine WL.qq (by simp only [EN, Nat.reduceEqDiff, reduceIte, qv_assign, strEq, hB1.cell, hB2.cell, hB9.cell, hB1.cell, hB2.cell, hB9.cell]; rfl) ?_
           refine WL.nil (th_norm (hx_ret (th_ret ?_)))
           refine fin_ret [.cell 8 34, .tmp 9] rfl rfl (by simp only [EN, Nat.reduceEqDiff, reduceIte, resv, ld34, readN, AR, Nat.zero_add, Nat.reduceAdd, k0_2, k1_2, k2_2, k7_2, k8_2, k13_2, i14_2, strEq, hB1.cell, hB2.cell, hB9.cell, hB1.cell, hB2.cell, hB9.cell]; rfl) ?_
           have he : erN l os s d m = 11 := (by rw [heN, if_pos (by omega)])
           exact ⟨hXe, _, by rw [he]; rfl, .inl ⟨by rw [he]; decide, rfl⟩⟩
          ·
           try simp only [BD] at hct163
           rw [if_neg (by omega)] at heN
           refine hx_skip (th_norm (hx_seq (hx_seq (hx_region ?_))))
           iterate 4 refine WL.qq (by simp only [EN, Nat.reduceEqDiff, reduceIte, qv_fieldAddr, fa25_0, Nat.zero_add, Nat.reduceAdd, k7_2, strEq, hB1.cell, hB2.cell, hB9.cell, hB1.cell, hB2.cell, hB9.cell, qv_load, ld3, readN, AR, qv_binOp, binv_lss, qv_move]; rfl) ?_
           refine WL.cq (gd_at (t := 168) rfl (by simp only [EN, Nat.reduceEqDiff, reduceIte, k7_2, strEq, hB1.cell, hB2.cell, hB9.cell, hB1.cell, hB2.cell, hB9.cell] <;> rfl)) (fun hg40_4 => by simp only [EN, Nat.reduceEqDiff, reduceIte, qv_fieldAddr, fa25_0, Nat.zero_add, Nat.reduceAdd, k7_2, strEq, hB1.cell, hB2.cell, hB9.cell, hB1.cell, hB2.cell, hB9.cell, hg40_4, GR]; rfl) ?_
           refine WL.cq (gd_at (t := 168) rfl (by simp only [EN, Nat.reduceEqDiff, reduceIte, strEq, hB1.cell, hB2.cell, hB9.cell, hB1.cell, hB2.cell, hB9.cell] <;> rfl)) (fun hg40_5 => by simp only [EN, Nat.reduceEqDiff, reduceIte, qv_load, ld3, readN, AR, Nat.zero_add, Nat.reduceAdd, strEq, hB1.cell, hB2.cell, hB9.cell, hB1.cell, hB2.cell, hB9.cell, hg40_5, GR]; rfl) ?_
           refine WL.cq (gd_at (t := 168) rfl (by simp only [EN, Nat.reduceEqDiff, reduceIte, strEq, hB1.cell, hB2.cell, hB9.cell, hB1.cell, hB2.cell, hB9.cell] <;> rfl)) (fun hg40_6 => by simp only [EN, Nat.reduceEqDiff, reduceIte, qv_binOp, binv_gtr, strEq, hB1.cell, hB2.cell, hB9.cell, hB1.cell, hB2.cell, hB9.cell, hg40_6, GR]; rfl) ?_
           iterate 2 refine WL.qq (by simp only [EN, Nat.reduceEqDiff, reduceIte, qv_pick, pk_and, pk_or, GR, strEq, hB1.cell, hB2.cell, hB9.cell, hB1.cell, hB2.cell, hB9.cell, qv_move]; rfl) ?_
           refine WL.cq (gd_at (t := 173) rfl (by simp only [EN, Nat.reduceEqDiff, reduceIte, k7_2, strEq, hB1.cell, hB2.cell, hB9.cell, hB1.cell, hB2.cell, hB9.cell] <;> rfl)) (fun hg40_9 => by simp only [EN, Nat.reduceEqDiff, reduceIte, qv_fieldAddr, fa25_1, Nat.zero_add, Nat.reduceAdd, k7_2, strEq, hB1.cell, hB2.cell, hB9.cell, hB1.cell, hB2.cell, hB9.cell, hg40_9, GR]; rfl) ?_
           refine WL.cq (gd_at (t := 173) rfl (by simp only [EN, Nat.reduceEqDiff, reduceIte, strEq, hB1.cell, hB2.cell, hB9.cell, hB1.cell, hB2.cell, hB9.cell] <;> rfl)) (fun hg40_10 => by simp only [EN, Nat.reduceEqDiff, reduceIte, qv_load, ld3, readN, AR, Nat.zero_add, Nat.reduceAdd, strEq, hB1.cell, hB2.cell, hB9.cell, hB1.cell, hB2.cell, hB9.cell, hg40_10, GR]; rfl) ?_
           refine WL.cq (gd_at (t := 173) rfl (by simp only [EN, Nat.reduceEqDiff, reduceIte, strEq, hB1.cell, hB2.cell, hB9.cell, hB1.cell, hB2.cell, hB9.cell] <;> rfl)) (fun hg40_11 => by simp only [EN, Nat.reduceEqDiff, reduceIte, qv_binOp, binv_lss, strEq, hB1.cell, hB2.cell, hB9.cell, hB1.cell, hB2.cell, hB9.cell, hg40_11, GR]; rfl) ?_
           iterate 2 refine WL.qq (by simp only [EN, Nat.reduceEqDiff, reduceIte, qv_pick, pk_and, pk_or, GR, strEq, hB1.cell, hB2.cell, hB9.cell, hB1.cell, hB2.cell, hB9.cell, qv_move]; rfl) ?_
           refine WL.cq (gd_at (t := 178) rfl (by simp only [EN, Nat.reduceEqDiff, reduceIte, k7_2, strEq, hB1.cell, hB2.cell, hB9.cell, hB1.cell, hB2.cell, hB9.cell] <;> rfl)) (fun hg40_14 => by simp only [EN, Nat.reduceEqDiff, reduceIte, qv_fieldAddr, fa25_1, Nat.zero_add, Nat.reduceAdd, k7_2, strEq, hB1.cell, hB2.cell, hB9.cell, hB1.cell, hB2.cell, hB9.cell, hg40_14, GR]; rfl) ?_
           refine WL.cq (gd_at (t := 178) rfl (by simp only [EN, Nat.reduceEqDiff, reduceIte, strEq, hB1.cell, hB2.cell, hB9.cell, hB1.cell, hB2.cell, hB9.cell] <;> rfl)) (fun hg40_15 => by simp only [EN, Nat.reduceEqDiff, reduceIte, qv_load, ld3, readN, AR, Nat.zero_add, Nat.reduceAdd, strEq, hB1.cell, hB2.cell, hB9.cell, hB1.cell, hB2.cell, hB9.cell, hg40_15, GR]; rfl) ?_
           refine WL.cq (gd_at (t := 178) rfl (by simp only [EN, Nat.reduceEqDiff, reduceIte, strEq, hB1.cell, hB2.cell, hB9.cell, hB1.cell, hB2.cell, hB9.cell] <;> rfl)) (fun hg40_16 => by simp only [EN, Nat.reduceEqDiff, reduceIte, qv_binOp, binv_gtr, strEq, hB1.cell, hB2.cell, hB9.cell, hB1.cell, hB2.cell, hB9.cell, hg40_16, GR]; rfl) ?_
           refine WL.qq (by simp only [EN, Nat.reduceEqDiff, reduceIte, qv_pick, pk_and, pk_or, GR, strEq, hB1.cell, hB2.cell, hB9.cell, hB1.cell, hB2.cell, hB9.cell]; rfl) ?_
           refine WL.nil (th_norm ?_)
           refine hx_cond (by simp only [EN, Nat.reduceEqDiff, reduceIte, strEq, hB1.cell, hB2.cell, hB9.cell, hB1.cell, hB2.cell, hB9.cell]; rfl) (fun hct182 => ?_) (fun hct182 => ?_)
           ·
            try simp only [BD] at hct182
            refine hx_seq (hx_region ?_)
            refine WL.qq (by refine qv_bld (by simp only [EN, Nat.reduceEqDiff, reduceIte, AR, strEq, hB1.cell, hB2.cell, hB9.cell, hB1.cell, hB2.cell, hB9.cell] <;> rfl) (by rw [bl34]; simp [Instr.fill, Value.cells]; rfl)) ?_
            refine WL.store (by simp only [EN, Nat.reduceEqDiff, reduceIte, k8_2, strEq, hB1.cell, hB2.cell, hB9.cell, hB1.cell, hB2.cell, hB9.cell] <;> rfl) sz34 (by simp only [EN, Nat.reduceEqDiff, reduceIte, Value.cells, k8_2, strEq, hB1.cell, hB2.cell, hB9.cell, hB1.cell, hB2.cell, hB9.cell] <;> rfl) rfl hB2 (by first | (simp [true_and]; done) | (simp [true_and]; omega) | omega) (by simp [Value.oneCell']) ?_
            intro h18 hw18
            have hXe := hw18.ext hX hb2
            replace hB2 := hw18.at_
            try simp only [splc, List.take_succ_cons, List.take_zero, List.take_nil, List.drop_succ_cons, List.drop_zero, List.drop_nil, List.cons_append, List.nil_append, List.length_cons, List.length_nil, Nat.zero_add, Nat.add_zero, Nat.reduceAdd, List.append_nil] at hB2
            refine WL.qq (by simp only [EN, Nat.reduceEqDiff, reduceIte, qv_assign, strEq, hB1.cell, hB2.cell, hB9.cell, hB1.cell, hB2.cell, hB9.cell]; rfl) ?_
            refine WL.nil (th_norm (hx_ret (th_ret ?_)))
            refine fin_ret [.cell 8 34, .tmp 9] rfl rfl (by simp only [EN, Nat.reduceEqDiff, reduceIte, resv, ld34, readN, AR, Nat.zero_add, Nat.reduceAdd, k0_2, k1_2, k2_2, k7_2, k8_2, k13_2, i14_2, strEq, hB1.cell, hB2.cell, hB9.cell, hB1.cell, hB2.cell, hB9.cell]; rfl) ?_
            have hck : clkE d m = 2 := (by unfold clkE; rw [if_neg (by simp only [validM, Bool.and_eq_true, decide_eq_true_eq]; omega)])
            have he : erN l os s d m = 28 := (by rw [heN, hck]; rfl)
            exact ⟨hXe, _, by rw [he]; rfl, .inl ⟨by rw [he]; decide, rfl⟩⟩
           ·
            try simp only [BD] at hct182
            have hck : clkE d m = 0 := (by unfold clkE; rw [if_pos (by simp only [validM, Bool.and_eq_true, decide_eq_true_eq]; omega)])
            have hez : erN l os s d m = 0 := (by rw [heN, hck]; rfl)
            refine hx_skip (th_norm (hx_seq (hx_seq (hx_region ?_))))
            refine WL.qq (by simp only [EN, Nat.reduceEqDiff, reduceIte, qv_assign, strEq, hB1.cell, hB2.cell, hB9.cell, hB1.cell, hB2.cell, hB9.cell]; rfl) ?_
            refine WL.nil (th_norm (hx_block ?_))
            refine hx_loopG [16, 17, 18, 184, 185, 186, 187, 188, 189, 190, 191, 192, 193, 194, 195, 196, 197, 198, 199, 200, 201, 202, 203, 204, 205, 206, 207, 208, 209, 210, 211, 212, 213, 214, 215, 216, 217, 218, 219, 220, 221, 222, 223, 224, 225, 226, 227, 228, 229, 230, 231] (fun k e hL4 => ∃ (i : Nat) (av : Option Addr) (cv : Nat), l.length - i = k ∧ (i ≤ l.length) ∧ (Ext h hL4) ∧ (Has hL4 B2 (.cells #[.slice none 0 0, .slice none 0 0, iV 0, iV 0, iV 0, .slice none 0 0, .bool false] tyRE)) ∧ (Has hL4 B9 (.cells #[.slice av i cv, .slice a21 os.length c21, iV i9, iV d, iV m, .slice none 0 0, .bool false] tyRE)) ∧ (SlR tyRO 2 siL hL4 a21 os) ∧ (Own hL4 h.size tyRH 2 (.slice av i cv) i ((ordH (l.take i)).flatMap siL)) ∧ e 16 = .int .i64 i) _ ⟨0, none, 0, rfl, ?_, ?_, ?_, ?_, ?_, ?_, ?_⟩ ?_
            · omega
            · exact hX
            · exact hB2
            · exact hB9
            · exact hso
            · exact Own.nil
            · simp only [EN, Nat.reduceEqDiff, reduceIte, k0_2, k1_2, k2_2, k7_2, k8_2, k13_2, i14_2, strEq, hB1.cell, hB2.cell, hB9.cell, hB1.cell, hB2.cell, hB9.cell] <;> rfl
            ·
             rintro k e4L hL4 hfr4 ⟨i, av, cv, rfl, hi, hX, hB2, hB9, hso, hv, i16_4⟩
             have k0_4 := hfr4 0 rfl; try simp only [EN, Nat.reduceEqDiff, reduceIte, k0_2, strEq, hB1.cell, hB2.cell, hB9.cell, hB1.cell, hB2.cell, hB9.cell] at k0_4
             have k1_4 := hfr4 1 rfl; try simp only [EN, Nat.reduceEqDiff, reduceIte, k1_2, strEq, hB1.cell, hB2.cell, hB9.cell, hB1.cell, hB2.cell, hB9.cell] at k1_4
             have k8_4 := hfr4 8 rfl; try simp only [EN, Nat.reduceEqDiff, reduceIte, k8_2, strEq, hB1.cell, hB2.cell, hB9.cell, hB1.cell, hB2.cell, hB9.cell] at k8_4
             have k13_4 := hfr4 13 rfl; try simp only [EN, Nat.reduceEqDiff, reduceIte, k13_2, strEq, hB1.cell, hB2.cell, hB9.cell, hB1.cell, hB2.cell, hB9.cell] at k13_4
             refine hx_seq (hx_seq (hx_region ?_))
             iterate 4 refine WL.qq (by simp only [EN, Nat.reduceEqDiff, reduceIte, qv_move, i16_4, strEq, hB1.cell, hB2.cell, hB9.cell, hB1.cell, hB2.cell, hB9.cell, hB2.cell, hB9.cell, k0_4, qv_len, ln22, AR, qv_binOp, binv_lss]; rfl) ?_
             refine WL.nil (th_norm ?_)
             refine hx_cond (by simp only [EN, Nat.reduceEqDiff, reduceIte, strEq, hB1.cell, hB2.cell, hB9.cell, hB1.cell, hB2.cell, hB9.cell, hB2.cell, hB9.cell]; rfl) (fun hct187 => ?_) (fun hct187 => ?_)
             ·
              try simp only [BD] at hct187
              obtain ⟨x, hx⟩ := atG (l := l) (i := i) (by omega)
              obtain ⟨b1, o1, ha1, hr1, hr2, hr3⟩ := si_rd (hs0.ext hX) hx
              have hOl := ordH_len (l := l) (i := i) hi; have hst := ordH_step hx
              obtain ⟨hcv, hnv, hzv⟩ : i ≤ cv ∧ (av = none → cv = 0) ∧ (∀ x, av = some x → ∃ g, x = ⟨g, 0, none⟩) := (by obtain ⟨a9, c9, h9, h8, h7, h6⟩ := hv.shape; cases h9; exact ⟨h8, h7, fun x hx => by obtain ⟨g, hg, _⟩ := h6 x hx; exact ⟨g, hg⟩⟩)
              have hsv := slG_own (f := siL) (sz := 2) (fun _ => rfl) hv hOl.symm
              generalize hOO : ordH (l.take i) = O at hv hOl hst hsv
              refine hx_skip (th_norm (hx_seq (hx_block (hx_seq (hx_region ?_)))))
              iterate 4 refine WL.qq (by simp only [EN, Nat.reduceEqDiff, reduceIte, qv_fieldAddr, fa34_0, Nat.zero_add, Nat.reduceAdd, k13_4, strEq, hB1.cell, hB2.cell, hB9.cell, hB1.cell, hB2.cell, hB9.cell, hB2.cell, hB9.cell, qv_load, ld22, readN, AR, qv_len, ln22, qv_assign]; rfl) ?_
              refine WL.nil (th_norm ?_)
              refine hx_cutS [17, 193, 194, 195, 196, 197, 198, 199, 200, 201, 202, 203, 204, 205, 206, 207, 208, 209, 210, 211] (fun e => ∃ (p3 : Nat), (p3 ≤ i) ∧ (atH x O i = p3) ∧ e 17 = .int .i64 p3) ?_ ?_
              ·
               refine hx_block ?_
               refine hx_loopS [17, 193, 194, 195, 196, 197, 198, 199, 200, 201, 202, 203, 204, 205, 206, 207, 208, 209, 210, 211] (fun k e => ∃ (p2 : Nat), p2 = k ∧ (p2 ≤ i) ∧ (atH x O p2 = atH x O i) ∧ e 17 = .int .i64 p2) _ ⟨i, rfl, ?_, ?_, ?_⟩ ?_
               · omega
               · rfl
               · simp only [EN, Nat.reduceEqDiff, reduceIte, k0_4, k1_4, k8_4, k13_4, i16_4, strEq, hB1.cell, hB2.cell, hB9.cell, hB1.cell, hB2.cell, hB9.cell, hB2.cell, hB9.cell] <;> rfl
               ·
                rintro k e5L hfr5 ⟨p2, rfl, hp2, hpe, i17_5⟩
                have k0_5 := hfr5 0 rfl; try simp only [EN, Nat.reduceEqDiff, reduceIte, k0_4, strEq, hB1.cell, hB2.cell, hB9.cell, hB1.cell, hB2.cell, hB9.cell, hB2.cell, hB9.cell] at k0_5
                have k1_5 := hfr5 1 rfl; try simp only [EN, Nat.reduceEqDiff, reduceIte, k1_4, strEq, hB1.cell, hB2.cell, hB9.cell, hB1.cell, hB2.cell, hB9.cell, hB2.cell, hB9.cell] at k1_5
                have k8_5 := hfr5 8 rfl; try simp only [EN, Nat.reduceEqDiff, reduceIte, k8_4, strEq, hB1.cell, hB2.cell, hB9.cell, hB1.cell, hB2.cell, hB9.cell, hB2.cell, hB9.cell] at k8_5
                have k13_5 := hfr5 13 rfl; try simp only [EN, Nat.reduceEqDiff, reduceIte, k13_4, strEq, hB1.cell, hB2.cell, hB9.cell, hB1.cell, hB2.cell, hB9.cell, hB2.cell, hB9.cell] at k13_5
                have k16_5 := hfr5 16 rfl; try simp only [EN, Nat.reduceEqDiff, reduceIte, i16_4, strEq, hB1.cell, hB2.cell, hB9.cell, hB1.cell, hB2.cell, hB9.cell, hB2.cell, hB9.cell] at k16_5
                refine hx_seq (hx_seq ?_)
                by_cases hp0 : 0 < p2
                ·
                 obtain ⟨q, rfl⟩ : ∃ q, p2 = q + 1 := ⟨p2 - 1, by omega⟩
                 obtain ⟨y, hy⟩ := atG (l := O) (i := q) (by omega)
                 obtain ⟨b2, o2, ha2, _, hr22, _⟩ := si_rd hsv hy
                 have hstp : atH x O (q + 1) = if sLt x.s y.s = true then atH x O q else q + 1 := (by rw [atH, hy])
                 have kd : decide ((0 : Int) < ((q + 1 : Nat) : Int)) = true := decide_eq_true (by omega)
                 apply hx_draw2 Rel.same [] [] [] rfl (by decide +kernel) rfl
                 iterate 3 refine LD.qq rfl rfl (by simp only [EN, Nat.reduceEqDiff, reduceIte, qv_move, i17_5, strEq, hB1.cell, hB2.cell, hB9.cell, hB1.cell, hB2.cell, hB9.cell, hB2.cell, hB9.cell, qv_binOp, binv_gtr, kd]; rfl) ?_
                 refine LD.on (by rw [gOk_s (gd_at (t := 195) rfl (by simp only [EN, Nat.reduceEqDiff, reduceIte, k13_5, strEq, hB1.cell, hB2.cell, hB9.cell, hB1.cell, hB2.cell, hB9.cell, hB2.cell, hB9.cell] <;> rfl))]; rfl) ?_
                 refine LD.qq rfl rfl (by simp only [EN, Nat.reduceEqDiff, reduceIte, qv_fieldAddr, fa34_0, Nat.zero_add, Nat.reduceAdd, k13_5, strEq, hB1.cell, hB2.cell, hB9.cell, hB1.cell, hB2.cell, hB9.cell, hB2.cell, hB9.cell]; rfl) ?_
                 refine LD.on (by rw [gOk_s (gd_at (t := 195) rfl (by simp only [EN, Nat.reduceEqDiff, reduceIte, strEq, hB1.cell, hB2.cell, hB9.cell, hB1.cell, hB2.cell, hB9.cell, hB2.cell, hB9.cell] <;> rfl))]; rfl) ?_
                 refine LD.qq rfl rfl (by simp only [EN, Nat.reduceEqDiff, reduceIte, qv_load, ld22, readN, AR, Nat.zero_add, Nat.reduceAdd, strEq, hB1.cell, hB2.cell, hB9.cell, hB1.cell, hB2.cell, hB9.cell, hB2.cell, hB9.cell]; rfl) ?_
                 refine LD.on (by rw [gOk_s (gd_at (t := 195) rfl (by simp only [EN, Nat.reduceEqDiff, reduceIte, i17_5, strEq, hB1.cell, hB2.cell, hB9.cell, hB1.cell, hB2.cell, hB9.cell, hB2.cell, hB9.cell] <;> rfl))]; rfl) ?_
                 refine LD.qq rfl rfl (by simp only [EN, Nat.reduceEqDiff, reduceIte, qv_move, i17_5, strEq, hB1.cell, hB2.cell, hB9.cell, hB1.cell, hB2.cell, hB9.cell, hB2.cell, hB9.cell]; rfl) ?_
                 refine LD.on (by rw [gOk_s (gd_at (t := 195) rfl (by simp only [EN, Nat.reduceEqDiff, reduceIte, strEq, hB1.cell, hB2.cell, hB9.cell, hB1.cell, hB2.cell, hB9.cell, hB2.cell, hB9.cell] <;> rfl))]; rfl) ?_
                 refine LD.qq rfl rfl (by refine Eq.trans (b := some (iV q)) ?_ rfl; simp only [EN, Nat.reduceEqDiff, reduceIte, k0_5, k1_5, k8_5, k13_5, k16_5, i17_5, strEq, hB1.cell, hB2.cell, hB9.cell, hB1.cell, hB2.cell, hB9.cell, hB2.cell, hB9.cell, qv_binOp, binv_sub]; rw [w64 (by omega) (by omega)]; congr 2; omega) ?_
                 refine LD.on (by rw [gOk_s (gd_at (t := 195) rfl (by simp only [EN, Nat.reduceEqDiff, reduceIte, strEq, hB1.cell, hB2.cell, hB9.cell, hB1.cell, hB2.cell, hB9.cell, hB2.cell, hB9.cell] <;> rfl))]; rfl) ?_
                 refine LD.qq rfl rfl (by simp only [EN, Nat.reduceEqDiff, reduceIte, qv_indexAddr, strEq, hB1.cell, hB2.cell, hB9.cell, hB1.cell, hB2.cell, hB9.cell, hB2.cell, hB9.cell, ha2]; (try simp (disch := omega) only [ix22, Int.toNat_natCast]); rfl) ?_
                 refine LD.on (by rw [gOk_s (gd_at (t := 195) rfl (by simp only [EN, Nat.reduceEqDiff, reduceIte, strEq, hB1.cell, hB2.cell, hB9.cell, hB1.cell, hB2.cell, hB9.cell, hB2.cell, hB9.cell] <;> rfl))]; rfl) ?_
                 refine LD.qq rfl rfl (by simp only [EN, Nat.reduceEqDiff, reduceIte, qv_fieldAddr, fa66_0, Nat.zero_add, Nat.reduceAdd, strEq, hB1.cell, hB2.cell, hB9.cell, hB1.cell, hB2.cell, hB9.cell, hB2.cell, hB9.cell]; rfl) ?_
                 refine LD.on (by rw [gOk_s (gd_at (t := 195) rfl (by simp only [EN, Nat.reduceEqDiff, reduceIte, strEq, hB1.cell, hB2.cell, hB9.cell, hB1.cell, hB2.cell, hB9.cell, hB2.cell, hB9.cell] <;> rfl))]; rfl) ?_
                 refine LD.qq rfl rfl (by simp only [EN, Nat.reduceEqDiff, reduceIte, k0_5, k1_5, k8_5, k13_5, k16_5, i17_5, strEq, hB1.cell, hB2.cell, hB9.cell, hB1.cell, hB2.cell, hB9.cell, hB2.cell, hB9.cell, qv_load, ld9, Int.toNat_natCast, hr22]; rfl) ?_
                 refine LD.on (by rw [gOk_s (gd_at (t := 195) rfl (by simp only [EN, Nat.reduceEqDiff, reduceIte, k0_5, strEq, hB1.cell, hB2.cell, hB9.cell, hB1.cell, hB2.cell, hB9.cell, hB2.cell, hB9.cell] <;> rfl))]; rfl) ?_
                 refine LD.qq rfl rfl (by simp only [EN, Nat.reduceEqDiff, reduceIte, qv_move, k0_5, strEq, hB1.cell, hB2.cell, hB9.cell, hB1.cell, hB2.cell, hB9.cell, hB2.cell, hB9.cell]; rfl) ?_
                 refine LD.on (by rw [gOk_s (gd_at (t := 195) rfl (by simp only [EN, Nat.reduceEqDiff, reduceIte, k16_5, strEq, hB1.cell, hB2.cell, hB9.cell, hB1.cell, hB2.cell, hB9.cell, hB2.cell, hB9.cell] <;> rfl))]; rfl) ?_
                 refine LD.qq rfl rfl (by simp only [EN, Nat.reduceEqDiff, reduceIte, qv_move, k16_5, strEq, hB1.cell, hB2.cell, hB9.cell, hB1.cell, hB2.cell, hB9.cell, hB2.cell, hB9.cell]; rfl) ?_
                 refine LD.on (by rw [gOk_s (gd_at (t := 195) rfl (by simp only [EN, Nat.reduceEqDiff, reduceIte, strEq, hB1.cell, hB2.cell, hB9.cell, hB1.cell, hB2.cell, hB9.cell, hB2.cell, hB9.cell] <;> rfl))]; rfl) ?_
                 refine LD.qq rfl rfl (by simp only [EN, Nat.reduceEqDiff, reduceIte, qv_indexAddr, strEq, hB1.cell, hB2.cell, hB9.cell, hB1.cell, hB2.cell, hB9.cell, hB2.cell, hB9.cell, ha1]; (try simp (disch := omega) only [ix22, Int.toNat_natCast]); rfl) ?_
                 refine LD.on (by rw [gOk_s (gd_at (t := 195) rfl (by simp only [EN, Nat.reduceEqDiff, reduceIte, strEq, hB1.cell, hB2.cell, hB9.cell, hB1.cell, hB2.cell, hB9.cell, hB2.cell, hB9.cell] <;> rfl))]; rfl) ?_
                 refine LD.qq rfl rfl (by simp only [EN, Nat.reduceEqDiff, reduceIte, qv_fieldAddr, fa66_0, Nat.zero_add, Nat.reduceAdd, strEq, hB1.cell, hB2.cell, hB9.cell, hB1.cell, hB2.cell, hB9.cell, hB2.cell, hB9.cell]; rfl) ?_
                 refine LD.on (by rw [gOk_s (gd_at (t := 195) rfl (by simp only [EN, Nat.reduceEqDiff, reduceIte, strEq, hB1.cell, hB2.cell, hB9.cell, hB1.cell, hB2.cell, hB9.cell, hB2.cell, hB9.cell] <;> rfl))]; rfl) ?_
                 refine LD.qq rfl rfl (by simp only [EN, Nat.reduceEqDiff, reduceIte, k0_5, k1_5, k8_5, k13_5, k16_5, i17_5, strEq, hB1.cell, hB2.cell, hB9.cell, hB1.cell, hB2.cell, hB9.cell, hB2.cell, hB9.cell, qv_load, ld9, Int.toNat_natCast, hr2]; rfl) ?_
                 refine LD.on (by rw [gOk_s (gd_at (t := 195) rfl (by simp only [EN, Nat.reduceEqDiff, reduceIte, strEq, hB1.cell, hB2.cell, hB9.cell, hB1.cell, hB2.cell, hB9.cell, hB2.cell, hB9.cell] <;> rfl))]; rfl) ?_
                 refine LD.qq rfl rfl (by simp only [EN, Nat.reduceEqDiff, reduceIte, k0_5, k1_5, k8_5, k13_5, k16_5, i17_5, strEq, hB1.cell, hB2.cell, hB9.cell, hB1.cell, hB2.cell, hB9.cell, hB2.cell, hB9.cell, qv_binOp, binv_gtrS]; rfl) ?_
                 refine LD.qq rfl rfl (by simp only [EN, Nat.reduceEqDiff, reduceIte, qv_pick, pk_and, pk_or, GR, strEq, hB1.cell, hB2.cell, hB9.cell, hB1.cell, hB2.cell, hB9.cell, hB2.cell, hB9.cell]; rfl) ?_
                 refine LD.nil ?_
                 rintro hL4 rfl -
                 refine WL.nil (th_norm ?_)
                 refine hx_cond (by simp only [EN, Nat.reduceEqDiff, reduceIte, strEq, hB1.cell, hB2.cell, hB9.cell, hB1.cell, hB2.cell, hB9.cell, hB2.cell, hB9.cell]; rfl) (fun hct209 => ?_) (fun hct209 => ?_)
                 ·
                  try simp only [BD] at hct209
                  have hlt : sLt x.s y.s = true := hct209; rw [if_pos hlt, hpe] at hstp
                  refine hx_skip (th_norm (hx_block (hx_region ?_)))
                  refine WL.qq (by simp only [EN, Nat.reduceEqDiff, reduceIte, qv_move, i17_5, strEq, hB1.cell, hB2.cell, hB9.cell, hB1.cell, hB2.cell, hB9.cell, hB2.cell, hB9.cell]; rfl) ?_
                  refine WL.qq (by refine Eq.trans (b := some (iV q)) ?_ rfl; simp only [EN, Nat.reduceEqDiff, reduceIte, k0_5, k1_5, k8_5, k13_5, k16_5, i17_5, strEq, hB1.cell, hB2.cell, hB9.cell, hB1.cell, hB2.cell, hB9.cell, hB2.cell, hB9.cell, qv_binOp, binv_sub]; rw [w64 (by omega) (by omega)]; congr 2; omega) ?_
                  refine WL.qq (by simp only [EN, Nat.reduceEqDiff, reduceIte, qv_assign, strEq, hB1.cell, hB2.cell, hB9.cell, hB1.cell, hB2.cell, hB9.cell, hB2.cell, hB9.cell]; rfl) ?_
                  refine WL.nil (bl_norm (th_norm ?_))
                  refine ⟨rfl, rfl, ?_, _, ?_, q, rfl, ?_, ?_, ?_⟩
                  · (repeat (first | exact Fr.refl _ _ | refine Fr.set rfl ?_ | refine Fr.put rfl ?_ | with_reducible refine Fr.put0 ?_))
                  · omega
                  · omega
                  · exact hstp.symm
                  · simp only [EN, Nat.reduceEqDiff, reduceIte, k0_5, k1_5, k8_5, k13_5, k16_5, i17_5, strEq, hB1.cell, hB2.cell, hB9.cell, hB1.cell, hB2.cell, hB9.cell, hB2.cell, hB9.cell] <;> first | rfl | (congr 1; omega)
                 ·
                  try simp only [BD] at hct209
                  have hlt : ¬ sLt x.s y.s = true := (by rw [hct209]; decide); rw [if_neg hlt, hpe] at hstp
                  refine hx_exit (th_exit (th_exit (bl_hit (th_norm ?_))))
                  refine ⟨rfl, rfl, ?_, q + 1, ?_, ?_, ?_⟩
                  · (repeat (first | exact Fr.refl _ _ | refine Fr.set rfl ?_ | refine Fr.put rfl ?_ | with_reducible refine Fr.put0 ?_ | refine Fr.trans ?_ (Fr.of hfr5 rfl)))
                  · omega
                  · exact hstp
                  · simp only [EN, Nat.reduceEqDiff, reduceIte, k0_5, k1_5, k8_5, k13_5, k16_5, i17_5, strEq, hB1.cell, hB2.cell, hB9.cell, hB1.cell, hB2.cell, hB9.cell, hB2.cell, hB9.cell] <;> first | rfl | (congr 1; omega)
                ·
                 obtain rfl : p2 = 0 := (by omega)
                 have kd : decide ((0 : Int) < ((0 : Nat) : Int)) = false := decide_eq_false (by omega)
                 apply hx_draw2 Rel.same [] [] [] rfl (by decide +kernel) rfl
                 iterate 3 refine LD.qq rfl rfl (by simp only [EN, Nat.reduceEqDiff, reduceIte, qv_move, i17_5, strEq, hB1.cell, hB2.cell, hB9.cell, hB1.cell, hB2.cell, hB9.cell, hB2.cell, hB9.cell, qv_binOp, binv_gtr, kd]; rfl) ?_
                 refine LD.offS rfl (by first | (rw [gOk_s (gd_at (t := 195) rfl (by simp only [EN, Nat.reduceEqDiff, reduceIte, k13_5, strEq, hB1.cell, hB2.cell, hB9.cell, hB1.cell, hB2.cell, hB9.cell, hB2.cell, hB9.cell] <;> rfl))]; rfl) | exact gOk_z (gd_un (t := 195) rfl (by simp only [EN, Nat.reduceEqDiff, reduceIte, k13_5, strEq, hB1.cell, hB2.cell, hB9.cell, hB1.cell, hB2.cell, hB9.cell, hB2.cell, hB9.cell] <;> rfl))) ?_
                 refine LD.offS rfl (by first | (rw [gOk_s (gd_at (t := 195) rfl (by simp only [EN, Nat.reduceEqDiff, reduceIte, strEq, hB1.cell, hB2.cell, hB9.cell, hB1.cell, hB2.cell, hB9.cell, hB2.cell, hB9.cell] <;> rfl))]; rfl) | exact gOk_z (gd_un (t := 195) rfl (by simp only [EN, Nat.reduceEqDiff, reduceIte, strEq, hB1.cell, hB2.cell, hB9.cell, hB1.cell, hB2.cell, hB9.cell, hB2.cell, hB9.cell] <;> rfl))) ?_
                 refine LD.offS rfl (by first | (rw [gOk_s (gd_at (t := 195) rfl (by simp only [EN, Nat.reduceEqDiff, reduceIte, i17_5, strEq, hB1.cell, hB2.cell, hB9.cell, hB1.cell, hB2.cell, hB9.cell, hB2.cell, hB9.cell] <;> rfl))]; rfl) | exact gOk_z (gd_un (t := 195) rfl (by simp only [EN, Nat.reduceEqDiff, reduceIte, i17_5, strEq, hB1.cell, hB2.cell, hB9.cell, hB1.cell, hB2.cell, hB9.cell, hB2.cell, hB9.cell] <;> rfl))) ?_
                 refine LD.offS rfl (by first | (rw [gOk_s (gd_at (t := 195) rfl (by simp only [EN, Nat.reduceEqDiff, reduceIte, strEq, hB1.cell, hB2.cell, hB9.cell, hB1.cell, hB2.cell, hB9.cell, hB2.cell, hB9.cell] <;> rfl))]; rfl) | exact gOk_z (gd_un (t := 195) rfl (by simp only [EN, Nat.reduceEqDiff, reduceIte, strEq, hB1.cell, hB2.cell, hB9.cell, hB1.cell, hB2.cell, hB9.cell, hB2.cell, hB9.cell] <;> rfl))) ?_
                 refine LD.offS rfl (by first | (rw [gOk_s (gd_at (t := 195) rfl (by simp only [EN, Nat.reduceEqDiff, reduceIte, strEq, hB1.cell, hB2.cell, hB9.cell, hB1.cell, hB2.cell, hB9.cell, hB2.cell, hB9.cell] <;> rfl))]; rfl) | exact gOk_z (gd_un (t := 195) rfl (by simp only [EN, Nat.reduceEqDiff, reduceIte, strEq, hB1.cell, hB2.cell, hB9.cell, hB1.cell, hB2.cell, hB9.cell, hB2.cell, hB9.cell] <;> rfl))) ?_
                 refine LD.offS rfl (by first | (rw [gOk_s (gd_at (t := 195) rfl (by simp only [EN, Nat.reduceEqDiff, reduceIte, strEq, hB1.cell, hB2.cell, hB9.cell, hB1.cell, hB2.cell, hB9.cell, hB2.cell, hB9.cell] <;> rfl))]; rfl) | exact gOk_z (gd_un (t := 195) rfl (by simp only [EN, Nat.reduceEqDiff, reduceIte, strEq, hB1.cell, hB2.cell, hB9.cell, hB1.cell, hB2.cell, hB9.cell, hB2.cell, hB9.cell] <;> rfl))) ?_
                 refine LD.offS rfl (by first | (rw [gOk_s (gd_at (t := 195) rfl (by simp only [EN, Nat.reduceEqDiff, reduceIte, strEq, hB1.cell, hB2.cell, hB9.cell, hB1.cell, hB2.cell, hB9.cell, hB2.cell, hB9.cell] <;> rfl))]; rfl) | exact gOk_z (gd_un (t := 195) rfl (by simp only [EN, Nat.reduceEqDiff, reduceIte, strEq, hB1.cell, hB2.cell, hB9.cell, hB1.cell, hB2.cell, hB9.cell, hB2.cell, hB9.cell] <;> rfl))) ?_
                 refine LD.offS rfl (by first | (rw [gOk_s (gd_at (t := 195) rfl (by simp only [EN, Nat.reduceEqDiff, reduceIte, k0_5, strEq, hB1.cell, hB2.cell, hB9.cell, hB1.cell, hB2.cell, hB9.cell, hB2.cell, hB9.cell] <;> rfl))]; rfl) | exact gOk_z (gd_un (t := 195) rfl (by simp only [EN, Nat.reduceEqDiff, reduceIte, k0_5, strEq, hB1.cell, hB2.cell, hB9.cell, hB1.cell, hB2.cell, hB9.cell, hB2.cell, hB9.cell] <;> rfl))) ?_
                 refine LD.offS rfl (by first | (rw [gOk_s (gd_at (t := 195) rfl (by simp only [EN, Nat.reduceEqDiff, reduceIte, k16_5, strEq, hB1.cell, hB2.cell, hB9.cell, hB1.cell, hB2.cell, hB9.cell, hB2.cell, hB9.cell] <;> rfl))]; rfl) | exact gOk_z (gd_un (t := 195) rfl (by simp only [EN, Nat.reduceEqDiff, reduceIte, k16_5, strEq, hB1.cell, hB2.cell, hB9.cell, hB1.cell, hB2.cell, hB9.cell, hB2.cell, hB9.cell] <;> rfl))) ?_
                 refine LD.offS rfl (by first | (rw [gOk_s (gd_at (t := 195) rfl (by simp only [EN, Nat.reduceEqDiff, reduceIte, strEq, hB1.cell, hB2.cell, hB9.cell, hB1.cell, hB2.cell, hB9.cell, hB2.cell, hB9.cell] <;> rfl))]; rfl) | exact gOk_z (gd_un (t := 195) rfl (by simp only [EN, Nat.reduceEqDiff, reduceIte, strEq, hB1.cell, hB2.cell, hB9.cell, hB1.cell, hB2.cell, hB9.cell, hB2.cell, hB9.cell] <;> rfl))) ?_
                 refine LD.offS rfl (by first | (rw [gOk_s (gd_at (t := 195) rfl (by simp only [EN, Nat.reduceEqDiff, reduceIte, strEq, hB1.cell, hB2.cell, hB9.cell, hB1.cell, hB2.cell, hB9.cell, hB2.cell, hB9.cell] <;> rfl))]; rfl) | exact gOk_z (gd_un (t := 195) rfl (by simp only [EN, Nat.reduceEqDiff, reduceIte, strEq, hB1.cell, hB2.cell, hB9.cell, hB1.cell, hB2.cell, hB9.cell, hB2.cell, hB9.cell] <;> rfl))) ?_
                 refine LD.offS rfl (by first | (rw [gOk_s (gd_at (t := 195) rfl (by simp only [EN, Nat.reduceEqDiff, reduceIte, strEq, hB1.cell, hB2.cell, hB9.cell, hB1.cell, hB2.cell, hB9.cell, hB2.cell, hB9.cell] <;> rfl))]; rfl) | exact gOk_z (gd_un (t := 195) rfl (by simp only [EN, Nat.reduceEqDiff, reduceIte, strEq, hB1.cell, hB2.cell, hB9.cell, hB1.cell, hB2.cell, hB9.cell, hB2.cell, hB9.cell] <;> rfl))) ?_
                 refine LD.offS rfl (by first | (rw [gOk_s (gd_at (t := 195) rfl (by simp only [EN, Nat.reduceEqDiff, reduceIte, strEq, hB1.cell, hB2.cell, hB9.cell, hB1.cell, hB2.cell, hB9.cell, hB2.cell, hB9.cell] <;> rfl))]; rfl) | exact gOk_z (gd_un (t := 195) rfl (by simp only [EN, Nat.reduceEqDiff, reduceIte, strEq, hB1.cell, hB2.cell, hB9.cell, hB1.cell, hB2.cell, hB9.cell, hB2.cell, hB9.cell] <;> rfl))) ?_
                 refine LD.qq rfl rfl (by simp only [EN, Nat.reduceEqDiff, reduceIte, qv_pick, pk_and, pk_or, GR, strEq, hB1.cell, hB2.cell, hB9.cell, hB1.cell, hB2.cell, hB9.cell, hB2.cell, hB9.cell]; rfl) ?_
                 refine LD.nil ?_
                 rintro hL4 rfl -
                 refine WL.nil (th_norm ?_)
                 refine hx_cond (by simp only [EN, Nat.reduceEqDiff, reduceIte, strEq, hB1.cell, hB2.cell, hB9.cell, hB1.cell, hB2.cell, hB9.cell, hB2.cell, hB9.cell]; rfl) (fun hct209 => ?_) (fun hct209 => ?_)
                 ·
                  simp at hct209
                 ·
                  try simp only [BD] at hct209
                  refine hx_exit (th_exit (th_exit (bl_hit (th_norm ?_))))
                  refine ⟨rfl, rfl, ?_, 0, ?_, ?_, ?_⟩
                  · (repeat (first | exact Fr.refl _ _ | refine Fr.set rfl ?_ | refine Fr.put rfl ?_ | with_reducible refine Fr.put0 ?_ | refine Fr.trans ?_ (Fr.of hfr5 rfl)))
                  · omega
                  · exact hpe.symm
                  · simp only [EN, Nat.reduceEqDiff, reduceIte, k0_5, k1_5, k8_5, k13_5, k16_5, i17_5, strEq, hB1.cell, hB2.cell, hB9.cell, hB1.cell, hB2.cell, hB9.cell, hB2.cell, hB9.cell] <;> first | rfl | (congr 1; omega)
              ·
               rintro ecb10 hfcb10 ⟨p3, hp3, hat, i17_cb10⟩
               have k0_cb10 := hfcb10 0 rfl; try simp only [EN, Nat.reduceEqDiff, reduceIte, k0_4, strEq, hB1.cell, hB2.cell, hB9.cell, hB1.cell, hB2.cell, hB9.cell, hB2.cell, hB9.cell] at k0_cb10
               have k1_cb10 := hfcb10 1 rfl; try simp only [EN, Nat.reduceEqDiff, reduceIte, k1_4, strEq, hB1.cell, hB2.cell, hB9.cell, hB1.cell, hB2.cell, hB9.cell, hB2.cell, hB9.cell] at k1_cb10
               have k8_cb10 := hfcb10 8 rfl; try simp only [EN, Nat.reduceEqDiff, reduceIte, k8_4, strEq, hB1.cell, hB2.cell, hB9.cell, hB1.cell, hB2.cell, hB9.cell, hB2.cell, hB9.cell] at k8_cb10
               have k13_cb10 := hfcb10 13 rfl; try simp only [EN, Nat.reduceEqDiff, reduceIte, k13_4, strEq, hB1.cell, hB2.cell, hB9.cell, hB1.cell, hB2.cell, hB9.cell, hB2.cell, hB9.cell] at k13_cb10
               have k16_cb10 := hfcb10 16 rfl; try simp only [EN, Nat.reduceEqDiff, reduceIte, i16_4, strEq, hB1.cell, hB2.cell, hB9.cell, hB1.cell, hB2.cell, hB9.cell, hB2.cell, hB9.cell] at k16_cb10
               refine hx_seq (hx_region ?_)
               refine WL.lit0 Tryz.underlying22 sz66 ?_
               intro h48 B48 hx48 hlt48 hB48
               have hB9i := hB9
               replace hB9 := hB9i.ext hx48
               iterate 3 refine WL.qq (by simp only [EN, Nat.reduceEqDiff, reduceIte, qv_fieldAddr, fa34_0, Nat.zero_add, Nat.reduceAdd, k13_cb10, strEq, hB1.cell, hB2.cell, hB9.cell, hB1.cell, hB2.cell, hB9.cell, hB2.cell, hB9.cell, qv_load, ld22, readN, AR, qv_move, i17_cb10]; rfl) ?_
               refine WL.qq (by simp only [EN, Nat.reduceEqDiff, reduceIte, qv_slice, Option.map_some, Option.map_none, strEq, hB1.cell, hB2.cell, hB9.cell, hB1.cell, hB2.cell, hB9.cell, hB2.cell, hB9.cell]; (try simp (disch := omega) only [sh22, Int.toNat_natCast]); rfl) ?_
               refine WL.appG (f := siL) (base := hL4.size) (n := 0) (xs := []) (bytes := 24) (sz := 2) (L := O.take p3) Tryz.underlying22 (inf_of Tryz.type66) rfl rfl rfl rfl (by decide) (fun _ => rfl) siL_one (by simp only [EN, Nat.reduceEqDiff, reduceIte, k0_cb10, k1_cb10, k8_cb10, k13_cb10, k16_cb10, i17_cb10, strEq, hB1.cell, hB2.cell, hB9.cell, hB1.cell, hB2.cell, hB9.cell, hB2.cell, hB9.cell] <;> rfl) (Own.lit0 hB48 hlt48) (by simp only [EN, Nat.reduceEqDiff, reduceIte, k0_cb10, k1_cb10, k8_cb10, k13_cb10, k16_cb10, i17_cb10, strEq, hB1.cell, hB2.cell, hB9.cell, hB1.cell, hB2.cell, hB9.cell, hB2.cell, hB9.cell] <;> rfl) (by rw [List.length_take]; omega) hnv ((hsv.ext hx48).pre p3) (by simp only [maxLen, List.length_take]; omega) (by rw [List.length_take]; omega) hx48.size ?_
               intro h49 v49 ho49 hg49 hp49 hn49
               have hx49 := hg49.ext hx48 (fun c hc => by cases hc; exact hlt48)
               replace hB9 := hB9i.ext hx49
               obtain ⟨b1, o1, ha1, hr1, _⟩ := si_rd (hs0.ext (hX.trans hx49)) hx
               have hTl : (O.take p3).length = p3 := (by rw [List.length_take]; omega)
               have hDl : (O.drop p3).length = i - p3 := (by rw [List.length_drop]; omega)
               refine WL.qq (by simp only [EN, Nat.reduceEqDiff, reduceIte, qv_assign, strEq, hB1.cell, hB2.cell, hB9.cell, hB1.cell, hB2.cell, hB9.cell, hB2.cell, hB9.cell]; rfl) ?_
               refine WL.nil (th_norm (hx_seq (hx_region ?_)))
               iterate 4 refine WL.qq (by simp only [EN, Nat.reduceEqDiff, reduceIte, qv_move, strEq, hB1.cell, hB2.cell, hB9.cell, hB1.cell, hB2.cell, hB9.cell, hB2.cell, hB9.cell, k0_cb10, k16_cb10, qv_indexAddr, ha1]; (try simp (disch := omega) only [ix22, Int.toNat_natCast]); rfl) ?_
               refine WL.qq (by simp only [EN, Nat.reduceEqDiff, reduceIte, k0_cb10, k1_cb10, k8_cb10, k13_cb10, k16_cb10, i17_cb10, strEq, hB1.cell, hB2.cell, hB9.cell, hB1.cell, hB2.cell, hB9.cell, hB2.cell, hB9.cell, qv_load, ld66, Int.toNat_natCast, hr1]; rfl) ?_
               refine WL.push (bytes := 24) Tryz.underlying22 (inf_of Tryz.type66) rfl rfl rfl rfl (by decide) (by decide) sz66 zr66 (fun u => by simp only [EN, Nat.reduceEqDiff, reduceIte, k0_cb10, k1_cb10, k8_cb10, k13_cb10, k16_cb10, i17_cb10, strEq, hB1.cell, hB2.cell, hB9.cell, hB1.cell, hB2.cell, hB9.cell, hB2.cell, hB9.cell]) ho49 (c := (siL x).toArray) (by simp only [EN, Nat.reduceEqDiff, reduceIte, k0_cb10, k1_cb10, k8_cb10, k13_cb10, k16_cb10, i17_cb10, strEq, hB1.cell, hB2.cell, hB9.cell, hB1.cell, hB2.cell, hB9.cell, hB2.cell, hB9.cell, Value.cells] <;> rfl) rfl (by simp [Value.oneCell']) (by simp only [maxLen]; omega) (by omega) hx49.size ?_
               intro h50 v50 B50 ho50 hg50 hp50 hn50
               have hx50 := hg50.ext hx49 (fun c hc => (ho49.block c hc).1)
               replace hB9 := hB9i.ext hx50
               obtain ⟨a', hsl, hsd, hnl⟩ := sl_lo (P := Tryz.prog) Tryz.underlying22 sz66 (hsv.ext hx50) (by omega) hnv hzv p3 (by omega)
               rw [hOl] at hsl
               skip
               refine WL.qq (by simp only [EN, Nat.reduceEqDiff, reduceIte, qv_assign, strEq, hB1.cell, hB2.cell, hB9.cell, hB1.cell, hB2.cell, hB9.cell, hB2.cell, hB9.cell]; rfl) ?_
               refine WL.nil (th_norm (hx_region ?_))
               iterate 4 refine WL.qq (by simp only [EN, Nat.reduceEqDiff, reduceIte, qv_move, strEq, hB1.cell, hB2.cell, hB9.cell, hB1.cell, hB2.cell, hB9.cell, hB2.cell, hB9.cell, qv_fieldAddr, fa34_0, Nat.zero_add, Nat.reduceAdd, k13_cb10, qv_load, ld22, readN, AR, i17_cb10]; rfl) ?_
               refine WL.qq (by simp only [EN, Nat.reduceEqDiff, reduceIte, k0_cb10, k1_cb10, k8_cb10, k13_cb10, k16_cb10, i17_cb10, strEq, hB1.cell, hB2.cell, hB9.cell, hB1.cell, hB2.cell, hB9.cell, hB2.cell, hB9.cell, qv_slice, Option.map_some, Option.map_none]; exact hsl) ?_
               refine WL.appG (f := siL) (base := hL4.size) (bytes := 24) (sz := 2) (L := O.drop p3) Tryz.underlying22 (inf_of Tryz.type66) rfl rfl rfl rfl (by decide) (fun _ => rfl) siL_one (by simp only [EN, Nat.reduceEqDiff, reduceIte, k0_cb10, k1_cb10, k8_cb10, k13_cb10, k16_cb10, i17_cb10, strEq, hB1.cell, hB2.cell, hB9.cell, hB1.cell, hB2.cell, hB9.cell, hB2.cell, hB9.cell] <;> rfl) ho50 (by simp only [EN, Nat.reduceEqDiff, reduceIte, k0_cb10, k1_cb10, k8_cb10, k13_cb10, k16_cb10, i17_cb10, strEq, hB1.cell, hB2.cell, hB9.cell, hB1.cell, hB2.cell, hB9.cell, hB2.cell, hB9.cell] <;> rfl) hDl.symm hnl hsd (by simp only [maxLen]; omega) (by omega) hx50.size ?_
               intro h51 v51 ho51 hg51 hp51 hn51
               have hx51 := hg51.ext hx50 (fun c hc => (ho50.block c hc).1)
               replace hB9 := hB9i.ext hx51
               have hfl : (insH x O).flatMap siL = (([] ++ (O.take p3).flatMap siL) ++ (siL x).toArray.toList) ++ (O.drop p3).flatMap siL := (by rw [insH, hOl, hat]; simp [List.flatMap_append, List.flatMap_cons])
               have ho52 : Own h51 h.size tyRH 2 v51 (i + 1) ((insH x O).flatMap siL) := (by rw [hfl]; have h9 := ho51.base hX.size; rw [hTl, hDl, show 0 + p3 + 1 + (i - p3) = i + 1 by omega] at h9; exact h9)
               obtain ⟨a52, c52, rfl, _⟩ := ho52.shape
               refine WL.qq (by simp only [EN, Nat.reduceEqDiff, reduceIte, qv_fieldAddr, fa34_0, Nat.zero_add, Nat.reduceAdd, k13_cb10, strEq, hB1.cell, hB2.cell, hB9.cell, hB1.cell, hB2.cell, hB9.cell, hB2.cell, hB9.cell]; rfl) ?_
               refine WL.store (by simp only [EN, Nat.reduceEqDiff, reduceIte, strEq, hB1.cell, hB2.cell, hB9.cell, hB1.cell, hB2.cell, hB9.cell, hB2.cell, hB9.cell] <;> rfl) sz22 (by simp only [EN, Nat.reduceEqDiff, reduceIte, Value.cells, strEq, hB1.cell, hB2.cell, hB9.cell, hB1.cell, hB2.cell, hB9.cell, hB2.cell, hB9.cell] <;> rfl) rfl hB9 (by first | (simp [true_and]; done) | (simp [true_and]; omega) | omega) (by simp [Value.oneCell']) ?_
               intro h19 hw19
               replace hX := hw19.ext (hX.trans hx51) hb9
               replace hB2 := (hB2.ext hx51).wr hw19 hn29
               replace hso := (hso.ext hx51).wr hw19 hB9 (by decide)
               have hv2 := ho52.keep (h' := h19) (fun c hc => hw19.same c (fun hh => by subst hh; exact ho52.ncell hB9 (by decide) hc))
               replace hB9 := hw19.at_
               try simp only [splc, List.take_succ_cons, List.take_zero, List.take_nil, List.drop_succ_cons, List.drop_zero, List.drop_nil, List.cons_append, List.nil_append, List.length_cons, List.length_nil, Nat.zero_add, Nat.add_zero, Nat.reduceAdd, List.append_nil] at hB9
               refine WL.nil (bl_norm (th_norm (hx_region ?_)))
               iterate 3 refine WL.qq (by simp only [EN, Nat.reduceEqDiff, reduceIte, qv_move, k16_cb10, strEq, hB1.cell, hB2.cell, hB9.cell, hB1.cell, hB2.cell, hB9.cell, hB2.cell, hB9.cell, qv_binOp, binv_add, qv_assign]; (try simp (disch := omega) only [w64, w8, wu64]); rfl) ?_
               refine WL.nil (th_norm ?_)
               refine ⟨rfl, ?_, _, ?_, i + 1, a52, c52, rfl, ?_, ?_, ?_, ?_, ?_, ?_, ?_⟩
               · (repeat (first | exact Fr.refl _ _ | refine Fr.set rfl ?_ | refine Fr.put rfl ?_ | with_reducible refine Fr.put0 ?_ | refine Fr.trans ?_ (Fr.of hfcb10 rfl)))
               · omega
               · omega
               · exact hX
               · exact hB2
               · exact hB9
               · exact hso
               · rw [hst]; exact hv2
               · simp only [EN, Nat.reduceEqDiff, reduceIte, k0_cb10, k1_cb10, k8_cb10, k13_cb10, k16_cb10, i17_cb10, strEq, hB1.cell, hB2.cell, hB9.cell, hB1.cell, hB2.cell, hB9.cell, hB2.cell, hB9.cell] <;> first | rfl | (congr 1; omega)
             ·
              try simp only [BD] at hct187
              obtain rfl : i = l.length := (by omega)
              rw [List.take_length] at hv; have hOl : (ordH l).length = l.length := (by have := ordH_len (l := l) (i := l.length) (Nat.le_refl _); rwa [List.take_length] at this)
              have hvR := SlR.own (f := siL) (sz := 2) (fun _ => rfl) hv hOl.symm
              have hcv : l.length ≤ cv := (by obtain ⟨a9, c9, h9, h8, _⟩ := hv.shape; cases h9; exact h8)
              refine hx_exit (th_exit (th_exit (bl_hit (th_norm (hx_seq (hx_seq (hx_region ?_)))))))
              refine WL.qq (by simp only [EN, Nat.reduceEqDiff, reduceIte, qv_assign, strEq, hB1.cell, hB2.cell, hB9.cell, hB1.cell, hB2.cell, hB9.cell, hB2.cell, hB9.cell]; rfl) ?_
              refine WL.nil (th_norm (hx_block ?_))
              refine hx_loopG [19, 232, 233, 234, 235, 236, 237, 238, 239, 240, 241, 242, 243, 244, 245] (fun k e hL6 => ∃ (i2 : Nat) (ac : Option Addr) (cc : Nat) (rows : List SV), l.length - i2 = k ∧ (i2 ≤ l.length) ∧ (Ext h hL6) ∧ (Has hL6 B2 (.cells #[.slice none 0 0, .slice none 0 0, iV 0, iV 0, iV 0, .slice none 0 0, .bool false] tyRE)) ∧ (Has hL6 B9 (.cells #[.slice av l.length cv, .slice a21 os.length c21, iV i9, iV d, iV m, .slice ac i2 cc, .bool false] tyRE)) ∧ (SlR tyRO 2 siL hL6 a21 os) ∧ (SlR tyRH 2 siL hL6 av (ordH l)) ∧ (Own hL6 h.size tySl 1 (.slice ac i2 cc) i2 (rows.flatMap svL)) ∧ (rows.length = i2) ∧ (RowZ hL6 os.length rows) ∧ e 19 = .int .i64 i2) _ ⟨0, none, 0, [], rfl, ?_, ?_, ?_, ?_, ?_, ?_, ?_, ?_, ?_, ?_⟩ ?_
              · omega
              · exact hX
              · exact hB2
              · exact hB9
              · exact hso
              · exact hvR
              · exact Own.nil
              · rfl
              · intro v hv; cases hv
              · simp only [EN, Nat.reduceEqDiff, reduceIte, k0_4, k1_4, k8_4, k13_4, i16_4, strEq, hB1.cell, hB2.cell, hB9.cell, hB1.cell, hB2.cell, hB9.cell, hB2.cell, hB9.cell] <;> rfl
              ·
               rintro k e6L hL6 hfr6 ⟨i2, ac, cc, rows, rfl, hi2, hX, hB2, hB9, hso, hvR, hc, hrl, hrz, i19_6⟩
               have k0_6 := hfr6 0 rfl; try simp only [EN, Nat.reduceEqDiff, reduceIte, k0_4, strEq, hB1.cell, hB2.cell, hB9.cell, hB1.cell, hB2.cell, hB9.cell, hB2.cell, hB9.cell] at k0_6
               have k1_6 := hfr6 1 rfl; try simp only [EN, Nat.reduceEqDiff, reduceIte, k1_4, strEq, hB1.cell, hB2.cell, hB9.cell, hB1.cell, hB2.cell, hB9.cell, hB2.cell, hB9.cell] at k1_6
               have k8_6 := hfr6 8 rfl; try simp only [EN, Nat.reduceEqDiff, reduceIte, k8_4, strEq, hB1.cell, hB2.cell, hB9.cell, hB1.cell, hB2.cell, hB9.cell, hB2.cell, hB9.cell] at k8_6
               have k13_6 := hfr6 13 rfl; try simp only [EN, Nat.reduceEqDiff, reduceIte, k13_4, strEq, hB1.cell, hB2.cell, hB9.cell, hB1.cell, hB2.cell, hB9.cell, hB2.cell, hB9.cell] at k13_6
               refine hx_seq (hx_seq (hx_region ?_))
               iterate 4 refine WL.qq (by simp only [EN, Nat.reduceEqDiff, reduceIte, qv_move, i19_6, strEq, hB1.cell, hB2.cell, hB9.cell, hB1.cell, hB2.cell, hB9.cell, hB2.cell, hB9.cell, hB2.cell, hB9.cell, k0_6, qv_len, ln22, AR, qv_binOp, binv_lss]; rfl) ?_
               refine WL.nil (th_norm ?_)
               refine hx_cond (by simp only [EN, Nat.reduceEqDiff, reduceIte, strEq, hB1.cell, hB2.cell, hB9.cell, hB1.cell, hB2.cell, hB9.cell, hB2.cell, hB9.cell, hB2.cell, hB9.cell]; rfl) (fun hct235 => ?_) (fun hct235 => ?_)
               ·
                try simp only [BD] at hct235
                refine hx_skip (th_norm (hx_seq (hx_block ?_)))
                apply hx_draw2 Rel.grows [6, 7, 8] [4, 5] [(4, (Spec.own (Array.size hL6) tyI 1 os.length ((List.replicate os.length (0 : Int)).flatMap intL))), (5, (Spec.lr (Array.size hL6) os.length))] rfl (by decide +kernel) rfl
                iterate 4 refine LD.qq rfl rfl (by simp only [EN, Nat.reduceEqDiff, reduceIte, qv_fieldAddr, fa34_4, Nat.zero_add, Nat.reduceAdd, k13_6, strEq, hB1.cell, hB2.cell, hB9.cell, hB1.cell, hB2.cell, hB9.cell, hB2.cell, hB9.cell, hB2.cell, hB9.cell, qv_load, ld32, readN, AR, qv_move, k1_6, qv_len, ln23]; rfl) ?_
                refine LD.es rfl rfl (by intro hD hr hf; have hx : Ext _ _ := hr; have hX := hX.ext hx; have hB2 := hB2.ext hx; have hB9 := hB9.ext hx; have hso := hso.ext hx; have hvR := hvR.ext hx; have hc := hc.ext hx; have hrz := hrz.ext hx; exact EOp.mono (e_makeSl (n := os.length) (sz := 1) (bytes := 8) Tryz.underlying55 (inf_of Tryz.type2) rfl rfl rfl (by simp only [EN, Nat.reduceEqDiff, reduceIte, k0_6, k1_6, k8_6, k13_6, i19_6, strEq, hB1.cell, hB2.cell, hB9.cell, hB1.cell, hB2.cell, hB9.cell, hB2.cell, hB9.cell, hB2.cell, hB9.cell] <;> rfl) (by simp only [EN, Nat.reduceEqDiff, reduceIte, k0_6, k1_6, k8_6, k13_6, i19_6, strEq, hB1.cell, hB2.cell, hB9.cell, hB1.cell, hB2.cell, hB9.cell, hB2.cell, hB9.cell, hB2.cell, hB9.cell] <;> rfl) (by omega) (by simp only [maxLen]; omega)) (fun v h' hh => by obtain ⟨q1, rfl, q3⟩ := hh; exact ⟨q1, ⟨_, _, rfl⟩, by have h9 := q3.base hx.size; have hzf := made_flat (f := intL) (sz := 1) (z := (0 : Int)) (zc := (#[iV 0] : Array Value)) rfl rfl (by decide) os.length; show Own _ _ _ _ _ _ _; rw [← hzf]; exact h9⟩)) ?_
                intro u54_4 w54_4
                obtain ⟨a54, c54, rfl⟩ := w54_4
                refine LD.es rfl rfl (by intro hD hr hf; have hx : Ext _ _ := hr; have hX := hX.ext hx; have hB2 := hB2.ext hx; have hB9 := hB9.ext hx; have hso := hso.ext hx; have hvR := hvR.ext hx; have hc := hc.ext hx; have hrz := hrz.ext hx; have m4 := hf (4, .slice a54 os.length c54) (by simp) (by show tb _ _ 4 = true; decide +kernel) _ rfl; exact EOp.mono (e_lit1 (N := Array.size hL6) (c := #[.slice a54 os.length c54]) hx.size Tryz.underlying32 sz55 zr55 (by decide) (by simp only [EN, Nat.reduceEqDiff, reduceIte, k0_6, k1_6, k8_6, k13_6, i19_6, strEq, hB1.cell, hB2.cell, hB9.cell, hB1.cell, hB2.cell, hB9.cell, hB2.cell, hB9.cell, hB2.cell, hB9.cell, Value.cells] <;> rfl) rfl) (fun v h' hh => by obtain ⟨q1, ⟨B, q2, rfl⟩, q3⟩ := hh; exact ⟨q1, ⟨B, q2, rfl⟩, fun B' hB' => by cases hB'; exact ⟨⟨a54, os.length, c54⟩, rfl, q3 B rfl, (SlR.own (f := intL) (sz := 1) (fun _ => rfl) m4 List.length_replicate.symm).ext q1⟩⟩)) ?_
                intro u54_5 w54_5
                obtain ⟨B54, hlt54, rfl⟩ := w54_5
                refine LD.skip rfl ?_
                refine LD.skip rfl ?_
                refine LD.skip rfl ?_
                refine LD.nil ?_
                rintro h20 hx20 hF54
                replace hx20 : Ext _ _ := hx20
                replace hX := hX.ext hx20
                replace hB2 := hB2.ext hx20
                replace hB9 := hB9.ext hx20
                replace hso := hso.ext hx20
                replace hvR := hvR.ext hx20
                replace hc := hc.ext hx20
                replace hrz := hrz.ext hx20
                obtain ⟨xr, hxn, hB54, hrR⟩ := hF54 (5, .slice (some ⟨B54, 0, none⟩) 1 1) (by simp) _ rfl B54 rfl
                refine WL.appG (f := svL) (base := h.size) (n := i2) (xs := rows.flatMap svL) (bytes := 24) (sz := 1) (L := [xr]) Tryz.underlying32 (inf_of Tryz.type55) rfl rfl rfl rfl (by decide) (fun _ => rfl) svL_one (by simp only [EN, Nat.reduceEqDiff, reduceIte, k0_6, k1_6, k8_6, k13_6, i19_6, strEq, hB1.cell, hB2.cell, hB9.cell, hB1.cell, hB2.cell, hB9.cell, hB2.cell, hB9.cell, hB2.cell, hB9.cell] <;> rfl) hc (by simp only [EN, Nat.reduceEqDiff, reduceIte, k0_6, k1_6, k8_6, k13_6, i19_6, strEq, hB1.cell, hB2.cell, hB9.cell, hB1.cell, hB2.cell, hB9.cell, hB2.cell, hB9.cell, hB2.cell, hB9.cell] <;> rfl) rfl (by intro hh; cases hh) (slG_has (f := svL) (sz := 1) (fun _ => rfl) hB54 rfl) (by simp only [maxLen, List.length_singleton]; omega) (by rw [List.length_singleton]; omega) hX.size ?_
                intro h40 v40 hv40 hg40 hpl40 hn40
                have hX40 := hg40.ext hX (fun c h9 => (hc.block c h9).1)
                have hB240 := hB2.gr hg40 (hc.ncell hB2 (by decide))
                have hB940 := hB9.gr hg40 (hc.ncell hB9 (by decide))
                have hso40 := hso.gro hg40 hc (by decide)
                have hvR40 := hvR.gro hg40 hc (by decide)
                have hrz40 := hrz.gro hg40 hc (by decide)
                have hrR40 := hrR.gro hg40 hc (by decide)
                rw [List.length_singleton] at hv40
                obtain ⟨a40, c40, rfl, _⟩ := hv40.shape
                replace hB9 := hB940
                refine WL.qq (by simp only [EN, Nat.reduceEqDiff, reduceIte, qv_fieldAddr, fa34_4, Nat.zero_add, Nat.reduceAdd, k13_6, strEq, hB1.cell, hB2.cell, hB9.cell, hB1.cell, hB2.cell, hB9.cell, hB2.cell, hB9.cell, hB2.cell, hB9.cell]; rfl) ?_
                refine WL.store (by simp only [EN, Nat.reduceEqDiff, reduceIte, strEq, hB1.cell, hB2.cell, hB9.cell, hB1.cell, hB2.cell, hB9.cell, hB2.cell, hB9.cell, hB2.cell, hB9.cell] <;> rfl) sz32 (by simp only [EN, Nat.reduceEqDiff, reduceIte, Value.cells, strEq, hB1.cell, hB2.cell, hB9.cell, hB1.cell, hB2.cell, hB9.cell, hB2.cell, hB9.cell, hB2.cell, hB9.cell] <;> rfl) rfl hB9 (by first | (simp [true_and]; done) | (simp [true_and]; omega) | omega) (by simp [Value.oneCell']) ?_
                intro h21 hw21
                replace hX := hw21.ext hX40 hb9
                replace hB2 := hB240.wr hw21 hn29
                replace hso := hso40.wr hw21 hB940 (by decide)
                replace hvR := hvR40.wr hw21 hB940 (by decide)
                replace hrz := hrz40.wr hw21 hB940 (by decide)
                have hrR41 := hrR40.wr hw21 hB940 (by decide)
                have hc41 := hv40.keep (h' := h21) (fun c h9 => hw21.same c (fun hh => by subst hh; exact hv40.ncell hB940 (by decide) h9))
                replace hB9 := hw21.at_
                try simp only [splc, List.take_succ_cons, List.take_zero, List.take_nil, List.drop_succ_cons, List.drop_zero, List.drop_nil, List.cons_append, List.nil_append, List.length_cons, List.length_nil, Nat.zero_add, Nat.add_zero, Nat.reduceAdd, List.append_nil] at hB9
                refine WL.nil (bl_norm (th_norm (hx_region ?_)))
                iterate 3 refine WL.qq (by simp only [EN, Nat.reduceEqDiff, reduceIte, qv_move, i19_6, strEq, hB1.cell, hB2.cell, hB9.cell, hB1.cell, hB2.cell, hB9.cell, hB2.cell, hB9.cell, hB2.cell, hB9.cell, qv_binOp, binv_add, qv_assign]; (try simp (disch := omega) only [w64, w8, wu64]); rfl) ?_
                refine WL.nil (th_norm ?_)
                refine ⟨rfl, ?_, _, ?_, i2 + 1, a40, c40, rows ++ [xr], rfl, ?_, ?_, ?_, ?_, ?_, ?_, ?_, ?_, ?_, ?_⟩
                · (repeat (first | exact Fr.refl _ _ | refine Fr.set rfl ?_ | refine Fr.put rfl ?_ | with_reducible refine Fr.put0 ?_))
                · omega
                · omega
                · exact hX
                · exact hB2
                · exact hB9
                · exact hso
                · exact hvR
                · rw [List.flatMap_append]; exact hc41
                · rw [List.length_append, hrl]; rfl
                · intro v hv; rcases List.mem_append.1 hv with hv | hv; exact hrz v hv; (simp at hv; subst hv; exact ⟨hxn, hrR41⟩)
                · simp only [EN, Nat.reduceEqDiff, reduceIte, k0_6, k1_6, k8_6, k13_6, i19_6, strEq, hB1.cell, hB2.cell, hB9.cell, hB1.cell, hB2.cell, hB9.cell, hB2.cell, hB9.cell, hB2.cell, hB9.cell] <;> first | rfl | (congr 1; omega)
               ·
                try simp only [BD] at hct235
                obtain rfl : i2 = l.length := (by omega)
                have hcR := SlR.own (f := svL) (sz := 1) (fun _ => rfl) hc hrl.symm; have hcc : l.length ≤ cc := (by obtain ⟨a9, c9, h9, h8, _⟩ := hc.shape; cases h9; exact h8)
                refine hx_exit (th_exit (th_exit (bl_hit (th_norm (hx_seq (hx_region ?_))))))
                refine WL.qq (by simp only [EN, Nat.reduceEqDiff, reduceIte, qv_load, ld34, readN, AR, Nat.zero_add, Nat.reduceAdd, k13_6, strEq, hB1.cell, hB2.cell, hB9.cell, hB1.cell, hB2.cell, hB9.cell, hB2.cell, hB9.cell, hB2.cell, hB9.cell]; rfl) ?_
                refine WL.store (by simp only [EN, Nat.reduceEqDiff, reduceIte, k8_6, strEq, hB1.cell, hB2.cell, hB9.cell, hB1.cell, hB2.cell, hB9.cell, hB2.cell, hB9.cell, hB2.cell, hB9.cell] <;> rfl) sz34 (by simp only [EN, Nat.reduceEqDiff, reduceIte, Value.cells, k8_6, strEq, hB1.cell, hB2.cell, hB9.cell, hB1.cell, hB2.cell, hB9.cell, hB2.cell, hB9.cell, hB2.cell, hB9.cell] <;> rfl) rfl hB2 (by first | (simp [true_and]; done) | (simp [true_and]; omega) | omega) (by simp [Value.oneCell']) ?_
                intro h22 hw22
                have hXe := hw22.ext hX hb2
                replace hso := hso.wr hw22 hB2 (by decide)
                replace hvR := hvR.wr hw22 hB2 (by decide)
                replace hcR := hcR.wr hw22 hB2 (by decide)
                replace hrz := hrz.wr hw22 hB2 (by decide)
                replace hB2 := hw22.at_
                try simp only [splc, List.take_succ_cons, List.take_zero, List.take_nil, List.drop_succ_cons, List.drop_zero, List.drop_nil, List.cons_append, List.nil_append, List.length_cons, List.length_nil, Nat.zero_add, Nat.add_zero, Nat.reduceAdd, List.append_nil] at hB2
                refine WL.qq (by simp only [EN, Nat.reduceEqDiff, reduceIte, qv_assign, strEq, hB1.cell, hB2.cell, hB9.cell, hB1.cell, hB2.cell, hB9.cell, hB2.cell, hB9.cell, hB2.cell, hB9.cell]; rfl) ?_
                refine WL.nil (th_norm (hx_ret ?_))
                refine fin_ret [.cell 8 34, .tmp 9] rfl rfl (by simp only [EN, Nat.reduceEqDiff, reduceIte, resv, ld34, readN, AR, Nat.zero_add, Nat.reduceAdd, k0_6, k1_6, k8_6, k13_6, i19_6, strEq, hB1.cell, hB2.cell, hB9.cell, hB1.cell, hB2.cell, hB9.cell, hB2.cell, hB9.cell, hB2.cell, hB9.cell]; rfl) ?_
                refine ⟨hXe, _, by rw [hez]; rfl, .inr ⟨hez, .slice av l.length cv, .slice a21 os.length c21, .slice ac l.length cc, by simp only [reV, newE, h91, Int.toNat_natCast], ⟨⟨av, cv, by simp only [newE, hOl], by simp only [newE, hOl]; exact hcv, hvR⟩, ⟨a21, c21, rfl, hoc, hso⟩, ⟨ac, cc, rows, by simp only [newE, hOl], by simp only [newE, hOl]; exact hcc, hcR, by simp only [newE, hOl]; exact hrl, ?_⟩⟩⟩⟩
                intro i x hx
                obtain ⟨v, hv⟩ := atG (l := rows) (i := i) (by have h9 := (List.getElem?_eq_some_iff.1 hx).1; simp only [newE] at h9; omega)
                have h9 := hrz v (List.mem_of_getElem? hv)
                refine ⟨v.a, v.c, ?_, by rw [rowM_new]; exact h9.2⟩
                rw [hv]; congr 1; have h8 := h9.1; cases v; simp only at h8; subst h8; rfl
end GL
namespace GL
open Go Go.Proofs
set_option maxRecDepth 8000
set_option maxHeartbeats 2000000 in
theorem c_new (al : Option Addr) (l : List SI) (cl : Nat) (ao : Option Addr) (os : List SI) (co : Nat) (s : ByteArray) (d m : Int) (hl : l.length ≤ 1000000) (hol : os.length ≤ 1000000) (hoc : os.length ≤ co) (hb : ∀ x ∈ os, x.s.size ≤ 9223372036854775807) (hon : ao = none → co = 0)
    {h : Heap} (hs : SlG 2 siL h al l) (ho : SlG 2 siL h ao os) :
    HCalls Tryz.prog 29 #[.slice al l.length cl, .slice ao os.length co, .string s, .agg #[iV d, iV m]] h fun v h' => Ext h h' ∧
      ((erN l os s d m ≠ 0 ∧ v = .tuple #[.pointer none, iV (erN l os s d m)]) ∨ (erN l os s d m = 0 ∧ ∃ p b vh vo, v = .tuple #[.pointer (some ⟨p, 0, none⟩), iV 0] ∧ IsE h' h.size p b vh vo (newE l os s d m))) := by
  refine hcalls2 Tryz.func29 rfl (by decide +kernel) (by simp only [Tryz.ntmps29]; exact of_decide_eq_true rfl) ?_
  intro e hin
  have e0 := hin 0 _ rfl
  have e1 := hin 1 _ rfl
  have e2 := hin 2 _ rfl
  have e3 := hin 3 _ rfl
  refine hx_seq (hx_region ?_)
  refine WL.box2 (by simp only [EN, Nat.reduceEqDiff, reduceIte, Value.cells, e3]; rfl) ?_
  intro h1 B1 hx1 hlt1 hB1
  replace hs := hs.ext hx1
  replace ho := ho.ext hx1
  iterate 2 refine WL.qq (by simp only [EN, Nat.reduceEqDiff, reduceIte, qv_assign, hB1.cell]; rfl) ?_
  refine WL.nil (th_norm (hx_seq (hx_seq (hx_region ?_))))
  refine WL.qq (by simp only [EN, Nat.reduceEqDiff, reduceIte, qv_move, e0, hB1.cell]; rfl) ?_
  refine WL.cg Tryz.call47 (by simp only [EN, Nat.reduceEqDiff, reduceIte, AR, hB1.cell]; exact c_chkH al l cl hl hs) ?_
  intro h2 hx2
  replace hs := hs.ext hx2
  replace ho := ho.ext hx2
  replace hB1 := hB1.ext hx2
  refine WL.qq (by simp only [EN, Nat.reduceEqDiff, reduceIte, qv_move, e1, hB1.cell]; rfl) ?_
  refine WL.cg Tryz.call48 (by simp only [EN, Nat.reduceEqDiff, reduceIte, AR, hB1.cell]; exact c_chkO ao os co hol hoc hb ho) ?_
  intro h3 hx3
  replace hs := hs.ext hx3
  replace ho := ho.ext hx3
  replace hB1 := hB1.ext hx3
  refine WL.lit2 #[(.int .i64 0), (.int .i64 0)] Tryz.underlying108 sz46 zr46 (by decide) (by kernel_rfl) ⟨_, (by simp only [EN, Nat.reduceEqDiff, reduceIte, AR, hB1.cell]; simp [Instr.fill, Value.cells]; rfl), rfl⟩ ?_
  intro h4 B4 hx4 hlt4 hB4
  replace hs := hs.ext hx4
  replace ho := ho.ext hx4
  replace hB1 := hB1.ext hx4
  iterate 2 refine WL.qq (by simp only [EN, Nat.reduceEqDiff, reduceIte, qv_len, ln108, AR, hB1.cell, hB4.cell, qv_move]; rfl) ?_
  refine WL.nil (th_norm (hx_block ?_))
  refine hx_loopS [8, 9, 11, 22, 23, 24, 25, 26, 27, 28, 29] (fun k e => ∃ (i : Nat), 2 - i = k ∧ (i ≤ 2) ∧ ((0 < i → erH l = 0)) ∧ ((1 < i → erO os = 0)) ∧ e 22 = .int .i64 i) _ ⟨0, rfl, ?_, ?_, ?_, ?_⟩ ?_
  · omega
  · intro h9; omega
  · intro h9; omega
  · simp only [EN, Nat.reduceEqDiff, reduceIte, e0, e1, e2, e3, hB1.cell, hB4.cell] <;> rfl
  ·
   rintro k e0L hfr0 ⟨i, rfl, hi, hH, hO, i22_0⟩
   have k0_0 := hfr0 0 rfl; try simp only [EN, Nat.reduceEqDiff, reduceIte, e0, hB1.cell, hB4.cell] at k0_0
   have k1_0 := hfr0 1 rfl; try simp only [EN, Nat.reduceEqDiff, reduceIte, e1, hB1.cell, hB4.cell] at k1_0
   have k2_0 := hfr0 2 rfl; try simp only [EN, Nat.reduceEqDiff, reduceIte, e2, hB1.cell, hB4.cell] at k2_0
   have k7_0 := hfr0 7 rfl; try simp only [EN, Nat.reduceEqDiff, reduceIte, hB1.cell, hB4.cell] at k7_0
   have k20_0 := hfr0 20 rfl; try simp only [EN, Nat.reduceEqDiff, reduceIte, hB1.cell, hB4.cell] at k20_0
   have k21_0 := hfr0 21 rfl; try simp only [EN, Nat.reduceEqDiff, reduceIte, hB1.cell, hB4.cell] at k21_0
   refine hx_seq (hx_region ?_)
   refine WL.qq (by simp only [EN, Nat.reduceEqDiff, reduceIte, qv_binOp, binv_lss, k21_0, i22_0, hB1.cell, hB4.cell]; rfl) ?_
   refine WL.nil (th_norm (hx_seq ?_))
   refine hx_cond (by simp only [EN, Nat.reduceEqDiff, reduceIte, hB1.cell, hB4.cell]; rfl) (fun hct23 => ?_) (fun hct23 => ?_)
   ·
    try simp only [BD] at hct23
    refine hx_skip (th_norm (hx_seq (hx_block (hx_seq ?_))))
    rcases (show i = 0 ∨ i = 1 by omega) with rfl | rfl
    ·
     refine hx_region ?_
     refine WL.qq (by simp only [EN, Nat.reduceEqDiff, reduceIte, qv_indexAddr, k20_0, i22_0, hB1.cell, hB4.cell]; (try simp (disch := omega) only [ix108, Int.toNat_natCast]); rfl) ?_
     iterate 2 refine WL.qq (by simp only [EN, Nat.reduceEqDiff, reduceIte, qv_load, ld46, readN, AR, Nat.zero_add, Nat.reduceAdd, hB1.cell, hB4.cell, qv_assign]; rfl) ?_
     refine WL.nil (th_norm (hx_seq (hx_region ?_)))
     iterate 2 refine WL.qq (by simp only [EN, Nat.reduceEqDiff, reduceIte, qv_move, hB1.cell, hB4.cell, qv_binOp, binv_neq, eq46, Option.map_some]; rfl) ?_
     refine WL.nil (th_norm ?_)
     refine hx_cond (by simp only [EN, Nat.reduceEqDiff, reduceIte, hB1.cell, hB4.cell]; rfl) (fun hct27 => ?_) (fun hct27 => ?_)
     ·
      try simp only [BD] at hct27
      refine hx_seq (hx_region ?_)
      iterate 3 refine WL.qq (by simp only [EN, Nat.reduceEqDiff, reduceIte, qv_move, hB1.cell, hB4.cell, qv_assign]; rfl) ?_
      refine WL.nil (th_norm (hx_ret (bl_ret (th_ret (th_ret (bl_ret (th_ret ?_)))))))
      refine fin_ret [.tmp 8, .tmp 9] rfl rfl (by simp only [EN, Nat.reduceEqDiff, reduceIte, resv, k0_0, k1_0, k2_0, k7_0, k20_0, k21_0, i22_0, hB1.cell, hB4.cell]; rfl) ?_
      have he : erN l os s d m = erH l := (by unfold erN; rw [if_pos (by omega)])
      exact ⟨((hx1).trans ((hx2).trans ((hx3).trans (hx4)))), .inl ⟨by rw [he]; omega, by rw [he]; rfl⟩⟩
     ·
      try simp only [BD] at hct27
      refine hx_skip (bl_norm (th_norm (hx_region ?_)))
      iterate 2 refine WL.qq (by simp only [EN, Nat.reduceEqDiff, reduceIte, qv_binOp, binv_add, i22_0, hB1.cell, hB4.cell, qv_move]; (try simp (disch := omega) only [w64, w8, wu64]); rfl) ?_
      refine WL.nil (th_norm ?_)
      refine ⟨rfl, rfl, ?_, _, ?_, 1, rfl, ?_, ?_, ?_, ?_⟩
      · (repeat (first | exact Fr.refl _ _ | refine Fr.set rfl ?_ | refine Fr.put rfl ?_ | with_reducible refine Fr.put0 ?_))
      · omega
      · omega
      · intro _; omega
      · intro h9; omega
      · simp only [EN, Nat.reduceEqDiff, reduceIte, k0_0, k1_0, k2_0, k7_0, k20_0, k21_0, i22_0, hB1.cell, hB4.cell] <;> first | rfl | (congr 1; omega)
    ·
     refine hx_region ?_
     refine WL.qq (by simp only [EN, Nat.reduceEqDiff, reduceIte, qv_indexAddr, k20_0, i22_0, hB1.cell, hB4.cell]; (try simp (disch := omega) only [ix108, Int.toNat_natCast]); rfl) ?_
     iterate 2 refine WL.qq (by simp only [EN, Nat.reduceEqDiff, reduceIte, qv_load, ld46, readN, AR, Nat.zero_add, Nat.reduceAdd, hB1.cell, hB4.cell, qv_assign]; rfl) ?_
     refine WL.nil (th_norm (hx_seq (hx_region ?_)))
     iterate 2 refine WL.qq (by simp only [EN, Nat.reduceEqDiff, reduceIte, qv_move, hB1.cell, hB4.cell, qv_binOp, binv_neq, eq46, Option.map_some]; rfl) ?_
     refine WL.nil (th_norm ?_)
     refine hx_cond (by simp only [EN, Nat.reduceEqDiff, reduceIte, hB1.cell, hB4.cell]; rfl) (fun hct27 => ?_) (fun hct27 => ?_)
     ·
      try simp only [BD] at hct27
      refine hx_seq (hx_region ?_)
      iterate 3 refine WL.qq (by simp only [EN, Nat.reduceEqDiff, reduceIte, qv_move, hB1.cell, hB4.cell, qv_assign]; rfl) ?_
      refine WL.nil (th_norm (hx_ret (bl_ret (th_ret (th_ret (bl_ret (th_ret ?_)))))))
      refine fin_ret [.tmp 8, .tmp 9] rfl rfl (by simp only [EN, Nat.reduceEqDiff, reduceIte, resv, k0_0, k1_0, k2_0, k7_0, k20_0, k21_0, i22_0, hB1.cell, hB4.cell]; rfl) ?_
      have he : erN l os s d m = erO os := (by unfold erN; rw [if_neg (by have := hH (by omega); omega), if_pos (by omega)])
      exact ⟨((hx1).trans ((hx2).trans ((hx3).trans (hx4)))), .inl ⟨by rw [he]; omega, by rw [he]; rfl⟩⟩
     ·
      try simp only [BD] at hct27
      refine hx_skip (bl_norm (th_norm (hx_region ?_)))
      iterate 2 refine WL.qq (by simp only [EN, Nat.reduceEqDiff, reduceIte, qv_binOp, binv_add, i22_0, hB1.cell, hB4.cell, qv_move]; (try simp (disch := omega) only [w64, w8, wu64]); rfl) ?_
      refine WL.nil (th_norm ?_)
      refine ⟨rfl, rfl, ?_, _, ?_, 2, rfl, ?_, ?_, ?_, ?_⟩
      · (repeat (first | exact Fr.refl _ _ | refine Fr.set rfl ?_ | refine Fr.put rfl ?_ | with_reducible refine Fr.put0 ?_))
      · omega
      · omega
      · intro _; exact hH (by omega)
      · intro _; omega
      · simp only [EN, Nat.reduceEqDiff, reduceIte, k0_0, k1_0, k2_0, k7_0, k20_0, k21_0, i22_0, hB1.cell, hB4.cell] <;> first | rfl | (congr 1; omega)
   ·
    try simp only [BD] at hct23
    have h1 := hH (by omega); have h2 := hO (by omega); have oh := erH_0.1 h1; have oo := erO_0 h2
    have heN : erN l os s d m = if idxS s os < 0 then 9 else if capE os (idxS s os) ≠ 0 then 11 else if clkE d m ≠ 0 then 28 else 0 := (by unfold erN; rw [h1, h2]; rfl)
    refine hx_exit (th_exit (th_exit (bl_hit (th_norm (hx_seq (hx_region ?_))))))
    iterate 2 refine WL.qq (by simp only [EN, Nat.reduceEqDiff, reduceIte, qv_move, k1_0, hB1.cell, hB4.cell, k2_0]; rfl) ?_
    refine WL.cg Tryz.call44 (by simp only [EN, Nat.reduceEqDiff, reduceIte, AR, hB1.cell, hB4.cell]; exact c_find s ao os co hol ho) ?_
    intro h5 hx5
    replace hs := hs.ext hx5
    replace ho := ho.ext hx5
    replace hB1 := hB1.ext hx5
    replace hB4 := hB4.ext hx5
    refine WL.qq (by simp only [EN, Nat.reduceEqDiff, reduceIte, qv_assign, hB1.cell, hB4.cell]; rfl) ?_
    refine WL.nil (th_norm (hx_seq (hx_region ?_)))
    refine WL.qq (by simp only [EN, Nat.reduceEqDiff, reduceIte, qv_load, ld49, readN, AR, Nat.zero_add, Nat.reduceAdd, k7_0, hB1.cell, hB4.cell]; rfl) ?_
    refine WL.ce Tryz.call49 (by simp only [EN, Nat.reduceEqDiff, reduceIte, AR, hB1.cell, hB4.cell]; exact c_fclock d m _) ?_
    rintro _ h6 ⟨hx6, sx, rfl⟩
    replace hs := hs.ext hx6
    replace ho := ho.ext hx6
    replace hB1 := hB1.ext hx6
    replace hB4 := hB4.ext hx6
    simp only [put_some]
    iterate 5 refine WL.qq (by simp only [EN, Nat.reduceEqDiff, reduceIte, qv_move, hB1.cell, hB4.cell, qv_extract, AR, qv_assign]; rfl) ?_
    refine WL.nil (th_norm (hx_seq (hx_block (hx_seq (hx_region ?_)))))
    iterate 3 refine WL.qq (by simp only [EN, Nat.reduceEqDiff, reduceIte, qv_move, hB1.cell, hB4.cell, qv_binOp, binv_lss, qv_assign]; rfl) ?_
    refine WL.nil (th_norm ?_)
    refine hx_cond (by simp only [EN, Nat.reduceEqDiff, reduceIte, hB1.cell, hB4.cell]; rfl) (fun hct38 => ?_) (fun hct38 => ?_)
    ·
     try simp only [BD] at hct38
     refine hx_seq (hx_region ?_)
     iterate 2 refine WL.qq (by simp only [EN, Nat.reduceEqDiff, reduceIte, qv_assign, hB1.cell, hB4.cell]; rfl) ?_
     refine WL.nil (th_norm (hx_ret (bl_ret (th_ret ?_))))
     refine fin_ret [.tmp 8, .tmp 9] rfl rfl (by simp only [EN, Nat.reduceEqDiff, reduceIte, resv, k0_0, k1_0, k2_0, k7_0, k20_0, k21_0, i22_0, hB1.cell, hB4.cell]; rfl) ?_
     have he : erN l os s d m = 9 := (by rw [heN, if_pos (by omega)])
     exact ⟨((hx1).trans ((hx2).trans ((hx3).trans ((hx4).trans ((hx5).trans (hx6)))))), .inl ⟨by rw [he]; decide, by rw [he]; rfl⟩⟩
    ·
     try simp only [BD] at hct38
     obtain ⟨i9, x9, h91, hx9, _⟩ : ∃ i x, idxS s os = (i : Nat) ∧ os[i]? = some x ∧ x.s = s ∧ ∀ y ∈ os.take i, y.s ≠ s := (idxS_cases s os).resolve_left (fun hh => by omega)
     have hi9 := (List.getElem?_eq_some_iff.1 hx9).1; have hq9 := oo.q x9 (List.mem_of_getElem? hx9); have hcap : capE os (idxS s os) = x9.n := (by unfold capE; rw [h91, Int.toNat_natCast, hx9]; rfl)
     rw [if_neg (by omega), hcap] at heN; obtain ⟨b1, o1, ha1, _, _, hr3⟩ := si_rd ho hx9
     refine hx_seq (hx_region ?_)
     iterate 3 refine WL.qq (by simp only [EN, Nat.reduceEqDiff, reduceIte, qv_move, k1_0, hB1.cell, hB4.cell, qv_indexAddr, ha1, h91]; (try simp (disch := omega) only [ix81, Int.toNat_natCast]); rfl) ?_
     refine WL.qq (by simp only [EN, Nat.reduceEqDiff, reduceIte, qv_fieldAddr, fa80_1, Nat.zero_add, Nat.reduceAdd, hB1.cell, hB4.cell]; rfl) ?_
     refine WL.qq (by simp only [EN, Nat.reduceEqDiff, reduceIte, k0_0, k1_0, k2_0, k7_0, k20_0, k21_0, i22_0, hB1.cell, hB4.cell, qv_load, ld2, Int.toNat_natCast, hr3]; rfl) ?_
     iterate 2 refine WL.qq (by simp only [EN, Nat.reduceEqDiff, reduceIte, qv_binOp, binv_neq, eq2, Option.map_some, hB1.cell, hB4.cell, qv_assign]; rfl) ?_
     refine WL.nil (th_norm ?_)
     refine hx_cond (by simp only [EN, Nat.reduceEqDiff, reduceIte, hB1.cell, hB4.cell]; rfl) (fun hct41 => ?_) (fun hct41 => ?_)
     ·
      try simp only [BD] at hct41
      refine hx_seq (hx_region ?_)
      iterate 2 refine WL.qq (by simp only [EN, Nat.reduceEqDiff, reduceIte, qv_assign, hB1.cell, hB4.cell]; rfl) ?_
      refine WL.nil (th_norm (hx_ret (bl_ret (th_ret ?_))))
      refine fin_ret [.tmp 8, .tmp 9] rfl rfl (by simp only [EN, Nat.reduceEqDiff, reduceIte, resv, k0_0, k1_0, k2_0, k7_0, k20_0, k21_0, i22_0, hB1.cell, hB4.cell]; rfl) ?_
      have he : erN l os s d m = 11 := (by rw [heN, if_pos (by omega)])
      exact ⟨((hx1).trans ((hx2).trans ((hx3).trans ((hx4).trans ((hx5).trans (hx6)))))), .inl ⟨by rw [he]; decide, by rw [he]; rfl⟩⟩
     ·
      try simp only [BD] at hct41
      rw [if_neg (by omega)] at heN
      refine hx_seq (hx_region ?_)
      iterate 3 refine WL.qq (by simp only [EN, Nat.reduceEqDiff, reduceIte, qv_move, hB1.cell, hB4.cell, qv_binOp, binv_neq, eq46, Option.map_some, qv_assign]; rfl) ?_
      refine WL.nil (th_norm ?_)
      refine hx_cond (by simp only [EN, Nat.reduceEqDiff, reduceIte, hB1.cell, hB4.cell]; rfl) (fun hct48 => ?_) (fun hct48 => ?_)
      ·
       try simp only [BD] at hct48
       refine hx_seq (hx_region ?_)
       iterate 2 refine WL.qq (by simp only [EN, Nat.reduceEqDiff, reduceIte, qv_assign, hB1.cell, hB4.cell]; rfl) ?_
       refine WL.nil (th_norm (hx_ret (bl_ret (th_ret ?_))))
       refine fin_ret [.tmp 8, .tmp 9] rfl rfl (by simp only [EN, Nat.reduceEqDiff, reduceIte, resv, k0_0, k1_0, k2_0, k7_0, k20_0, k21_0, i22_0, hB1.cell, hB4.cell]; rfl) ?_
       have he : erN l os s d m = 28 := (by rw [heN, if_pos (by omega)])
       exact ⟨((hx1).trans ((hx2).trans ((hx3).trans ((hx4).trans ((hx5).trans (hx6)))))), .inl ⟨by rw [he]; decide, by rw [he]; rfl⟩⟩
      ·
       try simp only [BD] at hct48
       have hez : erN l os s d m = 0 := (by rw [heN, if_neg (by omega)])
       refine hx_skip (bl_norm (th_norm (hx_seq (hx_region ?_))))
       refine WL.qq (by simp only [EN, Nat.reduceEqDiff, reduceIte, qv_move, k0_0, hB1.cell, hB4.cell]; rfl) ?_
       refine WL.ce Tryz.call51 (by simp only [EN, Nat.reduceEqDiff, reduceIte, AR, hB1.cell, hB4.cell]; exact c_hValues al cl l _) ?_
       rintro _ h7 ⟨hx7, Bv, rfl, hBv⟩
       replace hs := hs.ext hx7
       replace ho := ho.ext hx7
       replace hB1 := hB1.ext hx7
       replace hB4 := hB4.ext hx7
       simp only [put_some]
       have hz7 := Ext.size ((hx1).trans ((hx2).trans ((hx3).trans ((hx4).trans ((hx5).trans ((hx6).trans (hx7)))))))
       refine WL.ce Tryz.call50 (by simp only [EN, Nat.reduceEqDiff, reduceIte, AR, hB1.cell, hB4.cell]; exact c_hSorted Bv al cl l hl hBv hs) ?_
       rintro _ h8 ⟨hx8, sL, hsp, hss, hoh⟩
       replace hs := hs.ext hx8
       replace ho := ho.ext hx8
       replace hB1 := hB1.ext hx8
       replace hB4 := hB4.ext hx8
       replace hBv := hBv.ext hx8
       simp only [put_some]
       obtain rfl := ordH_uni hsp oh.nd hss
       obtain ⟨a15, c15, rfl⟩ := hoh.slice
       refine WL.qq (by simp only [EN, Nat.reduceEqDiff, reduceIte, qv_assign, hB1.cell, hB4.cell]; rfl) ?_
       refine WL.nil (th_norm (hx_seq ?_))
       apply hx_draw2 Rel.grows [7, 8, 9] [2, 5] [(2, Spec.own h.size tyO 2 os.length (os.flatMap siL)), (5, Spec.mN pkV iV h.size [])] rfl (by decide +kernel) rfl
       iterate 2 refine LD.qq rfl rfl (by simp only [EN, Nat.reduceEqDiff, reduceIte, qv_move, hB1.cell, hB4.cell, k1_0]; rfl) ?_
       refine LD.es rfl rfl (by intro hD hr hf; have hx : Ext _ _ := hr; have hs := hs.ext hx; have ho := ho.ext hx; have hB1 := hB1.ext hx; have hB4 := hB4.ext hx; have hBv := hBv.ext hx; have hoh := hoh.ext hx; exact EOp.mono (e_call Tryz.call31 (by simp only [EN, Nat.reduceEqDiff, reduceIte, k0_0, k1_0, k2_0, k7_0, k20_0, k21_0, i22_0, hB1.cell, hB4.cell, List.map_toArray, List.map_cons, List.map_nil]; exact c_clO ao co _ hol ho hon)) (fun v h' hh => by obtain ⟨h1, h2⟩ := hh; obtain ⟨a', c', rfl⟩ := h2.slice; exact ⟨h1, ⟨a', c', rfl⟩, h2.base (Nat.le_trans (Ext.size ((hx1).trans ((hx2).trans ((hx3).trans ((hx4).trans ((hx5).trans ((hx6).trans ((hx7).trans (hx8))))))))) hx.size)⟩)) ?_
       intro u16_2 w16_2
       obtain ⟨a2, c2, rfl⟩ := w16_2
       iterate 2 refine LD.qq rfl rfl (by simp only [EN, Nat.reduceEqDiff, reduceIte, qv_move, hB1.cell, hB4.cell, qv_load, ld49, readN, AR, Nat.zero_add, Nat.reduceAdd, k7_0]; rfl) ?_
       refine LD.es rfl rfl (by intro hD hr hf; have hx : Ext _ _ := hr; have hs := hs.ext hx; have ho := ho.ext hx; have hB1 := hB1.ext hx; have hB4 := hB4.ext hx; have hBv := hBv.ext hx; have hoh := hoh.ext hx; exact EOp.mono e_makeMap (fun v h' hh => by obtain ⟨B, rfl, hn⟩ := hh; exact ⟨hn.ext, ⟨B, Nat.le_trans (Nat.le_trans (Ext.size ((hx1).trans ((hx2).trans ((hx3).trans ((hx4).trans ((hx5).trans ((hx6).trans ((hx7).trans (hx8))))))))) hx.size) hn.fresh, rfl⟩, fun B' hB' => by cases hB'; exact MapT.new hn.at_⟩)) ?_
       intro u16_5 w16_5
       obtain ⟨B5, hlt5, rfl⟩ := w16_5
       refine LD.qq rfl rfl (by refine qv_bld (by simp only [EN, Nat.reduceEqDiff, reduceIte, AR, hB1.cell, hB4.cell] <;> rfl) (by rw [bl85]; simp [Instr.fill, Value.cells]; rfl)) ?_
       refine LD.skip rfl ?_
       refine LD.skip rfl ?_
       refine LD.skip rfl ?_
       refine LD.nil ?_
       rintro h9 hx9 hF16
       replace hx9 : Ext _ _ := hx9
       replace hs := hs.ext hx9
       replace ho := ho.ext hx9
       replace hB1 := hB1.ext hx9
       replace hB4 := hB4.ext hx9
       replace hBv := hBv.ext hx9
       replace hoh := hoh.ext hx9
       have ho2 := hF16 (2, .slice a2 os.length c2) (by simp) _ rfl; have hm5 := hF16 (5, .map (some B5)) (by simp) _ rfl B5 rfl; have hsz := Ext.size ((hx1).trans ((hx2).trans ((hx3).trans ((hx4).trans ((hx5).trans ((hx6).trans ((hx7).trans ((hx8).trans (hx9)))))))))
       refine WL.box2 (by simp only [EN, Nat.reduceEqDiff, reduceIte, Value.cells, hB1.cell, hB4.cell]; rfl) ?_
       intro h10 B10 hx10 hlt10 hB10
       replace hs := hs.ext hx10
       replace ho := ho.ext hx10
       replace hB1 := hB1.ext hx10
       replace hB4 := hB4.ext hx10
       replace hBv := hBv.ext hx10
       replace hoh := hoh.ext hx10
       iterate 2 refine WL.qq (by simp only [EN, Nat.reduceEqDiff, reduceIte, qv_assign, hB1.cell, hB4.cell, hB10.cell]; rfl) ?_
       refine WL.nil (th_norm (hx_ret ?_))
       refine fin_ret [.tmp 8, .tmp 9] rfl rfl (by simp only [EN, Nat.reduceEqDiff, reduceIte, resv, k0_0, k1_0, k2_0, k7_0, k20_0, k21_0, i22_0, hB1.cell, hB4.cell, hB10.cell]; rfl) ?_
       exact ⟨((hx1).trans ((hx2).trans ((hx3).trans ((hx4).trans ((hx5).trans ((hx6).trans ((hx7).trans ((hx8).trans ((hx9).trans (hx10)))))))))), .inr ⟨hez, B10, B5, .slice a15 (ordH l).length c15, .slice a2 os.length c2, rfl, ⟨by have h9 := hB10; rw [h91] at h9; simpa only [newE, h91, Int.toNat_natCast] using h9, hoh.base hz7, ho2.ext hx10, hm5.ext hx10, ⟨by omega, hlt5⟩⟩⟩⟩
end GL
namespace GL
open Go Go.Proofs
set_option maxRecDepth 8000
abbrev svV (r : SV) : Value := .slice r.a r.n r.c
structure RowO (h : Heap) (N : Nat) (E : EL) (k : Nat) (rows : List SV) : Prop where
  len : rows.length = k
  own : ∀ (j : Nat) (r : SV) (x : SI), rows[j]? = some r → E.hs[j]? = some x → r.n = E.os.length ∧ Own h N tyI 1 (svV r) E.os.length ((rowM E x).flatMap intL)
  ap : ∀ (i j : Nat) (r r' : SV), rows[i]? = some r → rows[j]? = some r' → i ≠ j → ∀ c, (svV r).ownBlock = some c → (svV r').ownBlock ≠ some c
section
variable {h h' : Heap} {N k : Nat} {E : EL} {rows : List SV}
theorem RowO.nil : RowO h N E 0 [] := ⟨rfl, fun j r x hj => by simp at hj, fun i j r r' hi => by simp at hi⟩
theorem RowO.ext (hr : RowO h N E k rows) (hx : Ext h h') : RowO h' N E k rows := ⟨hr.len, fun j r x hj hx2 => ⟨(hr.own j r x hj hx2).1, (hr.own j r x hj hx2).2.ext hx⟩, hr.ap⟩
theorem Own.gro {el el' : TypeId} {sz sz' M n m : Nat} {u v : Value} {xs ys : List Value} (ho : Own h N el sz v n xs) (hg : Gr h h' u.ownBlock) (hu : Own h M el' sz' u m ys) (hT : el' ≠ el) : Own h' N el sz v n xs :=
  ho.keep fun c hc => hg.same c (ho.block c hc).2 fun hh => by
    obtain ⟨cu, hcu⟩ := hu.typ c hh
    exact ho.ncell hcu hT hc
theorem RowO.wr {b : Nat} {o : Obj} {c : Array Value} {T : TypeId} (hr : RowO h N E k rows) (hw : Wr h h' b o) (hb : Has h b (.cells c T)) (hT : T ≠ tyI) : RowO h' N E k rows :=
  ⟨hr.len, fun j r x hj hx2 => ⟨(hr.own j r x hj hx2).1, (hr.own j r x hj hx2).2.keep fun c hc => hw.same c fun hh => by
    subst hh
    exact (hr.own j r x hj hx2).2.ncell hb hT hc⟩, hr.ap⟩
theorem RowO.ri (hr : RowO h N E E.hs.length rows) : RowI h E rows := by
  refine ⟨hr.len, fun i x hx => ?_⟩
  obtain ⟨r, hr1⟩ := atG (l := rows) (i := i) (by rw [hr.len]; exact (List.getElem?_eq_some_iff.1 hx).1)
  obtain ⟨h1, h2⟩ := hr.own i r x hr1 hx
  refine ⟨r.a, r.c, ?_, ?_⟩
  · rw [hr1, ← h1]
  · have h3 : Own h N tyI 1 (.slice r.a E.os.length r.c) E.os.length ((rowM E x).flatMap intL) := by rw [← h1]; rw [← h1] at h2; exact h2
    exact SlR.own (fun _ => rfl) h3 rowM_len.symm
theorem RowO.gro {el : TypeId} {sz M m : Nat} {v : Value} {xs : List Value} (hr : RowO h N E k rows) (hg : Gr h h' v.ownBlock) (ho : Own h M el sz v m xs) (hT : el ≠ tyI) : RowO h' N E k rows :=
  ⟨hr.len, fun j r x hj hx2 => ⟨(hr.own j r x hj hx2).1, (hr.own j r x hj hx2).2.keep fun c hc => hg.same c ((hr.own j r x hj hx2).2.block c hc).2 fun hh => by
    obtain ⟨cu, hcu⟩ := ho.typ c hh
    exact (hr.own j r x hj hx2).2.ncell hcu hT hc⟩, hr.ap⟩
theorem RowO.snoc {x : SI} {r : SV} {M : Nat} (hr : RowO h N E k rows) (hlt : ∀ (j : Nat) (r : SV), rows[j]? = some r → ∀ c, (svV r).ownBlock = some c → c < M) (hx : E.hs[k]? = some x) (hn : r.n = E.os.length)
    (ho : Own h M tyI 1 (svV r) E.os.length ((rowM E x).flatMap intL)) (hM : N ≤ M) : RowO h N E (k + 1) (rows ++ [r]) := by
  have hget : ∀ (j : Nat) (q : SV), (rows ++ [r])[j]? = some q → rows[j]? = some q ∨ (j = k ∧ q = r) := by
    intro j q hj
    rcases Nat.lt_or_ge j rows.length with hlt | hge
    · rw [List.getElem?_append_left hlt] at hj; exact .inl hj
    · rw [List.getElem?_append_right hge] at hj
      have : j - rows.length = 0 := by
        have := (List.getElem?_eq_some_iff.1 hj).1
        simpa using this
      rw [this] at hj
      simp at hj
      have := hr.len
      exact .inr ⟨by omega, hj.symm⟩
  refine ⟨by rw [List.length_append, hr.len]; rfl, fun j q y hj hy => ?_, fun i j q q' hi hj hij c hc hh => ?_⟩
  · rcases hget j q hj with h1 | ⟨rfl, rfl⟩
    · exact hr.own j q y h1 hy
    · rw [hx] at hy; cases hy
      exact ⟨hn, ho.base hM⟩
  · rcases hget i q hi with h1 | ⟨rfl, rfl⟩
    · rcases hget j q' hj with h2 | ⟨rfl, rfl⟩
      · exact hr.ap i j q q' h1 h2 hij c hc hh
      · have h3 := hlt i q h1 c hc
        have h4 := (ho.block c hh).1
        omega
    · rcases hget j q' hj with h2 | ⟨rfl, rfl⟩
      · have h3 := hlt j q' h2 c hh
        have h4 := (ho.block c hc).1
        omega
      · exact hij rfl
end
theorem rowM_chs {E : EL} {s o : ByteArray} {q : Int} {k1 : Nat} (hk : idxS o E.os = (k1 : Int)) (x : SI) : rowM (chsE E s o q) x = if x.s = s then (rowM E x).set k1 q else rowM E x := by
  apply List.ext_getElem?
  intro j
  by_cases hj : j < E.os.length
  · rw [rowM_at (E := chsE E s o q) hj, chE_chs, hk]
    split
    · rename_i h1
      obtain ⟨h1, h2⟩ := h1
      have : j = k1 := by omega
      subst this
      rw [if_pos h1, List.getElem?_set_self (by rw [rowM_len]; exact hj)]
    · rename_i h1
      split
      · rename_i h2
        rw [List.getElem?_set_ne (fun hh => h1 ⟨h2, by omega⟩), rowM_at hj]
      · rw [rowM_at hj]
  · have h1 : (rowM (chsE E s o q) x).length ≤ j := by rw [rowM_len]; exact Nat.le_of_not_lt hj
    rw [List.getElem?_eq_none h1]
    have h2 : (if x.s = s then (rowM E x).set k1 q else rowM E x).length ≤ j := by
      split
      · rw [List.length_set, rowM_len]; omega
      · rw [rowM_len]; omega
    rw [List.getElem?_eq_none h2]
theorem RowO.upd {h h' : Heap} {N k : Nat} {E : EL} {rows : List SV} (g : GoodE E) (hr : RowO h N E k rows) {s o : ByteArray} {q : Int} {i1 k1 g1 : Nat} {x1 : SI} {r1 : SV} {ob : Obj} (hk : idxS o E.os = (k1 : Int)) (hx1 : E.hs[i1]? = some x1) (hs1 : x1.s = s) (hr1 : rows[i1]? = some r1)
    (hb : (svV r1).ownBlock = some g1) (hw : Wr h h' g1 ob) (ho : Own h' N tyI 1 (svV r1) E.os.length (((rowM E x1).set k1 q).flatMap intL)) : RowO h' N (chsE E s o q) k rows := by
  refine ⟨hr.len, fun j r x hj hx => ?_, hr.ap⟩
  have h0 := hr.own j r x hj hx
  refine ⟨h0.1, ?_⟩
  rw [rowM_chs hk]
  by_cases hji : j = i1
  · subst hji
    have hxe : x = x1 := by rw [show (chsE E s o q).hs = E.hs from rfl, hx1] at hx; exact (Option.some.inj hx).symm
    subst hxe
    rw [hr1] at hj; cases hj
    rw [if_pos hs1]; exact ho
  · have hne : x.s ≠ s := by
      intro hh
      have h1 : (E.hs.map SI.s)[j]? = some s := by rw [List.getElem?_map, show E.hs[j]? = some x from hx]; exact congrArg some hh
      have h2 : (E.hs.map SI.s)[i1]? = some s := by rw [List.getElem?_map, hx1]; exact congrArg some hs1
      exact hji (nodup_idx g.nd h1 h2)
    rw [if_neg hne]
    exact h0.2.keep fun c hc => hw.same c fun hh => by subst hh; exact hr.ap j i1 r r1 hj hr1 hji _ hc hb
theorem row_sl {h : Heap} {E : EL} {a : Option Addr} {rows : List SV} (hs : SlG 1 svL h a rows) (hr : RowI h E rows) {i : Nat} {x : SI} (hx : E.hs[i]? = some x) :
    ∃ b off b2 c, a = some ⟨b, off, none⟩ ∧ GL.cell h b (off + i) = some (.slice b2 E.os.length c) ∧ SlR tyI 1 intL h b2 (rowM E x) := by
  obtain ⟨b2, c, h1, h2⟩ := hr.2 i x hx
  obtain ⟨b, off, ha, hc⟩ := one_at' hs h1 rfl
  exact ⟨b, off, b2, c, ha, hc, h2⟩
section
variable {h : Heap} {vh vo vc : Value} {E : EL}
theorem c_rFreeI (g : GoodE E) {j : Int} {i : Nat} {x : SI} (hj : j = (i : Int)) (hx : E.hs[i]? = some x) (hI : RI h vh vo vc E) :
    HCalls Tryz.prog 28 #[reV vh vo vc E, iV j] h (Grow (iV (x.n - sumE E x.s)) h) := by subst hj; exact c_rFree g hx hI
set_option maxHeartbeats 4000000 in
theorem c_rChoose (g : GoodE E) (s o : ByteArray) (q ad am : Int) (hI : RI h vh vo vc E) {r : Int} (hr : chX E s o q ad am = r) :
    HCalls Tryz.prog 36 #[reV vh vo vc E, .string s, .string o, iV q, .agg #[iV ad, iV am]] h fun v h' => Ext h h' ∧ ∃ vc', v = .tuple #[reV vh vo vc' (if r = 0 then chsE E s o q else E), iV r] ∧ RI h' vh vo vc' (if r = 0 then chsE E s o q else E) := by
  have hI0 := hI
  obtain ⟨ah, ch, rfl, hch, hsh⟩ := hI.sh
  obtain ⟨ao, co, rfl, hco, hso⟩ := hI.so
  obtain ⟨ac, cc, rows0, rfl, hcc, hsc, hri⟩ := hI.sc
  have hsc0 := hsc; have hri0 := hri; have hsh0 := hsh; have hso0 := hso
  have hnh := g.hn; have hno := g.on; have hb2 := g.b.sum s; have hbc := g.ch ⟨s, idxS o E.os⟩
  refine hcalls2 Tryz.func36 rfl (by decide +kernel) (by simp only [Tryz.ntmps36]; exact of_decide_eq_true rfl) ?_
  intro e hin
  have e0 := hin 0 _ rfl
  have e1 := hin 1 _ rfl
  have e2 := hin 2 _ rfl
  have e3 := hin 3 _ rfl
  have e4 := hin 4 _ rfl
  refine hx_seq (hx_region ?_)
  refine WL.box2 (by simp only [EN, Nat.reduceEqDiff, reduceIte, Value.cells, e0]; rfl) ?_
  intro h1 B1 hx1 hlt1 hB1
  replace hI := hI.ext hx1
  replace hsc := hsc.ext hx1
  replace hri := hri.ext hx1
  have hl1 := (Array.getElem?_eq_some_iff.1 hB1).1
  refine WL.box2 (by simp only [EN, Nat.reduceEqDiff, reduceIte, Value.cells, e4, hB1.cell]; rfl) ?_
  intro h2 B2 hx2 hlt2 hB2
  replace hI := hI.ext hx2
  replace hsc := hsc.ext hx2
  replace hri := hri.ext hx2
  replace hB1 := hB1.ext hx2
  refine WL.alloc2 zr34 ?_
  intro h3 B3 hx3 hlt3 hB3
  replace hI := hI.ext hx3
  replace hsc := hsc.ext hx3
  replace hri := hri.ext hx3
  replace hB1 := hB1.ext hx3
  replace hB2 := hB2.ext hx3
  simp only [Value.cells] at hB3
  refine WL.qq (by simp only [EN, Nat.reduceEqDiff, reduceIte, qv_assign, hB1.cell, hB2.cell, hB3.cell]; rfl) ?_
  refine WL.nil (th_norm (hx_seq (hx_region ?_)))
  have hb1 : h.size ≤ B1 := hlt1; have hb3 : h.size ≤ B3 := (by have := hx1.size; have := hx2.size; omega); have hn31 : B3 ≠ B1 := (by have := hx2.size; omega)
  iterate 3 refine WL.qq (by simp only [EN, Nat.reduceEqDiff, reduceIte, qv_load, ld34, readN, AR, Nat.zero_add, Nat.reduceAdd, hB1.cell, hB2.cell, hB3.cell, qv_move, e1, e2]; rfl) ?_
  refine WL.cg Tryz.call27 (by simp only [EN, Nat.reduceEqDiff, reduceIte, AR, hB1.cell, hB2.cell, hB3.cell]; exact c_rFind g s o hI) ?_
  intro h4 hx4
  replace hI := hI.ext hx4
  replace hsc := hsc.ext hx4
  replace hri := hri.ext hx4
  replace hB1 := hB1.ext hx4
  replace hB2 := hB2.ext hx4
  replace hB3 := hB3.ext hx4
  iterate 5 refine WL.qq (by simp only [EN, Nat.reduceEqDiff, reduceIte, qv_move, hB1.cell, hB2.cell, hB3.cell, qv_extract, AR, qv_assign]; rfl) ?_
  refine WL.nil (th_norm (hx_seq (hx_block (hx_seq (hx_region ?_)))))
  iterate 3 refine WL.qq (by simp only [EN, Nat.reduceEqDiff, reduceIte, qv_fieldAddr, fa34_5, Nat.zero_add, Nat.reduceAdd, hB1.cell, hB2.cell, hB3.cell, qv_load, ld4, readN, AR, qv_assign]; rfl) ?_
  refine WL.nil (th_norm ?_)
  refine hx_cond (by simp only [EN, Nat.reduceEqDiff, reduceIte, hB1.cell, hB2.cell, hB3.cell]; rfl) (fun hct23 => ?_) (fun hct23 => ?_)
  ·
   try simp only [BD] at hct23
   refine hx_seq (hx_region ?_)
   refine WL.qq (by simp only [EN, Nat.reduceEqDiff, reduceIte, qv_load, ld34, readN, AR, Nat.zero_add, Nat.reduceAdd, hB1.cell, hB2.cell, hB3.cell]; rfl) ?_
   refine WL.store (by simp only [EN, Nat.reduceEqDiff, reduceIte, hB1.cell, hB2.cell, hB3.cell] <;> rfl) sz34 (by simp only [EN, Nat.reduceEqDiff, reduceIte, Value.cells, hB1.cell, hB2.cell, hB3.cell] <;> rfl) rfl hB3 (by first | (simp [true_and]; done) | (simp [true_and]; omega) | omega) (by simp [Value.oneCell']) ?_
   intro h5 hw5
   have hXe := hw5.ext ((hx1).trans ((hx2).trans ((hx3).trans (hx4)))) hb3
   replace hB3 := hw5.at_
   try simp only [splc, List.take_succ_cons, List.take_zero, List.take_nil, List.drop_succ_cons, List.drop_zero, List.drop_nil, List.cons_append, List.nil_append, List.length_cons, List.length_nil, Nat.zero_add, Nat.add_zero, Nat.reduceAdd, List.append_nil] at hB3
   refine WL.qq (by simp only [EN, Nat.reduceEqDiff, reduceIte, qv_assign, hB1.cell, hB2.cell, hB3.cell]; rfl) ?_
   refine WL.nil (th_norm (hx_ret (bl_ret (th_ret ?_))))
   refine fin_ret [.cell 10 34, .tmp 11] rfl rfl (by simp only [EN, Nat.reduceEqDiff, reduceIte, resv, ld34, readN, AR, Nat.zero_add, Nat.reduceAdd, e0, e1, e2, e3, e4, hB1.cell, hB2.cell, hB3.cell]; rfl) ?_
   rw [chX, if_pos (by simpa using hct23)] at hr
   subst hr
   exact ⟨hXe, _, by rw [if_neg (by decide)]; rfl, by rw [if_neg (by decide)]; exact hI0.ext hXe⟩
  ·
   try simp only [BD] at hct23
   rw [chX, if_neg (by simpa using hct23)] at hr
   refine hx_seq (hx_region ?_)
   iterate 3 refine WL.qq (by simp only [EN, Nat.reduceEqDiff, reduceIte, qv_load, ld25, readN, AR, Nat.zero_add, Nat.reduceAdd, hB1.cell, hB2.cell, hB3.cell, qv_fieldAddr, fa34_3]; rfl) ?_
   refine WL.cg Tryz.call37 (by simp only [EN, Nat.reduceEqDiff, reduceIte, AR, hB1.cell, hB2.cell, hB3.cell]; exact c_after ad am E.dd E.dm _) ?_
   intro h6 hx6
   replace hI := hI.ext hx6
   replace hsc := hsc.ext hx6
   replace hri := hri.ext hx6
   replace hB1 := hB1.ext hx6
   replace hB2 := hB2.ext hx6
   replace hB3 := hB3.ext hx6
   refine WL.qq (by simp only [EN, Nat.reduceEqDiff, reduceIte, qv_assign, hB1.cell, hB2.cell, hB3.cell]; rfl) ?_
   refine WL.nil (th_norm ?_)
   refine hx_cond (by simp only [EN, Nat.reduceEqDiff, reduceIte, hB1.cell, hB2.cell, hB3.cell]; rfl) (fun hct27 => ?_) (fun hct27 => ?_)
   ·
    try simp only [BD] at hct27
    refine hx_seq (hx_region ?_)
    refine WL.qq (by simp only [EN, Nat.reduceEqDiff, reduceIte, qv_load, ld34, readN, AR, Nat.zero_add, Nat.reduceAdd, hB1.cell, hB2.cell, hB3.cell]; rfl) ?_
    refine WL.store (by simp only [EN, Nat.reduceEqDiff, reduceIte, hB1.cell, hB2.cell, hB3.cell] <;> rfl) sz34 (by simp only [EN, Nat.reduceEqDiff, reduceIte, Value.cells, hB1.cell, hB2.cell, hB3.cell] <;> rfl) rfl hB3 (by first | (simp [true_and]; done) | (simp [true_and]; omega) | omega) (by simp [Value.oneCell']) ?_
    intro h7 hw7
    have hXe := hw7.ext ((hx1).trans ((hx2).trans ((hx3).trans ((hx4).trans (hx6))))) hb3
    replace hB3 := hw7.at_
    try simp only [splc, List.take_succ_cons, List.take_zero, List.take_nil, List.drop_succ_cons, List.drop_zero, List.drop_nil, List.cons_append, List.nil_append, List.length_cons, List.length_nil, Nat.zero_add, Nat.add_zero, Nat.reduceAdd, List.append_nil] at hB3
    refine WL.qq (by simp only [EN, Nat.reduceEqDiff, reduceIte, qv_assign, hB1.cell, hB2.cell, hB3.cell]; rfl) ?_
    refine WL.nil (th_norm (hx_ret (bl_ret (th_ret ?_))))
    refine fin_ret [.cell 10 34, .tmp 11] rfl rfl (by simp only [EN, Nat.reduceEqDiff, reduceIte, resv, ld34, readN, AR, Nat.zero_add, Nat.reduceAdd, e0, e1, e2, e3, e4, hB1.cell, hB2.cell, hB3.cell]; rfl) ?_
    rw [if_pos (by simpa using hct27)] at hr
    subst hr
    exact ⟨hXe, _, by rw [if_neg (by decide)]; rfl, by rw [if_neg (by decide)]; exact hI0.ext hXe⟩
   ·
    try simp only [BD] at hct27
    rw [if_neg (by omega)] at hr
    refine hx_seq (hx_region ?_)
    iterate 3 refine WL.qq (by simp only [EN, Nat.reduceEqDiff, reduceIte, qv_move, hB1.cell, hB2.cell, hB3.cell, qv_binOp, binv_lss, qv_assign]; rfl) ?_
    refine WL.nil (th_norm ?_)
    refine hx_cond (by simp only [EN, Nat.reduceEqDiff, reduceIte, hB1.cell, hB2.cell, hB3.cell]; rfl) (fun hct33 => ?_) (fun hct33 => ?_)
    ·
     try simp only [BD] at hct33
     refine hx_seq (hx_region ?_)
     refine WL.qq (by simp only [EN, Nat.reduceEqDiff, reduceIte, qv_load, ld34, readN, AR, Nat.zero_add, Nat.reduceAdd, hB1.cell, hB2.cell, hB3.cell]; rfl) ?_
     refine WL.store (by simp only [EN, Nat.reduceEqDiff, reduceIte, hB1.cell, hB2.cell, hB3.cell] <;> rfl) sz34 (by simp only [EN, Nat.reduceEqDiff, reduceIte, Value.cells, hB1.cell, hB2.cell, hB3.cell] <;> rfl) rfl hB3 (by first | (simp [true_and]; done) | (simp [true_and]; omega) | omega) (by simp [Value.oneCell']) ?_
     intro h8 hw8
     have hXe := hw8.ext ((hx1).trans ((hx2).trans ((hx3).trans ((hx4).trans (hx6))))) hb3
     replace hB3 := hw8.at_
     try simp only [splc, List.take_succ_cons, List.take_zero, List.take_nil, List.drop_succ_cons, List.drop_zero, List.drop_nil, List.cons_append, List.nil_append, List.length_cons, List.length_nil, Nat.zero_add, Nat.add_zero, Nat.reduceAdd, List.append_nil] at hB3
     refine WL.qq (by simp only [EN, Nat.reduceEqDiff, reduceIte, qv_assign, hB1.cell, hB2.cell, hB3.cell]; rfl) ?_
     refine WL.nil (th_norm (hx_ret (bl_ret (th_ret ?_))))
     refine fin_ret [.cell 10 34, .tmp 11] rfl rfl (by simp only [EN, Nat.reduceEqDiff, reduceIte, resv, ld34, readN, AR, Nat.zero_add, Nat.reduceAdd, e0, e1, e2, e3, e4, hB1.cell, hB2.cell, hB3.cell]; rfl) ?_
     rw [if_pos (by omega)] at hr
     subst hr
     exact ⟨hXe, _, by rw [if_neg (by decide)]; rfl, by rw [if_neg (by decide)]; exact hI0.ext hXe⟩
    ·
     try simp only [BD] at hct33
     rw [if_neg (by omega)] at hr
     refine hx_seq (hx_region ?_)
     iterate 3 refine WL.qq (by simp only [EN, Nat.reduceEqDiff, reduceIte, qv_move, hB1.cell, hB2.cell, hB3.cell, qv_binOp, binv_lss, qv_assign]; rfl) ?_
     refine WL.nil (th_norm ?_)
     refine hx_cond (by simp only [EN, Nat.reduceEqDiff, reduceIte, hB1.cell, hB2.cell, hB3.cell]; rfl) (fun hct37 => ?_) (fun hct37 => ?_)
     ·
      try simp only [BD] at hct37
      refine hx_seq (hx_region ?_)
      refine WL.qq (by simp only [EN, Nat.reduceEqDiff, reduceIte, qv_load, ld34, readN, AR, Nat.zero_add, Nat.reduceAdd, hB1.cell, hB2.cell, hB3.cell]; rfl) ?_
      refine WL.store (by simp only [EN, Nat.reduceEqDiff, reduceIte, hB1.cell, hB2.cell, hB3.cell] <;> rfl) sz34 (by simp only [EN, Nat.reduceEqDiff, reduceIte, Value.cells, hB1.cell, hB2.cell, hB3.cell] <;> rfl) rfl hB3 (by first | (simp [true_and]; done) | (simp [true_and]; omega) | omega) (by simp [Value.oneCell']) ?_
      intro h9 hw9
      have hXe := hw9.ext ((hx1).trans ((hx2).trans ((hx3).trans ((hx4).trans (hx6))))) hb3
      replace hB3 := hw9.at_
      try simp only [splc, List.take_succ_cons, List.take_zero, List.take_nil, List.drop_succ_cons, List.drop_zero, List.drop_nil, List.cons_append, List.nil_append, List.length_cons, List.length_nil, Nat.zero_add, Nat.add_zero, Nat.reduceAdd, List.append_nil] at hB3
      refine WL.qq (by simp only [EN, Nat.reduceEqDiff, reduceIte, qv_assign, hB1.cell, hB2.cell, hB3.cell]; rfl) ?_
      refine WL.nil (th_norm (hx_ret (bl_ret (th_ret ?_))))
      refine fin_ret [.cell 10 34, .tmp 11] rfl rfl (by simp only [EN, Nat.reduceEqDiff, reduceIte, resv, ld34, readN, AR, Nat.zero_add, Nat.reduceAdd, e0, e1, e2, e3, e4, hB1.cell, hB2.cell, hB3.cell]; rfl) ?_
      rw [if_pos (by omega)] at hr
      subst hr
      exact ⟨hXe, _, by rw [if_neg (by decide)]; rfl, by rw [if_neg (by decide)]; exact hI0.ext hXe⟩
     ·
      try simp only [BD] at hct37
      rw [if_neg (by omega)] at hr
      refine hx_seq (hx_region ?_)
      iterate 3 refine WL.qq (by simp only [EN, Nat.reduceEqDiff, reduceIte, qv_move, e3, hB1.cell, hB2.cell, hB3.cell, qv_binOp, binv_lss]; rfl) ?_
      refine WL.cq (gd_at (t := 44) rfl (by simp only [EN, Nat.reduceEqDiff, reduceIte, e3, hB1.cell, hB2.cell, hB3.cell] <;> rfl)) (fun hg10_3 => by simp only [EN, Nat.reduceEqDiff, reduceIte, qv_move, e3, hB1.cell, hB2.cell, hB3.cell, hg10_3, GR]; rfl) ?_
      refine WL.cq (gd_at (t := 44) rfl (by simp only [EN, Nat.reduceEqDiff, reduceIte, hB1.cell, hB2.cell, hB3.cell] <;> rfl)) (fun hg10_4 => by simp only [EN, Nat.reduceEqDiff, reduceIte, qv_binOp, binv_gtr, hB1.cell, hB2.cell, hB3.cell, hg10_4, GR]; rfl) ?_
      iterate 2 refine WL.qq (by simp only [EN, Nat.reduceEqDiff, reduceIte, qv_pick, pk_and, pk_or, GR, hB1.cell, hB2.cell, hB3.cell, qv_assign]; rfl) ?_
      refine WL.nil (th_norm ?_)
      refine hx_cond (by simp only [EN, Nat.reduceEqDiff, reduceIte, hB1.cell, hB2.cell, hB3.cell]; rfl) (fun hct41 => ?_) (fun hct41 => ?_)
      ·
       try simp only [BD] at hct41
       refine hx_seq (hx_region ?_)
       refine WL.qq (by simp only [EN, Nat.reduceEqDiff, reduceIte, qv_load, ld34, readN, AR, Nat.zero_add, Nat.reduceAdd, hB1.cell, hB2.cell, hB3.cell]; rfl) ?_
       refine WL.store (by simp only [EN, Nat.reduceEqDiff, reduceIte, hB1.cell, hB2.cell, hB3.cell] <;> rfl) sz34 (by simp only [EN, Nat.reduceEqDiff, reduceIte, Value.cells, hB1.cell, hB2.cell, hB3.cell] <;> rfl) rfl hB3 (by first | (simp [true_and]; done) | (simp [true_and]; omega) | omega) (by simp [Value.oneCell']) ?_
       intro h10 hw10
       have hXe := hw10.ext ((hx1).trans ((hx2).trans ((hx3).trans ((hx4).trans (hx6))))) hb3
       replace hB3 := hw10.at_
       try simp only [splc, List.take_succ_cons, List.take_zero, List.take_nil, List.drop_succ_cons, List.drop_zero, List.drop_nil, List.cons_append, List.nil_append, List.length_cons, List.length_nil, Nat.zero_add, Nat.add_zero, Nat.reduceAdd, List.append_nil] at hB3
       refine WL.qq (by simp only [EN, Nat.reduceEqDiff, reduceIte, qv_assign, hB1.cell, hB2.cell, hB3.cell]; rfl) ?_
       refine WL.nil (th_norm (hx_ret (bl_ret (th_ret ?_))))
       refine fin_ret [.cell 10 34, .tmp 11] rfl rfl (by simp only [EN, Nat.reduceEqDiff, reduceIte, resv, ld34, readN, AR, Nat.zero_add, Nat.reduceAdd, e0, e1, e2, e3, e4, hB1.cell, hB2.cell, hB3.cell]; rfl) ?_
       rw [if_pos (by omega)] at hr
       subst hr
       exact ⟨hXe, _, by rw [if_neg (by decide)]; rfl, by rw [if_neg (by decide)]; exact hI0.ext hXe⟩
      ·
       try simp only [BD] at hct41
       rw [if_neg (by omega)] at hr
       obtain ⟨i1, x1, hi1, hx1x, hxs, hno1⟩ : ∃ i x, idxS s E.hs = (i : Nat) ∧ E.hs[i]? = some x ∧ x.s = s ∧ ∀ y ∈ E.hs.take i, y.s ≠ s := (idxS_cases s E.hs).resolve_left (fun hh => by omega)
       obtain ⟨k1, y1, hk1, hy1, _, _⟩ : ∃ i x, idxS o E.os = (i : Nat) ∧ E.os[i]? = some x ∧ x.s = o ∧ ∀ y ∈ E.os.take i, y.s ≠ o := (idxS_cases o E.os).resolve_left (fun hh => by omega)
       have hil := (List.getElem?_eq_some_iff.1 hx1x).1; have hkl := (List.getElem?_eq_some_iff.1 hy1).1; have hld : hldE E s = x1 := hld_yes hno1 hx1x hxs; have hlk : lk E.m ⟨s, idxS o E.os⟩ = chE E x1.s k1 := (by rw [hk1, ← hxs]; rfl); rw [hld, hlk] at hr; rw [← hxs] at hr; have hq1 := g.hq x1 (List.mem_of_getElem? hx1x); rw [hlk] at hbc; rw [← hxs] at hb2
       obtain ⟨b2, o2, b3, o3, c3, ha2, hc2, hc3⟩ := row_rd hsc.rd hri hx1x hkl
       refine hx_seq ?_
       apply hx_draw2 Rel.grows [] [3] [(3, Spec.is _)] rfl (by decide +kernel) rfl
       iterate 3 refine LD.qq rfl rfl (by simp only [EN, Nat.reduceEqDiff, reduceIte, qv_move, e3, hB1.cell, hB2.cell, hB3.cell, qv_load, ld34, readN, AR, Nat.zero_add, Nat.reduceAdd]; rfl) ?_
       refine LD.ck rfl rfl Tryz.call28 (by intro hD hr; have hx : Ext _ _ := hr; have hI := hI.ext hx; have hsc := hsc.ext hx; have hri := hri.ext hx; have hB1 := hB1.ext hx; have hB2 := hB2.ext hx; have hB3 := hB3.ext hx; simp only [EN, Nat.reduceEqDiff, reduceIte, AR, hB1.cell, hB2.cell, hB3.cell]; exact c_rFreeI g hi1 hx1x hI) ?_
       iterate 3 refine LD.qq rfl rfl (by simp only [EN, Nat.reduceEqDiff, reduceIte, qv_fieldAddr, fa34_4, Nat.zero_add, Nat.reduceAdd, hB1.cell, hB2.cell, hB3.cell, qv_load, ld32, readN, AR, qv_move]; rfl) ?_
       refine LD.qq rfl rfl (by simp only [EN, Nat.reduceEqDiff, reduceIte, qv_indexAddr, hB1.cell, hB2.cell, hB3.cell, ha2, hi1]; (try simp (disch := omega) only [ix32, Int.toNat_natCast]); rfl) ?_
       refine LD.qq rfl rfl (by simp only [EN, Nat.reduceEqDiff, reduceIte, e0, e1, e2, e3, e4, hB1.cell, hB2.cell, hB3.cell, qv_load, ld55, Int.toNat_natCast, Nat.mul_one, hc2]; rfl) ?_
       iterate 2 refine LD.qq rfl rfl (by simp only [EN, Nat.reduceEqDiff, reduceIte, qv_move, hB1.cell, hB2.cell, hB3.cell, qv_indexAddr, hk1]; (try simp (disch := omega) only [ix55, Int.toNat_natCast]); rfl) ?_
       refine LD.qq rfl rfl (by simp only [EN, Nat.reduceEqDiff, reduceIte, e0, e1, e2, e3, e4, hB1.cell, hB2.cell, hB3.cell, qv_load, ld2, Int.toNat_natCast, Nat.mul_one, hc3]; rfl) ?_
       iterate 3 refine LD.qq rfl rfl (by simp only [EN, Nat.reduceEqDiff, reduceIte, qv_binOp, binv_add, hB1.cell, hB2.cell, hB3.cell, binv_gtr, qv_assign]; (try simp (disch := omega) only [w64, w8, wu64]); rfl) ?_
       refine LD.nil ?_
       rintro h11 hx11 hF12
       replace hx11 : Ext _ _ := hx11
       replace hI := hI.ext hx11
       replace hsc := hsc.ext hx11
       replace hri := hri.ext hx11
       replace hB1 := hB1.ext hx11
       replace hB2 := hB2.ext hx11
       replace hB3 := hB3.ext hx11
       refine WL.nil (th_norm ?_)
       refine hx_cond (by simp only [EN, Nat.reduceEqDiff, reduceIte, hB1.cell, hB2.cell, hB3.cell]; rfl) (fun hct49 => ?_) (fun hct49 => ?_)
       ·
        try simp only [BD] at hct49
        refine hx_seq (hx_region ?_)
        refine WL.qq (by simp only [EN, Nat.reduceEqDiff, reduceIte, qv_load, ld34, readN, AR, Nat.zero_add, Nat.reduceAdd, hB1.cell, hB2.cell, hB3.cell]; rfl) ?_
        refine WL.store (by simp only [EN, Nat.reduceEqDiff, reduceIte, hB1.cell, hB2.cell, hB3.cell] <;> rfl) sz34 (by simp only [EN, Nat.reduceEqDiff, reduceIte, Value.cells, hB1.cell, hB2.cell, hB3.cell] <;> rfl) rfl hB3 (by first | (simp [true_and]; done) | (simp [true_and]; omega) | omega) (by simp [Value.oneCell']) ?_
        intro h12 hw12
        have hXe := hw12.ext ((hx1).trans ((hx2).trans ((hx3).trans ((hx4).trans ((hx6).trans (hx11)))))) hb3
        replace hB3 := hw12.at_
        try simp only [splc, List.take_succ_cons, List.take_zero, List.take_nil, List.drop_succ_cons, List.drop_zero, List.drop_nil, List.cons_append, List.nil_append, List.length_cons, List.length_nil, Nat.zero_add, Nat.add_zero, Nat.reduceAdd, List.append_nil] at hB3
        refine WL.qq (by simp only [EN, Nat.reduceEqDiff, reduceIte, qv_assign, hB1.cell, hB2.cell, hB3.cell]; rfl) ?_
        refine WL.nil (th_norm (hx_ret (bl_ret (th_ret ?_))))
        refine fin_ret [.cell 10 34, .tmp 11] rfl rfl (by simp only [EN, Nat.reduceEqDiff, reduceIte, resv, ld34, readN, AR, Nat.zero_add, Nat.reduceAdd, e0, e1, e2, e3, e4, hB1.cell, hB2.cell, hB3.cell]; rfl) ?_
        rw [if_pos (by omega)] at hr
        subst hr
        exact ⟨hXe, _, by rw [if_neg (by decide)]; rfl, by rw [if_neg (by decide)]; exact hI0.ext hXe⟩
       ·
        try simp only [BD] at hct49
        rw [if_neg (by omega)] at hr; subst hr
        have hX0 := ((hx1).trans ((hx2).trans ((hx3).trans ((hx4).trans ((hx6).trans (hx11))))))
        refine hx_skip (bl_norm (th_norm (hx_seq (hx_region ?_))))
        refine WL.qq (by simp only [EN, Nat.reduceEqDiff, reduceIte, qv_assign, hB1.cell, hB2.cell, hB3.cell]; rfl) ?_
        refine WL.nil (th_norm (hx_seq (hx_seq (hx_region ?_))))
        refine WL.qq (by simp only [EN, Nat.reduceEqDiff, reduceIte, qv_assign, hB1.cell, hB2.cell, hB3.cell]; rfl) ?_
        refine WL.nil (th_norm (hx_block ?_))
        refine hx_loopG [14, 15, 65, 66, 67, 68, 69, 70, 71, 72, 73, 74, 75, 76, 77, 78, 79, 80, 81] (fun k e hL0 => ∃ (i : Nat) (aa : Option Addr) (ca : Nat) (rows : List SV), E.hs.length - i = k ∧ (i ≤ E.hs.length) ∧ (Ext h hL0) ∧ (Has hL0 B1 (.cells #[.slice ah E.hs.length ch, .slice ao E.os.length co, iV E.d, iV E.dd, iV E.dm, .slice ac E.hs.length cc, .bool E.cl] tyRE)) ∧ (Has hL0 B3 (.cells #[.slice none 0 0, .slice none 0 0, iV 0, iV 0, iV 0, .slice none 0 0, .bool false] tyRE)) ∧ (Own hL0 h.size tySl 1 (.slice aa i ca) i (rows.flatMap svL)) ∧ (RowO hL0 h.size E i rows) ∧ e 15 = .int .i64 i ∧ e 14 = .slice aa i ca) _ ⟨0, none, 0, [], rfl, ?_, ?_, ?_, ?_, ?_, ?_, ?_, ?_⟩ ?_
        · omega
        · exact hX0
        · exact hB1
        · exact hB3
        · exact Own.nil
        · exact RowO.nil
        · simp only [EN, Nat.reduceEqDiff, reduceIte, e0, e1, e2, e3, e4, hB1.cell, hB2.cell, hB3.cell] <;> rfl
        · simp only [EN, Nat.reduceEqDiff, reduceIte, e0, e1, e2, e3, e4, hB1.cell, hB2.cell, hB3.cell] <;> rfl
        ·
         rintro k e0L hL0 hfr0 ⟨i, aa, ca, rows, rfl, hi, hX, hB1, hB3, ha, hw, i15_0, i14_0⟩
         have k3_0 := hfr0 3 rfl; try simp only [EN, Nat.reduceEqDiff, reduceIte, e3, hB1.cell, hB2.cell, hB3.cell] at k3_0
         have k5_0 := hfr0 5 rfl; try simp only [EN, Nat.reduceEqDiff, reduceIte, hB1.cell, hB2.cell, hB3.cell] at k5_0
         have k10_0 := hfr0 10 rfl; try simp only [EN, Nat.reduceEqDiff, reduceIte, hB1.cell, hB2.cell, hB3.cell] at k10_0
         have k12_0 := hfr0 12 rfl; try simp only [EN, Nat.reduceEqDiff, reduceIte, hB1.cell, hB2.cell, hB3.cell] at k12_0
         have k13_0 := hfr0 13 rfl; try simp only [EN, Nat.reduceEqDiff, reduceIte, hB1.cell, hB2.cell, hB3.cell] at k13_0
         refine hx_seq (hx_seq (hx_region ?_))
         iterate 5 refine WL.qq (by simp only [EN, Nat.reduceEqDiff, reduceIte, qv_move, i15_0, hB1.cell, hB2.cell, hB3.cell, hB1.cell, hB3.cell, qv_fieldAddr, fa34_4, Nat.zero_add, Nat.reduceAdd, k5_0, qv_load, ld32, readN, AR, qv_len, ln32, qv_binOp, binv_lss]; rfl) ?_
         refine WL.nil (th_norm ?_)
         refine hx_cond (by simp only [EN, Nat.reduceEqDiff, reduceIte, hB1.cell, hB2.cell, hB3.cell, hB1.cell, hB3.cell]; rfl) (fun hct69 => ?_) (fun hct69 => ?_)
         ·
          try simp only [BD] at hct69
          obtain ⟨x, hx⟩ := atG (l := E.hs) (i := i) (by omega)
          refine hx_skip (th_norm (hx_seq (hx_block (hx_region ?_))))
          refine WL.qq (by simp only [EN, Nat.reduceEqDiff, reduceIte, qv_move, i14_0, hB1.cell, hB2.cell, hB3.cell, hB1.cell, hB3.cell]; rfl) ?_
          refine WL.lit0 Tryz.underlying55 sz2 ?_
          intro h48 B48 hx48 hlt48 hB48
          have hB1i := hB1
          replace hB1 := hB1i.ext hx48
          obtain ⟨b4, o4, b5, c5, ha4, hc4, hr5⟩ := row_sl (hsc0.ext (hX.trans hx48)).rd (hri0.ext (hX.trans hx48)) hx
          obtain ⟨g5, o5, hb5, _⟩ := one_at' hr5.rd (rowM_at (k := 0) (by omega)) rfl
          subst hb5
          iterate 3 refine WL.qq (by simp only [EN, Nat.reduceEqDiff, reduceIte, qv_fieldAddr, fa34_4, Nat.zero_add, Nat.reduceAdd, k5_0, hB1.cell, hB2.cell, hB3.cell, hB1.cell, hB3.cell, qv_load, ld32, readN, AR, qv_move, i15_0]; rfl) ?_
          refine WL.qq (by simp only [EN, Nat.reduceEqDiff, reduceIte, qv_indexAddr, hB1.cell, hB2.cell, hB3.cell, hB1.cell, hB3.cell, ha4]; (try simp (disch := omega) only [ix32, Int.toNat_natCast]); rfl) ?_
          refine WL.qq (by simp only [EN, Nat.reduceEqDiff, reduceIte, k3_0, k5_0, k10_0, k12_0, k13_0, i15_0, i14_0, hB1.cell, hB2.cell, hB3.cell, hB1.cell, hB3.cell, qv_load, ld55, Int.toNat_natCast, Nat.mul_one, hc4]; rfl) ?_
          refine WL.appG (f := intL) (base := hL0.size) (n := 0) (xs := []) (bytes := 8) (sz := 1) (L := rowM E x) Tryz.underlying55 (inf_of Tryz.type2) rfl rfl rfl rfl (by decide) (fun _ => rfl) (fun y u hu => by simp at hu; subst hu; rfl) (by simp only [EN, Nat.reduceEqDiff, reduceIte, k3_0, k5_0, k10_0, k12_0, k13_0, i15_0, i14_0, hB1.cell, hB2.cell, hB3.cell, hB1.cell, hB3.cell] <;> rfl) (Own.lit0 hB48 hlt48) (by simp only [EN, Nat.reduceEqDiff, reduceIte, k3_0, k5_0, k10_0, k12_0, k13_0, i15_0, i14_0, hB1.cell, hB2.cell, hB3.cell, hB1.cell, hB3.cell] <;> rfl) rowM_len.symm (fun hh => by cases hh) hr5.rd (by simp only [maxLen, rowM_len]; omega) (by rw [rowM_len]; omega) hx48.size ?_
          intro h49 v49 ho49 hg49 hp49 hn49
          have hx49 := hg49.ext hx48 (fun c hc => by cases hc; exact hlt48)
          replace hB1 := hB1i.ext hx49
          rw [rowM_len, Nat.zero_add, List.nil_append] at ho49
          obtain ⟨a49, c49, rfl, _⟩ := ho49.shape
          have ha49 := ha.ext hx49
          refine WL.push (bytes := 24) Tryz.underlying32 (inf_of Tryz.type55) rfl rfl rfl rfl (by decide) (by decide) sz55 zr55 (fun u => by simp only [EN, Nat.reduceEqDiff, reduceIte, k3_0, k5_0, k10_0, k12_0, k13_0, i15_0, i14_0, hB1.cell, hB2.cell, hB3.cell, hB1.cell, hB3.cell]) ha49 (c := #[.slice a49 E.os.length c49]) (by simp only [EN, Nat.reduceEqDiff, reduceIte, k3_0, k5_0, k10_0, k12_0, k13_0, i15_0, i14_0, hB1.cell, hB2.cell, hB3.cell, hB1.cell, hB3.cell, Value.cells] <;> rfl) rfl (by simp [Value.oneCell']) (by simp only [maxLen]; omega) (by omega) (Nat.le_trans hX.size hx49.size) ?_
          intro h50 v50 B50 ho50 hg50 hp50 hn50
          have hX50 := hg50.ext (hX.trans hx49) (fun c hc => (ha.block c hc).1)
          have hB350 := (hB3.ext hx49).gr hg50 (ha49.ncell (hB3.ext hx49) (by decide))
          replace hB1 := hB1.gr hg50 (ha49.ncell hB1 (by decide))
          have hw50 := (hw.ext hx49).gro hg50 ha49 (by decide)
          have hrow50 := ho49.gro hg50 ha49 (by decide)
          obtain ⟨a50, c50, rfl, _⟩ := ho50.shape
          have hltw : ∀ (j : Nat) (r : SV), rows[j]? = some r → ∀ c, (svV r).ownBlock = some c → c < hL0.size := (fun j r hj c hc => ((hw.own j r _ hj (List.getElem?_eq_getElem (by have := (List.getElem?_eq_some_iff.1 hj).1; have := hw.len; omega))).2.block c hc).2)
          skip
          refine WL.qq (by simp only [EN, Nat.reduceEqDiff, reduceIte, qv_assign, hB1.cell, hB2.cell, hB3.cell, hB1.cell, hB3.cell]; rfl) ?_
          refine WL.nil (bl_norm (th_norm (hx_region ?_)))
          iterate 3 refine WL.qq (by simp only [EN, Nat.reduceEqDiff, reduceIte, qv_move, i15_0, hB1.cell, hB2.cell, hB3.cell, hB1.cell, hB3.cell, qv_binOp, binv_add, qv_assign]; (try simp (disch := omega) only [w64, w8, wu64]); rfl) ?_
          refine WL.nil (th_norm ?_)
          refine ⟨rfl, ?_, _, ?_, i + 1, a50, c50, rows ++ [⟨a49, E.os.length, c49⟩], rfl, ?_, ?_, ?_, ?_, ?_, ?_, ?_, ?_⟩
          · (repeat (first | exact Fr.refl _ _ | refine Fr.set rfl ?_ | refine Fr.put rfl ?_ | with_reducible refine Fr.put0 ?_))
          · omega
          · omega
          · exact hX50
          · exact hB1
          · exact hB350
          · rw [List.flatMap_append]; exact ho50
          · exact hw50.snoc hltw hx rfl hrow50 hX.size
          · simp only [EN, Nat.reduceEqDiff, reduceIte, k3_0, k5_0, k10_0, k12_0, k13_0, i15_0, i14_0, hB1.cell, hB2.cell, hB3.cell, hB1.cell, hB3.cell] <;> first | rfl | (congr 1; omega)
          · simp only [EN, Nat.reduceEqDiff, reduceIte, k3_0, k5_0, k10_0, k12_0, k13_0, i15_0, i14_0, hB1.cell, hB2.cell, hB3.cell, hB1.cell, hB3.cell] <;> first | rfl | (congr 1; omega)
         ·
          try simp only [BD] at hct69
          obtain rfl : i = E.hs.length := (by omega)
          obtain ⟨r1, hr1⟩ := atG (l := rows) (i := i1) (by rw [hw.len]; omega); obtain ⟨hrn, hro⟩ := hw.own i1 r1 x1 hr1 hx1x
          obtain ⟨b6, o6, ha6, hc6⟩ := one_at' (slG_own (f := svL) (sz := 1) (fun _ => rfl) ha hw.len.symm) hr1 (y := svV r1) rfl
          obtain ⟨g1, cp1, hv1, _⟩ := hro.rd (i := 0) (by omega); rw [hv1] at hc6; have hgb : (svV r1).ownBlock = some g1 := (by rw [hv1]; rfl)
          refine hx_exit (th_exit (th_exit (bl_hit (th_norm (hx_seq (hx_region ?_))))))
          iterate 3 refine WL.qq (by simp only [EN, Nat.reduceEqDiff, reduceIte, qv_move, i14_0, hB1.cell, hB2.cell, hB3.cell, hB1.cell, hB3.cell, k12_0, qv_indexAddr, ha6, hi1]; (try simp (disch := omega) only [ix32, Int.toNat_natCast]); rfl) ?_
          refine WL.qq (by simp only [EN, Nat.reduceEqDiff, reduceIte, k3_0, k5_0, k10_0, k12_0, k13_0, i15_0, i14_0, hB1.cell, hB2.cell, hB3.cell, hB1.cell, hB3.cell, qv_load, ld55, Int.toNat_natCast, Nat.mul_one, hc6]; rfl) ?_
          iterate 3 refine WL.qq (by simp only [EN, Nat.reduceEqDiff, reduceIte, qv_move, k13_0, hB1.cell, hB2.cell, hB3.cell, hB1.cell, hB3.cell, k3_0, qv_indexAddr, hk1]; (try simp (disch := omega) only [ix55, Int.toNat_natCast]); rfl) ?_
          obtain ⟨cur, hcur, hle, hput⟩ := hro.putAt (f := intL) (sz := 1) (fun _ => rfl) rowM_len.symm hv1 (j := k1) (k := 0) (y := chE E x1.s k1) (y' := q) (vs := [iV q]) (rowM_at hkl) (by simp) rfl
          have hle2 : 0 + k1 + 1 ≤ cur.size := (by simpa using hle)
          refine WL.store (off := 0 + k1) (by simp only [EN, Nat.reduceEqDiff, reduceIte, k3_0, k5_0, k10_0, k12_0, k13_0, i15_0, i14_0, hB1.cell, hB2.cell, hB3.cell, hB1.cell, hB3.cell, Int.toNat_natCast] <;> rfl) sz2 (by simp only [EN, Nat.reduceEqDiff, reduceIte, k3_0, k5_0, k10_0, k12_0, k13_0, i15_0, i14_0, hB1.cell, hB2.cell, hB3.cell, hB1.cell, hB3.cell, Value.cells] <;> rfl) rfl hcur hle2 (by simp [Value.oneCell']) ?_
          intro h60 hw60
          have ho60 := hput h60 (by simpa using hw60)
          have hwn := hw.upd (h' := h60) g hk1 hx1x hxs hr1 hgb hw60 ho60
          have ha60 := ha.keep (h' := h60) (fun c hc => hw60.same c (fun hh => by subst hh; exact ha.ncell hcur (by decide) hc))
          replace hX := hw60.ext hX (hro.block g1 hgb).1
          replace hB3 := hB3.wr hw60 (fun hh => hro.ncell hB3 (by decide) (by rw [hgb, hh]))
          replace hB1 := hB1.wr hw60 (fun hh => hro.ncell hB1 (by decide) (by rw [hgb, hh]))
          clear ha hw
          refine WL.nil (th_norm (hx_seq (hx_region ?_)))
          iterate 2 refine WL.qq (by simp only [EN, Nat.reduceEqDiff, reduceIte, qv_move, i14_0, hB1.cell, hB2.cell, hB3.cell, hB1.cell, hB3.cell, qv_fieldAddr, fa34_4, Nat.zero_add, Nat.reduceAdd, k5_0]; rfl) ?_
          refine WL.store (by simp only [EN, Nat.reduceEqDiff, reduceIte, hB1.cell, hB2.cell, hB3.cell, hB1.cell, hB3.cell] <;> rfl) sz32 (by simp only [EN, Nat.reduceEqDiff, reduceIte, Value.cells, hB1.cell, hB2.cell, hB3.cell, hB1.cell, hB3.cell] <;> rfl) rfl hB1 (by first | (simp [true_and]; done) | (simp [true_and]; omega) | omega) (by simp [Value.oneCell']) ?_
          intro h13 hw13
          replace hX := hw13.ext hX hb1
          replace hwn := hwn.wr hw13 hB1 (by decide)
          replace hB3 := hB3.wr hw13 hn31
          have ha61 := ha60.keep (h' := h13) (fun c hc => hw13.same c (fun hh => by subst hh; exact ha60.ncell hB1 (by decide) hc))
          replace hB1 := hw13.at_
          try simp only [splc, List.take_succ_cons, List.take_zero, List.take_nil, List.drop_succ_cons, List.drop_zero, List.drop_nil, List.cons_append, List.nil_append, List.length_cons, List.length_nil, Nat.zero_add, Nat.add_zero, Nat.reduceAdd, List.append_nil] at hB1
          refine WL.nil (th_norm (hx_seq (hx_region ?_)))
          refine WL.qq (by simp only [EN, Nat.reduceEqDiff, reduceIte, qv_load, ld34, readN, AR, Nat.zero_add, Nat.reduceAdd, k5_0, hB1.cell, hB2.cell, hB3.cell, hB1.cell, hB3.cell]; rfl) ?_
          refine WL.store (by simp only [EN, Nat.reduceEqDiff, reduceIte, k10_0, hB1.cell, hB2.cell, hB3.cell, hB1.cell, hB3.cell] <;> rfl) sz34 (by simp only [EN, Nat.reduceEqDiff, reduceIte, Value.cells, k10_0, hB1.cell, hB2.cell, hB3.cell, hB1.cell, hB3.cell] <;> rfl) rfl hB3 (by first | (simp [true_and]; done) | (simp [true_and]; omega) | omega) (by simp [Value.oneCell']) ?_
          intro h14 hw14
          replace hX := hw14.ext hX hb3
          replace hwn := hwn.wr hw14 hB3 (by decide)
          have ha62 := ha61.keep (h' := h14) (fun c hc => hw14.same c (fun hh => by subst hh; exact ha61.ncell hB3 (by decide) hc))
          replace hB3 := hw14.at_
          try simp only [splc, List.take_succ_cons, List.take_zero, List.take_nil, List.drop_succ_cons, List.drop_zero, List.drop_nil, List.cons_append, List.nil_append, List.length_cons, List.length_nil, Nat.zero_add, Nat.add_zero, Nat.reduceAdd, List.append_nil] at hB3
          refine WL.qq (by simp only [EN, Nat.reduceEqDiff, reduceIte, qv_assign, hB1.cell, hB2.cell, hB3.cell, hB1.cell, hB3.cell]; rfl) ?_
          refine WL.nil (th_norm (hx_ret ?_))
          refine fin_ret [.cell 10 34, .tmp 11] rfl rfl (by simp only [EN, Nat.reduceEqDiff, reduceIte, resv, ld34, readN, AR, Nat.zero_add, Nat.reduceAdd, k3_0, k5_0, k10_0, k12_0, k13_0, i15_0, i14_0, hB1.cell, hB2.cell, hB3.cell, hB1.cell, hB3.cell]; rfl) ?_
          have hcw : E.hs.length ≤ ca := (by obtain ⟨a9, c9, h9, h8, _⟩ := ha62.shape; cases h9; exact h8)
          exact ⟨hX, .slice aa E.hs.length ca, rfl, ⟨⟨ah, ch, rfl, hch, hsh0.ext hX⟩, ⟨ao, co, rfl, hco, hso0.ext hX⟩, ⟨aa, ca, rows, rfl, hcw, SlR.own (f := svL) (sz := 1) (fun _ => rfl) ha62 hwn.len.symm, hwn.ri⟩⟩⟩
end
end GL

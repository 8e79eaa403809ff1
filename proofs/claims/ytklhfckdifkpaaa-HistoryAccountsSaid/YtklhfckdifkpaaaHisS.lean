/- History: Compare; the keys of a map of accounts, sorted. -/
import Derived.Test.YtklhfckdifkpaaaHisQ
import Derived.Test.YtklhfckdifkpaaaHisE
import Derived.Test.YtklhfckdifkpaaaGl27
import Derived.Test.YtklhfckdifkpaaaGl30
import Derived.Test.YtklhfckdifkpaaaShelf
set_option linter.unusedSimpArgs false
set_option linter.unusedVariables false
set_option linter.unnecessarySimpa false
namespace GL
open Go Go.Proofs
set_option maxRecDepth 8000
abbrev tyAc : TypeId := 35
abbrev tyMb : TypeId := 113
theorem cb_cmp : ∀ x y : List UInt8, Lib.compareBytes x y = if Op.bytesLess x y = true then -1 else if Op.bytesLess y x = true then 1 else 0
  | [], [] => rfl
  | [], _ :: _ => rfl
  | _ :: _, [] => by simp [Lib.compareBytes, Op.bytesLess]
  | a :: x, b :: y => by
    simp only [Lib.compareBytes, Op.bytesLess]
    by_cases h1 : a < b
    · simp [h1]
    · by_cases h2 : b < a
      · have hne : ¬ a = b := fun hh => by subst hh; exact absurd h2 h1
        have hne2 : ¬ b = a := fun hh => hne hh.symm
        simp [h1, h2, hne, hne2]
      · have hab : a = b := UInt8.le_antisymm (UInt8.not_lt.1 h2) (UInt8.not_lt.1 h1)
        subst hab
        simp [cb_cmp x y]
theorem c_strCmp (a b : ByteArray) (h : Heap) : HCalls Try.prog 62 #[.string a, .string b] h (Pure (iV (cmpS a b)) h) := by
  refine hcalls_of fun w hw => ?_
  refine (Try.strings_Compare a b w).mono ?_
  rintro e w' ⟨rfl, rfl⟩
  refine ⟨_, rfl, .refl _, ?_, hw⟩
  rw [cb_cmp]
  simp only [cmpS, sLt, ByteArray.toList_eq]
set_option maxHeartbeats 1000000 in
theorem c_cmpA (x y : AC) (h : Heap) : HCalls Try.prog 37 #[acV x, acV y] h (Grow (iV (cmpA x y)) h) := by
  refine hcalls2 Try.func37 rfl (by decide +kernel) (by simp only [Try.ntmps37]; exact of_decide_eq_true rfl) ?_
  intro e hin
  have e0 := hin 0 _ rfl
  have e1 := hin 1 _ rfl
  refine hx_seq ?_
  refine hx_region ?_
  refine WL.box2 (by simp only [EN, Nat.reduceEqDiff, reduceIte, Value.cells, e0]; rfl) ?_
  intro h1 B1 hx1 hlt1 hB1
  refine WL.box2 (by simp only [EN, Nat.reduceEqDiff, reduceIte, Value.cells, e1, hB1.cell]; rfl) ?_
  intro h2 B2 hx2 hlt2 hB2
  replace hB1 := hB1.ext hx2
  refine WL.qq (by simp only [EN, Nat.reduceEqDiff, reduceIte, qv_assign, hB1.cell, hB2.cell]; rfl) ?_
  refine WL.nil ?_
  refine th_norm ?_
  refine hx_seq ?_
  apply hx_draw2 Rel.grows [] [4, 9, 14, 15, 16] [(4, (Spec.is (iV (cmpS x.o y.o)))), (9, (Spec.is (iV (cmpS x.a y.a)))), (14, (Spec.is (iV (cmpI x.k y.k)))), (15, (Spec.ls h.size #[iV (cmpS x.o y.o), iV (cmpS x.a y.a), iV (cmpI x.k y.k)] 3 3)), (16, (Spec.is (iV (cmpA x y))))] rfl (by decide +kernel) rfl
  refine LD.qq rfl rfl (by simp only [EN, Nat.reduceEqDiff, reduceIte, qv_fieldAddr, fa35_0, Nat.zero_add, Nat.reduceAdd, hB1.cell, hB2.cell]; rfl) ?_
  refine LD.qq rfl rfl (by simp only [EN, Nat.reduceEqDiff, reduceIte, qv_load, ld9, readN, AR, Nat.zero_add, Nat.reduceAdd, hB1.cell, hB2.cell]; rfl) ?_
  refine LD.qq rfl rfl (by simp only [EN, Nat.reduceEqDiff, reduceIte, qv_fieldAddr, fa35_0, Nat.zero_add, Nat.reduceAdd, hB1.cell, hB2.cell]; rfl) ?_
  refine LD.qq rfl rfl (by simp only [EN, Nat.reduceEqDiff, reduceIte, qv_load, ld9, readN, AR, Nat.zero_add, Nat.reduceAdd, hB1.cell, hB2.cell]; rfl) ?_
  refine LD.es rfl rfl (by intro hD hr hf; have hx : Ext _ _ := hr; have hB1 := hB1.ext hx; have hB2 := hB2.ext hx; exact EOp.mono (e_call Try.call62 (by simp only [EN, Nat.reduceEqDiff, reduceIte, e0, e1, hB1.cell, hB2.cell, List.map_toArray, List.map_cons, List.map_nil]; exact c_strCmp x.o y.o _)) (fun _ _ hh => by obtain ⟨rfl, rfl⟩ := hh; exact ⟨Ext.refl _, rfl, trivial⟩)) ?_
  intro u1_4 w1_4
  have hu4 : u1_4 = _ := w1_4
  subst hu4
  refine LD.qq rfl rfl (by simp only [EN, Nat.reduceEqDiff, reduceIte, qv_fieldAddr, fa35_2, Nat.zero_add, Nat.reduceAdd, hB1.cell, hB2.cell]; rfl) ?_
  refine LD.qq rfl rfl (by simp only [EN, Nat.reduceEqDiff, reduceIte, qv_load, ld9, readN, AR, Nat.zero_add, Nat.reduceAdd, hB1.cell, hB2.cell]; rfl) ?_
  refine LD.qq rfl rfl (by simp only [EN, Nat.reduceEqDiff, reduceIte, qv_fieldAddr, fa35_2, Nat.zero_add, Nat.reduceAdd, hB1.cell, hB2.cell]; rfl) ?_
  refine LD.qq rfl rfl (by simp only [EN, Nat.reduceEqDiff, reduceIte, qv_load, ld9, readN, AR, Nat.zero_add, Nat.reduceAdd, hB1.cell, hB2.cell]; rfl) ?_
  refine LD.es rfl rfl (by intro hD hr hf; have hx : Ext _ _ := hr; have hB1 := hB1.ext hx; have hB2 := hB2.ext hx; exact EOp.mono (e_call Try.call62 (by simp only [EN, Nat.reduceEqDiff, reduceIte, e0, e1, hB1.cell, hB2.cell, List.map_toArray, List.map_cons, List.map_nil]; exact c_strCmp x.a y.a _)) (fun _ _ hh => by obtain ⟨rfl, rfl⟩ := hh; exact ⟨Ext.refl _, rfl, trivial⟩)) ?_
  intro u1_9 w1_9
  have hu9 : u1_9 = _ := w1_9
  subst hu9
  refine LD.qq rfl rfl (by simp only [EN, Nat.reduceEqDiff, reduceIte, qv_fieldAddr, fa35_1, Nat.zero_add, Nat.reduceAdd, hB1.cell, hB2.cell]; rfl) ?_
  refine LD.qq rfl rfl (by simp only [EN, Nat.reduceEqDiff, reduceIte, qv_load, ld3, readN, AR, Nat.zero_add, Nat.reduceAdd, hB1.cell, hB2.cell]; rfl) ?_
  refine LD.qq rfl rfl (by simp only [EN, Nat.reduceEqDiff, reduceIte, qv_fieldAddr, fa35_1, Nat.zero_add, Nat.reduceAdd, hB1.cell, hB2.cell]; rfl) ?_
  refine LD.qq rfl rfl (by simp only [EN, Nat.reduceEqDiff, reduceIte, qv_load, ld3, readN, AR, Nat.zero_add, Nat.reduceAdd, hB1.cell, hB2.cell]; rfl) ?_
  refine LD.es rfl rfl (by intro hD hr hf; have hx : Ext _ _ := hr; have hB1 := hB1.ext hx; have hB2 := hB2.ext hx; exact EOp.mono (e_call Try.call63 (by simp only [EN, Nat.reduceEqDiff, reduceIte, e0, e1, hB1.cell, hB2.cell, List.map_toArray, List.map_cons, List.map_nil]; exact c_cmpI x.k y.k _)) (fun _ _ hh => by obtain ⟨rfl, rfl⟩ := hh; exact ⟨Ext.refl _, rfl, trivial⟩)) ?_
  intro u1_14 w1_14
  have hu14 : u1_14 = _ := w1_14
  subst hu14
  refine LD.es rfl rfl (by intro hD hr hf; have hx : Ext _ _ := hr; have hB1 := hB1.ext hx; have hB2 := hB2.ext hx; exact e_litN (Nat.le_trans (Ext.size ((hx1).trans (hx2))) hx.size) #[iV 0, iV 0, iV 0] Try.underlying136 sz3 zr3 (by decide) (by kernel_rfl) ⟨_, (by simp only [EN, Nat.reduceEqDiff, reduceIte, e0, e1, hB1.cell, hB2.cell, AR]; simp [Instr.fill, Value.cells] <;> rfl), rfl⟩) ?_
  intro u1_15 w1_15
  obtain ⟨B10, hlt10, rfl⟩ := w1_15
  refine LD.es rfl rfl (by intro hD hr hf; have hx : Ext _ _ := hr; have hB1 := hB1.ext hx; have hB2 := hB2.ext hx; have m10 := hf (15, .slice (some ⟨B10, 0, none⟩) 3 3) (by simp) (by show tb _ _ 15 = true; decide +kernel) _ rfl B10 rfl; exact EOp.mono (e_call Try.call61 (by simp only [EN, Nat.reduceEqDiff, reduceIte, e0, e1, hB1.cell, hB2.cell, List.map_toArray, List.map_cons, List.map_nil]; exact c_orI (some ⟨B10, 0, none⟩) [cmpS x.o y.o, cmpS x.a y.a, cmpI x.k y.k] 3 (by simp) (slG_has (f := intL) (sz := 1) (L := [cmpS x.o y.o, cmpS x.a y.a, cmpI x.k y.k]) (fun _ => rfl) m10 rfl))) (fun _ _ hh => by obtain ⟨rfl, rfl⟩ := hh; exact ⟨Ext.refl _, rfl, trivial⟩)) ?_
  intro u1_16 w1_16
  have hu16 : u1_16 = _ := w1_16
  subst hu16
  refine LD.qq rfl rfl (by simp only [EN, Nat.reduceEqDiff, reduceIte, qv_assign, hB1.cell, hB2.cell]; rfl) ?_
  refine LD.nil ?_
  rintro h3 hx3 hF1
  replace hx3 : Ext _ _ := hx3
  replace hB1 := hB1.ext hx3
  replace hB2 := hB2.ext hx3
  refine WL.nil ?_
  refine th_norm ?_
  refine hx_ret ?_
  refine fin_ret [.tmp 4] rfl rfl (by simp only [EN, Nat.reduceEqDiff, reduceIte, resv, e0, e1, hB1.cell, hB2.cell]; rfl) ?_  -- ret 0 r1
  exact ⟨rfl, ((hx1).trans ((hx2).trans (hx3)))⟩
/-! The keys. -/
def IsIt (h : Heap) (it : Nat) : Prop := ∃ a b c d, Has h it (.mapIter a b c d)
theorem IterT.isIt {κ β : Type} {ek : κ → Value} {ev' : β → Value} {h : Heap} {it b : Nat} {l left : List (κ × β)} (hI : IterT ek ev' h it b l left) : IsIt h it := by
  obtain ⟨es, clock, since, seen, c0, _, _, _, h4, _⟩ := hI
  exact ⟨_, _, _, _, h4⟩
theorem IterT.keep {κ β : Type} {ek : κ → Value} {ev' : β → Value} {h h' : Heap} {it b : Nat} {l left : List (κ × β)} (hI : IterT ek ev' h it b l left) (h1 : h'[it]? = h[it]?) (h2 : h'[b]? = h[b]?) : IterT ek ev' h' it b l left := by
  obtain ⟨es, clock, since, seen, c0, q1, q2, q3, q4, q5⟩ := hI
  exact ⟨es, clock, since, seen, c0, h2.trans q1, q2, q3, h1.trans q4, q5⟩
structure KL (J : List AC → Heap → Prop) (hX : ∀ s h h', J s h → Ext h h' → J s h') (s : List AC) (h : Heap) : Prop where
  j : J s h
theorem KL.ext {J : List AC → Heap → Prop} {hX : ∀ s h h', J s h → Ext h h' → J s h'} {s : List AC} {h h' : Heap} (hk : KL J hX s h) (hx : Ext h h') : KL J hX s h' := ⟨hX _ _ _ hk.j hx⟩
theorem c_keysYield {h0 : Heap} (B lp m : Nat) (J : List AC → Heap → Prop) (l : List (AC × Bool)) (hX : ∀ s h h', J s h → Ext h h' → J s h')
    (hW : ∀ s h h' it o, J s h → h0.size ≤ it → IsIt h it → Wr h h' it o → J s h')
    (hB : Has h0 B (.cells #[.map (some m)] tyMb)) (hm : MapT acV Value.bool h0 m l)
    (hy : ∀ s k h it, J s h → s.length < l.length → h0.size ≤ it → IsIt h it → HY Try.prog lp #[acV k] h fun v h' => v = .bool true ∧ J (s ++ [k]) h' ∧ h'[it]? = h[it]? ∧ h'[m]? = h[m]?)
    (h00 : J [] h0) : HCalls Try.prog 79 #[.func (.yield lp) #[] #[], .pointer (some ⟨B, 0, none⟩)] h0 fun _ h' => ∃ s, s.Perm (l.map Prod.fst) ∧ J s h' := by
  refine hcalls2 Try.func79 rfl (by decide +kernel) (by simp only [Try.ntmps79]; exact of_decide_eq_true rfl) ?_
  intro e hin
  have e0 := hin 0 _ rfl
  have e1 := hin 1 _ rfl
  refine hx_seq ?_
  refine hx_region ?_
  refine WL.qq (by simp only [EN, Nat.reduceEqDiff, reduceIte, qv_load, ld113, readN, AR, Nat.zero_add, Nat.reduceAdd, e1, hB.cell]; rfl) ?_
  refine WL.ef _ (e_range Try.underlying113 hm (by simp only [EN, Nat.reduceEqDiff, reduceIte, e0, e1, hB.cell])) ?_
  rintro _ h50 ⟨it, rfl, hit, hx50, hsz50, hI⟩
  simp only [put_some]
  refine WL.nil ?_
  refine th_norm ?_
  refine hx_block ?_
  refine hx_loopG [3, 6, 7, 8, 9, 10, 11, 12, 13] (fun k e hL0 => ∃ (left : List (AC × Bool)) (s : List AC), left.length = k ∧ (IterT acV Value.bool hL0 it m l left) ∧ (J s hL0) ∧ ((s ++ left.map Prod.fst).Perm (l.map Prod.fst))) _ ⟨l, [], rfl, ?_, ?_, ?_⟩ ?_
  · exact hI
  · exact hX _ _ _ h00 hx50
  · exact List.Perm.refl _
  ·
    rintro k e0L hL0 hfr0 ⟨left, s, rfl, hI, hJ, hp⟩
    have k0_0 := hfr0 0 rfl; try simp only [EN, Nat.reduceEqDiff, reduceIte, e0, hB.cell] at k0_0
    have k5_0 := hfr0 5 rfl; try simp only [EN, Nat.reduceEqDiff, reduceIte, hB.cell] at k5_0
    refine hx_seq ?_
    refine hx_region ?_
    refine WL.ef _ (e_next2 ktA hI (by simp only [EN, Nat.reduceEqDiff, reduceIte, k0_0, k5_0, hB.cell])) ?_
    rintro _ h51 ⟨bb1, vs1, rfl, hv1, hst1, hT1, hF1⟩
    simp only [put_some]
    have hJ1 : KL J hX s h51 := ⟨by rcases hst1 with rfl | ⟨o, hw⟩; exact hJ; exact hW _ _ _ _ _ hJ (by omega) hI.isIt hw⟩
    refine WL.qq (by simp only [EN, Nat.reduceEqDiff, reduceIte, k0_0, k5_0, hB.cell, qv_extract, hv1]; rfl) ?_
    refine WL.nil ?_
    refine th_norm ?_
    refine hx_seq ?_
    refine hx_cond (by simp only [EN, Nat.reduceEqDiff, reduceIte, hB.cell]; rfl) (fun hct7 => ?_) (fun hct7 => ?_)
    ·
      try simp only [BD] at hct7
      obtain ⟨q1, left', hp1, hS⟩ := hT1 hct7; have hlen1 := hp1.length_eq; rw [List.length_cons] at hlen1
      have hp2 : (s ++ (q1.1 :: left'.map Prod.fst)).Perm (l.map Prod.fst) := ((hp1.map Prod.fst).append_left s).symm.trans hp
      have hpl := hp2.length_eq; simp only [List.length_append, List.length_cons, List.length_map] at hpl
      refine hx_skip ?_
      refine th_norm ?_
      refine hx_block ?_
      refine hx_seq ?_
      refine hx_region ?_
      refine WL.ef _ (e_entry hS (by simp only [EN, Nat.reduceEqDiff, reduceIte, k0_0, k5_0, hB.cell])) ?_
      rintro _ hX2 ⟨rfl, hq1x⟩
      obtain rfl : h51 = hX2 := hq1x.symm
      simp only [put_some]
      refine WL.qq (by simp only [EN, Nat.reduceEqDiff, reduceIte, qv_extract, AR, hB.cell]; rfl) ?_
      refine WL.allocSt zr35 sz35 (fun u => by simp only [EN, Nat.reduceEqDiff, reduceIte, Value.cells, hB.cell]; rfl) ⟨rfl, rfl⟩ (by simp [Value.oneCell']) ?_
      intro h1 B1 hx1 hlt1 hB1
      replace hJ1 := hJ1.ext hx1
      replace hS := hS.ext hx1
      refine WL.nil ?_
      refine th_norm ?_
      refine hx_seq ?_
      refine hx_region ?_
      refine WL.qq (by simp only [EN, Nat.reduceEqDiff, reduceIte, qv_move, k0_0, hB.cell, hB1.cell]; rfl) ?_
      refine WL.qq (by simp only [EN, Nat.reduceEqDiff, reduceIte, qv_load, ld35, readN, AR, Nat.zero_add, Nat.reduceAdd, hB.cell, hB1.cell]; rfl) ?_
      refine WL.ef _ (e_yield (l := lp) (by simp only [EN, Nat.reduceEqDiff, reduceIte, k0_0, k5_0, hB.cell, hB1.cell]) (by simp only [EN, Nat.reduceEqDiff, reduceIte, k0_0, k5_0, hB.cell, hB1.cell, AR]; exact hy s q1.1 _ it hJ1.j (by omega) (by omega) hS.iter.isIt)) ?_
      rintro _ h22 ⟨rfl, hJ2, hs1, hs2⟩
      simp only [put_some]
      have hI2 := hS.iter.keep hs1 hs2
      refine WL.qq (by simp only [EN, Nat.reduceEqDiff, reduceIte, qv_unOp, unv_not, hB.cell, hB1.cell]; rfl) ?_
      refine WL.nil ?_
      refine th_norm ?_
      refine hx_cond (by simp only [EN, Nat.reduceEqDiff, reduceIte, hB.cell, hB1.cell]; rfl) (fun hct13 => ?_) (fun hct13 => ?_)
      ·
        simp at hct13
      ·
        try simp only [BD] at hct13
        refine hx_skip ?_
        refine bl_norm ?_
        refine th_norm ?_
        refine ⟨rfl, ?_, _, ?_, left', s ++ [q1.1], rfl, ?_, ?_, ?_⟩  -- again 0 of loop 0
        · (repeat (first | exact Fr.refl _ _ | refine Fr.set rfl ?_ | refine Fr.put rfl ?_ | with_reducible refine Fr.put0 ?_))
        · omega
        · exact hI2
        · exact hJ2
        · rw [List.append_assoc]; exact hp2
    ·
      try simp only [BD] at hct7
      obtain ⟨hl0, hmm⟩ := hF1 hct7; subst hl0
      refine hx_exit ?_
      refine th_exit ?_
      refine th_exit ?_
      refine bl_hit ?_
      refine fin_end [] rfl rfl (by simp only [EN, Nat.reduceEqDiff, reduceIte, resv, k0_0, k5_0, hB.cell]; rfl) ?_  -- ret 0 r3
      exact ⟨s, by simpa using hp, hJ1.j⟩
theorem RC.iter {h0 h7 hx hy : Heap} {B : Nat} {t el : TypeId} {sz : Nat} {rec : Loop} {v : Value} {n : Nat} {xs : List Value} {it : Nat} {o : Obj} (hC : RC h0 h7 B t el sz rec v n xs hx) (h1 : h7.size + 2 ≤ it) (hi : IsIt hx it) (hw : Wr hx hy it o) : RC h0 h7 B t el sz rec v n xs hy := by
  obtain ⟨a, b, c, d, hb⟩ := hi
  have e1 : B ≠ it := fun hh => by subst hh; have := hC.out.un hb; cases this
  have e2 : h7.size + 1 ≠ it := by omega
  have e3 : h7.size ≠ it := by omega
  refine ⟨hC.own.keep (fun c hc => hw.same c fun hh => ?_), hC.out.wr hw e1, ?_, by rw [hw.same _ e3]; exact hC.df, hC.gr.wr hw (.inr (by omega)), hw.ext hC.ex (by have := hC.base; omega), by rw [hw.size]; exact hC.size, hC.lo, hC.hi⟩
  · subst hh
    obtain ⟨cur, hcur⟩ := hC.own.typ _ hc
    have := hcur.un hb; cases this
  · have h1 := hC.rc
    rw [Rec, hw.same _ e2]; exact h1
set_option maxHeartbeats 1000000 in
theorem c_appendSeq (Bm m : Nat) (l : List (AC × Bool)) (hlen : l.length ≤ 1000000) {h : Heap} (hB : Has h Bm (.cells #[.map (some m)] tyMb)) (hm : MapT acV Value.bool h m l) :
    HCalls Try.prog 82 #[.slice none 0 0, .func (.func 79) #[] #[.pointer (some ⟨Bm, 0, none⟩)]] h
      fun v h' => Ext h h' ∧ ∃ s : List AC, s.Perm (l.map Prod.fst) ∧ Own h' h.size tyAc 3 v s.length (s.flatMap acL) := by
  refine hcalls2 Try.func82 rfl (by decide +kernel) (by simp only [Try.ntmps82]; exact of_decide_eq_true rfl) ?_
  intro e hin
  have e0 := hin 0 _ rfl
  have e1 := hin 1 _ rfl
  refine hx_seq ?_
  refine hx_region ?_
  refine WL.box2 (by simp only [EN, Nat.reduceEqDiff, reduceIte, Value.cells, e0]; rfl) ?_
  intro h1 B1 hx1 hlt1 hB1
  replace hB := hB.ext hx1
  replace hm := hm.ext hx1
  refine WL.qq (by simp only [EN, Nat.reduceEqDiff, reduceIte, qv_assign, hB1.cell]; rfl) ?_
  refine WL.nil ?_
  refine th_norm ?_
  refine hx_seq ?_
  refine hx_seq ?_
  refine hx_region ?_
  refine WL.qq (by simp only [EN, Nat.reduceEqDiff, reduceIte, qv_move, e1, hB1.cell]; rfl) ?_
  refine WL.nil ?_
  refine th_norm ?_
  refine hx_block ?_
  refine hx_range (by simp only [EN, Nat.reduceEqDiff, reduceIte, e0, e1, hB1.cell]; rfl) Try.call79 ?_
  intro fnR0 hR0 hxR0 hsR0 hdR0 hrR0
  have hlt : B1 < h1.size := (Array.getElem?_eq_some_iff.1 hB1).1
  have hbm : Bm ≠ B1 := (by have := (Array.getElem?_eq_some_iff.1 hB).1; intro hh; subst hh; have := hB.un hB1; cases this)
  have hmb : m ≠ B1 := hB1.nmap hm |>.symm
  have hmlt := hm.lt
  generalize hrec : recOf _ _ _ _ _ _ _ = rec at hrR0
  refine (c_keysYield Bm (h1.size + 1) m (fun s hx => ∃ v, RC h h1 B1 83 tyAc 3 rec v s.length (s.flatMap acL) hx) l ?_ ?_ (hB.ext hxR0) (hm.ext hxR0) ?_ ?_).mono ?_
  · rintro s h1 h2 ⟨v, q1⟩ he; exact ⟨v, q1.ext he⟩
  · rintro s h1 h2 it o ⟨v, q1⟩ hit hi hw; exact ⟨v, q1.iter (by omega) hi hw⟩
  rotate_left
  · exact ⟨.slice none 0 0, RC.start hB1 hxR0 hsR0 hdR0 hrR0 hx1 hlt1⟩
  rotate_left
  ·
    rintro s k hx it ⟨v, hC⟩ hsl hit hi
    have hsz := hC.size
    subst hrec
    obtain ⟨ia, ib, ic, id2, hbi⟩ := hi
    have hit0 := (Array.getElem?_eq_some_iff.1 hbi).1
    refine hy_body (vs := [acV k]) (ps := [7]) hC.rc rfl rfl rfl (by decide) rfl rfl ?_
    simp only [pars, List.zip_cons_cons, List.zip_nil_left, List.foldl_cons, List.foldl_nil]
    refine hx_region ?_
    refine WL.allocSt zr35 sz35 (fun u => by simp only [EN, Nat.reduceEqDiff, reduceIte, Value.cells, hB1.cell]; rfl) ⟨rfl, rfl⟩ (by simp [Value.oneCell']) ?_
    intro h2 B2 hx2 hlt2 hB2
    replace hC := hC.ext hx2
    refine WL.nil ?_
    refine th_norm ?_
    refine ⟨_, hC.rc, rfl, ?_⟩
    intro h20 hw20
    have hC0 := hC
    replace hC := hC.turn hw20
    have hT := hC.out
    replace hB2 := hB2.wr hw20 (by omega)
    refine hx_block ?_
    refine hx_region ?_
    refine WL.qq (by simp only [EN, Nat.reduceEqDiff, reduceIte, qv_load, ld83, readN, AR, Nat.zero_add, Nat.reduceAdd, hB1.cell, hB2.cell, hT.cell]; rfl) ?_
    refine WL.qq (by simp only [EN, Nat.reduceEqDiff, reduceIte, qv_load, ld35, readN, AR, Nat.zero_add, Nat.reduceAdd, hB1.cell, hB2.cell]; rfl) ?_
    refine WL.push (bytes := 40) Try.underlying83 (inf_of Try.type35) rfl rfl rfl rfl (by decide) (by decide) sz35 zr35 (fun u => by simp only [EN, Nat.reduceEqDiff, reduceIte, e0, e1, hB1.cell, hB2.cell]) hC.own (c := (acL k).toArray) (by simp only [EN, Nat.reduceEqDiff, reduceIte, e0, e1, hB1.cell, hB2.cell, Value.cells] <;> rfl) rfl (by simp [Value.oneCell']) (by simp only [maxLen]; omega) (by omega) hC.size ?_
    intro h40 v40 B40 ho40 hg40 hp40 hn40
    skip
    refine WL.store (by simp only [EN, Nat.reduceEqDiff, reduceIte, e0, e1, hB1.cell, hB2.cell] <;> rfl) sz83 (by simp only [EN, Nat.reduceEqDiff, reduceIte, e0, e1, hB1.cell, hB2.cell]; exact ho40.cells) rfl (hC.out.gr hg40 (hC.own.ncell hC.out (by decide))) (by simp) (by simp [ho40.one]) ?_
    intro h41 hw41
    have hC2 := hC.app ho40 hg40 hw41 rfl
    refine WL.nil ?_
    refine bl_norm ?_
    refine ⟨_, hC2.rc, ?_⟩
    intro h30 hw30
    have e1 : h2[it]? = hx[it]? := (hx2 it _ hbi).trans hbi.symm
    have e2 : h2[m]? = hx[m]? := (by have h9 : m < hx.size := (by omega); rw [Array.getElem?_eq_getElem h9]; exact hx2 m _ (Array.getElem?_eq_getElem h9))
    have hz2 := hx2.size
    have k1 : it ≠ h1.size + 1 := (by omega)
    have k2 : it ≠ B1 := (by omega)
    have hbi2 := hx2 it _ hbi
    have k3 : v.ownBlock ≠ some it := (fun hh => by obtain ⟨cur, hcur⟩ := hC0.own.typ _ hh; have h8 : some _ = some _ := hcur.symm.trans hbi2; cases h8)
    have k4 : v.ownBlock ≠ some m := (fun hh => by have := (hC.own.block _ hh).1; omega)
    have s1 : it < h20.size := (by rw [hw20.size]; omega)
    have s2 : m < h20.size := (by rw [hw20.size]; omega)
    refine ⟨rfl, ⟨v40, by rw [List.length_append, List.flatMap_append]; exact hC2.turn hw30⟩, ?_, ?_⟩
    · rw [hw30.same _ k1, hw41.same _ k2, hg40.same _ s1 k3, hw20.same _ k1, e1]
    · rw [hw30.same _ (by omega), hw41.same _ hmb, hg40.same _ s2 k4, hw20.same _ (by omega), e2]
  ·
    rintro v0 h3 ⟨s, hsp, v, hC⟩
    refine after_any hC.rc (by subst hrec; rfl) (.inl ⟨by subst hrec; rfl, ?_⟩)
    intro h31 o hw31
    have hs9 := hC.base
    have ho31 := (hC.own.keep (h' := h31) (fun c hc => hw31.same c (by have := (hC.own.block c hc).1; omega)))
    have hO := hC.out.wr hw31 (by have := hC.hi; omega)
    have hd31 : h31[h1.size]? = some (.deferred (some [])) := by rw [hw31.same _ (by omega)]; exact hC.df
    have hE31 := hw31.ext hC.ex (by omega)
    refine bl_norm ?_
    refine th_norm ?_
    refine hx_seq ?_
    refine hx_region ?_
    refine WL.qq (by simp only [EN, Nat.reduceEqDiff, reduceIte, qv_load, ld83, readN, AR, Nat.zero_add, Nat.reduceAdd, hB1.cell, hO.cell]; rfl) ?_
    refine WL.qq (by simp only [EN, Nat.reduceEqDiff, reduceIte, qv_assign, hB1.cell, hO.cell]; rfl) ?_
    refine WL.nil ?_
    refine th_norm ?_
    refine hx_ret ?_
    refine fin_mark (.inr rfl) [.tmp 4] rfl rfl hd31 ?_
    intro h5 hw5
    refine ⟨[v], by simp only [resv, EN, Nat.reduceEqDiff, reduceIte, e0, e1, hB1.cell, hO.cell] <;> rfl, hw5.ext hE31 (by omega), s, hsp, ?_⟩
    exact (ho31.keep (h' := h5) (fun c hc => hw5.same c (by have := (ho31.block c hc).1; omega))).base (by omega)
theorem c_collect (Bm m : Nat) (l : List (AC × Bool)) (hlen : l.length ≤ 1000000) {h : Heap} (hB : Has h Bm (.cells #[.map (some m)] tyMb)) (hm : MapT acV Value.bool h m l) :
    HCalls Try.prog 77 #[.func (.func 79) #[] #[.pointer (some ⟨Bm, 0, none⟩)]] h
      fun v h' => Ext h h' ∧ ∃ s : List AC, s.Perm (l.map Prod.fst) ∧ Own h' h.size tyAc 3 v s.length (s.flatMap acL) := by
  refine hcalls2 Try.func77 rfl (by decide +kernel) (by simp only [Try.ntmps77]; exact of_decide_eq_true rfl) ?_
  intro e hin
  have e0 := hin 0 _ rfl
  refine hx_seq ?_
  refine hx_region ?_
  refine WL.qq (by simp only [EN, Nat.reduceEqDiff, reduceIte, qv_assign]; rfl) ?_
  refine WL.nil ?_
  refine th_norm ?_
  refine hx_seq ?_
  refine hx_region ?_
  refine WL.qq (by simp only [EN, Nat.reduceEqDiff, reduceIte, qv_move, e0]; rfl) ?_
  refine WL.ce Try.call82 (by simp only [EN, Nat.reduceEqDiff, reduceIte, AR]; exact c_appendSeq Bm m l hlen hB hm) ?_
  rintro _ h1 ⟨hx1, s, hs, ho⟩
  simp only [put_some]
  refine WL.qq (by simp only [EN, Nat.reduceEqDiff, reduceIte, qv_assign]; rfl) ?_
  refine WL.nil ?_
  refine th_norm ?_
  refine hx_ret ?_
  refine fin_ret [.tmp 2] rfl rfl (by simp only [EN, Nat.reduceEqDiff, reduceIte, resv, e0]; rfl) ?_  -- ret 0 r1
  exact ⟨hx1, s, hs, ho⟩
theorem c_keys (m : Nat) (h : Heap) : HCalls Try.prog 60 #[.map (some m)] h fun v h' => Ext h h' ∧ ∃ B, v = .func (.func 79) #[] #[.pointer (some ⟨B, 0, none⟩)] ∧ Has h' B (.cells #[.map (some m)] tyMb) := by
  refine hcalls2 Try.func60 rfl (by decide +kernel) (by simp only [Try.ntmps60]; exact of_decide_eq_true rfl) ?_
  intro e hin
  have e0 := hin 0 _ rfl
  refine hx_seq ?_
  refine hx_region ?_
  refine WL.box2 (by simp only [EN, Nat.reduceEqDiff, reduceIte, Value.cells, e0]; rfl) ?_
  intro h1 B1 hx1 hlt1 hB1
  refine WL.qq (by simp only [EN, Nat.reduceEqDiff, reduceIte, qv_assign, hB1.cell]; rfl) ?_
  refine WL.nil ?_
  refine th_norm ?_
  refine hx_seq ?_
  refine hx_region ?_
  refine WL.qq (by simp only [EN, Nat.reduceEqDiff, reduceIte, qv_makeFunc, AR, hB1.cell]; rfl) ?_
  refine WL.qq (by simp only [EN, Nat.reduceEqDiff, reduceIte, qv_assign, hB1.cell]; rfl) ?_
  refine WL.nil ?_
  refine th_norm ?_
  refine hx_ret ?_
  refine fin_ret [.tmp 2] rfl rfl (by simp only [EN, Nat.reduceEqDiff, reduceIte, resv, e0, hB1.cell]; rfl) ?_  -- ret 0 r1
  exact ⟨(hx1), B1, rfl, hB1⟩
theorem ltOf_a {x y : AC} : ltOf cmpA x y = true ↔ aLt x y := by rw [ltOf_iff, cmpA_lt]
theorem ltOf_af {x y : AC} : ltOf cmpA x y = false ↔ ¬ aLt x y := by rw [← ltOf_a, Bool.not_eq_true]
theorem swoA : Go.Sort.SWO (ltOf cmpA) where
  irrefl x := ltOf_af.2 (aLt_irrefl _)
  trans x y z h1 h2 := ltOf_a.2 (aLt_trans (ltOf_a.1 h1) (ltOf_a.1 h2))
  ntrans x y z h1 h2 := by
    rw [ltOf_af] at *
    intro h
    by_cases h3 : aLt y x
    · exact h2 (aLt_trans h3 h)
    · exact h2 (aLt_tri h1 h3 ▸ h)
theorem isAggA (w : World) : (isAgg (Try.sortLim_ren.t 24)).run Try.prog w = .ok true w := run_isAgg_of (by kernel_rfl) w
theorem szA (w : World) : (Go.sizeOf (Try.sortLim_ren.t 24)).run Try.prog w = .ok 3 w := run_sizeOf_of (by kernel_rfl) w
instance : Inhabited AC := ⟨⟨⟨#[]⟩, 0, ⟨#[]⟩⟩⟩
/-- The keys in their order. -/
theorem c_sorted (Bm m : Nat) (l : List (AC × Bool)) (hlen : l.length ≤ 1000000) {h : Heap} (hB : Has h Bm (.cells #[.map (some m)] tyMb)) (hm : MapT acV Value.bool h m l) :
    HCalls Try.prog 59 #[.func (.func 79) #[] #[.pointer (some ⟨Bm, 0, none⟩)], .func (.func 37) #[] #[]] h
      fun v h' => Ext h h' ∧ ∃ s : List AC, s.Perm (l.map Prod.fst) ∧ s.Pairwise (fun x y => ¬ aLt y x) ∧ Own h' h.size tyAc 3 v s.length (s.flatMap acL) := by
  refine hcalls2 Try.func59 rfl (by decide +kernel) (by simp only [Try.ntmps59]; exact of_decide_eq_true rfl) ?_
  intro e hin
  have e0 := hin 0 _ rfl
  have e1 := hin 1 _ rfl
  refine hx_seq ?_
  refine hx_region ?_
  refine WL.qq (by simp only [EN, Nat.reduceEqDiff, reduceIte, qv_assign]; rfl) ?_
  refine WL.nil ?_
  refine th_norm ?_
  refine hx_seq ?_
  refine hx_region ?_
  refine WL.qq (by simp only [EN, Nat.reduceEqDiff, reduceIte, qv_move, e0]; rfl) ?_
  refine WL.ce Try.call77 (by simp only [EN, Nat.reduceEqDiff, reduceIte, AR]; exact c_collect Bm m l hlen hB hm) ?_
  rintro _ h1 ⟨hx1, s, hp, ho⟩
  simp only [put_some]
  refine WL.qq (by simp only [EN, Nat.reduceEqDiff, reduceIte, qv_assign]; rfl) ?_
  refine WL.nil ?_
  refine th_norm ?_
  refine hx_seq ?_
  refine hx_region ?_
  have hpl := hp.length_eq; rw [List.length_map] at hpl
  refine WL.qq (by simp only [EN, Nat.reduceEqDiff, reduceIte, qv_move]; rfl) ?_
  refine WL.qq (by simp only [EN, Nat.reduceEqDiff, reduceIte, qv_move, e1]; rfl) ?_
  refine WL.ce Try.call78 (by simp only [EN, Nat.reduceEqDiff, reduceIte, e0, e1, AR]; exact hc_sort Try.sortLim isAggA szA (fun _ => rfl) acL_one swoA Try.call37 c_cmpA ho rfl (by omega) (by decide)) ?_
  rintro _ h60 ⟨L, hLp, hLs, hLo, hLg⟩
  simp only [put_some]
  have hE60 := hLg.ext hx1 (fun c hc => (ho.block c hc).1)
  refine WL.nil ?_
  refine th_norm ?_
  refine hx_seq ?_
  refine hx_region ?_
  refine WL.qq (by simp only [EN, Nat.reduceEqDiff, reduceIte, qv_move]; rfl) ?_
  refine WL.qq (by simp only [EN, Nat.reduceEqDiff, reduceIte, qv_assign]; rfl) ?_
  refine WL.nil ?_
  refine th_norm ?_
  refine hx_ret ?_
  refine fin_ret [.tmp 4] rfl rfl (by simp only [EN, Nat.reduceEqDiff, reduceIte, resv, e0, e1]; rfl) ?_  -- ret 0 r3
  exact ⟨hE60, L, hLp.trans hp, hLs.imp (fun hxy => ltOf_af.1 hxy), by rw [hLp.length_eq]; exact hLo⟩
end GL
set_option linter.unusedSimpArgs false
set_option linter.unusedVariables false
set_option linter.unnecessarySimpa false
namespace GL
open Go Go.Proofs
set_option maxRecDepth 8000
def accS (m : List (AC × Bool)) (x : PO) : List (AC × Bool) := mset m x.c true
def accM (l : List PO) : List (AC × Bool) := l.foldl accS []
theorem accM_snoc (l m : List PO) {j : Nat} {y : PO} (h : m[j]? = some y) : accM (l ++ m.take (j + 1)) = mset (accM (l ++ m.take j)) y.c true := by
  rw [List.take_add_one, h, ← List.append_assoc, accM, List.foldl_append]; rfl
theorem accM_keys (q : AC) (l : List PO) : q ∈ (accM l).map Prod.fst ↔ ∃ y ∈ l, y.c = q := by
  refine snoc_ind (p := fun l => q ∈ (accM l).map Prod.fst ↔ ∃ y ∈ l, y.c = q) (by simp [accM]) (fun l y ih => ?_) l
  have h1 : accM (l ++ [y]) = mset (accM l) y.c true := by rw [accM, List.foldl_append]; rfl
  rw [h1, mset_fst]
  constructor
  · intro h
    have h2 : q = y.c ∨ q ∈ (accM l).map Prod.fst := by
      split at h
      · exact .inr h
      · rcases List.mem_append.1 h with h | h
        · exact .inr h
        · simp at h; exact .inl h
    rcases h2 with rfl | h2
    · exact ⟨y, by simp, rfl⟩
    · obtain ⟨z, hz, rfl⟩ := ih.1 h2
      exact ⟨z, by simp [hz], rfl⟩
  · rintro ⟨z, hz, rfl⟩
    rcases List.mem_append.1 hz with hz | hz
    · have h3 := ih.2 ⟨z, hz, rfl⟩
      split
      · exact h3
      · exact List.mem_append_left _ h3
    · simp at hz; subst hz
      split
      · assumption
      · simp
theorem accM_len (l : List PO) : (accM l).length ≤ l.length := by
  refine snoc_ind (p := fun l => (accM l).length ≤ l.length) (by simp [accM]) (fun l y ih => ?_) l
  have h1 : accM (l ++ [y]) = mset (accM l) y.c true := by rw [accM, List.foldl_append]; rfl
  have := mset_len (accM l) y.c true
  rw [h1, List.length_append, List.length_singleton]; omega
structure AB (h0 h7 : Heap) (m : Nat) (rec : Loop) (L : List (AC × Bool)) (hx : Heap) : Prop where
  rx : RX h0 h7 [m] rec hx
  b : MapT acV Value.bool hx m L
set_option maxHeartbeats 4000000 in
theorem c_accs {h : Heap} {p : Nat} {l : List HB} (hg : GS l) (hr : HR h p l) :
    HCalls Try.prog 36 #[ptr p] h fun v h' => Ext h h' ∧ Own h' h.size tyAc 3 v (rAcc (allP l)).length ((rAcc (allP l)).flatMap acL) := by
  obtain ⟨av, cap, xs, hp, hsx, hxl, hbx, hcap, hsp⟩ := hr.ex
  have hx12 : xs.length ≤ 12 := by have := hg.n; rw [← hxl] at this; simpa using this
  have ksx := hsx
  have kbx := hbx
  refine hcalls2 Try.func36 rfl (by decide +kernel) (by simp only [Try.ntmps36]; exact of_decide_eq_true rfl) ?_
  intro e hin
  have e0 := hin 0 _ rfl
  refine hx_seq ?_
  refine hx_region ?_
  refine WL.qq (by simp only [EN, Nat.reduceEqDiff, reduceIte, qv_assign, hp.cell]; rfl) ?_
  refine WL.nil ?_
  refine th_norm ?_
  refine hx_seq ?_
  refine hx_seq ?_
  refine hx_region ?_
  refine WL.qq (by simp only [EN, Nat.reduceEqDiff, reduceIte, qv_move, e0, hp.cell]; rfl) ?_
  refine WL.qq (by simp only [EN, Nat.reduceEqDiff, reduceIte, qv_binOp, binv_eql, eqz27, eqn27, eqm27, Option.map_some, hp.cell]; rfl) ?_
  refine WL.nil ?_
  refine th_norm ?_
  refine hx_cond (by simp only [EN, Nat.reduceEqDiff, reduceIte, hp.cell]; rfl) (fun hct8 => ?_) (fun hct8 => ?_)
  ·
    simp at hct8
  ·
    try simp only [BD] at hct8
    refine hx_skip ?_
    refine th_norm ?_
    refine hx_seq ?_
    refine hx_region ?_
    refine WL.makeMap2 ?_
    intro h1 B1 hx1 hlt1 hB1
    replace hp := hp.ext hx1
    refine WL.allocSt zr113 sz113 (fun u => by simp only [EN, Nat.reduceEqDiff, reduceIte, Value.cells, hp.cell]; rfl) ⟨rfl, rfl⟩ (by simp [Value.oneCell']) ?_
    intro h2 B2 hx2 hlt2 hB2
    replace hp := hp.ext hx2
    replace hB1 := hB1.ext hx2
    refine WL.nil ?_
    refine th_norm ?_
    refine hx_seq ?_
    refine hx_seq ?_
    refine hx_region ?_
    have kz1 := hx1.size; have k1 := (Array.getElem?_eq_some_iff.1 hB1).1; have k2 := (Array.getElem?_eq_some_iff.1 hB2).1
    refine WL.qq (by simp only [EN, Nat.reduceEqDiff, reduceIte, qv_move, e0, hp.cell, hB2.cell]; rfl) ?_
    refine WL.qq (by simp only [EN, Nat.reduceEqDiff, reduceIte, qv_nilCheck, hp.cell, hB2.cell]; rfl) ?_
    refine WL.qq (by simp only [EN, Nat.reduceEqDiff, reduceIte, qv_fieldAddr, fa93_0, Nat.zero_add, Nat.reduceAdd, hp.cell, hB2.cell]; rfl) ?_
    refine WL.qq (by simp only [EN, Nat.reduceEqDiff, reduceIte, qv_load, ld91, readN, AR, Nat.zero_add, Nat.reduceAdd, hp.cell, hB2.cell]; rfl) ?_
    refine WL.qq (by simp only [EN, Nat.reduceEqDiff, reduceIte, qv_len, ln91, AR, hp.cell, hB2.cell]; rfl) ?_
    refine WL.qq (by simp only [EN, Nat.reduceEqDiff, reduceIte, qv_move, hp.cell, hB2.cell]; rfl) ?_
    refine WL.nil ?_
    refine th_norm ?_
    refine hx_block ?_
    refine hx_loopM [5, 6, 15, 16, 17, 18, 19, 20, 22, 23, 24, 25] (fun k e ms hL0 => ∃ (i : Nat), xs.length - i = k ∧ (i ≤ xs.length) ∧ (Ext h hL0) ∧ (Has hL0 B2 (.cells #[.map (some B1)] tyMb)) ∧ (MapT acV Value.bool hL0 B1 (accM (allP (l.take i)))) ∧ (MK h.size hL0 ms) ∧ e 15 = .int .i64 i) _ [] ⟨0, rfl, ?_, ?_, ?_, ?_, ?_, ?_⟩ ?_
    · omega
    · exact ((hx1).trans (hx2))
    · exact hB2
    · exact (MapT.new hB1)
    · exact MK.nil
    · simp only [EN, Nat.reduceEqDiff, reduceIte, e0, hp.cell, hB2.cell] <;> rfl
    ·
      rintro k e0L ms hL0 hfr0 ⟨i, rfl, hi, hX, hB2, hm, hmk, i15_0⟩
      have k3_0 := hfr0 3 rfl; try simp only [EN, Nat.reduceEqDiff, reduceIte, hp.cell, hB2.cell] at k3_0
      have k13_0 := hfr0 13 rfl; try simp only [EN, Nat.reduceEqDiff, reduceIte, hp.cell, hB2.cell] at k13_0
      have k14_0 := hfr0 14 rfl; try simp only [EN, Nat.reduceEqDiff, reduceIte, hp.cell, hB2.cell] at k14_0
      refine hx_seq ?_
      refine hx_region ?_
      refine WL.qq (by simp only [EN, Nat.reduceEqDiff, reduceIte, qv_binOp, binv_lss, k14_0, i15_0, hp.cell, hB2.cell, hB2.cell]; rfl) ?_
      refine WL.nil ?_
      refine th_norm ?_
      refine hx_seq ?_
      refine hx_cond (by simp only [EN, Nat.reduceEqDiff, reduceIte, hp.cell, hB2.cell, hB2.cell]; rfl) (fun hct16 => ?_) (fun hct16 => ?_)
      ·
        try simp only [BD] at hct16
        obtain ⟨x, hxi⟩ := atG (l := xs) (i := i) (by omega)
        obtain ⟨b1, o1, hae, hr4, _⟩ := bd_rd (ksx.ext hX) hxi
        have hxb : l[i]? = some x.bd := (by rw [← hxl]; exact bd_at hxi)
        have hxm : x.bd ∈ l := List.mem_of_getElem? hxb
        have hxl2 := (hg.f _ hxm).lens
        have kz0 := hX.size
        refine hx_skip ?_
        refine th_norm ?_
        refine hx_seq ?_
        refine hx_block ?_
        refine hx_seq ?_
        refine hx_region ?_
        refine WL.qq (by simp only [EN, Nat.reduceEqDiff, reduceIte, qv_indexAddr, k13_0, i15_0, hp.cell, hB2.cell, hB2.cell, hae]; (try simp (disch := omega) only [ix91, Int.toNat_natCast]); rfl) ?_
        refine WL.qq (by simp only [EN, Nat.reduceEqDiff, reduceIte, k3_0, k13_0, k14_0, i15_0, hp.cell, hB2.cell, hB2.cell, qv_load, ld55, Int.toNat_natCast, hr4]; rfl) ?_
        refine WL.allocSt zr55 sz55 (fun u => by simp only [EN, Nat.reduceEqDiff, reduceIte, Value.cells, hp.cell, hB2.cell, hB2.cell]; rfl) ⟨rfl, rfl⟩ (by simp [Value.oneCell']) ?_
        intro h3 B3 hx3 hlt3 hB3
        replace hB2 := hB2.ext hx3
        replace hm := hm.ext hx3
        replace hmk := hmk.ext hx3
        refine WL.nil ?_
        refine th_norm ?_
        refine hx_seq ?_
        refine hx_region ?_
        refine WL.qq (by simp only [EN, Nat.reduceEqDiff, reduceIte, qv_load, ld55, readN, AR, Nat.zero_add, Nat.reduceAdd, hp.cell, hB2.cell, hB2.cell, hB3.cell]; rfl) ?_
        refine WL.ce Try.call48 (by simp only [EN, Nat.reduceEqDiff, reduceIte, AR, hp.cell, hB2.cell, hB2.cell, hB3.cell]; exact c_post x _) ?_
        rintro _ h4 ⟨hx4, B9, rfl, hlt9, hB9⟩
        replace hB2 := hB2.ext hx4
        replace hm := hm.ext hx4
        replace hmk := hmk.ext hx4
        replace hB3 := hB3.ext hx4
        simp only [put_some]
        refine WL.nil ?_
        refine th_norm ?_
        refine hx_block ?_
        refine hx_range (by simp only [EN, Nat.reduceEqDiff, reduceIte, k3_0, k13_0, k14_0, i15_0, hp.cell, hB2.cell, hB2.cell, hB3.cell]; rfl) Try.call67 ?_
        intro fnR0 hR0 hxR0 hsR0 hdR0 hrR0
        have hXL := ((hx3).trans (hx4))
        have kx0 : Ext h h4 := hX.trans hXL
        have hq2 := (Array.getElem?_eq_some_iff.1 hB2).1
        have hqm := hm.lt
        have hq9 := (Array.getElem?_eq_some_iff.1 hB9).1
        have hm9 := hB9.nmap hm
        have hm2 := hB2.nmap hm
        generalize hrec : recOf _ _ _ _ _ _ _ = rec at hrR0
        refine (c_postYield x B9 (h4.size + 1) (fun j hy => AB h h4 B1 rec (accM (allP (l.take i) ++ (pos x.bd).take j)) hy) (fun _ => False) hxl2 ?_ ?_ ?_ ?_).mono ?_
        · rintro j h1 h2 ⟨q1, q2⟩ he; exact ⟨q1.ext he, q2.ext he⟩
        · rintro j hy ⟨q1, q2⟩; exact ⟨hB9.gs q1.gs (by simp; omega), (kbx x (List.mem_of_getElem? hxi)).ext q1.ex⟩
        rotate_left
        · exact ⟨RX.start hxR0 hsR0 hdR0 hrR0 kx0 (by simp; omega) (by simp; omega), by rw [List.take_zero, List.append_nil]; exact hm.ext hxR0⟩
        rotate_left
        ·
          rintro j y hy hyj ⟨hC, hT⟩
          have hsz := hC.size
          subst hrec
          have hstep := accM_snoc (allP (l.take i)) (pos x.bd) hyj
          refine hy_body (vs := [.agg (poL y).toArray]) (ps := [21]) hC.rc rfl rfl rfl (by decide) rfl rfl ?_
          simp only [pars, List.zip_cons_cons, List.zip_nil_left, List.foldl_cons, List.foldl_nil]
          have hD2 := hB2.gs hC.gs (by simp; omega)
          refine hx_region ?_
          refine WL.allocSt zr74 sz74 (fun u => by simp only [EN, Nat.reduceEqDiff, reduceIte, Value.cells, hp.cell, hB2.cell, hB2.cell, hB3.cell, hD2.cell]; rfl) ⟨rfl, rfl⟩ (by simp [Value.oneCell']) ?_
          intro h5 B5 hx5 hlt5 hB5
          replace hC := hC.ext hx5
          replace hT := hT.ext hx5
          replace hD2 := hD2.ext hx5
          refine WL.nil ?_
          refine th_norm ?_
          refine ⟨_, hC.rc, rfl, ?_⟩
          intro h20 hw20
          replace hC := hC.turn hw20
          replace hT := hT.wr hw20 (by omega)
          replace hD2 := hD2.wr hw20 (by omega)
          replace hB5 := hB5.wr hw20 (by omega)
          refine hx_block ?_
          refine hx_region ?_
          refine WL.qq (by simp only [EN, Nat.reduceEqDiff, reduceIte, qv_load, ld113, readN, AR, Nat.zero_add, Nat.reduceAdd, k3_0, hp.cell, hB2.cell, hB2.cell, hB3.cell, hD2.cell, hB5.cell]; rfl) ?_
          refine WL.qq (by simp only [EN, Nat.reduceEqDiff, reduceIte, qv_fieldAddr, fa74_0, Nat.zero_add, Nat.reduceAdd, hp.cell, hB2.cell, hB2.cell, hB3.cell, hD2.cell, hB5.cell]; rfl) ?_
          refine WL.qq (by simp only [EN, Nat.reduceEqDiff, reduceIte, qv_load, ld35, readN, AR, Nat.zero_add, Nat.reduceAdd, hp.cell, hB2.cell, hB2.cell, hB3.cell, hD2.cell, hB5.cell]; rfl) ?_
          refine WL.ef _ (e_mapUpdate (x := y.c) (v := true) ktA Try.underlying113 hT (by simp only [EN, Nat.reduceEqDiff, reduceIte, k3_0, k13_0, k14_0, i15_0, hp.cell, hB2.cell, hB2.cell, hB3.cell, hD2.cell, hB5.cell]) (by simp only [EN, Nat.reduceEqDiff, reduceIte, k3_0, k13_0, k14_0, i15_0, hp.cell, hB2.cell, hB2.cell, hB3.cell, hD2.cell, hB5.cell] <;> rfl) (by simp only [EN, Nat.reduceEqDiff, reduceIte, k3_0, k13_0, k14_0, i15_0, hp.cell, hB2.cell, hB2.cell, hB3.cell, hD2.cell, hB5.cell] <;> rfl)) ?_
          rintro _ h21 ⟨⟨o21, hw21⟩, hT2⟩
          simp only [put_none]
          replace hC := hC.put hw21 (.inl (by simp))
          refine WL.nil ?_
          refine bl_norm ?_
          refine ⟨_, hC.rc, ?_⟩
          intro h30 hw30
          exact ⟨true, rfl, fun _ => ⟨hC.turn hw30, by rw [hstep]; exact hT2.wr hw30 (by omega)⟩, fun hh => by cases hh⟩
        ·
          rintro v0 h3 (⟨hC, hT⟩ | hf)
          rotate_left
          · exact hf.elim
          refine after_any hC.rc (by subst hrec; rfl) (.inl ⟨by subst hrec; rfl, ?_⟩)
          intro h31 o hw31
          rw [List.take_length, ← allP_step hxb] at hT
          replace hT := hT.wr hw31 (by omega)
          have hE31 := (hC.end_ hw31 (by omega)).2
          have hmk31 := hmk.range (Ext.refl _) (by omega) hC (by intro r hr9; simp at hr9; subst hr9; obtain ⟨es, c9, h9⟩ := hm.has; rw [h9]; simp) hw31
          have hF2 := (hB2.gs hC.gs (by simp; omega)).wr hw31 (by omega)
          refine bl_norm ?_
          refine bl_norm ?_
          refine th_norm ?_
          refine hx_region ?_
          refine WL.qq (by simp only [EN, Nat.reduceEqDiff, reduceIte, qv_binOp, binv_add, i15_0, hp.cell, hB2.cell, hB2.cell, hB3.cell]; (try simp (disch := omega) only [w64, w8, wu64]); rfl) ?_
          refine WL.qq (by simp only [EN, Nat.reduceEqDiff, reduceIte, qv_move, hp.cell, hB2.cell, hB2.cell, hB3.cell]; rfl) ?_
          refine WL.nil ?_
          refine th_norm ?_
          refine ⟨(Array.size h4 :: ms), rfl, ?_, _, ?_, i + 1, rfl, ?_, ?_, ?_, ?_, ?_, ?_⟩  -- again 0 of loop 0
          · (repeat (first | exact Fr.refl _ _ | refine Fr.set rfl ?_ | refine Fr.put rfl ?_ | with_reducible refine Fr.put0 ?_))
          · omega
          · omega
          · exact hE31
          · exact hF2
          · exact hT
          · exact hmk31
          · simp only [EN, Nat.reduceEqDiff, reduceIte, k3_0, k13_0, k14_0, i15_0, hp.cell, hB2.cell, hB2.cell, hB3.cell] <;> first | rfl | (congr 1; omega)
      ·
        try simp only [BD] at hct16
        have hie : l.take i = l := List.take_of_length_le (by rw [← hxl, List.length_map]; omega)
        rw [hie] at hm
        have hall := all_len hg.f hg.n; have hml := accM_len (allP l)
        refine hx_exit ?_
        refine th_exit ?_
        refine th_exit ?_
        refine bl_hit ?_
        refine th_norm ?_
        refine hx_seq ?_
        refine hx_region ?_
        refine WL.qq (by simp only [EN, Nat.reduceEqDiff, reduceIte, qv_load, ld113, readN, AR, Nat.zero_add, Nat.reduceAdd, k3_0, hp.cell, hB2.cell, hB2.cell]; rfl) ?_
        refine WL.ce Try.call60 (by simp only [EN, Nat.reduceEqDiff, reduceIte, AR, hp.cell, hB2.cell, hB2.cell]; exact c_keys B1 _) ?_
        rintro _ h6 ⟨hx6, B9, rfl, hB9⟩
        replace hB2 := hB2.ext hx6
        replace hm := hm.ext hx6
        replace hmk := hmk.ext hx6
        simp only [put_some]
        refine WL.ce Try.call59 (by simp only [EN, Nat.reduceEqDiff, reduceIte, AR, hp.cell, hB2.cell, hB2.cell]; exact c_sorted B9 B1 _ (by omega) hB9 hm) ?_
        rintro _ h7 ⟨hx7, s, hsP, hsS, hsO⟩
        replace hB2 := hB2.ext hx7
        replace hm := hm.ext hx7
        replace hmk := hmk.ext hx7
        replace hB9 := hB9.ext hx7
        simp only [put_some]
        have hse : s = rAcc (allP l) := acc_eq hsP hsS hm.nodup (fun q => accM_keys q _); subst hse
        have hXF := hX.trans ((hx6).trans (hx7))
        refine WL.qq (by simp only [EN, Nat.reduceEqDiff, reduceIte, qv_assign, hp.cell, hB2.cell, hB2.cell]; rfl) ?_
        refine WL.nil ?_
        refine th_norm ?_
        refine hx_ret ?_
        refine fin_marks (.inr rfl) [.tmp 2] rfl rfl hmk ?_
        intro h5 hg5
        have hO5 := hsO.gs hg5 (fun c hc hm9 => by obtain ⟨cu, hcu⟩ := hsO.typ c hc; have h8 := hmk.df _ hm9; have h9 : some _ = some _ := h8.symm.trans hcu; cases h9)
        exact ⟨[_], by simp only [resv, EN, Nat.reduceEqDiff, reduceIte, k3_0, k13_0, k14_0, i15_0, hp.cell, hB2.cell, hB2.cell] <;> rfl, hg5.toExt hXF hmk.lo, hO5.base (by have := hX.size; have := hx6.size; omega)⟩
end GL


/- Session: the sorted keys of a buffer; gaps. -/
import Derived.Test.YtmlhncifcaicpaaSesB
import Derived.Test.YtmlhncifcaicpaaGl27
import Derived.Test.YtmlhncifcaicpaaShelf
import Derived.Sort.OwnSortedInts
set_option linter.unusedSimpArgs false
set_option linter.unusedVariables false
set_option linter.unnecessarySimpa false
namespace GL
open Go Go.Proofs
set_option maxRecDepth 8000
/-- A list of keys being walked through. -/
def IsIt (h : Heap) (it : Nat) : Prop := ∃ a b c d, Has h it (.mapIter a b c d)
theorem IterT.isIt {κ β : Type} {ek : κ → Value} {ev' : β → Value} {h : Heap} {it b : Nat} {l left : List (κ × β)} (hI : IterT ek ev' h it b l left) : IsIt h it := by
  obtain ⟨es, clock, since, seen, c0, _, _, _, h4, _⟩ := hI
  exact ⟨_, _, _, _, h4⟩
theorem IterT.keep {κ β : Type} {ek : κ → Value} {ev' : β → Value} {h h' : Heap} {it b : Nat} {l left : List (κ × β)} (hI : IterT ek ev' h it b l left) (h1 : h'[it]? = h[it]?) (h2 : h'[b]? = h[b]?) : IterT ek ev' h' it b l left := by
  obtain ⟨es, clock, since, seen, c0, q1, q2, q3, q4, q5⟩ := hI
  exact ⟨es, clock, since, seen, c0, h2.trans q1, q2, q3, h1.trans q4, q5⟩
theorem c_keysYield {h0 : Heap} (B lp m : Nat) (J : List Int → Heap → Prop) (l : List M2) (hX : ∀ s h h', J s h → Ext h h' → J s h')
    (hW : ∀ s h h' it o, J s h → h0.size ≤ it → IsIt h it → Wr h h' it o → J s h')
    (hB : Has h0 B (.cells #[.map (some m)] 81)) (hm : MapT iV Value.string h0 m l)
    (hy : ∀ s k h it, J s h → s.length < l.length → h0.size ≤ it → IsIt h it → HY Try.prog lp #[iV k] h fun v h' => v = .bool true ∧ J (s ++ [k]) h' ∧ h'[it]? = h[it]? ∧ h'[m]? = h[m]?)
    (h00 : J [] h0) : HCalls Try.prog 55 #[.func (.yield lp) #[] #[], .pointer (some ⟨B, 0, none⟩)] h0 fun _ h' => ∃ s, s.Perm (l.map Prod.fst) ∧ J s h' := by
  refine hcalls2 Try.func55 rfl (by decide +kernel) (by simp only [Try.ntmps55]; exact of_decide_eq_true rfl) ?_
  intro e hin
  have e0 := hin 0 _ rfl
  have e1 := hin 1 _ rfl
  refine hx_seq ?_
  refine hx_region ?_
  refine WL.qq (by simp only [EN, Nat.reduceEqDiff, reduceIte, qv_load, ld81, readN, AR, Nat.zero_add, Nat.reduceAdd, e1, hB.cell]; rfl) ?_
  refine WL.ef _ (e_range Try.underlying81 hm (by simp only [EN, Nat.reduceEqDiff, reduceIte, e0, e1, hB.cell])) ?_
  rintro _ h50 ⟨it, rfl, hit, hx50, hsz50, hI⟩
  simp only [put_some]
  refine WL.nil ?_
  refine th_norm ?_
  refine hx_block ?_
  refine hx_loopG [3, 6, 7, 8, 9, 10, 11, 12, 13] (fun k e hL0 => ∃ (left : List M2) (s : List Int), left.length = k ∧ (IterT iV Value.string hL0 it m l left) ∧ (J s hL0) ∧ ((s ++ left.map Prod.fst).Perm (l.map Prod.fst))) _ ⟨l, [], rfl, ?_, ?_, ?_⟩ ?_
  · exact hI
  · exact hX _ _ _ h00 hx50
  · exact List.Perm.refl _
  ·
    rintro k e0L hL0 hfr0 ⟨left, s, rfl, hI, hJ, hp⟩
    have k0_0 := hfr0 0 rfl; try simp only [EN, Nat.reduceEqDiff, reduceIte, e0, hB.cell] at k0_0
    have k5_0 := hfr0 5 rfl; try simp only [EN, Nat.reduceEqDiff, reduceIte, hB.cell] at k5_0
    refine hx_seq ?_
    refine hx_region ?_
    refine WL.ef _ (e_next2 ktI hI (by simp only [EN, Nat.reduceEqDiff, reduceIte, k0_0, k5_0, hB.cell])) ?_
    rintro _ h51 ⟨bb1, vs1, rfl, hv1, hst1, hT1, hF1⟩
    simp only [put_some]
    have hJ1 : J s h51 := (by rcases hst1 with rfl | ⟨o, hw⟩; exact hJ; exact hW _ _ _ _ _ hJ (by omega) hI.isIt hw)
    refine WL.qq (by simp only [EN, Nat.reduceEqDiff, reduceIte, k0_0, k5_0, hB.cell, qv_extract, hv1]; rfl) ?_
    refine WL.nil ?_
    refine th_norm ?_
    refine hx_seq ?_
    refine hx_cond (by simp only [EN, Nat.reduceEqDiff, reduceIte, hB.cell]; rfl) (fun hct7 => ?_) (fun hct7 => ?_)
    ·
      try simp only [BD] at hct7
      obtain ⟨q1, left', hp1, hS⟩ := hT1 hct7; have hlen1 := hp1.length_eq; rw [List.length_cons] at hlen1
      have hp2 : (s ++ (q1.1 :: left'.map Prod.fst)).Perm (l.map Prod.fst) := ((hp1.map Prod.fst).append_left s).symm.trans hp
      have hpl := hp2.length_eq; simp only [List.length_append, List.length_cons, List.length_map] at hpl
      refine hx_skip ?_
      refine th_norm ?_
      refine hx_block ?_
      refine hx_seq ?_
      refine hx_region ?_
      refine WL.ef _ (e_entry hS (by simp only [EN, Nat.reduceEqDiff, reduceIte, k0_0, k5_0, hB.cell])) ?_
      rintro _ hX2 ⟨rfl, hq1x⟩
      obtain rfl : h51 = hX2 := hq1x.symm
      simp only [put_some]
      refine WL.qq (by simp only [EN, Nat.reduceEqDiff, reduceIte, qv_extract, AR, hB.cell]; rfl) ?_
      refine WL.qq (by simp only [EN, Nat.reduceEqDiff, reduceIte, qv_assign, hB.cell]; rfl) ?_
      refine WL.nil ?_
      refine th_norm ?_
      refine hx_seq ?_
      refine hx_region ?_
      refine WL.qq (by simp only [EN, Nat.reduceEqDiff, reduceIte, qv_move, k0_0, hB.cell]; rfl) ?_
      refine WL.qq (by simp only [EN, Nat.reduceEqDiff, reduceIte, qv_move, hB.cell]; rfl) ?_
      refine WL.ef _ (e_yield (l := lp) (by simp only [EN, Nat.reduceEqDiff, reduceIte, k0_0, k5_0, hB.cell]) (by simp only [EN, Nat.reduceEqDiff, reduceIte, k0_0, k5_0, hB.cell, AR]; exact hy s q1.1 _ it hJ1 (by omega) (by omega) hS.iter.isIt)) ?_
      rintro _ h22 ⟨rfl, hJ2, hs1, hs2⟩
      simp only [put_some]
      have hI2 := hS.iter.keep hs1 hs2
      refine WL.qq (by simp only [EN, Nat.reduceEqDiff, reduceIte, qv_unOp, unv_not, hB.cell]; rfl) ?_
      refine WL.nil ?_
      refine th_norm ?_
      refine hx_cond (by simp only [EN, Nat.reduceEqDiff, reduceIte, hB.cell]; rfl) (fun hct13 => ?_) (fun hct13 => ?_)
      ·
        simp at hct13
      ·
        try simp only [BD] at hct13
        refine hx_skip ?_
        refine bl_norm ?_
        refine th_norm ?_
        refine ⟨rfl, ?_, _, ?_, left', s ++ [q1.1], rfl, ?_, ?_, ?_⟩  -- again 0 of loop 0
        · (repeat (first | exact Fr.refl _ _ | refine Fr.set rfl ?_ | refine Fr.put rfl ?_ | with_reducible refine Fr.put0 ?_))
        · omega
        · exact hI2
        · exact hJ2
        · rw [List.append_assoc]; exact hp2
    ·
      try simp only [BD] at hct7
      obtain ⟨hl0, hmm⟩ := hF1 hct7; subst hl0
      refine hx_exit ?_
      refine th_exit ?_
      refine th_exit ?_
      refine bl_hit ?_
      refine fin_end [] rfl rfl (by simp only [EN, Nat.reduceEqDiff, reduceIte, resv, k0_0, k5_0, hB.cell]; rfl) ?_  -- ret 0 r3
      exact ⟨s, by simpa using hp, hJ1⟩
theorem RC.iter {h0 h7 hx hy : Heap} {B : Nat} {t el : TypeId} {sz : Nat} {rec : Loop} {v : Value} {n : Nat} {xs : List Value} {it : Nat} {o : Obj} (hC : RC h0 h7 B t el sz rec v n xs hx) (h1 : h7.size + 2 ≤ it) (hi : IsIt hx it) (hw : Wr hx hy it o) : RC h0 h7 B t el sz rec v n xs hy := by
  obtain ⟨a, b, c, d, hb⟩ := hi
  have e1 : B ≠ it := fun hh => by subst hh; have := hC.out.un hb; cases this
  have e2 : h7.size + 1 ≠ it := by omega
  have e3 : h7.size ≠ it := by omega
  refine ⟨hC.own.keep (fun c hc => hw.same c fun hh => ?_), hC.out.wr hw e1, ?_, by rw [hw.same _ e3]; exact hC.df, hC.gr.wr hw (.inr (by omega)), hw.ext hC.ex (by have := hC.base; omega), by rw [hw.size]; exact hC.size, hC.lo, hC.hi⟩
  · subst hh
    obtain ⟨cur, hcur⟩ := hC.own.typ _ hc
    have := hcur.un hb; cases this
  · have h1 := hC.rc
    rw [Rec, hw.same _ e2]; exact h1
theorem c_appendSeq (Bm m : Nat) (l : List M2) (hlen : l.length ≤ 1000000) {h : Heap} (hB : Has h Bm (.cells #[.map (some m)] 81)) (hm : MapT iV Value.string h m l) :
    HCalls Try.prog 56 #[.slice none 0 0, .func (.func 55) #[] #[.pointer (some ⟨Bm, 0, none⟩)]] h
      fun v h' => Ext h h' ∧ ∃ s : List Int, s.Perm (l.map Prod.fst) ∧ Own h' h.size 3 1 v s.length (s.map iV) := by
  refine hcalls2 Try.func56 rfl (by decide +kernel) (by simp only [Try.ntmps56]; exact of_decide_eq_true rfl) ?_
  intro e hin
  have e0 := hin 0 _ rfl
  have e1 := hin 1 _ rfl
  refine hx_seq ?_
  refine hx_region ?_
  refine WL.box2 (by simp only [EN, Nat.reduceEqDiff, reduceIte, Value.cells, e0]; rfl) ?_
  intro h1 B1 hx1 hlt1 hB1
  replace hB := hB.ext hx1
  replace hm := hm.ext hx1
  refine WL.qq (by simp only [EN, Nat.reduceEqDiff, reduceIte, qv_assign, hB1.cell]; rfl) ?_
  refine WL.nil ?_
  refine th_norm ?_
  refine hx_seq ?_
  refine hx_seq ?_
  refine hx_region ?_
  refine WL.qq (by simp only [EN, Nat.reduceEqDiff, reduceIte, qv_move, e1, hB1.cell]; rfl) ?_
  refine WL.nil ?_
  refine th_norm ?_
  refine hx_block ?_
  refine hx_range (by simp only [EN, Nat.reduceEqDiff, reduceIte, e0, e1, hB1.cell]; rfl) Try.call55 ?_
  intro fnR0 hR0 hxR0 hsR0 hdR0 hrR0
  have hlt : B1 < h1.size := (Array.getElem?_eq_some_iff.1 hB1).1
  have hbm : Bm ≠ B1 := (by have := (Array.getElem?_eq_some_iff.1 hB).1; intro hh; subst hh; have := hB.un hB1; cases this)
  have hmb : m ≠ B1 := hB1.nmap hm |>.symm
  have hmlt := hm.lt
  generalize hrec : recOf _ _ _ _ _ _ _ = rec at hrR0
  refine (c_keysYield Bm (h1.size + 1) m (fun s hx => ∃ v, RC h h1 B1 108 3 1 rec v s.length (s.map iV) hx) l ?_ ?_ (hB.ext hxR0) (hm.ext hxR0) ?_ ?_).mono ?_
  · rintro s h1 h2 ⟨v, q1⟩ he; exact ⟨v, q1.ext he⟩
  · rintro s h1 h2 it o ⟨v, q1⟩ hit hi hw; exact ⟨v, q1.iter (by omega) hi hw⟩
  rotate_left
  · exact ⟨.slice none 0 0, RC.start hB1 hxR0 hsR0 hdR0 hrR0 hx1 hlt1⟩
  rotate_left
  ·
    rintro s k hx it ⟨v, hC⟩ hsl hit hi
    have hsz := hC.size
    subst hrec
    refine hy_body (vs := [iV k]) (ps := [7]) hC.rc rfl rfl rfl (by decide) rfl rfl ?_
    simp only [pars, List.zip_cons_cons, List.zip_nil_left, List.foldl_cons, List.foldl_nil]
    have hT := hC.out
    refine hx_region ?_
    refine WL.qq (by simp only [EN, Nat.reduceEqDiff, reduceIte, qv_assign, hB1.cell, hT.cell]; rfl) ?_
    refine WL.nil ?_
    refine th_norm ?_
    refine ⟨_, hC.rc, rfl, ?_⟩
    intro h20 hw20
    have hC0 := hC
    replace hC := hC.turn hw20
    replace hT := hC.out
    refine hx_block ?_
    refine hx_region ?_
    refine WL.qq (by simp only [EN, Nat.reduceEqDiff, reduceIte, qv_load, ld108, readN, AR, Nat.zero_add, Nat.reduceAdd, hB1.cell, hT.cell]; rfl) ?_
    refine WL.qq (by simp only [EN, Nat.reduceEqDiff, reduceIte, qv_move, hB1.cell, hT.cell]; rfl) ?_
    refine WL.push (bytes := 8) Try.underlying108 (inf_of Try.type3) rfl rfl rfl rfl (by decide) (by decide) sz3 zr3 (fun u => by simp only [EN, Nat.reduceEqDiff, reduceIte, e0, e1, hB1.cell, hT.cell]) hC.own (by simp only [EN, Nat.reduceEqDiff, reduceIte, e0, e1, hB1.cell, hT.cell, Value.cells]; rfl) rfl (by simp [Value.oneCell']) (by simp only [maxLen]; omega) (by omega) hC.size ?_
    intro h40 v40 B40 ho40 hg40 hp40 hn40
    skip
    refine WL.store (by simp only [EN, Nat.reduceEqDiff, reduceIte, e0, e1, hB1.cell, hT.cell] <;> rfl) sz108 (by simp only [EN, Nat.reduceEqDiff, reduceIte, e0, e1, hB1.cell, hT.cell]; exact ho40.cells) rfl (hC.out.gr hg40 (hC.own.ncell hC.out (by decide))) (by simp) (by simp [ho40.one]) ?_
    intro h41 hw41
    have hC2 := hC.app ho40 hg40 hw41 rfl
    refine WL.nil ?_
    refine bl_norm ?_
    refine ⟨_, hC2.rc, ?_⟩
    intro h30 hw30
    obtain ⟨ia, ib, ic, id2, hbi⟩ := hi
    have k1 : it ≠ h1.size + 1 := (by omega)
    have k2 : it ≠ B1 := (by omega)
    have k3 : v.ownBlock ≠ some it := (fun hh => by obtain ⟨cur, hcur⟩ := hC0.own.typ _ hh; have := hcur.un hbi; cases this)
    have k4 : v.ownBlock ≠ some m := (fun hh => by have := (hC.own.block _ hh).1; omega)
    have s1 : it < h20.size := (by rw [hw20.size]; exact (Array.getElem?_eq_some_iff.1 hbi).1)
    have s2 : m < h20.size := (by rw [hw20.size]; omega)
    refine ⟨rfl, ⟨v40, by rw [List.length_append, List.map_append]; exact hC2.turn hw30⟩, ?_, ?_⟩
    · rw [hw30.same _ k1, hw41.same _ k2, hg40.same _ s1 k3, hw20.same _ k1]
    · rw [hw30.same _ (by omega), hw41.same _ hmb, hg40.same _ s2 k4, hw20.same _ (by omega)]
  ·
    rintro v0 h3 ⟨s, hsp, v, hC⟩
    refine after_any hC.rc (by subst hrec; rfl) (.inl ⟨by subst hrec; rfl, ?_⟩)
    intro h31 o hw31
    have hs9 := hC.base
    have ho31 := (hC.own.keep (h' := h31) (fun c hc => hw31.same c (by have := (hC.own.block c hc).1; omega)))
    have hO := hC.out.wr hw31 (by have := hC.hi; omega)
    have hd31 : h31[h1.size]? = some (.deferred (some [])) := by rw [hw31.same _ (by omega)]; exact hC.df
    have hE31 := hw31.ext hC.ex (by omega)
    refine bl_norm ?_
    refine th_norm ?_
    refine hx_seq ?_
    refine hx_region ?_
    refine WL.qq (by simp only [EN, Nat.reduceEqDiff, reduceIte, qv_load, ld108, readN, AR, Nat.zero_add, Nat.reduceAdd, hB1.cell, hO.cell]; rfl) ?_
    refine WL.qq (by simp only [EN, Nat.reduceEqDiff, reduceIte, qv_assign, hB1.cell, hO.cell]; rfl) ?_
    refine WL.nil ?_
    refine th_norm ?_
    refine hx_ret ?_
    refine fin_mark (.inr rfl) [.tmp 4] rfl rfl hd31 ?_
    intro h5 hw5
    refine ⟨[v], by simp only [resv, EN, Nat.reduceEqDiff, reduceIte, e0, e1, hB1.cell, hO.cell] <;> rfl, hw5.ext hE31 (by omega), s, hsp, ?_⟩
    exact (ho31.keep (h' := h5) (fun c hc => hw5.same c (by have := (ho31.block c hc).1; omega))).base (by omega)
theorem c_collect (Bm m : Nat) (l : List M2) (hlen : l.length ≤ 1000000) {h : Heap} (hB : Has h Bm (.cells #[.map (some m)] 81)) (hm : MapT iV Value.string h m l) :
    HCalls Try.prog 53 #[.func (.func 55) #[] #[.pointer (some ⟨Bm, 0, none⟩)]] h
      fun v h' => Ext h h' ∧ ∃ s : List Int, s.Perm (l.map Prod.fst) ∧ Own h' h.size 3 1 v s.length (s.map iV) := by
  refine hcalls2 Try.func53 rfl (by decide +kernel) (by simp only [Try.ntmps53]; exact of_decide_eq_true rfl) ?_
  intro e hin
  have e0 := hin 0 _ rfl
  refine hx_seq ?_
  refine hx_region ?_
  refine WL.qq (by simp only [EN, Nat.reduceEqDiff, reduceIte, qv_assign]; rfl) ?_
  refine WL.nil ?_
  refine th_norm ?_
  refine hx_seq ?_
  refine hx_region ?_
  refine WL.qq (by simp only [EN, Nat.reduceEqDiff, reduceIte, qv_move, e0]; rfl) ?_
  refine WL.ce Try.call56 (by simp only [EN, Nat.reduceEqDiff, reduceIte, AR]; exact c_appendSeq Bm m l hlen hB hm) ?_
  rintro _ h1 ⟨hx1, s, hs, ho⟩
  simp only [put_some]
  refine WL.qq (by simp only [EN, Nat.reduceEqDiff, reduceIte, qv_assign]; rfl) ?_
  refine WL.nil ?_
  refine th_norm ?_
  refine hx_ret ?_
  refine fin_ret [.tmp 2] rfl rfl (by simp only [EN, Nat.reduceEqDiff, reduceIte, resv, e0]; rfl) ?_  -- ret 0 r1
  exact ⟨hx1, s, hs, ho⟩
def srt (l : List Int) : List Int := l.mergeSort fun x y => decide (x ≤ y)
theorem srt_perm (l : List Int) : (srt l).Perm l := List.mergeSort_perm _ _
theorem srt_pair (l : List Int) : (srt l).Pairwise (· ≤ ·) := by
  have := List.pairwise_mergeSort (le := fun x y : Int => decide (x ≤ y)) (by intro a b c; simp; omega) (by intro a b; simp; omega) l
  exact this.imp (by intro a b h; simpa using h)
theorem srt_eq {l m : List Int} (hp : l.Perm m) : srt l = srt m := by
  refine List.Perm.eq_of_pairwise (le := (· ≤ ·)) (fun a b _ _ h1 h2 => by omega) (srt_pair l) (srt_pair m) ?_
  exact ((srt_perm l).trans hp).trans (srt_perm m).symm
theorem c_sort {h : Heap} {base n : Nat} {v : Value} {l : List Int} (ho : Own h base 3 1 v n (l.map (Value.int .i64))) (hn : n ≤ 1099511627776) :
    HCalls Try.prog 54 #[v] h fun _ h' => Own h' base 3 1 v n ((srt l).map (Value.int .i64)) ∧ Gr h h' v.ownBlock := by
  refine hcalls_of fun w hw => ?_
  subst hw
  have hl : l.length = n := by have := ho.1; simpa using this
  have hsl : (srt l).length = l.length := by simp [srt, List.length_mergeSort]
  rcases ho.2 with ⟨rfl, rfl⟩ | ⟨g, cap, cur, rfl, hb, hg, hc, hm, hs, ht⟩
  · refine (Try.slices_Sort_int_none none 0 w).mono ?_
    rintro e w' ⟨rfl, rfl⟩
    have : l = [] := List.length_eq_zero_iff.1 hl
    subst this
    exact ⟨_, rfl, .refl _, by simpa [srt] using ho, Gr.refl _ _⟩
  · subst hl
    rw [Nat.mul_one] at ht
    refine (Try.slices_Sort_int g 0 cap l w (holds_of_blockI hg ht) (Array.getElem?_eq_some_iff.1 hg).1 (by omega)).mono ?_
    rintro e w' ⟨rfl, k, os, rfl⟩
    refine ⟨_, rfl, ⟨rfl, rfl, rfl, Nat.le_add_right _ _⟩, ?_, ?_⟩
    · exact own_iff.1 (ownsRow_sortedI (ts := srt l) hsl hb hg hc hm hs)
    · exact Gr.of (grownBy_sortedI _)
theorem c_keys (m : Nat) (h : Heap) : HCalls Try.prog 52 #[.map (some m)] h fun v h' => Ext h h' ∧ ∃ B, v = .func (.func 55) #[] #[.pointer (some ⟨B, 0, none⟩)] ∧ Has h' B (.cells #[.map (some m)] 81) := by
  refine hcalls2 Try.func52 rfl (by decide +kernel) (by simp only [Try.ntmps52]; exact of_decide_eq_true rfl) ?_
  intro e hin
  have e0 := hin 0 _ rfl
  refine hx_seq ?_
  refine hx_region ?_
  refine WL.box2 (by simp only [EN, Nat.reduceEqDiff, reduceIte, Value.cells, e0]; rfl) ?_
  intro h1 B1 hx1 hlt1 hB1
  refine WL.qq (by simp only [EN, Nat.reduceEqDiff, reduceIte, qv_assign, hB1.cell]; rfl) ?_
  refine WL.nil ?_
  refine th_norm ?_
  refine hx_seq ?_
  refine hx_region ?_
  refine WL.qq (by simp only [EN, Nat.reduceEqDiff, reduceIte, qv_makeFunc, AR, hB1.cell]; rfl) ?_
  refine WL.qq (by simp only [EN, Nat.reduceEqDiff, reduceIte, qv_assign, hB1.cell]; rfl) ?_
  refine WL.nil ?_
  refine th_norm ?_
  refine hx_ret ?_
  refine fin_ret [.tmp 2] rfl rfl (by simp only [EN, Nat.reduceEqDiff, reduceIte, resv, e0, hB1.cell]; rfl) ?_  -- ret 0 r1
  exact ⟨hx1, B1, rfl, hB1⟩
theorem mapL (l : List Int) : l.map iV = l.flatMap intL := by
  induction l with
  | nil => rfl
  | cons a l ih => rw [List.map_cons, ih, List.flatMap_cons]; rfl
theorem c_sorted (Bm m : Nat) (l : List M2) (hlen : l.length ≤ 1000000) {h : Heap} (hB : Has h Bm (.cells #[.map (some m)] 81)) (hm : MapT iV Value.string h m l) :
    HCalls Try.prog 51 #[.func (.func 55) #[] #[.pointer (some ⟨Bm, 0, none⟩)]] h
      fun v h' => Ext h h' ∧ ∃ a cap, v = .slice a (srt (l.map Prod.fst)).length cap ∧ SlG 1 intL h' a (srt (l.map Prod.fst)) := by
  refine hcalls2 Try.func51 rfl (by decide +kernel) (by simp only [Try.ntmps51]; exact of_decide_eq_true rfl) ?_
  intro e hin
  have e0 := hin 0 _ rfl
  refine hx_seq ?_
  refine hx_region ?_
  refine WL.qq (by simp only [EN, Nat.reduceEqDiff, reduceIte, qv_assign]; rfl) ?_
  refine WL.nil ?_
  refine th_norm ?_
  refine hx_seq ?_
  refine hx_region ?_
  refine WL.qq (by simp only [EN, Nat.reduceEqDiff, reduceIte, qv_move, e0]; rfl) ?_
  refine WL.ce Try.call53 (by simp only [EN, Nat.reduceEqDiff, reduceIte, AR]; exact c_collect Bm m l hlen hB hm) ?_
  rintro _ h1 ⟨hx1, s, hs, ho⟩
  simp only [put_some]
  refine WL.qq (by simp only [EN, Nat.reduceEqDiff, reduceIte, qv_assign]; rfl) ?_
  refine WL.nil ?_
  refine th_norm ?_
  refine hx_seq ?_
  refine hx_region ?_
  have hsl := hs.length_eq; rw [List.length_map] at hsl
  refine WL.qq (by simp only [EN, Nat.reduceEqDiff, reduceIte, qv_move]; rfl) ?_
  refine WL.ce Try.call54 (by simp only [EN, Nat.reduceEqDiff, reduceIte, AR]; exact c_sort ho (by omega)) ?_
  rintro v2 h2 ⟨ho2, hg2⟩
  have hE2 := hg2.ext hx1 (fun c hc => (ho.block c hc).1)
  refine WL.nil ?_
  refine th_norm ?_
  refine hx_seq ?_
  refine hx_region ?_
  refine WL.qq (by simp only [EN, Nat.reduceEqDiff, reduceIte, qv_move]; rfl) ?_
  refine WL.qq (by simp only [EN, Nat.reduceEqDiff, reduceIte, qv_assign]; rfl) ?_
  refine WL.nil ?_
  refine th_norm ?_
  refine hx_ret ?_
  refine fin_ret [.tmp 2] rfl rfl (by simp only [EN, Nat.reduceEqDiff, reduceIte, resv, e0]; rfl) ?_  -- ret 0 r3
  rw [srt_eq hs, mapL] at ho2
  have hl2 : s.length = (srt (l.map Prod.fst)).length := (by rw [(srt_perm _).length_eq, hs.length_eq])
  obtain ⟨a, cap, hv, _, h2, _⟩ := Own.slG (f := intL) (sz := 1) (fun _ => rfl) ho2 hl2
  exact ⟨hE2, a, cap, hv, h2⟩
end GL


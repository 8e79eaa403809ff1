/- Limits: members that are mentioned, valid flows, the net amounts after flows, the outflows. -/
import Derived.Test.YtenjmnpefmjdfaaLimA
set_option linter.unusedSimpArgs false
set_option linter.unusedVariables false
set_option linter.unnecessarySimpa false
namespace GL
open Go Go.Proofs
set_option maxRecDepth 8000
/-! Members. -/
def ment (x : L2) : List ByteArray := if x.1.t = em then [x.1.f] else [x.1.f, x.1.t]
def ments (l : List L2) : List ByteArray := l.flatMap ment
def nub : List ByteArray → List ByteArray
  | [] => []
  | a :: l => if a ∈ nub l then nub l else a :: nub l
theorem mem_nub {a : ByteArray} : ∀ {l : List ByteArray}, a ∈ nub l ↔ a ∈ l
  | [] => Iff.rfl
  | b :: l => by
    simp only [nub]
    split
    · rename_i h
      rw [mem_nub, List.mem_cons]
      refine ⟨.inr, fun h2 => h2.elim (fun hh => ?_) id⟩
      subst hh; exact mem_nub.1 h
    · rw [List.mem_cons, mem_nub, List.mem_cons]
theorem nub_nd : ∀ l : List ByteArray, (nub l).Nodup
  | [] => List.nodup_nil
  | b :: l => by
    simp only [nub]
    split
    · exact nub_nd l
    · rename_i h; exact List.nodup_cons.2 ⟨h, nub_nd l⟩
theorem nub_len {l m : List ByteArray} (hn : m.Nodup) (h : ∀ a, a ∈ m ↔ a ∈ l) : m.length = (nub l).length :=
  ((List.perm_ext_iff_of_nodup hn (nub_nd l)).2 fun a => (h a).trans mem_nub.symm).length_eq
/-- The number of members that limits and net amounts mention. -/
def cntM (ls ns : List L2) : Nat := (nub (ments ls ++ ments ns)).length
theorem cntM_congr {ls ns ls' ns' : List L2} (h : ∀ a, (a ∈ ments ls ∨ a ∈ ments ns) ↔ (a ∈ ments ls' ∨ a ∈ ments ns')) : cntM ls ns = cntM ls' ns' :=
  nub_len (nub_nd _) fun a => by rw [mem_nub, List.mem_append, List.mem_append]; exact h a
theorem mem_ments {a : ByteArray} {l : List L2} : a ∈ ments l ↔ ∃ x ∈ l, a = x.1.f ∨ (x.1.t ≠ em ∧ a = x.1.t) := by
  unfold ments
  rw [List.mem_flatMap]
  constructor
  · rintro ⟨x, hx, h⟩
    refine ⟨x, hx, ?_⟩
    unfold ment at h
    split at h
    · simp at h; exact .inl h
    · rename_i h0; simp at h; exact h.imp id fun h1 => ⟨h0, h1⟩
  · rintro ⟨x, hx, h⟩
    refine ⟨x, hx, ?_⟩
    unfold ment
    split
    · rename_i h0; rcases h with h | h
      · simp [h]
      · exact absurd h0 h.1
    · rcases h with h | h
      · simp [h]
      · simp [h.2]
theorem mset_keys2 {κ β : Type} [DecidableEq κ] {l : List (κ × β)} {x q : κ} {v : β} : q ∈ (mset l x v).map Prod.fst ↔ q = x ∨ q ∈ l.map Prod.fst := by
  rw [mset_fst]
  by_cases h : x ∈ l.map Prod.fst
  · rw [if_pos h]
    exact ⟨.inr, fun hh => hh.elim (fun h2 => h2 ▸ h) id⟩
  · rw [if_neg h, List.mem_append, List.mem_singleton]
    exact or_comm
theorem ment_next {i : Nat} {ls ns lc : List L2} {ms mt : List (ByteArray × Bool)} (hi : i < 2) (hk : ∀ a, a ∈ ms.map Prod.fst ↔ (0 < i ∧ a ∈ ments ls) ∨ (1 < i ∧ a ∈ ments ns)) (ha : ∀ a, a ∈ ms.map Prod.fst → a ∈ mt.map Prod.fst) (hc : ∀ a, a ∈ mt.map Prod.fst → a ∈ ms.map Prod.fst ∨ a ∈ ments lc)
    (hd : ∀ y ∈ lc, ∀ a ∈ ment y, a ∈ mt.map Prod.fst) (h0 : i = 0 → lc = ls) (h1 : i = 1 → lc = ns) (a : ByteArray) : a ∈ mt.map Prod.fst ↔ (0 < i + 1 ∧ a ∈ ments ls) ∨ (1 < i + 1 ∧ a ∈ ments ns) := by
  have hd' : ∀ a ∈ ments lc, a ∈ mt.map Prod.fst := fun a h => by
    obtain ⟨y, hy, h2⟩ := List.mem_flatMap.1 h
    exact hd y hy a h2
  rcases (by omega : i = 0 ∨ i = 1) with rfl | rfl
  · rw [← h0 rfl]
    constructor
    · intro h
      rcases hc a h with h | h
      · rw [hk a] at h; simp at h
      · exact .inl ⟨by omega, h⟩
    · rintro (⟨_, h⟩ | ⟨h, _⟩)
      · exact hd' a h
      · omega
  · rw [← h1 rfl]
    constructor
    · intro h
      rcases hc a h with h | h
      · rw [hk a] at h; simp at h; exact .inl ⟨by omega, h⟩
      · exact .inr ⟨by omega, h⟩
    · rintro (⟨_, h⟩ | ⟨_, h⟩)
      · exact ha a ((hk a).2 (.inl ⟨by omega, h⟩))
      · exact hd' a h
theorem c_mentioned {h : Heap} {bl bn : Nat} {ls ns : List L2} (hl : MapT pV iV h bl ls) (hn : MapT pV iV h bn ns) :
    HCalls Try.prog 51 #[.map (some bl), .map (some bn)] h (Grow (iV (cntM ls ns)) h) := by
  refine hcalls2 Try.func51 rfl (by decide +kernel) (by simp only [Try.ntmps51]; exact of_decide_eq_true rfl) ?_
  intro e hin
  have e0 := hin 0 _ rfl
  have e1 := hin 1 _ rfl
  have kl := hl; have kn := hn
  refine hx_seq ?_
  refine hx_region ?_
  refine WL.qq (by simp only [EN, Nat.reduceEqDiff, reduceIte, qv_assign, strEq]; rfl) ?_
  refine WL.nil ?_
  refine th_norm ?_
  refine hx_seq ?_
  refine hx_region ?_
  refine WL.makeMap2 ?_
  intro h1 B1 hx1 hlt1 hB1
  replace hl := hl.ext hx1
  replace hn := hn.ext hx1
  refine WL.qq (by simp only [EN, Nat.reduceEqDiff, reduceIte, qv_assign, strEq]; rfl) ?_
  refine WL.nil ?_
  refine th_norm ?_
  refine hx_seq ?_
  refine hx_seq ?_
  refine hx_region ?_
  refine WL.qq (by simp only [EN, Nat.reduceEqDiff, reduceIte, qv_move, e0, strEq]; rfl) ?_
  refine WL.qq (by simp only [EN, Nat.reduceEqDiff, reduceIte, qv_move, e1, strEq]; rfl) ?_
  have hl1 := (Array.getElem?_eq_some_iff.1 hB1).1
  refine WL.lit2 #[(.map none), (.map none)] Try.underlying111 sz71 zr71 (by decide) (by kernel_rfl) ⟨_, (by simp only [EN, Nat.reduceEqDiff, reduceIte, AR, strEq]; simp [Instr.fill, Value.cells]; rfl), rfl⟩ ?_
  intro h2 B2 hx2 hlt2 hB2
  replace hl := hl.ext hx2
  replace hn := hn.ext hx2
  replace hB1 := hB1.ext hx2
  refine WL.qq (by simp only [EN, Nat.reduceEqDiff, reduceIte, qv_len, ln111, AR, strEq, hB2.cell]; rfl) ?_
  refine WL.qq (by simp only [EN, Nat.reduceEqDiff, reduceIte, qv_move, strEq, hB2.cell]; rfl) ?_
  refine WL.nil ?_
  refine th_norm ?_
  refine hx_block ?_
  refine hx_loopG [7, 8, 14, 15, 16, 17, 18, 19, 20, 21, 22, 23, 24, 25, 26, 27, 28, 29, 30, 31, 32, 33] (fun k e hL0 => ∃ (i : Nat) (ms : List (ByteArray × Bool)), 2 - i = k ∧ (i ≤ 2) ∧ (Ext h hL0) ∧ (MapT Value.string Value.bool hL0 B1 ms) ∧ (Has hL0 B2 (.cells #[.map (some bl), .map (some bn)] 71)) ∧ (∀ a, a ∈ ms.map Prod.fst ↔ (0 < i ∧ a ∈ ments ls) ∨ (1 < i ∧ a ∈ ments ns)) ∧ e 14 = .int .i64 i) _ ⟨0, [], rfl, ?_, ?_, ?_, ?_, ?_, ?_⟩ ?_
  · omega
  · exact ((hx1).trans (hx2))
  · exact (MapT.new hB1)
  · exact hB2
  · simp
  · simp only [EN, Nat.reduceEqDiff, reduceIte, e0, e1, strEq, hB2.cell] <;> rfl
  ·
    rintro k e0L hL0 hfr0 ⟨i, ms, rfl, hi, hE, hm, hL, hk, i14_0⟩
    have k5_0 := hfr0 5 rfl; try simp only [EN, Nat.reduceEqDiff, reduceIte, strEq, hB2.cell] at k5_0
    have k12_0 := hfr0 12 rfl; try simp only [EN, Nat.reduceEqDiff, reduceIte, strEq, hB2.cell] at k12_0
    have k13_0 := hfr0 13 rfl; try simp only [EN, Nat.reduceEqDiff, reduceIte, strEq, hB2.cell] at k13_0
    have hl := kl.ext hE; have hn := kn.ext hE
    refine hx_seq ?_
    refine hx_region ?_
    refine WL.qq (by simp only [EN, Nat.reduceEqDiff, reduceIte, qv_binOp, binv_lss, k13_0, i14_0, strEq, hB2.cell]; rfl) ?_
    refine WL.nil ?_
    refine th_norm ?_
    refine hx_seq ?_
    refine hx_cond (by simp only [EN, Nat.reduceEqDiff, reduceIte, strEq, hB2.cell]; rfl) (fun hct15 => ?_) (fun hct15 => ?_)
    ·
      try simp only [BD] at hct15
      obtain ⟨bc, lc, hbc, hmc⟩ : ∃ bc lc, GL.cell hL0 B2 i = some (.map (some bc)) ∧ MapT pV iV hL0 bc lc ∧ (i = 0 → lc = ls) ∧ (i = 1 → lc = ns) ∧ bc < h.size := (by rcases (by omega : i = 0 ∨ i = 1) with rfl | rfl; (exact ⟨bl, ls, hL.cell 0, hl, fun _ => rfl, (fun hh => by omega), kl.lt⟩); (exact ⟨bn, ns, hL.cell 1, hn, (fun hh => by omega), fun _ => rfl, kn.lt⟩))
      obtain ⟨hmc, hq0, hq1, hbch⟩ := hmc
      refine hx_skip ?_
      refine th_norm ?_
      refine hx_seq ?_
      refine hx_block ?_
      refine hx_seq ?_
      refine hx_region ?_
      refine WL.qq (by simp only [EN, Nat.reduceEqDiff, reduceIte, qv_indexAddr, k12_0, i14_0, strEq, hB2.cell]; (try simp (disch := omega) only [ix111, Int.toNat_natCast]); rfl) ?_
      refine WL.qq (by simp only [EN, Nat.reduceEqDiff, reduceIte, k5_0, k12_0, k13_0, i14_0, strEq, hB2.cell, qv_load, ld71, Int.toNat_natCast, Nat.zero_add, hbc]; rfl) ?_
      refine WL.qq (by simp only [EN, Nat.reduceEqDiff, reduceIte, qv_assign, strEq, hB2.cell]; rfl) ?_
      refine WL.nil ?_
      refine th_norm ?_
      refine hx_seq ?_
      refine hx_region ?_
      refine WL.qq (by simp only [EN, Nat.reduceEqDiff, reduceIte, qv_move, strEq, hB2.cell]; rfl) ?_
      refine WL.ef _ (e_range Try.underlying71 hmc (by simp only [EN, Nat.reduceEqDiff, reduceIte, k5_0, k12_0, k13_0, i14_0, strEq, hB2.cell])) ?_
      rintro _ h50 ⟨it, rfl, hit, hx50, hsz50, hI⟩
      simp only [put_some]
      have hml := hm.lt; have hLl := (Array.getElem?_eq_some_iff.1 hL).1; have hith : h.size ≤ it := (by rw [hit]; exact hE.size)
      replace hE := hE.trans hx50; replace hm := hm.ext hx50; replace hL := hL.ext hx50
      refine WL.nil ?_
      refine th_norm ?_
      refine hx_block ?_
      refine hx_loopG [8, 20, 21, 22, 23, 24, 25, 26, 27, 28, 29, 30, 31, 32] (fun k e hL1 => ∃ (left : List L2) (mt : List (ByteArray × Bool)), left.length = k ∧ (Ext h hL1) ∧ (IterT pV iV hL1 it bc lc left) ∧ (MapT Value.string Value.bool hL1 B1 mt) ∧ (Has hL1 B2 (.cells #[.map (some bl), .map (some bn)] 71)) ∧ (∀ a, a ∈ ms.map Prod.fst → a ∈ mt.map Prod.fst) ∧ (∀ a, a ∈ mt.map Prod.fst → a ∈ ms.map Prod.fst ∨ a ∈ ments lc) ∧ (∀ y ∈ left, y ∈ lc) ∧ (∀ y ∈ lc, y ∈ left ∨ ∀ a ∈ ment y, a ∈ mt.map Prod.fst)) _ ⟨lc, ms, rfl, ?_, ?_, ?_, ?_, ?_, ?_, ?_, ?_⟩ ?_
      · exact hE
      · exact hI
      · exact hm
      · exact hL
      · exact fun a ha => ha
      · exact fun a ha => .inl ha
      · exact fun y hy => hy
      · exact fun y hy => .inl hy
      ·
        rintro k e1L hL1 hfr1 ⟨left, mt, rfl, hE, hI, hm, hL, ha, hc, hsub, hd⟩
        have k5_1 := hfr1 5 rfl; try simp only [EN, Nat.reduceEqDiff, reduceIte, k5_0, strEq, hB2.cell] at k5_1
        have k12_1 := hfr1 12 rfl; try simp only [EN, Nat.reduceEqDiff, reduceIte, k12_0, strEq, hB2.cell] at k12_1
        have k13_1 := hfr1 13 rfl; try simp only [EN, Nat.reduceEqDiff, reduceIte, k13_0, strEq, hB2.cell] at k13_1
        have k14_1 := hfr1 14 rfl; try simp only [EN, Nat.reduceEqDiff, reduceIte, i14_0, strEq, hB2.cell] at k14_1
        have k19_1 := hfr1 19 rfl; try simp only [EN, Nat.reduceEqDiff, reduceIte, strEq, hB2.cell] at k19_1
        refine hx_seq ?_
        refine hx_region ?_
        refine WL.ef _ (e_next2 ktP hI (by simp only [EN, Nat.reduceEqDiff, reduceIte, k5_1, k12_1, k13_1, k14_1, k19_1, strEq, hB2.cell])) ?_
        rintro _ h51 ⟨bb1, vs1, rfl, hv1, hst1, hT1, hF1⟩
        simp only [put_some]
        replace hE := ext_step hE hst1 hith
        replace hm := hm.step hst1 (by omega)
        replace hL := hL.st hst1 (by omega)
        refine WL.qq (by simp only [EN, Nat.reduceEqDiff, reduceIte, k5_1, k12_1, k13_1, k14_1, k19_1, strEq, hB2.cell, qv_extract, hv1]; rfl) ?_
        refine WL.nil ?_
        refine th_norm ?_
        refine hx_seq ?_
        refine hx_cond (by simp only [EN, Nat.reduceEqDiff, reduceIte, strEq, hB2.cell]; rfl) (fun hct21 => ?_) (fun hct21 => ?_)
        ·
          try simp only [BD] at hct21
          obtain ⟨q1, left', hp1, hS⟩ := hT1 hct21; have hlen1 := hp1.length_eq; rw [List.length_cons] at hlen1; have hql := hsub q1 (hp1.mem_iff.2 (by simp))
          refine hx_skip ?_
          refine th_norm ?_
          refine hx_block ?_
          refine hx_seq ?_
          refine hx_region ?_
          refine WL.ef _ (e_entry hS (by simp only [EN, Nat.reduceEqDiff, reduceIte, k5_1, k12_1, k13_1, k14_1, k19_1, strEq, hB2.cell])) ?_
          rintro _ hX ⟨rfl, hq1x⟩
          obtain rfl : h51 = hX := hq1x.symm
          simp only [put_some]
          refine WL.qq (by simp only [EN, Nat.reduceEqDiff, reduceIte, qv_extract, AR, strEq, hB2.cell]; rfl) ?_
          have hm7 := hm.lt
          refine WL.allocSt zr76 sz76 (fun u => by simp only [EN, Nat.reduceEqDiff, reduceIte, Value.cells, strEq, hB2.cell]; rfl) ⟨rfl, rfl⟩ (by simp [Value.oneCell']) ?_
          intro h3 B3 hx3 hlt3 hB3
          replace hm := hm.ext hx3
          replace hL := hL.ext hx3
          replace hE := hE.ext hx3
          replace hS := hS.ext hx3
          refine WL.nil ?_
          refine th_norm ?_
          refine hx_seq ?_
          refine hx_region ?_
          refine WL.qq (by simp only [EN, Nat.reduceEqDiff, reduceIte, qv_move, k5_1, strEq, hB2.cell, hB3.cell]; rfl) ?_
          refine WL.qq (by simp only [EN, Nat.reduceEqDiff, reduceIte, qv_fieldAddr, fa76_0, Nat.zero_add, Nat.reduceAdd, strEq, hB2.cell, hB3.cell]; rfl) ?_
          refine WL.qq (by simp only [EN, Nat.reduceEqDiff, reduceIte, qv_load, ld9, readN, AR, Nat.zero_add, Nat.reduceAdd, strEq, hB2.cell, hB3.cell]; rfl) ?_
          refine WL.ef _ (e_mapUpdate (x := q1.1.f) (v := true) ktS Try.underlying110 hm (by simp only [EN, Nat.reduceEqDiff, reduceIte, k5_1, k12_1, k13_1, k14_1, k19_1, strEq, hB2.cell, hB3.cell]) (by simp only [EN, Nat.reduceEqDiff, reduceIte, k5_1, k12_1, k13_1, k14_1, k19_1, strEq, hB2.cell, hB3.cell]) (by simp only [EN, Nat.reduceEqDiff, reduceIte, k5_1, k12_1, k13_1, k14_1, k19_1, strEq, hB2.cell, hB3.cell] <;> rfl)) ?_
          rintro _ h42 ⟨⟨o42, hw42⟩, hm⟩
          simp only [put_none]
          replace hE := hw42.ext hE (by omega)
          replace hL := hL.wr hw42 (by omega)
          replace hS := hS.step (.inr ⟨_, hw42⟩) (by omega) (by omega)
          replace hB3 := hB3.wr hw42 (by omega)
          refine WL.nil ?_
          refine th_norm ?_
          refine hx_seq ?_
          refine hx_region ?_
          refine WL.qq (by simp only [EN, Nat.reduceEqDiff, reduceIte, qv_fieldAddr, fa76_1, Nat.zero_add, Nat.reduceAdd, strEq, hB2.cell, hB3.cell]; rfl) ?_
          refine WL.qq (by simp only [EN, Nat.reduceEqDiff, reduceIte, qv_load, ld9, readN, AR, Nat.zero_add, Nat.reduceAdd, strEq, hB2.cell, hB3.cell]; rfl) ?_
          refine WL.qq (by simp only [EN, Nat.reduceEqDiff, reduceIte, qv_binOp, binv_neq, eq9, Option.map_some, strEq, hB2.cell, hB3.cell]; rfl) ?_
          refine WL.nil ?_
          refine th_norm ?_
          refine hx_cond (by simp only [EN, Nat.reduceEqDiff, reduceIte, strEq, hB2.cell, hB3.cell]; rfl) (fun hct29 => ?_) (fun hct29 => ?_)
          ·
            try simp only [BD] at hct29
            refine hx_region ?_
            refine WL.qq (by simp only [EN, Nat.reduceEqDiff, reduceIte, qv_move, k5_1, strEq, hB2.cell, hB3.cell]; rfl) ?_
            refine WL.qq (by simp only [EN, Nat.reduceEqDiff, reduceIte, qv_fieldAddr, fa76_1, Nat.zero_add, Nat.reduceAdd, strEq, hB2.cell, hB3.cell]; rfl) ?_
            refine WL.qq (by simp only [EN, Nat.reduceEqDiff, reduceIte, qv_load, ld9, readN, AR, Nat.zero_add, Nat.reduceAdd, strEq, hB2.cell, hB3.cell]; rfl) ?_
            refine WL.ef _ (e_mapUpdate (x := q1.1.t) (v := true) ktS Try.underlying110 hm (by simp only [EN, Nat.reduceEqDiff, reduceIte, k5_1, k12_1, k13_1, k14_1, k19_1, strEq, hB2.cell, hB3.cell]) (by simp only [EN, Nat.reduceEqDiff, reduceIte, k5_1, k12_1, k13_1, k14_1, k19_1, strEq, hB2.cell, hB3.cell]) (by simp only [EN, Nat.reduceEqDiff, reduceIte, k5_1, k12_1, k13_1, k14_1, k19_1, strEq, hB2.cell, hB3.cell] <;> rfl)) ?_
            rintro _ h43 ⟨⟨o43, hw43⟩, hm⟩
            simp only [put_none]
            replace hE := hw43.ext hE (by omega)
            replace hL := hL.wr hw43 (by omega)
            replace hS := hS.step (.inr ⟨_, hw43⟩) (by omega) (by omega)
            refine WL.nil ?_
            refine bl_norm ?_
            refine th_norm ?_
            have hto : q1.1.t ≠ em := (by simpa using hct29)
            refine ⟨rfl, ?_, _, ?_, left', mset (mset mt q1.1.f true) q1.1.t true, rfl, ?_, ?_, ?_, ?_, ?_, ?_, ?_, ?_⟩  -- again 0 of loop 1
            · (repeat (first | exact Fr.refl _ _ | refine Fr.set rfl ?_ | refine Fr.put rfl ?_ | with_reducible refine Fr.put0 ?_))
            · omega
            · exact hE
            · exact hS.iter
            · exact hm
            · exact hL
            · exact fun a ha' => by rw [mset_keys2, mset_keys2]; exact .inr (.inr (ha a ha'))
            · intro a ha'; rw [mset_keys2, mset_keys2] at ha'; rcases ha' with h9 | h9 | h9; (exact .inr (mem_ments.2 ⟨q1, hql, .inr ⟨hto, h9⟩⟩)); (exact .inr (mem_ments.2 ⟨q1, hql, .inl h9⟩)); (exact hc a h9)
            · exact fun y hy => hsub y (hp1.mem_iff.2 (by simp [hy]))
            · exact perm_sub (P := fun y => ∀ a ∈ ment y, a ∈ (mset (mset mt q1.1.f true) q1.1.t true).map Prod.fst) hp1 (fun y hy => (hd y hy).imp id (fun h9 a h8 => by rw [mset_keys2, mset_keys2]; exact .inr (.inr (h9 a h8)))) (fun a h8 => by rw [mset_keys2, mset_keys2]; unfold ment at h8; rw [if_neg hto] at h8; simp at h8; rcases h8 with h8 | h8; exact .inr (.inl h8); exact .inl h8)
          ·
            try simp only [BD] at hct29
            refine hx_skip ?_
            refine bl_norm ?_
            refine th_norm ?_
            have hto : q1.1.t = em := (by simpa using hct29)
            refine ⟨rfl, ?_, _, ?_, left', mset mt q1.1.f true, rfl, ?_, ?_, ?_, ?_, ?_, ?_, ?_, ?_⟩  -- again 1 of loop 1
            · (repeat (first | exact Fr.refl _ _ | refine Fr.set rfl ?_ | refine Fr.put rfl ?_ | with_reducible refine Fr.put0 ?_))
            · omega
            · exact hE
            · exact hS.iter
            · exact hm
            · exact hL
            · exact fun a ha' => by rw [mset_keys2]; exact .inr (ha a ha')
            · intro a ha'; rw [mset_keys2] at ha'; rcases ha' with h9 | h9; (exact .inr (mem_ments.2 ⟨q1, hql, .inl h9⟩)); (exact hc a h9)
            · exact fun y hy => hsub y (hp1.mem_iff.2 (by simp [hy]))
            · exact perm_sub (P := fun y => ∀ a ∈ ment y, a ∈ (mset mt q1.1.f true).map Prod.fst) hp1 (fun y hy => (hd y hy).imp id (fun h9 a h8 => by rw [mset_keys2]; exact .inr (h9 a h8))) (fun a h8 => by rw [mset_keys2]; unfold ment at h8; rw [if_pos hto] at h8; simp at h8; exact .inl h8)
        ·
          try simp only [BD] at hct21
          obtain ⟨hl0, hmm⟩ := hF1 hct21; subst hl0
          refine hx_exit ?_
          refine th_exit ?_
          refine th_exit ?_
          refine bl_hit ?_
          refine bl_norm ?_
          refine th_norm ?_
          refine hx_region ?_
          refine WL.qq (by simp only [EN, Nat.reduceEqDiff, reduceIte, qv_binOp, binv_add, k14_1, strEq, hB2.cell]; (try simp (disch := omega) only [w64, w8, wu64]); rfl) ?_
          refine WL.qq (by simp only [EN, Nat.reduceEqDiff, reduceIte, qv_move, strEq, hB2.cell]; rfl) ?_
          refine WL.nil ?_
          refine th_norm ?_
          refine ⟨rfl, ?_, _, ?_, i + 1, mt, rfl, ?_, ?_, ?_, ?_, ?_, ?_⟩  -- again 0 of loop 0
          · (repeat (first | exact Fr.refl _ _ | refine Fr.set rfl ?_ | refine Fr.put rfl ?_ | with_reducible refine Fr.put0 ?_ | refine Fr.trans ?_ (Fr.of hfr1 rfl)))
          · omega
          · omega
          · exact hE
          · exact hm
          · exact hL
          · intro a; exact ment_next (by omega) hk ha hc (fun y hy => (hd y hy).resolve_left (by simp)) hq0 hq1 a
          · simp only [EN, Nat.reduceEqDiff, reduceIte, k5_1, k12_1, k13_1, k14_1, k19_1, strEq, hB2.cell] <;> first | rfl | (congr 1; omega)
    ·
      try simp only [BD] at hct15
      have hi2 : i = 2 := (by omega); subst hi2
      have hln := hm.len Try.underlying110
      have hcl : ms.length = cntM ls ns := (by rw [← List.length_map Prod.fst]; exact nub_len hm.nodup (fun a => by rw [hk a, List.mem_append]; simp))
      refine hx_exit ?_
      refine th_exit ?_
      refine th_exit ?_
      refine bl_hit ?_
      refine th_norm ?_
      refine hx_seq ?_
      refine hx_region ?_
      refine WL.qq (by simp only [EN, Nat.reduceEqDiff, reduceIte, qv_move, k5_0, strEq, hB2.cell]; rfl) ?_
      refine WL.qq (by simp only [EN, Nat.reduceEqDiff, reduceIte, k5_0, k12_0, k13_0, i14_0, strEq, hB2.cell, qv_len, List.map_toArray, List.map_cons, List.map_nil, List.getElem?_toArray, List.getElem?_cons_zero, hln, hcl]; rfl) ?_
      refine WL.qq (by simp only [EN, Nat.reduceEqDiff, reduceIte, qv_assign, strEq, hB2.cell]; rfl) ?_
      refine WL.nil ?_
      refine th_norm ?_
      refine hx_ret ?_
      refine fin_ret [.tmp 4] rfl rfl (by simp only [EN, Nat.reduceEqDiff, reduceIte, resv, k5_0, k12_0, k13_0, i14_0, strEq, hB2.cell]; rfl) ?_  -- ret 0 r12
      exact ⟨rfl, hE⟩
end GL


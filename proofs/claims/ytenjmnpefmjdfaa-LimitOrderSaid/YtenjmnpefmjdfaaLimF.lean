/- Limits: the list of the limits, rooms. -/
import Derived.Test.YtenjmnpefmjdfaaLimE
import Derived.Test.YtenjmnpefmjdfaaGl26
set_option linter.unusedSimpArgs false
set_option linter.unusedVariables false
set_option linter.unnecessarySimpa false
namespace GL
open Go Go.Proofs
set_option maxRecDepth 8000
/-! The order of limits. -/
def cmpL (x y : L2) : Int := orI [cmpS x.1.f y.1.f, cmpS x.1.t y.1.t]
theorem cmpS_lt {a b : ByteArray} : cmpS a b < 0 ↔ sLt a b = true := by
  unfold cmpS
  split
  · simp_all
  · split <;> simp_all
theorem cmpS_eq {a b : ByteArray} : cmpS a b = 0 ↔ a = b := by
  unfold cmpS
  split
  · rename_i h
    simp only [Int.reduceNeg, Int.reduceEq, false_iff]
    rintro rfl
    rw [sLt_irrefl] at h; cases h
  · split
    · rename_i h1 h
      simp only [Int.reduceEq, false_iff]
      rintro rfl
      rw [sLt_irrefl] at h; cases h
    · rename_i h1 h2
      simp only [true_iff]
      exact sLt_tri (by simpa using h1) (by simpa using h2)
/-- x comes before y. -/
def kLt (x y : PK) : Prop := sLt x.f y.f = true ∨ (x.f = y.f ∧ sLt x.t y.t = true)
instance (x y : PK) : Decidable (kLt x y) := inferInstanceAs (Decidable (_ ∨ _))
theorem cmpL_lt {x y : L2} : cmpL x y < 0 ↔ kLt x.1 y.1 := by
  unfold cmpL kLt
  simp only [orI]
  by_cases h : cmpS x.1.f y.1.f = 0
  · have he := cmpS_eq.1 h
    rw [if_pos h, he, sLt_irrefl]
    by_cases h2 : cmpS x.1.t y.1.t = 0
    · rw [if_pos h2, cmpS_eq.1 h2, sLt_irrefl]; simp
    · rw [if_neg h2, cmpS_lt]; simp
  · rw [if_neg h, cmpS_lt]
    have : ¬ x.1.f = y.1.f := fun hh => h (cmpS_eq.2 hh)
    simp [this]
theorem kLt_irrefl (x : PK) : ¬ kLt x x := by
  rintro (h | ⟨_, h⟩) <;> rw [sLt_irrefl] at h <;> cases h
theorem kLt_trans {x y z : PK} (h1 : kLt x y) (h2 : kLt y z) : kLt x z := by
  rcases h1 with h1 | ⟨e1, h1⟩ <;> rcases h2 with h2 | ⟨e2, h2⟩
  · exact .inl (sLt_trans h1 h2)
  · exact .inl (e2 ▸ h1)
  · exact .inl (e1 ▸ h2)
  · exact .inr ⟨e1.trans e2, sLt_trans h1 h2⟩
theorem kLt_tri {x y : PK} (h1 : ¬ kLt x y) (h2 : ¬ kLt y x) : x = y := by
  have h3 : x.f = y.f := sLt_tri (Bool.eq_false_iff.2 fun h => h1 (.inl h)) (Bool.eq_false_iff.2 fun h => h2 (.inl h))
  exact pk_eq.2 ⟨h3, sLt_tri (Bool.eq_false_iff.2 fun h => h1 (.inr ⟨h3, h⟩)) (Bool.eq_false_iff.2 fun h => h2 (.inr ⟨h3.symm, h⟩))⟩
theorem ltOf_k {x y : L2} : ltOf cmpL x y = true ↔ kLt x.1 y.1 := by rw [ltOf_iff, cmpL_lt]
theorem ltOf_kf {x y : L2} : ltOf cmpL x y = false ↔ ¬ kLt x.1 y.1 := by rw [← ltOf_k, Bool.not_eq_true]
theorem swoL : Go.Sort.SWO (ltOf cmpL) where
  irrefl x := ltOf_kf.2 (kLt_irrefl _)
  trans x y z h1 h2 := ltOf_k.2 (kLt_trans (ltOf_k.1 h1) (ltOf_k.1 h2))
  ntrans x y z h1 h2 := by
    rw [ltOf_kf] at *
    intro h
    by_cases h3 : kLt y.1 x.1
    · exact h2 (kLt_trans h3 h)
    · exact h2 (kLt_tri h1 h3 ▸ h)
set_option maxHeartbeats 1000000 in
theorem c_cmpLim (x y : L2) (h : Heap) : HCalls Try.prog 42 #[.agg (limL x).toArray, .agg (limL y).toArray] h (Grow (iV (cmpL x y)) h) := by
  refine hcalls2 Try.func42 rfl (by decide +kernel) (by simp only [Try.ntmps42]; exact of_decide_eq_true rfl) ?_
  intro e hin
  have e0 := hin 0 _ rfl
  have e1 := hin 1 _ rfl
  refine hx_seq ?_
  refine hx_region ?_
  refine WL.box2 (by simp only [EN, Nat.reduceEqDiff, reduceIte, Value.cells, e0]; rfl) ?_
  intro h1 B1 hx1 hlt1 hB1
  refine WL.box2 (by simp only [EN, Nat.reduceEqDiff, reduceIte, Value.cells, e1, hB1.cell]; rfl) ?_
  intro h2 B2 hx2 hlt2 hB2
  replace hB1 := hB1.ext hx2
  refine WL.qq (by simp only [EN, Nat.reduceEqDiff, reduceIte, qv_assign, hB1.cell, hB2.cell]; rfl) ?_
  refine WL.nil ?_
  refine th_norm ?_
  refine hx_seq ?_
  apply hx_draw2 Rel.grows [] [4, 9, 10, 11] [(4, (Spec.is (iV (cmpS x.1.f y.1.f)))), (9, (Spec.is (iV (cmpS x.1.t y.1.t)))), (10, (Spec.ls h.size #[iV (cmpS x.1.f y.1.f), iV (cmpS x.1.t y.1.t)] 3 2)), (11, (Spec.is (iV (cmpL x y))))] rfl (by decide +kernel) rfl
  refine LD.qq rfl rfl (by simp only [EN, Nat.reduceEqDiff, reduceIte, qv_fieldAddr, fa63_0, Nat.zero_add, Nat.reduceAdd, hB1.cell, hB2.cell]; rfl) ?_
  refine LD.qq rfl rfl (by simp only [EN, Nat.reduceEqDiff, reduceIte, qv_load, ld9, readN, AR, Nat.zero_add, Nat.reduceAdd, hB1.cell, hB2.cell]; rfl) ?_
  refine LD.qq rfl rfl (by simp only [EN, Nat.reduceEqDiff, reduceIte, qv_fieldAddr, fa63_0, Nat.zero_add, Nat.reduceAdd, hB1.cell, hB2.cell]; rfl) ?_
  refine LD.qq rfl rfl (by simp only [EN, Nat.reduceEqDiff, reduceIte, qv_load, ld9, readN, AR, Nat.zero_add, Nat.reduceAdd, hB1.cell, hB2.cell]; rfl) ?_
  refine LD.es rfl rfl (by intro hD hr hf; have hx : Ext _ _ := hr; have hB1 := hB1.ext hx; have hB2 := hB2.ext hx; exact EOp.mono (e_call Try.call44 (by simp only [EN, Nat.reduceEqDiff, reduceIte, e0, e1, hB1.cell, hB2.cell, List.map_toArray, List.map_cons, List.map_nil]; exact c_cmpS x.1.f y.1.f _)) (fun _ _ hh => by obtain ⟨rfl, rfl⟩ := hh; exact ⟨Ext.refl _, rfl, trivial⟩)) ?_
  intro u1_4 w1_4
  have hu4 : u1_4 = _ := w1_4
  subst hu4
  refine LD.qq rfl rfl (by simp only [EN, Nat.reduceEqDiff, reduceIte, qv_fieldAddr, fa63_1, Nat.zero_add, Nat.reduceAdd, hB1.cell, hB2.cell]; rfl) ?_
  refine LD.qq rfl rfl (by simp only [EN, Nat.reduceEqDiff, reduceIte, qv_load, ld9, readN, AR, Nat.zero_add, Nat.reduceAdd, hB1.cell, hB2.cell]; rfl) ?_
  refine LD.qq rfl rfl (by simp only [EN, Nat.reduceEqDiff, reduceIte, qv_fieldAddr, fa63_1, Nat.zero_add, Nat.reduceAdd, hB1.cell, hB2.cell]; rfl) ?_
  refine LD.qq rfl rfl (by simp only [EN, Nat.reduceEqDiff, reduceIte, qv_load, ld9, readN, AR, Nat.zero_add, Nat.reduceAdd, hB1.cell, hB2.cell]; rfl) ?_
  refine LD.es rfl rfl (by intro hD hr hf; have hx : Ext _ _ := hr; have hB1 := hB1.ext hx; have hB2 := hB2.ext hx; exact EOp.mono (e_call Try.call44 (by simp only [EN, Nat.reduceEqDiff, reduceIte, e0, e1, hB1.cell, hB2.cell, List.map_toArray, List.map_cons, List.map_nil]; exact c_cmpS x.1.t y.1.t _)) (fun _ _ hh => by obtain ⟨rfl, rfl⟩ := hh; exact ⟨Ext.refl _, rfl, trivial⟩)) ?_
  intro u1_9 w1_9
  have hu9 : u1_9 = _ := w1_9
  subst hu9
  refine LD.es rfl rfl (by intro hD hr hf; have hx : Ext _ _ := hr; have hB1 := hB1.ext hx; have hB2 := hB2.ext hx; exact e_litN (Nat.le_trans (Ext.size ((hx1).trans (hx2))) hx.size) #[iV 0, iV 0] Try.underlying108 sz3 zr3 (by decide) (by kernel_rfl) ⟨_, (by simp only [EN, Nat.reduceEqDiff, reduceIte, e0, e1, hB1.cell, hB2.cell, AR]; simp [Instr.fill, Value.cells] <;> rfl), rfl⟩) ?_
  intro u1_10 w1_10
  obtain ⟨B10, hlt10, rfl⟩ := w1_10
  refine LD.es rfl rfl (by intro hD hr hf; have hx : Ext _ _ := hr; have hB1 := hB1.ext hx; have hB2 := hB2.ext hx; have m10 := hf (10, .slice (some ⟨B10, 0, none⟩) 2 2) (by simp) (by show tb _ _ 10 = true; decide +kernel) _ rfl B10 rfl; exact EOp.mono (e_call Try.call43 (by simp only [EN, Nat.reduceEqDiff, reduceIte, e0, e1, hB1.cell, hB2.cell, List.map_toArray, List.map_cons, List.map_nil]; exact c_orI (some ⟨B10, 0, none⟩) [cmpS x.1.f y.1.f, cmpS x.1.t y.1.t] 2 (by simp) (slG_has (f := intL) (sz := 1) (L := [cmpS x.1.f y.1.f, cmpS x.1.t y.1.t]) (fun _ => rfl) m10 rfl))) (fun _ _ hh => by obtain ⟨rfl, rfl⟩ := hh; exact ⟨Ext.refl _, rfl, trivial⟩)) ?_
  intro u1_11 w1_11
  have hu11 : u1_11 = _ := w1_11
  subst hu11
  refine LD.qq rfl rfl (by simp only [EN, Nat.reduceEqDiff, reduceIte, qv_assign, hB1.cell, hB2.cell]; rfl) ?_
  refine LD.nil ?_
  rintro h3 hx3 hF1
  replace hx3 : Ext _ _ := hx3
  replace hB1 := hB1.ext hx3
  replace hB2 := hB2.ext hx3
  refine WL.nil ?_
  refine th_norm ?_
  refine hx_ret ?_
  refine fin_ret [.tmp 4] rfl rfl (by simp only [EN, Nat.reduceEqDiff, reduceIte, resv, e0, e1, hB1.cell, hB2.cell]; rfl) ?_  -- ret 0 r1
  exact ⟨rfl, ((hx1).trans ((hx2).trans (hx3)))⟩
/-- The limits in their order. -/
def kSorted (l : List L2) : Prop := l.Pairwise fun x y => kLt x.1 y.1
theorem sorted_of {l : List L2} (hn : (l.map Prod.fst).Nodup) (h : l.Pairwise fun x y => ltOf cmpL y x = false) : kSorted l := by
  have hn' : l.Pairwise fun x y => x.1 ≠ y.1 := List.pairwise_map.1 hn
  refine (List.pairwise_and_iff.2 ⟨h, hn'⟩).imp ?_
  rintro x y ⟨h1, h2⟩
  rw [ltOf_kf] at h1
  exact Decidable.byContradiction fun h3 => h2 (kLt_tri h3 h1)
theorem sorted_uniq {l m : List L2} (hl : kSorted l) (hm : kSorted m) (hp : l.Perm m) : l = m := by
  unfold kSorted at hl hm
  exact List.Perm.eq_of_pairwise (le := fun x y => kLt x.1 y.1) (fun a b _ _ h1 h2 => absurd (kLt_trans h1 h2) (kLt_irrefl _)) hl hm hp
theorem isAggL (w : World) : (isAgg (Try.sortLim_ren.t 24)).run Try.prog w = .ok true w := run_isAgg_of (by kernel_rfl) w
theorem szL (w : World) : (Go.sizeOf (Try.sortLim_ren.t 24)).run Try.prog w = .ok 3 w := run_sizeOf_of (by kernel_rfl) w
instance : Inhabited PK := ⟨⟨em, em⟩⟩
section
variable {h h' : Heap} {p bl bn : Nat} {ls ns : List L2}
theorem c_Limits (hll : ls.length ≤ 1000000) (hb : IsTb h p bl bn ls ns) :
    HCalls Try.prog 28 #[.pointer (some ⟨p, 0, none⟩)] h fun v h' => Ext h h' ∧ ∃ L a cap, v = .slice a L.length cap ∧ SlG 3 limL h' a L ∧ kSorted L ∧ L.Perm ls := by
  refine hcalls2 Try.func28 rfl (by decide +kernel) (by simp only [Try.ntmps28]; exact of_decide_eq_true rfl) ?_
  intro e hin
  have e0 := hin 0 _ rfl
  refine hx_seq ?_
  refine hx_region ?_
  refine WL.qq (by simp only [EN, Nat.reduceEqDiff, reduceIte, qv_assign, hb.blk.cell]; rfl) ?_
  refine WL.nil ?_
  refine th_norm ?_
  refine hx_seq ?_
  refine hx_seq ?_
  refine hx_region ?_
  refine WL.qq (by simp only [EN, Nat.reduceEqDiff, reduceIte, qv_move, e0, hb.blk.cell]; rfl) ?_
  refine WL.qq (by simp only [EN, Nat.reduceEqDiff, reduceIte, qv_binOp, binv_eql, eqz24, eqn24, eqm24, Option.map_some, hb.blk.cell]; rfl) ?_
  refine WL.nil ?_
  refine th_norm ?_
  refine hx_cond (by simp only [EN, Nat.reduceEqDiff, reduceIte, hb.blk.cell]; rfl) (fun hct7 => ?_) (fun hct7 => ?_)
  ·
    simp at hct7
  ·
    try simp only [BD] at hct7
    refine hx_skip ?_
    refine th_norm ?_
    refine hx_seq ?_
    refine hx_region ?_
    refine WL.qq (by simp only [EN, Nat.reduceEqDiff, reduceIte, qv_assign, hb.blk.cell]; rfl) ?_
    refine WL.nil ?_
    refine th_norm ?_
    refine hx_seq ?_
    refine hx_seq ?_
    refine hx_region ?_
    refine WL.qq (by simp only [EN, Nat.reduceEqDiff, reduceIte, qv_move, e0, hb.blk.cell]; rfl) ?_
    refine WL.qq (by simp only [EN, Nat.reduceEqDiff, reduceIte, qv_nilCheck, hb.blk.cell]; rfl) ?_
    refine WL.qq (by simp only [EN, Nat.reduceEqDiff, reduceIte, qv_fieldAddr, fa73_0, Nat.zero_add, Nat.reduceAdd, hb.blk.cell]; rfl) ?_
    refine WL.qq (by simp only [EN, Nat.reduceEqDiff, reduceIte, qv_load, ld71, readN, AR, Nat.zero_add, Nat.reduceAdd, hb.blk.cell]; rfl) ?_
    refine WL.ef _ (e_range Try.underlying71 hb.lim (by simp only [EN, Nat.reduceEqDiff, reduceIte, e0, hb.blk.cell])) ?_
    rintro _ h50 ⟨it, rfl, hit, hx50, hsz50, hI⟩
    simp only [put_some]
    refine WL.nil ?_
    refine th_norm ?_
    refine hx_block ?_
    refine hx_loopG [3, 4, 5, 13, 14, 15, 16, 17, 18, 19, 20, 21, 22, 23, 24, 25, 26] (fun k e hL0 => ∃ (left : List L2) (out : List L2) (v : Value), left.length = k ∧ (Ext h hL0) ∧ (IterT pV iV hL0 it bl ls left) ∧ ((out ++ left).Perm ls) ∧ (Own hL0 h.size 63 3 v out.length (out.flatMap limL)) ∧ e 3 = v) _ ⟨ls, [], .slice none 0 0, rfl, ?_, ?_, ?_, ?_, ?_⟩ ?_
    · exact hx50
    · exact hI
    · exact .refl _
    · exact Own.nil
    · simp only [EN, Nat.reduceEqDiff, reduceIte, e0, hb.blk.cell] <;> rfl
    ·
      rintro k e0L hL0 hfr0 ⟨left, out, v, rfl, hE, hI, hp, ho, i3_0⟩
      have k12_0 := hfr0 12 rfl; try simp only [EN, Nat.reduceEqDiff, reduceIte, hb.blk.cell] at k12_0
      refine hx_seq ?_
      refine hx_region ?_
      refine WL.ef _ (e_next2 ktP hI (by simp only [EN, Nat.reduceEqDiff, reduceIte, k12_0, i3_0, hb.blk.cell])) ?_
      rintro _ h51 ⟨bb1, vs1, rfl, hv1, hst1, hT1, hF1⟩
      simp only [put_some]
      replace ho := ho.keep (fun c hc => by rcases hst1 with rfl | ⟨o, hw⟩; rfl; exact hw.same c (fun hh => by subst hh; have h9 := ho.typ _ hc; obtain ⟨cur, h8⟩ := h9; exact hI.notCells h8))
      replace hE := ext_step hE hst1 (by omega)
      refine WL.qq (by simp only [EN, Nat.reduceEqDiff, reduceIte, k12_0, i3_0, hb.blk.cell, qv_extract, hv1]; rfl) ?_
      refine WL.nil ?_
      refine th_norm ?_
      refine hx_seq ?_
      refine hx_cond (by simp only [EN, Nat.reduceEqDiff, reduceIte, hb.blk.cell]; rfl) (fun hct14 => ?_) (fun hct14 => ?_)
      ·
        try simp only [BD] at hct14
        obtain ⟨q1, left', hp1, hS⟩ := hT1 hct14; have hlen1 := hp1.length_eq; rw [List.length_cons] at hlen1
        have hol : out.length + left.length = ls.length := (by rw [← hp.length_eq, List.length_append])
        refine hx_skip ?_
        refine th_norm ?_
        refine hx_block ?_
        refine hx_seq ?_
        refine hx_region ?_
        refine WL.ef _ (e_entry hS (by simp only [EN, Nat.reduceEqDiff, reduceIte, k12_0, i3_0, hb.blk.cell])) ?_
        rintro _ hX ⟨rfl, hq1x⟩
        obtain rfl : h51 = hX := hq1x.symm
        simp only [put_some]
        refine WL.qq (by simp only [EN, Nat.reduceEqDiff, reduceIte, qv_extract, AR, hb.blk.cell]; rfl) ?_
        refine WL.qq (by simp only [EN, Nat.reduceEqDiff, reduceIte, qv_extract, AR, hb.blk.cell]; rfl) ?_
        refine WL.allocSt zr76 sz76 (fun u => by simp only [EN, Nat.reduceEqDiff, reduceIte, Value.cells, hb.blk.cell]; rfl) ⟨rfl, rfl⟩ (by simp [Value.oneCell']) ?_
        intro h1 B1 hx1 hlt1 hB1
        replace hE := hE.ext hx1
        replace ho := ho.ext hx1
        replace hS := hS.ext hx1
        refine WL.qq (by simp only [EN, Nat.reduceEqDiff, reduceIte, qv_assign, hb.blk.cell, hB1.cell]; rfl) ?_
        refine WL.nil ?_
        refine th_norm ?_
        refine hx_region ?_
        refine WL.qq (by simp only [EN, Nat.reduceEqDiff, reduceIte, qv_move, i3_0, hb.blk.cell, hB1.cell]; rfl) ?_
        refine WL.qq (by simp only [EN, Nat.reduceEqDiff, reduceIte, qv_fieldAddr, fa76_0, Nat.zero_add, Nat.reduceAdd, hb.blk.cell, hB1.cell]; rfl) ?_
        refine WL.qq (by simp only [EN, Nat.reduceEqDiff, reduceIte, qv_load, ld9, readN, AR, Nat.zero_add, Nat.reduceAdd, hb.blk.cell, hB1.cell]; rfl) ?_
        refine WL.qq (by simp only [EN, Nat.reduceEqDiff, reduceIte, qv_fieldAddr, fa76_1, Nat.zero_add, Nat.reduceAdd, hb.blk.cell, hB1.cell]; rfl) ?_
        refine WL.qq (by simp only [EN, Nat.reduceEqDiff, reduceIte, qv_load, ld9, readN, AR, Nat.zero_add, Nat.reduceAdd, hb.blk.cell, hB1.cell]; rfl) ?_
        refine WL.qq (by simp only [EN, Nat.reduceEqDiff, reduceIte, qv_move, hb.blk.cell, hB1.cell]; rfl) ?_
        refine WL.qq (by refine qv_bld (by simp only [EN, Nat.reduceEqDiff, reduceIte, AR, hb.blk.cell, hB1.cell] <;> rfl) (by rw [bl63]; simp [Instr.fill, Value.cells]; rfl)) ?_
        refine WL.push (bytes := 40) Try.underlying59 (inf_of Try.type63) rfl rfl rfl rfl (by decide) (by decide) sz63 zr63 (fun u => by simp only [EN, Nat.reduceEqDiff, reduceIte, k12_0, i3_0, hb.blk.cell, hB1.cell]) ho (by simp only [EN, Nat.reduceEqDiff, reduceIte, k12_0, i3_0, hb.blk.cell, hB1.cell, Value.cells]; rfl) rfl (by simp [Value.oneCell']) (by simp only [maxLen]; omega) (by omega) hE.size ?_
        intro h40 v40 B40 ho40 hg40 hp40 hn40
        replace hE := hg40.ext hE (fun c hc => (ho.block c hc).1)
        have hS2 := hS.iter.gr hg40 (ho.nmap hS.iter.map) (fun hh => by obtain ⟨cur, h8⟩ := ho.typ _ hh; exact hS.iter.notCells h8)
        skip
        refine WL.qq (by simp only [EN, Nat.reduceEqDiff, reduceIte, qv_assign, hb.blk.cell, hB1.cell]; rfl) ?_
        refine WL.nil ?_
        refine bl_norm ?_
        refine th_norm ?_
        refine ⟨rfl, ?_, _, ?_, left', out ++ [q1], v40, rfl, ?_, ?_, ?_, ?_, ?_⟩  -- again 0 of loop 0
        · (repeat (first | exact Fr.refl _ _ | refine Fr.set rfl ?_ | refine Fr.put rfl ?_ | with_reducible refine Fr.put0 ?_))
        · omega
        · exact hE
        · exact hS2
        · rw [List.append_assoc]; exact (hp1.append_left out).symm.trans hp
        · rw [List.length_append, List.flatMap_append]; exact ho40
        · simp only [EN, Nat.reduceEqDiff, reduceIte, k12_0, i3_0, hb.blk.cell, hB1.cell] <;> first | rfl | (congr 1; omega)
      ·
        try simp only [BD] at hct14
        obtain ⟨hl0, hmm⟩ := hF1 hct14; subst hl0
        rw [List.append_nil] at hp
        have hol : out.length = ls.length := hp.length_eq
        refine hx_exit ?_
        refine th_exit ?_
        refine th_exit ?_
        refine bl_hit ?_
        refine th_norm ?_
        refine hx_seq ?_
        refine hx_region ?_
        refine WL.qq (by simp only [EN, Nat.reduceEqDiff, reduceIte, qv_move, i3_0, hb.blk.cell]; rfl) ?_
        refine WL.ce Try.call41 (by simp only [EN, Nat.reduceEqDiff, reduceIte, k12_0, i3_0, hb.blk.cell, AR]; exact hc_sort Try.sortLim isAggL szL (fun _ => rfl) (fun x u hu => by simp at hu; rcases hu with rfl | rfl | rfl <;> rfl) swoL Try.call42 c_cmpLim ho rfl (by omega) (by decide)) ?_
        rintro _ h60 ⟨L, hLp, hLs, hLo, hLg⟩
        simp only [put_some]
        replace hE := hLg.ext hE (fun c hc => (ho.block c hc).1)
        refine WL.nil ?_
        refine th_norm ?_
        refine hx_seq ?_
        refine hx_region ?_
        refine WL.qq (by simp only [EN, Nat.reduceEqDiff, reduceIte, qv_move, i3_0, hb.blk.cell]; rfl) ?_
        refine WL.qq (by simp only [EN, Nat.reduceEqDiff, reduceIte, qv_assign, hb.blk.cell]; rfl) ?_
        refine WL.nil ?_
        refine th_norm ?_
        refine hx_ret ?_
        refine fin_ret [.tmp 2] rfl rfl (by simp only [EN, Nat.reduceEqDiff, reduceIte, resv, k12_0, i3_0, hb.blk.cell]; rfl) ?_  -- ret 0 r9
        have hperm := hLp.trans hp
        obtain ⟨a, cap, h1, _, h2, _⟩ := Own.slG (f := limL) (sz := 3) (fun _ => rfl) hLo hLp.length_eq.symm
        exact ⟨hE, L, a, cap, h1, h2, sorted_of ((hperm.map Prod.fst).nodup_iff.2 hb.lim.nodup) hLs, hperm⟩
/-! Rooms. -/
def roomV (ls : List L2) (k : PK) (u : Int) : Value := .tuple #[iV (if (ls.lookup k).isSome = true then IntKind.i64.wrap (lk ls k - u) else 0), .bool (ls.lookup k).isSome]
theorem c_room (k : PK) (u : Int) {g : Nat} {cap : Array Value} (eg : ∀ args w, (callFunc g args).run Try.prog w = .ok (.enter g args) w) (hu : ∀ hx, Ext h hx → HCalls Try.prog g cap hx (Grow (iV u) hx)) (hb : IsTb h p bl bn ls ns) :
    HCalls Try.prog 45 #[.pointer (some ⟨p, 0, none⟩), pV k, .func (.func g) #[] cap] h (Grow (roomV ls k u) h) := by
  refine hcalls2 Try.func45 rfl (by decide +kernel) (by simp only [Try.ntmps45]; exact of_decide_eq_true rfl) ?_
  intro e hin
  have e0 := hin 0 _ rfl
  have e1 := hin 1 _ rfl
  have e2 := hin 2 _ rfl
  refine hx_seq ?_
  refine hx_region ?_
  refine WL.box2 (by simp only [EN, Nat.reduceEqDiff, reduceIte, Value.cells, e1, hb.blk.cell]; rfl) ?_
  intro h1 B1 hx1 hlt1 hB1
  replace hb := hb.ext hx1
  refine WL.qq (by simp only [EN, Nat.reduceEqDiff, reduceIte, qv_assign, hb.blk.cell, hB1.cell]; rfl) ?_
  refine WL.qq (by simp only [EN, Nat.reduceEqDiff, reduceIte, qv_assign, hb.blk.cell, hB1.cell]; rfl) ?_
  refine WL.nil ?_
  refine th_norm ?_
  refine hx_seq ?_
  refine hx_seq ?_
  refine hx_region ?_
  refine WL.qq (by simp only [EN, Nat.reduceEqDiff, reduceIte, qv_move, e0, hb.blk.cell, hB1.cell]; rfl) ?_
  refine WL.qq (by simp only [EN, Nat.reduceEqDiff, reduceIte, qv_binOp, binv_eql, eqz24, eqn24, eqm24, Option.map_some, hb.blk.cell, hB1.cell]; rfl) ?_
  refine WL.nil ?_
  refine th_norm ?_
  refine hx_cond (by simp only [EN, Nat.reduceEqDiff, reduceIte, hb.blk.cell, hB1.cell]; rfl) (fun hct11 => ?_) (fun hct11 => ?_)
  ·
    simp at hct11
  ·
    try simp only [BD] at hct11
    refine hx_skip ?_
    refine th_norm ?_
    refine hx_seq ?_
    apply hx_draw2 Rel.same [] [] [] rfl (by decide +kernel) rfl
    refine LD.qq rfl rfl (by simp only [EN, Nat.reduceEqDiff, reduceIte, qv_move, e0, hb.blk.cell, hB1.cell]; rfl) ?_
    refine LD.qq rfl rfl (by simp only [EN, Nat.reduceEqDiff, reduceIte, qv_nilCheck, hb.blk.cell, hB1.cell]; rfl) ?_
    refine LD.qq rfl rfl (by simp only [EN, Nat.reduceEqDiff, reduceIte, qv_fieldAddr, fa73_0, Nat.zero_add, Nat.reduceAdd, hb.blk.cell, hB1.cell]; rfl) ?_
    refine LD.qq rfl rfl (by simp only [EN, Nat.reduceEqDiff, reduceIte, qv_load, ld71, readN, AR, Nat.zero_add, Nat.reduceAdd, hb.blk.cell, hB1.cell]; rfl) ?_
    refine LD.qq rfl rfl (by simp only [EN, Nat.reduceEqDiff, reduceIte, qv_load, ld76, readN, AR, Nat.zero_add, Nat.reduceAdd, hb.blk.cell, hB1.cell]; rfl) ?_
    refine LD.qq rfl rfl (by simp only [EN, Nat.reduceEqDiff, reduceIte, e0, e1, e2, hb.blk.cell, hB1.cell, qv_lookup, hb.lim.lookv (z := 0) ktP Try.underlying71 zr2 _ true]; rfl) ?_
    refine LD.qq rfl rfl (by simp only [EN, Nat.reduceEqDiff, reduceIte, qv_move, hb.blk.cell, hB1.cell]; rfl) ?_
    refine LD.qq rfl rfl (by simp only [EN, Nat.reduceEqDiff, reduceIte, qv_extract, AR, hb.blk.cell, hB1.cell]; rfl) ?_
    refine LD.qq rfl rfl (by simp only [EN, Nat.reduceEqDiff, reduceIte, qv_extract, AR, hb.blk.cell, hB1.cell]; rfl) ?_
    refine LD.qq rfl rfl (by simp only [EN, Nat.reduceEqDiff, reduceIte, qv_assign, hb.blk.cell, hB1.cell]; rfl) ?_
    refine LD.qq rfl rfl (by simp only [EN, Nat.reduceEqDiff, reduceIte, qv_assign, hb.blk.cell, hB1.cell]; rfl) ?_
    refine LD.nil ?_
    rintro _ rfl -
    refine WL.nil ?_
    refine th_norm ?_
    refine hx_seq ?_
    refine hx_seq ?_
    refine hx_region ?_
    refine WL.qq (by simp only [EN, Nat.reduceEqDiff, reduceIte, qv_move, hb.blk.cell, hB1.cell]; rfl) ?_
    refine WL.qq (by simp only [EN, Nat.reduceEqDiff, reduceIte, qv_unOp, unv_not, hb.blk.cell, hB1.cell]; rfl) ?_
    refine WL.nil ?_
    refine th_norm ?_
    refine hx_cond (by simp only [EN, Nat.reduceEqDiff, reduceIte, hb.blk.cell, hB1.cell]; rfl) (fun hct22 => ?_) (fun hct22 => ?_)
    ·
      try simp only [BD] at hct22
      refine hx_seq ?_
      refine hx_region ?_
      refine WL.qq (by simp only [EN, Nat.reduceEqDiff, reduceIte, qv_assign, hb.blk.cell, hB1.cell]; rfl) ?_
      refine WL.qq (by simp only [EN, Nat.reduceEqDiff, reduceIte, qv_assign, hb.blk.cell, hB1.cell]; rfl) ?_
      refine WL.nil ?_
      refine th_norm ?_
      refine hx_ret ?_
      refine th_ret ?_
      refine fin_ret [.tmp 6, .tmp 7] rfl rfl (by simp only [EN, Nat.reduceEqDiff, reduceIte, resv, e0, e1, e2, hb.blk.cell, hB1.cell]; rfl) ?_  -- ret 0 r5
      have h0 : (ls.lookup k).isSome = false := (by simpa using hct22)
      exact ⟨by unfold roomV; rw [h0]; rfl, (hx1)⟩
    ·
      try simp only [BD] at hct22
      refine hx_skip ?_
      refine th_norm ?_
      refine hx_seq ?_
      refine hx_region ?_
      refine WL.qq (by simp only [EN, Nat.reduceEqDiff, reduceIte, qv_move, hb.blk.cell, hB1.cell]; rfl) ?_
      refine WL.qq (by simp only [EN, Nat.reduceEqDiff, reduceIte, qv_move, e2, hb.blk.cell, hB1.cell]; rfl) ?_
      refine WL.cf (f := g) (first := #[]) (cap := cap) (by simp only [EN, Nat.reduceEqDiff, reduceIte, e0, e1, e2, hb.blk.cell, hB1.cell]) eg (by simpa using hu _ (hx1)) ?_
      rintro _ h9 ⟨rfl, hx9⟩
      simp only [put_some]
      refine WL.qq (by simp only [EN, Nat.reduceEqDiff, reduceIte, e0, e1, e2, hb.blk.cell, hB1.cell, qv_binOp, binv_sub]; rfl) ?_
      refine WL.qq (by simp only [EN, Nat.reduceEqDiff, reduceIte, qv_assign, hb.blk.cell, hB1.cell]; rfl) ?_
      refine WL.qq (by simp only [EN, Nat.reduceEqDiff, reduceIte, qv_assign, hb.blk.cell, hB1.cell]; rfl) ?_
      refine WL.nil ?_
      refine th_norm ?_
      refine hx_ret ?_
      refine fin_ret [.tmp 6, .tmp 7] rfl rfl (by simp only [EN, Nat.reduceEqDiff, reduceIte, resv, e0, e1, e2, hb.blk.cell, hB1.cell]; rfl) ?_  -- ret 1 r6
      have h0 : (ls.lookup k).isSome = true := (by simpa using hct22)
      exact ⟨by unfold roomV; rw [h0]; rfl, Ext.trans (hx1) hx9⟩
theorem c_mr1 (a : ByteArray) {B1 B2 : Nat} (hq1 : Has h B1 (.cells #[.pointer (some ⟨p, 0, none⟩)] 24)) (hq2 : Has h B2 (.cells #[.string a] 9)) (hb : IsTb h p bl bn ls ns) :
    HCalls Try.prog 46 #[.pointer (some ⟨B1, 0, none⟩), .pointer (some ⟨B2, 0, none⟩)] h (Grow (iV (outW ns a)) h) := by
  refine hcalls2 Try.func46 rfl (by decide +kernel) (by simp only [Try.ntmps46]; exact of_decide_eq_true rfl) ?_
  intro e hin
  have e0 := hin 0 _ rfl
  have e1 := hin 1 _ rfl
  refine hx_seq ?_
  refine hx_region ?_
  refine WL.qq (by simp only [EN, Nat.reduceEqDiff, reduceIte, qv_assign, hq1.cell, hq2.cell]; rfl) ?_
  refine WL.nil ?_
  refine th_norm ?_
  refine hx_seq ?_
  refine hx_region ?_
  refine WL.qq (by simp only [EN, Nat.reduceEqDiff, reduceIte, qv_load, ld24, readN, AR, Nat.zero_add, Nat.reduceAdd, e0, hq1.cell, hq2.cell]; rfl) ?_
  refine WL.qq (by simp only [EN, Nat.reduceEqDiff, reduceIte, qv_load, ld9, readN, AR, Nat.zero_add, Nat.reduceAdd, e1, hq1.cell, hq2.cell]; rfl) ?_
  refine WL.cg Try.call21 (by simp only [EN, Nat.reduceEqDiff, reduceIte, AR, hq1.cell, hq2.cell]; exact c_Outflow a hb) ?_
  intro h1 hx1
  refine WL.qq (by simp only [EN, Nat.reduceEqDiff, reduceIte, qv_assign, hq1.cell, hq2.cell]; rfl) ?_
  refine WL.nil ?_
  refine th_norm ?_
  refine hx_ret ?_
  refine fin_ret [.tmp 2] rfl rfl (by simp only [EN, Nat.reduceEqDiff, reduceIte, resv, e0, e1, hq1.cell, hq2.cell]; rfl) ?_  -- ret 0 r1
  exact ⟨rfl, (hx1)⟩
theorem c_br1 (a b : ByteArray) {B1 B2 B3 : Nat} (hq1 : Has h B1 (.cells #[.pointer (some ⟨p, 0, none⟩)] 24)) (hq2 : Has h B2 (.cells #[.string a] 9)) (hq3 : Has h B3 (.cells #[.string b] 9)) (hb : IsTb h p bl bn ls ns) :
    HCalls Try.prog 47 #[.pointer (some ⟨B1, 0, none⟩), .pointer (some ⟨B2, 0, none⟩), .pointer (some ⟨B3, 0, none⟩)] h (Grow (iV (lk ns ⟨a, b⟩)) h) := by
  refine hcalls2 Try.func47 rfl (by decide +kernel) (by simp only [Try.ntmps47]; exact of_decide_eq_true rfl) ?_
  intro e hin
  have e0 := hin 0 _ rfl
  have e1 := hin 1 _ rfl
  have e2 := hin 2 _ rfl
  refine hx_seq ?_
  refine hx_region ?_
  refine WL.qq (by simp only [EN, Nat.reduceEqDiff, reduceIte, qv_assign, hq1.cell, hq2.cell, hq3.cell]; rfl) ?_
  refine WL.nil ?_
  refine th_norm ?_
  refine hx_seq ?_
  refine hx_region ?_
  refine WL.qq (by simp only [EN, Nat.reduceEqDiff, reduceIte, qv_load, ld24, readN, AR, Nat.zero_add, Nat.reduceAdd, e0, hq1.cell, hq2.cell, hq3.cell]; rfl) ?_
  refine WL.qq (by simp only [EN, Nat.reduceEqDiff, reduceIte, qv_load, ld9, readN, AR, Nat.zero_add, Nat.reduceAdd, e1, hq1.cell, hq2.cell, hq3.cell]; rfl) ?_
  refine WL.qq (by simp only [EN, Nat.reduceEqDiff, reduceIte, qv_load, ld9, readN, AR, Nat.zero_add, Nat.reduceAdd, e2, hq1.cell, hq2.cell, hq3.cell]; rfl) ?_
  refine WL.ck Try.call20 (by simp only [EN, Nat.reduceEqDiff, reduceIte, AR, hq1.cell, hq2.cell, hq3.cell]; exact c_Net a b hb) ?_
  refine WL.qq (by simp only [EN, Nat.reduceEqDiff, reduceIte, qv_assign, hq1.cell, hq2.cell, hq3.cell]; rfl) ?_
  refine WL.nil ?_
  refine th_norm ?_
  refine hx_ret ?_
  refine fin_ret [.tmp 3] rfl rfl (by simp only [EN, Nat.reduceEqDiff, reduceIte, resv, e0, e1, e2, hq1.cell, hq2.cell, hq3.cell]; rfl) ?_  -- ret 0 r1
  exact ⟨rfl, (Ext.refl _)⟩
theorem c_MRoom (a : ByteArray) (hb : IsTb h p bl bn ls ns) : HCalls Try.prog 29 #[.pointer (some ⟨p, 0, none⟩), .string a] h (Grow (roomV ls ⟨a, em⟩ (outW ns a)) h) := by
  refine hcalls2 Try.func29 rfl (by decide +kernel) (by simp only [Try.ntmps29]; exact of_decide_eq_true rfl) ?_
  intro e hin
  have e0 := hin 0 _ rfl
  have e1 := hin 1 _ rfl
  refine hx_seq ?_
  refine hx_region ?_
  refine WL.box2 (by simp only [EN, Nat.reduceEqDiff, reduceIte, Value.cells, e0]; rfl) ?_
  intro h1 B1 hx1 hlt1 hB1
  replace hb := hb.ext hx1
  refine WL.box2 (by simp only [EN, Nat.reduceEqDiff, reduceIte, Value.cells, e1, hB1.cell]; rfl) ?_
  intro h2 B2 hx2 hlt2 hB2
  replace hb := hb.ext hx2
  replace hB1 := hB1.ext hx2
  refine WL.qq (by simp only [EN, Nat.reduceEqDiff, reduceIte, qv_assign, hB1.cell, hB2.cell]; rfl) ?_
  refine WL.qq (by simp only [EN, Nat.reduceEqDiff, reduceIte, qv_assign, hB1.cell, hB2.cell]; rfl) ?_
  refine WL.nil ?_
  refine th_norm ?_
  refine hx_seq ?_
  refine hx_region ?_
  refine WL.qq (by simp only [EN, Nat.reduceEqDiff, reduceIte, qv_load, ld24, readN, AR, Nat.zero_add, Nat.reduceAdd, hB1.cell, hB2.cell]; rfl) ?_
  refine WL.qq (by simp only [EN, Nat.reduceEqDiff, reduceIte, qv_load, ld9, readN, AR, Nat.zero_add, Nat.reduceAdd, hB1.cell, hB2.cell]; rfl) ?_
  refine WL.qq (by refine qv_bld (by simp only [EN, Nat.reduceEqDiff, reduceIte, AR, hB1.cell, hB2.cell] <;> rfl) (by rw [bl76]; simp [Instr.fill, Value.cells]; rfl)) ?_
  refine WL.qq (by simp only [EN, Nat.reduceEqDiff, reduceIte, qv_makeFunc, AR, hB1.cell, hB2.cell]; rfl) ?_
  refine WL.cg Try.call45 (by simp only [EN, Nat.reduceEqDiff, reduceIte, AR, hB1.cell, hB2.cell]; exact c_room ⟨a, em⟩ (outW ns a) Try.call46 (fun hx he => c_mr1 a (hB1.ext he) (hB2.ext he) (hb.ext he)) hb) ?_
  intro h3 hx3
  replace hb := hb.ext hx3
  replace hB1 := hB1.ext hx3
  replace hB2 := hB2.ext hx3
  refine WL.qq (by simp only [EN, Nat.reduceEqDiff, reduceIte, qv_extract, AR, hB1.cell, hB2.cell]; rfl) ?_
  refine WL.qq (by simp only [EN, Nat.reduceEqDiff, reduceIte, qv_extract, AR, hB1.cell, hB2.cell]; rfl) ?_
  refine WL.qq (by simp only [EN, Nat.reduceEqDiff, reduceIte, qv_assign, hB1.cell, hB2.cell]; rfl) ?_
  refine WL.qq (by simp only [EN, Nat.reduceEqDiff, reduceIte, qv_assign, hB1.cell, hB2.cell]; rfl) ?_
  refine WL.nil ?_
  refine th_norm ?_
  refine hx_ret ?_
  refine fin_ret [.tmp 4, .tmp 5] rfl rfl (by simp only [EN, Nat.reduceEqDiff, reduceIte, resv, e0, e1, hB1.cell, hB2.cell]; rfl) ?_  -- ret 0 r1
  exact ⟨rfl, ((hx1).trans ((hx2).trans (hx3)))⟩
/-- The room of a bilateral limit: none for an empty payee. -/
def broomV (ls ns : List L2) (a b : ByteArray) : Value := if b = em then .tuple #[iV 0, .bool false] else roomV ls ⟨a, b⟩ (lk ns ⟨a, b⟩)
theorem c_BRoom (a b : ByteArray) (hb : IsTb h p bl bn ls ns) : HCalls Try.prog 30 #[.pointer (some ⟨p, 0, none⟩), .string a, .string b] h (Grow (broomV ls ns a b) h) := by
  refine hcalls2 Try.func30 rfl (by decide +kernel) (by simp only [Try.ntmps30]; exact of_decide_eq_true rfl) ?_
  intro e hin
  have e0 := hin 0 _ rfl
  have e1 := hin 1 _ rfl
  have e2 := hin 2 _ rfl
  refine hx_seq ?_
  refine hx_region ?_
  refine WL.box2 (by simp only [EN, Nat.reduceEqDiff, reduceIte, Value.cells, e0, strEq]; rfl) ?_
  intro h1 B1 hx1 hlt1 hB1
  replace hb := hb.ext hx1
  refine WL.box2 (by simp only [EN, Nat.reduceEqDiff, reduceIte, Value.cells, e1, strEq, hB1.cell]; rfl) ?_
  intro h2 B2 hx2 hlt2 hB2
  replace hb := hb.ext hx2
  replace hB1 := hB1.ext hx2
  refine WL.box2 (by simp only [EN, Nat.reduceEqDiff, reduceIte, Value.cells, e2, strEq, hB1.cell, hB2.cell]; rfl) ?_
  intro h3 B3 hx3 hlt3 hB3
  replace hb := hb.ext hx3
  replace hB1 := hB1.ext hx3
  replace hB2 := hB2.ext hx3
  refine WL.qq (by simp only [EN, Nat.reduceEqDiff, reduceIte, qv_assign, strEq, hB1.cell, hB2.cell, hB3.cell]; rfl) ?_
  refine WL.qq (by simp only [EN, Nat.reduceEqDiff, reduceIte, qv_assign, strEq, hB1.cell, hB2.cell, hB3.cell]; rfl) ?_
  refine WL.nil ?_
  refine th_norm ?_
  refine hx_seq ?_
  refine hx_seq ?_
  refine hx_region ?_
  refine WL.qq (by simp only [EN, Nat.reduceEqDiff, reduceIte, qv_load, ld9, readN, AR, Nat.zero_add, Nat.reduceAdd, strEq, hB1.cell, hB2.cell, hB3.cell]; rfl) ?_
  refine WL.qq (by simp only [EN, Nat.reduceEqDiff, reduceIte, qv_binOp, binv_eql, eq9, Option.map_some, strEq, hB1.cell, hB2.cell, hB3.cell]; rfl) ?_
  refine WL.nil ?_
  refine th_norm ?_
  refine hx_cond (by simp only [EN, Nat.reduceEqDiff, reduceIte, strEq, hB1.cell, hB2.cell, hB3.cell]; rfl) (fun hct9 => ?_) (fun hct9 => ?_)
  ·
    try simp only [BD] at hct9
    refine hx_seq ?_
    refine hx_region ?_
    refine WL.qq (by simp only [EN, Nat.reduceEqDiff, reduceIte, qv_assign, strEq, hB1.cell, hB2.cell, hB3.cell]; rfl) ?_
    refine WL.qq (by simp only [EN, Nat.reduceEqDiff, reduceIte, qv_assign, strEq, hB1.cell, hB2.cell, hB3.cell]; rfl) ?_
    refine WL.nil ?_
    refine th_norm ?_
    refine hx_ret ?_
    refine th_ret ?_
    refine fin_ret [.tmp 6, .tmp 7] rfl rfl (by simp only [EN, Nat.reduceEqDiff, reduceIte, resv, e0, e1, e2, strEq, hB1.cell, hB2.cell, hB3.cell]; rfl) ?_  -- ret 0 r2
    exact ⟨by unfold broomV; rw [if_pos (by simpa using hct9)]; rfl, ((hx1).trans ((hx2).trans (hx3)))⟩
  ·
    try simp only [BD] at hct9
    refine hx_skip ?_
    refine th_norm ?_
    refine hx_seq ?_
    refine hx_region ?_
    refine WL.qq (by simp only [EN, Nat.reduceEqDiff, reduceIte, qv_load, ld24, readN, AR, Nat.zero_add, Nat.reduceAdd, strEq, hB1.cell, hB2.cell, hB3.cell]; rfl) ?_
    refine WL.qq (by simp only [EN, Nat.reduceEqDiff, reduceIte, qv_load, ld9, readN, AR, Nat.zero_add, Nat.reduceAdd, strEq, hB1.cell, hB2.cell, hB3.cell]; rfl) ?_
    refine WL.qq (by simp only [EN, Nat.reduceEqDiff, reduceIte, qv_load, ld9, readN, AR, Nat.zero_add, Nat.reduceAdd, strEq, hB1.cell, hB2.cell, hB3.cell]; rfl) ?_
    refine WL.qq (by refine qv_bld (by simp only [EN, Nat.reduceEqDiff, reduceIte, AR, strEq, hB1.cell, hB2.cell, hB3.cell] <;> rfl) (by rw [bl76]; simp [Instr.fill, Value.cells]; rfl)) ?_
    refine WL.qq (by simp only [EN, Nat.reduceEqDiff, reduceIte, qv_makeFunc, AR, strEq, hB1.cell, hB2.cell, hB3.cell]; rfl) ?_
    refine WL.cg Try.call45 (by simp only [EN, Nat.reduceEqDiff, reduceIte, AR, strEq, hB1.cell, hB2.cell, hB3.cell]; exact c_room ⟨a, b⟩ (lk ns ⟨a, b⟩) Try.call47 (fun hx he => c_br1 a b (hB1.ext he) (hB2.ext he) (hB3.ext he) (hb.ext he)) hb) ?_
    intro h4 hx4
    replace hb := hb.ext hx4
    replace hB1 := hB1.ext hx4
    replace hB2 := hB2.ext hx4
    replace hB3 := hB3.ext hx4
    refine WL.qq (by simp only [EN, Nat.reduceEqDiff, reduceIte, qv_extract, AR, strEq, hB1.cell, hB2.cell, hB3.cell]; rfl) ?_
    refine WL.qq (by simp only [EN, Nat.reduceEqDiff, reduceIte, qv_extract, AR, strEq, hB1.cell, hB2.cell, hB3.cell]; rfl) ?_
    refine WL.qq (by simp only [EN, Nat.reduceEqDiff, reduceIte, qv_assign, strEq, hB1.cell, hB2.cell, hB3.cell]; rfl) ?_
    refine WL.qq (by simp only [EN, Nat.reduceEqDiff, reduceIte, qv_assign, strEq, hB1.cell, hB2.cell, hB3.cell]; rfl) ?_
    refine WL.nil ?_
    refine th_norm ?_
    refine hx_ret ?_
    refine fin_ret [.tmp 6, .tmp 7] rfl rfl (by simp only [EN, Nat.reduceEqDiff, reduceIte, resv, e0, e1, e2, strEq, hB1.cell, hB2.cell, hB3.cell]; rfl) ?_  -- ret 1 r3
    have hbe : ¬ b = em := (by simpa using hct9)
    exact ⟨by simp only [broomV, if_neg hbe]; rfl, ((hx1).trans ((hx2).trans ((hx3).trans (hx4))))⟩
end
end GL


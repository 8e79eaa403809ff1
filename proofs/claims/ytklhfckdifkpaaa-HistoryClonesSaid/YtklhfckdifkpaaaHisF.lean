/- History: bundles of the history's own; clone; Append. -/
import Derived.Test.YtklhfckdifkpaaaHisE
import Derived.Test.YtklhfckdifkpaaaGl24
set_option linter.unusedSimpArgs false
set_option linter.unusedVariables false
set_option linter.unnecessarySimpa false
namespace GL
open Go Go.Proofs
set_option maxRecDepth 8000
/-- A part whose rows lie in blocks of F. -/
structure PXr (F : Nat → Prop) (h : Heap) (x : PX) : Prop where
  sl : SlR tyPo 4 poL h x.a x.ps
  f : ∀ g off, x.a = some ⟨g, off, none⟩ → F g
  z : ∀ g off, x.a = some ⟨g, off, none⟩ → off = 0
def PXs (F : Nat → Prop) (h : Heap) (M : List PX) : Prop := ∀ m ∈ M, PXr F h m
structure BXr (F : Nat → Prop) (h : Heap) (x : BX) : Prop where
  sl : SlR tyPt 2 ptL h x.a x.ps
  f : ∀ g off, x.a = some ⟨g, off, none⟩ → F g
  ps : PXs F h x.ps
def BRs (F : Nat → Prop) (h : Heap) (xs : List BX) : Prop := ∀ x ∈ xs, BXr F h x
section
variable {F F' : Nat → Prop} {h h' : Heap}
theorem PXr.ext {x : PX} (hp : PXr F h x) (hx : Ext h h') : PXr F h' x := ⟨hp.sl.ext hx, hp.f, hp.z⟩
theorem PXs.ext {M : List PX} (hp : PXs F h M) (hx : Ext h h') : PXs F h' M := fun m hm => (hp m hm).ext hx
theorem BXr.ext {x : BX} (hp : BXr F h x) (hx : Ext h h') : BXr F h' x := ⟨hp.sl.ext hx, hp.f, hp.ps.ext hx⟩
theorem BRs.ext {xs : List BX} (hp : BRs F h xs) (hx : Ext h h') : BRs F h' xs := fun m hm => (hp m hm).ext hx
theorem PXr.mono {x : PX} (hp : PXr F h x) (hF : ∀ c, F c → F' c) : PXr F' h x := ⟨hp.sl, fun g off ha => hF g (hp.f g off ha), hp.z⟩
theorem BXr.mono {x : BX} (hp : BXr F h x) (hF : ∀ c, F c → F' c) : BXr F' h x := ⟨hp.sl, fun g off ha => hF g (hp.f g off ha), fun m hm => (hp.ps m hm).mono hF⟩
theorem BRs.mono {xs : List BX} (hp : BRs F h xs) (hF : ∀ c, F c → F' c) : BRs F' h xs := fun m hm => (hp m hm).mono hF
theorem PXr.wr {b : Nat} {o : Obj} {c : Array Value} {T : TypeId} {x : PX} (hp : PXr F h x) (hw : Wr h h' b o) (hb : Has h b (.cells c T)) (h1 : T ≠ tyPo) : PXr F h' x := ⟨hp.sl.wr hw hb h1, hp.f, hp.z⟩
theorem PXs.wr {b : Nat} {o : Obj} {c : Array Value} {T : TypeId} {M : List PX} (hp : PXs F h M) (hw : Wr h h' b o) (hb : Has h b (.cells c T)) (h1 : T ≠ tyPo) : PXs F h' M := fun m hm => (hp m hm).wr hw hb h1
theorem BXr.wr {b : Nat} {o : Obj} {c : Array Value} {T : TypeId} {x : BX} (hp : BXr F h x) (hw : Wr h h' b o) (hb : Has h b (.cells c T)) (h1 : T ≠ tyPo) (h2 : T ≠ tyPt) : BXr F h' x := ⟨hp.sl.wr hw hb h2, hp.f, hp.ps.wr hw hb h1⟩
theorem BRs.wr {b : Nat} {o : Obj} {c : Array Value} {T : TypeId} {xs : List BX} (hp : BRs F h xs) (hw : Wr h h' b o) (hb : Has h b (.cells c T)) (h1 : T ≠ tyPo) (h2 : T ≠ tyPt) : BRs F h' xs := fun m hm => (hp m hm).wr hw hb h1 h2
theorem BRs.gro {N n sz : Nat} {el : TypeId} {v : Value} {ys : List Value} {xs : List BX} (hp : BRs F h xs) (hg : Gr h h' v.ownBlock) (ho : Own h N el sz v n ys) (h1 : el ≠ tyPo) (h2 : el ≠ tyPt) : BRs F h' xs :=
  fun m hm => ⟨(hp m hm).sl.gro hg ho h2, (hp m hm).f, fun q hq => ⟨((hp m hm).ps q hq).sl.gro hg ho h1, ((hp m hm).ps q hq).f, ((hp m hm).ps q hq).z⟩⟩
theorem SlR.keep {α : Type} {el sz : Nat} {f : α → List Value} {a : Option Addr} {l : List α} (hs : SlR el sz f h a l) (hk : ∀ g off, a = some ⟨g, off, none⟩ → h'[g]? = h[g]?) : SlR el sz f h' a l :=
  ⟨fun i x hi => by
    obtain ⟨b, off, ha, hr⟩ := hs.rd i x hi
    exact ⟨b, off, ha, by rw [readN_same (hk b off ha)]; exact hr⟩,
   fun g off ha => by
    obtain ⟨cu, hc⟩ := hs.ty g off ha
    exact ⟨cu, by rw [Has, hk g off ha]; exact hc⟩⟩
theorem BRs.keep {xs : List BX} (hp : BRs F h xs) (hk : ∀ c, F c → h'[c]? = h[c]?) : BRs F h' xs :=
  fun m hm => ⟨(hp m hm).sl.keep fun g off ha => hk g ((hp m hm).f g off ha), (hp m hm).f, fun q hq => ⟨((hp m hm).ps q hq).sl.keep fun g off ha => hk g (((hp m hm).ps q hq).f g off ha), ((hp m hm).ps q hq).f, ((hp m hm).ps q hq).z⟩⟩
theorem BXr.in_ {x : BX} (hp : BXr F h x) : BXin h x := ⟨hp.sl.rd, fun p hm => (hp.ps p hm).sl.rd⟩
theorem BRs.in_ {xs : List BX} (hp : BRs F h xs) : BXs h xs := fun x hx => (hp x hx).in_
end
/-- A history that was made behind h0. -/
structure HI (h0 h : Heap) (F : Nat → Prop) (p : Nat) (l : List HB) : Prop where
  ex : ∃ v xs, Has h p (.cells #[v] tyH) ∧ Own h h0.size tyB 4 v xs.length (xs.flatMap bdL) ∧ xs.map BX.bd = l ∧ BRs F h xs
  E : Ext h0 h
  hp : h0.size ≤ p
section
variable {F F' : Nat → Prop} {h0 h1 h h' : Heap} {p : Nat} {l : List HB}
theorem HI.ext (hi : HI h0 h F p l) (hx : Ext h h') : HI h0 h' F p l := by
  obtain ⟨v, xs, q1, q2, q3, q4⟩ := hi.ex
  exact ⟨⟨v, xs, q1.ext hx, q2.ext hx, q3, q4.ext hx⟩, hi.E.trans hx, hi.hp⟩
theorem HI.base (hi : HI h1 h F p l) (hx : Ext h0 h1) : HI h0 h F p l := by
  obtain ⟨v, xs, q1, q2, q3, q4⟩ := hi.ex
  exact ⟨⟨v, xs, q1, q2.base hx.size, q3, q4⟩, hx.trans hi.E, Nat.le_trans hx.size hi.hp⟩
theorem HI.mono (hi : HI h0 h F p l) (hF : ∀ c, F c → F' c) : HI h0 h F' p l := by
  obtain ⟨v, xs, q1, q2, q3, q4⟩ := hi.ex
  exact ⟨⟨v, xs, q1, q2, q3, q4.mono hF⟩, hi.E, hi.hp⟩
theorem HI.hr (hi : HI h0 h F p l) : HR h p l := by
  obtain ⟨v, xs, q1, q2, q3, q4⟩ := hi.ex
  obtain ⟨a, cap, rfl, hle, _, hb⟩ := q2.shape
  exact ⟨a, cap, xs, q1, slG_own (f := bdL) (sz := 4) (fun _ => rfl) q2 rfl, q3, q4.in_, hle, fun x hx => by obtain ⟨g, rfl, _⟩ := hb x hx; rfl⟩
theorem HI.blk (hi : HI h0 h F p l) : ∃ cur, Has h p (.cells cur tyH) := by
  obtain ⟨v, xs, q1, q2, q3, q4⟩ := hi.ex
  exact ⟨_, q1⟩
end
set_option maxHeartbeats 1000000 in
theorem c_cloneP (b : Option Addr) (L : List PO) (cb : Nat) (hL : L.length ≤ 1000000) {h : Heap} (hs : SlG 4 poL h b L) : HCalls Try.prog 68 #[.slice b L.length cb] h fun v h' => Ext h h' ∧ Own h' h.size tyPo 4 v L.length (L.flatMap poL) := by
  cases b with
  | none =>
    have hL0 : L = [] := hs.emp
    subst hL0
    refine hcalls2 Try.func68 rfl (by decide +kernel) (by simp only [Try.ntmps68]; exact of_decide_eq_true rfl) ?_
    intro e hin
    have e0 := hin 0 _ rfl
    refine hx_seq ?_
    refine hx_region ?_
    refine WL.qq (by simp only [EN, Nat.reduceEqDiff, reduceIte, qv_assign]; rfl) ?_
    refine WL.nil ?_
    refine th_norm ?_
    refine hx_seq ?_
    refine hx_seq ?_
    refine hx_region ?_
    refine WL.qq (by simp only [EN, Nat.reduceEqDiff, reduceIte, qv_move, e0]; rfl) ?_
    refine WL.qq (by simp only [EN, Nat.reduceEqDiff, reduceIte, qv_binOp, binv_eql, eqz70, eqn70, Option.map_some]; rfl) ?_
    refine WL.nil ?_
    refine th_norm ?_
    refine hx_cond (by simp only [EN, Nat.reduceEqDiff, reduceIte]; rfl) (fun hct4 => ?_) (fun hct4 => ?_)
    ·
      try simp only [BD] at hct4
      refine hx_seq ?_
      refine hx_region ?_
      refine WL.qq (by simp only [EN, Nat.reduceEqDiff, reduceIte, qv_assign]; rfl) ?_
      refine WL.nil ?_
      refine th_norm ?_
      refine hx_ret ?_
      refine th_ret ?_
      refine fin_ret [.tmp 2] rfl rfl (by simp only [EN, Nat.reduceEqDiff, reduceIte, resv, e0]; rfl) ?_  -- ret 0 r2
      exact ⟨Ext.refl _, Own.nil⟩
    ·
      simp at hct4
  | some b =>
    obtain ⟨b, off, spot⟩ := b
    refine hcalls2 Try.func68 rfl (by decide +kernel) (by simp only [Try.ntmps68]; exact of_decide_eq_true rfl) ?_
    intro e hin
    have e0 := hin 0 _ rfl
    refine hx_seq ?_
    refine hx_region ?_
    refine WL.qq (by simp only [EN, Nat.reduceEqDiff, reduceIte, qv_assign]; rfl) ?_
    refine WL.nil ?_
    refine th_norm ?_
    refine hx_seq ?_
    refine hx_seq ?_
    refine hx_region ?_
    refine WL.qq (by simp only [EN, Nat.reduceEqDiff, reduceIte, qv_move, e0]; rfl) ?_
    refine WL.qq (by simp only [EN, Nat.reduceEqDiff, reduceIte, qv_binOp, binv_eql, eqz70, eqn70, Option.map_some]; rfl) ?_
    refine WL.nil ?_
    refine th_norm ?_
    refine hx_cond (by simp only [EN, Nat.reduceEqDiff, reduceIte]; rfl) (fun hct4 => ?_) (fun hct4 => ?_)
    ·
      simp at hct4
    ·
      try simp only [BD] at hct4
      refine hx_skip ?_
      refine th_norm ?_
      refine hx_seq ?_
      refine hx_region ?_
      refine WL.lit0 Try.underlying70 sz74 ?_
      intro h1 B1 hx1 hlt1 hB1
      replace hs := hs.ext hx1
      refine WL.qq (by simp only [EN, Nat.reduceEqDiff, reduceIte, qv_move, e0]; rfl) ?_
      refine WL.ef _ (e_copyG (f := poL) (L := L) (base := h.size) (bytes := 48) Try.underlying70 (inf_of Try.type74) rfl rfl rfl rfl (by decide) (fun _ => rfl) (by simp only [EN, Nat.reduceEqDiff, reduceIte, e0]) hB1 hlt1 (by simp only [EN, Nat.reduceEqDiff, reduceIte, e0]; rfl) rfl hs (by simp only [maxLen]; omega) (by omega) hx1.size) ?_
      rintro v40 h40 ⟨hx40, _, ho40⟩
      simp only [put_some]
      replace hx40 : Ext _ _ := hx40
      refine WL.qq (by simp only [EN, Nat.reduceEqDiff, reduceIte, qv_assign]; rfl) ?_
      refine WL.nil ?_
      refine th_norm ?_
      refine hx_ret ?_
      refine fin_ret [.tmp 2] rfl rfl (by simp only [EN, Nat.reduceEqDiff, reduceIte, resv, e0]; rfl) ?_  -- ret 0 r3
      exact ⟨hx1.trans hx40, ho40⟩
theorem Own.off0 {h : Heap} {N el sz n cap : Nat} {a : Option Addr} {xs : List Value} (ho : Own h N el sz (.slice a n cap) n xs) : ∀ g off, a = some ⟨g, off, none⟩ → off = 0 := by
  obtain ⟨a', cap', hv, _, _, hz⟩ := ho.shape
  cases hv
  intro g off ha
  obtain ⟨g', hx, _⟩ := hz _ ha
  cases hx; rfl
abbrev z0P : PX := ⟨⟨#[]⟩, none, [], 0⟩
theorem set_mid {α : Type} (M R : List α) (z y : α) : (M ++ z :: R).set M.length y = M ++ y :: R := by
  induction M with
  | nil => rfl
  | cons a M ih => simp [ih]
set_option maxHeartbeats 2000000 in
theorem c_clone (x : BX) (hlen : x.ps.length ≤ 1000000 ∧ ∀ p ∈ x.ps, p.ps.length ≤ 1000000) {h : Heap} (hbi : BXin h x) :
    HCalls Try.prog 49 #[.agg (bdL x).toArray] h fun v h' => Ext h h' ∧ ∃ y : BX, v = .agg (bdL y).toArray ∧ y.bd = x.bd ∧ BXr (fun g => h.size ≤ g) h' y := by
  have kbi := hbi
  refine hcalls2 Try.func49 rfl (by decide +kernel) (by simp only [Try.ntmps49]; exact of_decide_eq_true rfl) ?_
  intro e hin
  have e0 := hin 0 _ rfl
  refine hx_seq ?_
  refine hx_region ?_
  refine WL.box2 (by simp only [EN, Nat.reduceEqDiff, reduceIte, Value.cells, e0]; rfl) ?_
  intro h1 B1 hx1 hlt1 hB1
  have k1 := (Array.getElem?_eq_some_iff.1 hB1).1
  refine WL.alloc2 zr55 ?_
  intro h2 B2 hx2 hlt2 hB2
  replace hB1 := hB1.ext hx2
  simp only [Value.cells] at hB2
  refine WL.nil ?_
  refine th_norm ?_
  refine hx_seq ?_
  refine hx_region ?_
  refine WL.qq (by simp only [EN, Nat.reduceEqDiff, reduceIte, qv_fieldAddr, fa55_2, Nat.zero_add, Nat.reduceAdd, hB1.cell, hB2.cell]; rfl) ?_
  refine WL.qq (by simp only [EN, Nat.reduceEqDiff, reduceIte, qv_load, ld53, readN, AR, Nat.zero_add, Nat.reduceAdd, hB1.cell, hB2.cell]; rfl) ?_
  refine WL.qq (by simp only [EN, Nat.reduceEqDiff, reduceIte, qv_len, ln53, AR, hB1.cell, hB2.cell]; rfl) ?_
  refine WL.ef _ (e_makeSl (n := x.ps.length) (sz := 2) (bytes := 40) Try.underlying53 (inf_of Try.type72) rfl rfl rfl (by simp only [EN, Nat.reduceEqDiff, reduceIte, e0, hB1.cell, hB2.cell]; rfl) (by simp only [EN, Nat.reduceEqDiff, reduceIte, e0, hB1.cell, hB2.cell]; rfl) (by omega) (by simp only [maxLen]; omega)) ?_
  rintro _ h30 ⟨hx30, rfl, ho30⟩
  have kg1 : B1 < Array.size h2 := (Array.getElem?_eq_some_iff.1 hB1).1
  have kg2 : B2 < Array.size h2 := (Array.getElem?_eq_some_iff.1 hB2).1
  simp only [put_some]
  have hX30 : Ext h h30 := Ext.trans ((hx1).trans (hx2)) hx30
  replace hB1 := hB1.ext hx30
  replace hB2 := hB2.ext hx30
  have kz1 := Ext.size ((hx1).trans (hx2))
  have hzf := made_flat (f := ptL) (sz := 2) (z := z0P) (zc := (#[.string ⟨#[]⟩, .slice none 0 0] : Array Value)) rfl rfl (by decide) x.ps.length
  have ho31 : Own h30 h.size tyPt 2 (.slice (some ⟨Array.size h2, 0, none⟩) x.ps.length x.ps.length) x.ps.length ((List.replicate x.ps.length z0P).flatMap ptL) := (by rw [← hzf]; exact ho30.base kz1)
  have kz3 := hx1.size
  generalize hg0 : Array.size h2 = g at ho31 kg1 kg2 ⊢
  refine WL.qq (by simp only [EN, Nat.reduceEqDiff, reduceIte, qv_assign, hB1.cell, hB2.cell]; rfl) ?_
  refine WL.nil ?_
  refine th_norm ?_
  refine hx_seq ?_
  refine hx_seq ?_
  refine hx_region ?_
  refine WL.qq (by simp only [EN, Nat.reduceEqDiff, reduceIte, qv_fieldAddr, fa55_2, Nat.zero_add, Nat.reduceAdd, hB1.cell, hB2.cell]; rfl) ?_
  refine WL.qq (by simp only [EN, Nat.reduceEqDiff, reduceIte, qv_load, ld53, readN, AR, Nat.zero_add, Nat.reduceAdd, hB1.cell, hB2.cell]; rfl) ?_
  refine WL.qq (by simp only [EN, Nat.reduceEqDiff, reduceIte, qv_len, ln53, AR, hB1.cell, hB2.cell]; rfl) ?_
  refine WL.qq (by simp only [EN, Nat.reduceEqDiff, reduceIte, qv_move, hB1.cell, hB2.cell]; rfl) ?_
  refine WL.nil ?_
  refine th_norm ?_
  refine hx_block ?_
  refine hx_loopG [4, 5, 13, 14, 15, 16, 17, 18, 19, 20, 21, 22, 23, 24, 25, 26, 27] (fun k e hL0 => ∃ (i : Nat) (M : List PX), x.ps.length - i = k ∧ (i ≤ x.ps.length) ∧ (Ext h hL0) ∧ (Has hL0 B1 (.cells (bdL x).toArray tyB)) ∧ (Has hL0 B2 (.cells #[iV 0, iV 0, iV 0, .slice none 0 0] tyB)) ∧ (Own hL0 h.size tyPt 2 (.slice (some ⟨g, 0, none⟩) x.ps.length x.ps.length) x.ps.length ((M ++ List.replicate (x.ps.length - i) z0P).flatMap ptL)) ∧ (M.length = i) ∧ (M.map PX.pt = (x.ps.take i).map PX.pt) ∧ (PXs (fun g => h.size ≤ g) hL0 M) ∧ e 13 = .int .i64 i) _ ⟨0, [], rfl, ?_, ?_, ?_, ?_, ?_, ?_, ?_, ?_, ?_⟩ ?_
  · omega
  · exact hX30
  · exact hB1
  · exact hB2
  · rw [List.nil_append, Nat.sub_zero]; exact ho31
  · rfl
  · rfl
  · intro m hm; cases hm
  · simp only [EN, Nat.reduceEqDiff, reduceIte, e0, hB1.cell, hB2.cell] <;> rfl
  ·
    rintro k e0L hL0 hfr0 ⟨i, M, rfl, hi, hXe, hB1, hB2, ho, hMl, hM, hMr, i13_0⟩
    have k1_0 := hfr0 1 rfl; try simp only [EN, Nat.reduceEqDiff, reduceIte, hB1.cell, hB2.cell] at k1_0
    have k2_0 := hfr0 2 rfl; try simp only [EN, Nat.reduceEqDiff, reduceIte, hB1.cell, hB2.cell] at k2_0
    have k3_0 := hfr0 3 rfl; try simp only [EN, Nat.reduceEqDiff, reduceIte, hB1.cell, hB2.cell] at k3_0
    have k11_0 := hfr0 11 rfl; try simp only [EN, Nat.reduceEqDiff, reduceIte, hB1.cell, hB2.cell] at k11_0
    have k12_0 := hfr0 12 rfl; try simp only [EN, Nat.reduceEqDiff, reduceIte, hB1.cell, hB2.cell] at k12_0
    refine hx_seq ?_
    refine hx_region ?_
    refine WL.qq (by simp only [EN, Nat.reduceEqDiff, reduceIte, qv_binOp, binv_lss, k12_0, i13_0, hB1.cell, hB2.cell]; rfl) ?_
    refine WL.nil ?_
    refine th_norm ?_
    refine hx_seq ?_
    refine hx_cond (by simp only [EN, Nat.reduceEqDiff, reduceIte, hB1.cell, hB2.cell]; rfl) (fun hct14 => ?_) (fun hct14 => ?_)
    ·
      try simp only [BD] at hct14
      obtain ⟨q, hq⟩ := atG (l := x.ps) (i := i) (by omega)
      obtain ⟨b1, o1, ha1, hr2, _⟩ := pt_rd (kbi.1.ext hXe) hq
      have hrep : List.replicate (x.ps.length - i) z0P = z0P :: List.replicate (x.ps.length - (i + 1)) z0P := (by rw [show x.ps.length - i = (x.ps.length - (i + 1)) + 1 by omega]; rfl)
      rw [hrep] at ho
      have w1 := (Array.getElem?_eq_some_iff.1 hB1).1; have w2 := (Array.getElem?_eq_some_iff.1 hB2).1; have w3 := (ho.block g rfl).2; have w4 := hXe.size
      have hql := hlen.2 q (List.mem_of_getElem? hq)
      refine hx_skip ?_
      refine th_norm ?_
      refine hx_seq ?_
      refine hx_block ?_
      refine hx_seq ?_
      refine hx_region ?_
      refine WL.qq (by simp only [EN, Nat.reduceEqDiff, reduceIte, qv_move, i13_0, hB1.cell, hB2.cell]; rfl) ?_
      refine WL.qq (by simp only [EN, Nat.reduceEqDiff, reduceIte, qv_indexAddr, k11_0, i13_0, hB1.cell, hB2.cell, ha1]; (try simp (disch := omega) only [ix53, Int.toNat_natCast]); rfl) ?_
      refine WL.qq (by simp only [EN, Nat.reduceEqDiff, reduceIte, k1_0, k2_0, k3_0, k11_0, k12_0, i13_0, hB1.cell, hB2.cell, qv_load, ld72, Int.toNat_natCast, hr2]; rfl) ?_
      refine WL.alloc2 zr72 ?_
      intro h3 B3 hx3 hlt3 hB3
      replace hB1 := hB1.ext hx3
      replace hB2 := hB2.ext hx3
      replace ho := ho.ext hx3
      replace hMr := hMr.ext hx3
      simp only [Value.cells] at hB3
      refine WL.qq (by simp only [EN, Nat.reduceEqDiff, reduceIte, qv_assign, hB1.cell, hB2.cell, hB3.cell]; rfl) ?_
      refine WL.store (by simp only [EN, Nat.reduceEqDiff, reduceIte, hB1.cell, hB2.cell, hB3.cell] <;> rfl) sz72 (by simp only [EN, Nat.reduceEqDiff, reduceIte, Value.cells, hB1.cell, hB2.cell, hB3.cell] <;> rfl) rfl hB3 (by first | (simp [true_and]; done) | (simp [true_and]; omega) | omega) (by simp [Value.oneCell']) ?_
      intro h4 hw4
      replace hB1 := hB1.wr hw4 (by omega)
      replace hB2 := hB2.wr hw4 (by omega)
      have hMr4 := hMr.wr hw4 hB3 (by decide)
      replace hMr := hMr4
      replace ho := ho.keep (fun c hc => hw4.same c (by have e9 : c = g := (by cases hc; rfl); omega))
      have hX4 := hw4.ext (hXe.trans hx3) (by omega)
      replace hB3 := hw4.at_
      simp only [splc, List.take_succ_cons, List.take_zero, List.take_nil, List.drop_succ_cons, List.drop_zero, List.drop_nil, List.cons_append, List.nil_append, List.length_cons, List.length_nil, Nat.zero_add, Nat.add_zero, Nat.reduceAdd, List.append_nil] at hB3
      refine WL.nil ?_
      refine th_norm ?_
      apply hx_draw2 Rel.grows [9] [6] [(6, (Spec.own h.size tyPo 4 q.ps.length (q.ps.flatMap poL)))] rfl (by decide +kernel) rfl
      refine LD.qq rfl rfl (by simp only [EN, Nat.reduceEqDiff, reduceIte, qv_move, k3_0, hB1.cell, hB2.cell, hB3.cell]; rfl) ?_
      refine LD.qq rfl rfl (by simp only [EN, Nat.reduceEqDiff, reduceIte, qv_move, hB1.cell, hB2.cell, hB3.cell]; rfl) ?_
      refine LD.qq rfl rfl (by simp only [EN, Nat.reduceEqDiff, reduceIte, qv_fieldAddr, fa72_0, Nat.zero_add, Nat.reduceAdd, hB1.cell, hB2.cell, hB3.cell]; rfl) ?_
      refine LD.qq rfl rfl (by simp only [EN, Nat.reduceEqDiff, reduceIte, qv_load, ld9, readN, AR, Nat.zero_add, Nat.reduceAdd, hB1.cell, hB2.cell, hB3.cell]; rfl) ?_
      refine LD.qq rfl rfl (by simp only [EN, Nat.reduceEqDiff, reduceIte, qv_fieldAddr, fa72_1, Nat.zero_add, Nat.reduceAdd, hB1.cell, hB2.cell, hB3.cell]; rfl) ?_
      refine LD.qq rfl rfl (by simp only [EN, Nat.reduceEqDiff, reduceIte, qv_load, ld70, readN, AR, Nat.zero_add, Nat.reduceAdd, hB1.cell, hB2.cell, hB3.cell]; rfl) ?_
      refine LD.es rfl rfl (by intro hD hr hf; have hx : Ext _ _ := hr; have hB1 := hB1.ext hx; have hB2 := hB2.ext hx; have ho := ho.ext hx; have hMr := hMr.ext hx; have hB3 := hB3.ext hx; exact EOp.mono (R := fun v' h' => Ext hD h' ∧ Own h' (Array.size hD) tyPo 4 v' q.ps.length (q.ps.flatMap poL)) (e_call Try.call68 (by simp only [EN, Nat.reduceEqDiff, reduceIte, k1_0, k2_0, k3_0, k11_0, k12_0, i13_0, hB1.cell, hB2.cell, hB3.cell, List.map_toArray, List.map_cons, List.map_nil]; exact c_cloneP q.a q.ps q.c hql (SlG.ext (kbi.2 q (List.mem_of_getElem? hq)) (hX4.trans hx)))) (fun v' h' hh => ⟨hh.1, by obtain ⟨a, cap, hv, _⟩ := hh.2.shape; exact ⟨a, cap, hv⟩, hh.2.base (hX4.trans hx).size⟩)) ?_
      intro u5_6 w5_6
      obtain ⟨a6, c6, rfl⟩ := w5_6
      refine LD.qq rfl rfl (by refine qv_bld (by simp only [EN, Nat.reduceEqDiff, reduceIte, AR, hB1.cell, hB2.cell, hB3.cell] <;> rfl) (by rw [bl72]; simp [Instr.fill, Value.cells]; rfl)) ?_
      refine LD.qq rfl rfl (by simp only [EN, Nat.reduceEqDiff, reduceIte, qv_indexAddr, hB1.cell, hB2.cell, hB3.cell]; (try simp (disch := omega) only [ix53, Int.toNat_natCast]); rfl) ?_
      refine LD.skip rfl ?_
      refine LD.nil ?_
      rintro h5 hx5 hF5
      replace hx5 : Ext _ _ := hx5
      replace hB1 := hB1.ext hx5
      replace hB2 := hB2.ext hx5
      replace ho := ho.ext hx5
      replace hMr := hMr.ext hx5
      replace hB3 := hB3.ext hx5
      have ho6 : Own h5 h.size tyPo 4 (.slice a6 q.ps.length c6) q.ps.length (q.ps.flatMap poL) := hF5 (6, .slice a6 q.ps.length c6) (by simp) _ rfl
      obtain ⟨cur, hcur, hle, hput⟩ := ho.putAt (f := ptL) (sz := 2) (fun _ => rfl) (by simp only [List.length_append, List.length_cons, List.length_replicate]; omega) rfl (j := i) (k := 0) (y := z0P) (y' := ⟨q.r, a6, q.ps, c6⟩) (vs := [.string q.r, .slice a6 q.ps.length c6]) (by rw [List.getElem?_append_right (by omega), hMl, Nat.sub_self]; rfl) (by simp) rfl
      have hle2 : 0 + i * 2 + 2 ≤ cur.size := (by simpa using hle)
      refine WL.store (off := 0 + i * 2) (by simp only [EN, Nat.reduceEqDiff, reduceIte, k1_0, k2_0, k3_0, k11_0, k12_0, i13_0, hB1.cell, hB2.cell, hB3.cell, Int.toNat_natCast] <;> rfl) sz72 (by simp only [EN, Nat.reduceEqDiff, reduceIte, k1_0, k2_0, k3_0, k11_0, k12_0, i13_0, hB1.cell, hB2.cell, hB3.cell, Value.cells] <;> rfl) rfl hcur hle2 (by simp [Value.oneCell']) ?_
      intro h40 hw40
      have hw41 : Wr _ h40 g (.cells (splc cur (i * 2 + 0) [.string q.r, .slice a6 q.ps.length c6]) tyPt) := (by simpa using hw40)
      have ho40 := hput h40 hw41
      have kg := ho.block g rfl
      have hX40 := hw40.ext (hX4.trans hx5) kg.1
      have hs6 := (SlR.own (f := poL) (sz := 4) (fun _ => rfl) ho6 rfl).wr hw40 hcur (by decide)
      have hM40 := hMr.wr hw40 hcur (by decide)
      refine WL.nil ?_
      refine bl_norm ?_
      refine th_norm ?_
      refine hx_region ?_
      refine WL.qq (by simp only [EN, Nat.reduceEqDiff, reduceIte, qv_binOp, binv_add, i13_0, hB1.cell, hB2.cell, hB3.cell]; (try simp (disch := omega) only [w64, w8, wu64]); rfl) ?_
      refine WL.qq (by simp only [EN, Nat.reduceEqDiff, reduceIte, qv_move, hB1.cell, hB2.cell, hB3.cell]; rfl) ?_
      refine WL.nil ?_
      refine th_norm ?_
      refine ⟨rfl, ?_, _, ?_, i + 1, M ++ [⟨q.r, a6, q.ps, c6⟩], rfl, ?_, ?_, ?_, ?_, ?_, ?_, ?_, ?_, ?_⟩  -- again 0 of loop 0
      · (repeat (first | exact Fr.refl _ _ | refine Fr.set rfl ?_ | refine Fr.put rfl ?_ | with_reducible refine Fr.put0 ?_))
      · omega
      · omega
      · exact hX40
      · exact hB1.wr hw40 (hB1.ncell hcur (by decide))
      · exact hB2.wr hw40 (hB2.ncell hcur (by decide))
      · rw [← hMl, set_mid] at ho40; rw [List.append_assoc, ← hMl]; exact ho40
      · rw [List.length_append, hMl]; rfl
      · rw [List.map_append, hM, List.take_add_one, hq, List.map_append]; rfl
      · intro m hm; rcases List.mem_append.1 hm with hm | hm; exact hM40 m hm; (simp at hm; subst hm; exact ⟨hs6, fun c off ha => (ho6.block c (by have ha2 : a6 = some ⟨c, off, none⟩ := ha; rw [ha2]; rfl)).1, fun c off ha => ho6.off0 c off ha⟩)
      · simp only [EN, Nat.reduceEqDiff, reduceIte, k1_0, k2_0, k3_0, k11_0, k12_0, i13_0, hB1.cell, hB2.cell, hB3.cell] <;> first | rfl | (congr 1; omega)
    ·
      try simp only [BD] at hct14
      have hie : x.ps.length - i = 0 := (by omega)
      have hie2 : i = x.ps.length := (by omega)
      rw [hie] at ho; simp only [List.replicate_zero, List.append_nil] at ho
      have hM9 : M.map PX.pt = x.ps.map PX.pt := (by rw [hM, hie2, List.take_length])
      have hMn : M.length = x.ps.length := (by omega)
      refine hx_exit ?_
      refine th_exit ?_
      refine th_exit ?_
      refine bl_hit ?_
      refine th_norm ?_
      refine hx_seq ?_
      refine hx_region ?_
      refine WL.qq (by simp only [EN, Nat.reduceEqDiff, reduceIte, qv_move, k3_0, hB1.cell, hB2.cell]; rfl) ?_
      refine WL.qq (by simp only [EN, Nat.reduceEqDiff, reduceIte, qv_fieldAddr, fa55_2, Nat.zero_add, Nat.reduceAdd, k1_0, hB1.cell, hB2.cell]; rfl) ?_
      refine WL.store (by simp only [EN, Nat.reduceEqDiff, reduceIte, hB1.cell, hB2.cell] <;> rfl) sz53 (by simp only [EN, Nat.reduceEqDiff, reduceIte, Value.cells, hB1.cell, hB2.cell] <;> rfl) rfl hB1 (by first | (simp [true_and]; done) | (simp [true_and]; omega) | omega) (by simp [Value.oneCell']) ?_
      intro h6 hw6
      replace hB2 := hB2.wr hw6 (by omega)
      have hMr7 := hMr.wr hw6 hB1 (by decide)
      have ho7 := ho.keep (fun c hc => hw6.same c (by cases hc; exact fun hh => by subst hh; exact ho.ncell hB1 (by decide) rfl))
      have hX7 := hw6.ext hXe (by omega)
      replace hB1 := hw6.at_
      simp only [splc, List.take_succ_cons, List.take_zero, List.take_nil, List.drop_succ_cons, List.drop_zero, List.drop_nil, List.cons_append, List.nil_append, List.length_cons, List.length_nil, Nat.zero_add, Nat.add_zero, Nat.reduceAdd, List.append_nil] at hB1
      refine WL.nil ?_
      refine th_norm ?_
      refine hx_seq ?_
      refine hx_region ?_
      refine WL.qq (by simp only [EN, Nat.reduceEqDiff, reduceIte, qv_load, ld55, readN, AR, Nat.zero_add, Nat.reduceAdd, k1_0, hB1.cell, hB2.cell]; rfl) ?_
      refine WL.store (by simp only [EN, Nat.reduceEqDiff, reduceIte, k2_0, hB1.cell, hB2.cell] <;> rfl) sz55 (by simp only [EN, Nat.reduceEqDiff, reduceIte, Value.cells, k2_0, hB1.cell, hB2.cell] <;> rfl) rfl hB2 (by first | (simp [true_and]; done) | (simp [true_and]; omega) | omega) (by simp [Value.oneCell']) ?_
      intro h7 hw7
      have hMr8 := hMr7.wr hw7 hB2 (by decide)
      have ho8 := ho7.keep (fun c hc => hw7.same c (by cases hc; exact fun hh => by subst hh; exact ho7.ncell hB2 (by decide) rfl))
      have hX8 := hw7.ext hX7 (by omega)
      replace hB2 := hw7.at_
      simp only [splc, List.take_succ_cons, List.take_zero, List.take_nil, List.drop_succ_cons, List.drop_zero, List.drop_nil, List.cons_append, List.nil_append, List.length_cons, List.length_nil, Nat.zero_add, Nat.add_zero, Nat.reduceAdd, List.append_nil] at hB2
      refine WL.nil ?_
      refine th_norm ?_
      refine hx_ret ?_
      refine fin_ret [.cell 2 55] rfl rfl (by simp only [EN, Nat.reduceEqDiff, reduceIte, resv, ld55, readN, AR, Nat.zero_add, Nat.reduceAdd, k1_0, k2_0, k3_0, k11_0, k12_0, i13_0, hB1.cell, hB2.cell]; rfl) ?_  -- ret 0 r8
      exact ⟨hX8, ⟨x.s, x.day, x.mn, some ⟨g, 0, none⟩, M, x.ps.length⟩, by show Value.agg #[iV x.s, iV x.day, iV x.mn, .slice (some ⟨g, 0, none⟩) x.ps.length x.ps.length] = Value.agg #[iV x.s, iV x.day, iV x.mn, .slice (some ⟨g, 0, none⟩) M.length x.ps.length]; rw [hMn], by simp only [BX.bd]; rw [hM9], ⟨SlR.own (f := ptL) (sz := 2) (fun _ => rfl) ho8 hMn.symm, fun c off ha => (by cases ha; exact (ho8.block g rfl).1), hMr8⟩⟩
/-- The word of a clone; of a literal that holds one. -/
def Spec.cl (N : Nat) (b : HB) : Spec := ⟨fun v => ∃ y : BX, v = .agg (bdL y).toArray ∧ y.bd = b, fun v h => ∃ y : BX, v = .agg (bdL y).toArray ∧ y.bd = b ∧ BXr (fun g => N ≤ g) h y,
  ⟨.agg (bdL ⟨b.s, b.day, b.mn, none, b.pts.map fun p => ⟨p.r, none, p.ps, 0⟩, 0⟩).toArray, ⟨b.s, b.day, b.mn, none, b.pts.map fun p => ⟨p.r, none, p.ps, 0⟩, 0⟩, rfl, by cases b; simp [BX.bd, PX.pt, Function.comp_def]⟩, fun v h h' hx ⟨y, h1, h2, h3⟩ => ⟨y, h1, h2, h3.ext hx⟩⟩
def Spec.lcl (N : Nat) (b : HB) : Spec := ⟨fun v => ∃ B, N ≤ B ∧ v = .slice (some ⟨B, 0, none⟩) 1 1, fun v h => ∀ B, v = .slice (some ⟨B, 0, none⟩) 1 1 → ∃ y : BX, Has h B (.cells (bdL y).toArray tyB) ∧ y.bd = b ∧ BXr (fun g => N ≤ g) h y,
  ⟨.slice (some ⟨N, 0, none⟩) 1 1, N, Nat.le_refl _, rfl⟩, fun v h h' hx hm B hv => by obtain ⟨y, h1, h2, h3⟩ := hm B hv; exact ⟨y, h1.ext hx, h2, h3.ext hx⟩⟩
/-- Rows of other types stay as they are. -/
def TyK (h h' : Heap) : Prop := h.size ≤ h'.size ∧ ∀ (c : Nat) (cur : Array Value) (T : TypeId) (f : Nat × Nat), T ≠ tyH → T ≠ tyB → h[c]? = some (Obj.cells cur T f) → h'[c]? = some (Obj.cells cur T f)
theorem TyK.ofExt {h h' : Heap} (hx : Ext h h') : TyK h h' := ⟨hx.size, fun c cur T f _ _ hc => hx c _ hc⟩
theorem TyK.own {h h' : Heap} {N n sz : Nat} {el : TypeId} {v : Value} {xs : List Value} (hk : TyK h h') (ho : Own h N el sz v n xs) (h1 : el ≠ tyH) (h2 : el ≠ tyB) : Own h' N el sz v n xs := ho.keep fun c hc => by
  obtain ⟨cur, hcu⟩ := ho.typ c hc
  rw [hk.2 c cur el (0, 0) h1 h2 hcu]; exact hcu.symm
set_option maxHeartbeats 4000000 in
theorem c_append {h0 h : Heap} {F : Nat → Prop} {p : Nat} {l : List HB} (x : BX) (hg : GS l) (hi : HI h0 h F p l) (hin : BXin h x) (hfb : FB x.bd) :
    HCalls Try.prog 35 #[ptr p, .agg (bdL x).toArray] h fun v h' => v = iV (bdE l x.bd) ∧ HI h0 h' (fun c => F c ∨ h.size ≤ c) p (stp l x.bd) ∧ TyK h h' ∧ ∀ c o, h[c]? = some o → c ≠ p → (∀ v, Has h p (.cells #[v] tyH) → v.ownBlock ≠ some c) → h'[c]? = some o := by
  have hbi := hin
  have hi0 := hi
  obtain ⟨e9, he9⟩ : ∃ e9, bdE l x.bd = e9 := ⟨_, rfl⟩
  have hl12 := hg.n
  refine hcalls2 Try.func35 rfl (by decide +kernel) (by simp only [Try.ntmps35]; exact of_decide_eq_true rfl) ?_
  intro e hin
  have e0 := hin 0 _ rfl
  have e1 := hin 1 _ rfl
  refine hx_seq ?_
  refine hx_region ?_
  refine WL.box2 (by simp only [EN, Nat.reduceEqDiff, reduceIte, Value.cells, e1]; rfl) ?_
  intro h1 B1 hx1 hlt1 hB1
  replace hi := hi.ext hx1
  replace hbi := hbi.ext hx1
  refine WL.qq (by simp only [EN, Nat.reduceEqDiff, reduceIte, qv_assign, hB1.cell]; rfl) ?_
  refine WL.nil ?_
  refine th_norm ?_
  refine hx_seq ?_
  refine hx_seq ?_
  refine hx_region ?_
  refine WL.qq (by simp only [EN, Nat.reduceEqDiff, reduceIte, qv_move, e0, hB1.cell]; rfl) ?_
  refine WL.qq (by simp only [EN, Nat.reduceEqDiff, reduceIte, qv_load, ld55, readN, AR, Nat.zero_add, Nat.reduceAdd, hB1.cell]; rfl) ?_
  refine WL.cg Try.call58 (by simp only [EN, Nat.reduceEqDiff, reduceIte, AR, hB1.cell]; exact c_check x hg hi.hr hbi hfb) ?_
  intro h2 hx2
  replace hi := hi.ext hx2
  replace hbi := hbi.ext hx2
  replace hB1 := hB1.ext hx2
  refine WL.qq (by simp only [EN, Nat.reduceEqDiff, reduceIte, qv_assign, hB1.cell]; rfl) ?_
  refine WL.nil ?_
  refine th_norm ?_
  refine hx_seq ?_
  refine hx_region ?_
  refine WL.qq (by simp only [EN, Nat.reduceEqDiff, reduceIte, qv_move, hB1.cell]; rfl) ?_
  refine WL.qq (by simp only [EN, Nat.reduceEqDiff, reduceIte, qv_binOp, binv_neq, eq32, Option.map_some, hB1.cell]; rfl) ?_
  refine WL.nil ?_
  refine th_norm ?_
  refine hx_cond (by simp only [EN, Nat.reduceEqDiff, reduceIte, hB1.cell]; rfl) (fun hct10 => ?_) (fun hct10 => ?_)
  ·
    try simp only [BD] at hct10
    refine hx_seq ?_
    refine hx_region ?_
    refine WL.qq (by simp only [EN, Nat.reduceEqDiff, reduceIte, qv_move, hB1.cell]; rfl) ?_
    refine WL.qq (by simp only [EN, Nat.reduceEqDiff, reduceIte, qv_assign, hB1.cell]; rfl) ?_
    refine WL.nil ?_
    refine th_norm ?_
    refine hx_ret ?_
    refine th_ret ?_
    refine fin_ret [.tmp 4] rfl rfl (by simp only [EN, Nat.reduceEqDiff, reduceIte, resv, e0, e1, hB1.cell]; rfl) ?_  -- ret 0 r3
    have hs9 : stp l x.bd = l := if_neg hct10
    rw [hs9]
    exact ⟨rfl, hi.mono (fun c hc => .inl hc), TyK.ofExt ((hx1).trans (hx2)), fun c o hc _ _ => ((hx1).trans (hx2)) c o hc⟩
  ·
    try simp only [BD] at hct10
    have hs9 : stp l x.bd = l ++ [x.bd] := if_pos (by simpa using hct10)
    obtain ⟨v9, xs, hp, ho, hxl, hrs⟩ := hi.ex
    obtain ⟨a9, c9, rfl, hle9, _, hsp9⟩ := ho.shape
    have hn12 : xs.length ≤ 12 := (by rw [← hxl, List.length_map] at hl12; exact hl12)
    refine hx_skip ?_
    refine th_norm ?_
    refine hx_seq ?_
    apply hx_draw2 Rel.grows [8, 9, 10, 11] [6, 7] [(6, (Spec.cl h.size x.bd)), (7, (Spec.lcl h.size x.bd))] rfl (by decide +kernel) rfl
    have hX9 := ((hx1).trans (hx2)); have hz9 := hX9.size; have hzi := hi.E.size
    refine LD.qq rfl rfl (by simp only [EN, Nat.reduceEqDiff, reduceIte, qv_move, e0, hB1.cell]; rfl) ?_
    refine LD.qq rfl rfl (by simp only [EN, Nat.reduceEqDiff, reduceIte, qv_move, e0, hB1.cell]; rfl) ?_
    refine LD.qq rfl rfl (by simp only [EN, Nat.reduceEqDiff, reduceIte, qv_nilCheck, hB1.cell]; rfl) ?_
    refine LD.qq rfl rfl (by simp only [EN, Nat.reduceEqDiff, reduceIte, qv_fieldAddr, fa93_0, Nat.zero_add, Nat.reduceAdd, hB1.cell]; rfl) ?_
    refine LD.qq rfl rfl (by simp only [EN, Nat.reduceEqDiff, reduceIte, qv_load, ld91, readN, AR, Nat.zero_add, Nat.reduceAdd, hB1.cell, hp.cell]; rfl) ?_
    refine LD.qq rfl rfl (by simp only [EN, Nat.reduceEqDiff, reduceIte, qv_load, ld55, readN, AR, Nat.zero_add, Nat.reduceAdd, hB1.cell]; rfl) ?_
    refine LD.es rfl rfl (by intro hD hr hf; have hx : Ext _ _ := hr; have hi := hi.ext hx; have hbi := hbi.ext hx; have hB1 := hB1.ext hx; exact EOp.mono (R := fun v' h' => Ext hD h' ∧ ∃ y : BX, v' = .agg (bdL y).toArray ∧ y.bd = x.bd ∧ BXr (fun g => hD.size ≤ g) h' y) (e_call Try.call49 (by simp only [EN, Nat.reduceEqDiff, reduceIte, e0, e1, hB1.cell, List.map_toArray, List.map_cons, List.map_nil]; exact c_clone x hfb.lens hbi)) (fun v' h' hh => by obtain ⟨h1, y, h2, h3, h4⟩ := hh; have := hx.size; exact ⟨h1, ⟨y, h2, h3⟩, y, h2, h3, h4.mono (fun c hc => by omega)⟩)) ?_
    intro u4_6 w4_6
    obtain ⟨y, rfl, hyb⟩ := w4_6
    refine LD.es rfl rfl (by intro hD hr hf; have hx : Ext _ _ := hr; have hi := hi.ext hx; have hbi := hbi.ext hx; have hB1 := hB1.ext hx; have m6 := hf (6, .agg (bdL y).toArray) (by simp) (by show tb _ _ 6 = true; decide +kernel) _ rfl; obtain ⟨y2, hy2, hyb2, hyr2⟩ := m6; exact (e_lit1 (N := h.size) (c := (bdL y).toArray) (by have := hx.size; omega) Try.underlying91 sz55 zr55 (by decide) (by simp only [EN, Nat.reduceEqDiff, reduceIte, e0, e1, hB1.cell] <;> rfl) rfl).mono (fun v' h' hh => ⟨hh.1, hh.2.1, fun B hB => ⟨y2, by have h9 := hh.2.2 B hB; simp only [Value.agg.injEq] at hy2; rw [← hy2]; exact h9, hyb2, hyr2.ext hh.1⟩⟩)) ?_
    intro u4_7 w4_7
    obtain ⟨B7, hlt7, rfl⟩ := w4_7
    refine LD.skip rfl ?_
    refine LD.skip rfl ?_
    refine LD.skip rfl ?_
    refine LD.skip rfl ?_
    refine LD.nil ?_
    rintro h3 hx3 hF4
    replace hx3 : Ext _ _ := hx3
    replace hi := hi.ext hx3
    replace hbi := hbi.ext hx3
    replace hB1 := hB1.ext hx3
    obtain ⟨y3, hB7, hyb3, hyr3⟩ := hF4 (7, .slice (some ⟨B7, 0, none⟩) 1 1) (by simp) _ rfl B7 rfl
    have ho5 := ho.ext hx3
    have hp5 := hp.ext hx3
    have hall : BRs (fun c => F c ∨ h.size ≤ c) h3 (xs ++ [y3]) := (by intro m hm; rcases List.mem_append.1 hm with hm | hm; exact ((hrs.ext hx3) m hm).mono (fun c hc => .inl hc); (simp at hm; subst hm; exact hyr3.mono (fun c hc => .inr hc)))
    refine WL.appG (f := bdL) (base := h0.size) (n := xs.length) (xs := xs.flatMap bdL) (bytes := 48) (sz := 4) (L := [y3]) Try.underlying91 (inf_of Try.type55) rfl rfl rfl rfl (by decide) (fun _ => rfl) (fun x u hu => by simp at hu; rcases hu with rfl | rfl | rfl | rfl <;> rfl) (by simp only [EN, Nat.reduceEqDiff, reduceIte, e0, e1, hB1.cell] <;> rfl) ho5 (by simp only [EN, Nat.reduceEqDiff, reduceIte, e0, e1, hB1.cell] <;> rfl) rfl (by intro hh; cases hh) (slG_has (f := bdL) (sz := 4) (fun _ => rfl) hB7 rfl) (by simp only [maxLen, List.length_singleton]; omega) (by rw [List.length_singleton]; omega) (by have := hx3.size; omega) ?_
    intro h40 v40 ho40 hg40 hpl40 hn40
    have hp40 := hp5.gr hg40 (ho5.ncell hp5 (by decide))
    refine WL.qq (by simp only [EN, Nat.reduceEqDiff, reduceIte, qv_nilCheck, hB1.cell]; rfl) ?_
    refine WL.qq (by simp only [EN, Nat.reduceEqDiff, reduceIte, qv_fieldAddr, fa93_0, Nat.zero_add, Nat.reduceAdd, hB1.cell]; rfl) ?_
    refine WL.store (by simp only [EN, Nat.reduceEqDiff, reduceIte, e0, e1, hB1.cell] <;> rfl) sz91 (by simp only [EN, Nat.reduceEqDiff, reduceIte, e0, e1, hB1.cell]; exact ho40.cells) rfl hp40 (by simp) (by simp [ho40.one]) ?_
    intro h41 hw41
    have ho41 := ho40.keep (fun c hc => hw41.same c fun hh => by subst hh; exact ho40.ncell hp40 (by decide) hc)
    have hal9 := (hall.gro hg40 ho5 (by decide) (by decide)).wr hw41 hp40 (by decide) (by decide)
    have hE41 := hw41.ext (hg40.ext hi.E (fun c hc => (ho5.block c hc).1)) hi.hp
    have hp41 := hw41.at_
    simp only [splc, List.take_succ_cons, List.take_zero, List.take_nil, List.drop_succ_cons, List.drop_zero, List.drop_nil, List.cons_append, List.nil_append, List.length_cons, List.length_nil, Nat.zero_add, Nat.add_zero, Nat.reduceAdd, List.append_nil] at hp41
    have hX5 := hX9.trans hx3
    refine WL.nil ?_
    refine th_norm ?_
    refine hx_seq ?_
    refine hx_region ?_
    refine WL.qq (by simp only [EN, Nat.reduceEqDiff, reduceIte, qv_assign, hB1.cell]; rfl) ?_
    refine WL.nil ?_
    refine th_norm ?_
    refine hx_ret ?_
    refine fin_ret [.tmp 4] rfl rfl (by simp only [EN, Nat.reduceEqDiff, reduceIte, resv, e0, e1, hB1.cell]; rfl) ?_  -- ret 1 r5
    rw [hs9]
    refine ⟨(congrArg iV (show bdE l x.bd = 0 by simpa using hct10)).symm, ⟨⟨v40, xs ++ [y3], hp41, by rw [List.length_append, List.flatMap_append]; exact ho41, by rw [List.map_append, hxl]; simp [hyb3], hal9⟩, hE41, hi.hp⟩, ⟨?_, fun c cur T f h1 h2 hc => ?_⟩, fun c o hc h1 h2 => ?_⟩
    · rw [hw41.size]; exact Nat.le_trans hX5.size hg40.size
    · have hc5 := hX5 c _ hc; have hc4 : h40[c]? = some (.cells cur T f) := (by rw [hg40.same c (Array.getElem?_eq_some_iff.1 hc5).1 (fun hh => by obtain ⟨cu, hcu⟩ := ho5.typ c hh; have e8 : some (Obj.cells cur T f) = some (.cells cu tyB) := hc5.symm.trans hcu; cases e8; exact h2 rfl)]; exact hc5); rw [hw41.same c (fun hh => by subst hh; have e8 : some (Obj.cells cur T f) = some (.cells _ tyH) := hc4.symm.trans hp40; cases e8; exact h1 rfl)]; exact hc4
    · obtain ⟨v0, _, hp0, _⟩ := hi0.ex; have e0 : Value.slice a9 xs.length c9 = v0 := (by have h8 := (hp0.ext hX5).un hp5; cases h8; rfl); have hc5 := hX5 c _ hc; rw [hw41.same c h1, hg40.same c (Array.getElem?_eq_some_iff.1 hc5).1 (by rw [e0]; exact h2 v0 hp0)]; exact hc5
end GL


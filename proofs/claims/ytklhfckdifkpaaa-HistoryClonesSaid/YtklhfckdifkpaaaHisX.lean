/- History: what the ranges of the iterators' law carry along; the reference's Posts and Refers. -/
import Derived.Test.YtklhfckdifkpaaaHisW
import Derived.Test.YtklhfckdifkpaaaGl38
set_option linter.unusedSimpArgs false
set_option linter.unusedVariables false
set_option linter.unnecessarySimpa false
namespace GL
open Go Go.Proofs
set_option maxRecDepth 8000
abbrev tyRB : TypeId := 45
abbrev tyInt : TypeId := 3
theorem BXr.keep {F : Nat → Prop} {h h' : Heap} {x : BX} (hp : BXr F h x) (hk : ∀ c, F c → h'[c]? = h[c]?) : BXr F h' x :=
  BRs.keep (xs := [x]) (fun m hm => by simp at hm; subst hm; exact hp) hk x (by simp)
/-- The rows of S are all of type T. -/
def TyS (h : Heap) (S : List Nat) (T : TypeId) : Prop := ∀ B ∈ S, ∃ c, Has h B (.cells c T)
theorem TyS.one {h : Heap} {B : Nat} {c : Array Value} {T : TypeId} (hb : Has h B (.cells c T)) : TyS h [B] T := fun x hx => by simp at hx; subst hx; exact ⟨c, hb⟩
theorem SlR.gsT {α : Type} {el T sz : Nat} {S : List Nat} {f : α → List Value} {h h' : Heap} {a : Option Addr} {l : List α} (hs : SlR el sz f h a l) (hg : Gs h h' S) (hb : TyS h S T) (hT : T ≠ el) : SlR el sz f h' a l :=
  hs.gs hg fun g off ha hm => by
    obtain ⟨c, h9⟩ := hb _ hm
    obtain ⟨cu, hc⟩ := hs.ty _ off ha
    exact hc.ncell h9 (Ne.symm hT) rfl
theorem BRs.gsT {F : Nat → Prop} {T : Nat} {S : List Nat} {h h' : Heap} {xs : List BX} (hp : BRs F h xs) (hg : Gs h h' S) (hb : TyS h S T) (h3 : T ≠ tyPt) (h4 : T ≠ tyPo) : BRs F h' xs :=
  fun m hm => ⟨(hp m hm).sl.gsT hg hb h3, (hp m hm).f, fun q hq => ⟨((hp m hm).ps q hq).sl.gsT hg hb h4, ((hp m hm).ps q hq).f, ((hp m hm).ps q hq).z⟩⟩
theorem Own.gsT {h h' : Heap} {N el sz n T : Nat} {S : List Nat} {v : Value} {xs : List Value} (ho : Own h N el sz v n xs) (hg : Gs h h' S) (hb : TyS h S T) (hT : T ≠ el) : Own h' N el sz v n xs :=
  ho.gs hg fun c hc hm => by obtain ⟨cu, h9⟩ := hb _ hm; exact ho.ncell h9 hT hc
theorem Has.gsT {h h' : Heap} {b T T' : Nat} {S : List Nat} {c' : Array Value} (hc : Has h b (.cells c' T')) (hg : Gs h h' S) (hb : TyS h S T) (hT : T ≠ T') : Has h' b (.cells c' T') :=
  hc.gs hg fun hm => by obtain ⟨cu, h9⟩ := hb _ hm; exact hc.ncell h9 (Ne.symm hT) rfl
theorem SlR.gs1 {α : Type} {el T sz B : Nat} {f : α → List Value} {h h' : Heap} {a : Option Addr} {l : List α} {c : Array Value} (hs : SlR el sz f h a l) (hg : Gs h h' [B]) (hb : Has h B (.cells c T)) (hT : T ≠ el) : SlR el sz f h' a l := hs.gsT hg (.one hb) hT
theorem BRs.gs1 {F : Nat → Prop} {T B : Nat} {h h' : Heap} {xs : List BX} {c : Array Value} (hp : BRs F h xs) (hg : Gs h h' [B]) (hb : Has h B (.cells c T)) (h3 : T ≠ tyPt) (h4 : T ≠ tyPo) : BRs F h' xs := hp.gsT hg (.one hb) h3 h4
theorem Own.gs1 {h h' : Heap} {N el sz n B T : Nat} {v : Value} {xs : List Value} {c : Array Value} (ho : Own h N el sz v n xs) (hg : Gs h h' [B]) (hb : Has h B (.cells c T)) (hT : T ≠ el) : Own h' N el sz v n xs := ho.gsT hg (.one hb) hT
theorem Has.gs1 {h h' : Heap} {b B T T' : Nat} {c c' : Array Value} (hc : Has h b (.cells c' T')) (hg : Gs h h' [B]) (hb : Has h B (.cells c T)) (hT : T ≠ T') : Has h' b (.cells c' T') := hc.gsT hg (.one hb) hT
/-- A history in memory whose list is known. -/
structure HK (h : Heap) (N p : Nat) (av : Option Addr) (cap : Nat) (ys : List BX) : Prop where
  hp : Has h p (.cells #[.slice av ys.length cap] tyH)
  o : Own h N tyB 4 (.slice av ys.length cap) ys.length (ys.flatMap bdL)
  b : BRs (fun _ => True) h ys
theorem HI.hk {h0 h : Heap} {F : Nat → Prop} {p : Nat} {l : List HB} (hi : HI h0 h F p l) : ∃ av cap ys, HK h h0.size p av cap ys ∧ ys.map BX.bd = l := by
  obtain ⟨v, ys, q1, q2, q3, q4⟩ := hi.ex
  obtain ⟨a, cap, rfl, _⟩ := q2.shape
  exact ⟨a, cap, ys, ⟨q1, q2, q4.mono fun _ _ => trivial⟩, q3⟩
theorem HK.gs1 {h h' : Heap} {N p cap B T : Nat} {av : Option Addr} {ys : List BX} {c : Array Value} (hk : HK h N p av cap ys) (hg : Gs h h' [B]) (hb : Has h B (.cells c T)) (h1 : T ≠ tyH) (h2 : T ≠ tyB) (h3 : T ≠ tyPt) (h4 : T ≠ tyPo) : HK h' N p av cap ys :=
  ⟨hk.hp.gs1 hg hb h1, hk.o.gs1 hg hb h2, hk.b.gs1 hg hb h3 h4⟩
theorem HK.ext {h h' : Heap} {N p cap : Nat} {av : Option Addr} {ys : List BX} (hk : HK h N p av cap ys) (hx : Ext h h') : HK h' N p av cap ys := ⟨hk.hp.ext hx, hk.o.ext hx, hk.b.ext hx⟩
theorem HK.sl {h : Heap} {N p cap : Nat} {av : Option Addr} {ys : List BX} (hk : HK h N p av cap ys) : SlG 4 bdL h av ys := slG_own (f := bdL) (sz := 4) (fun _ => rfl) hk.o rfl
theorem HS.gsT {h0 h h' : Heap} {p c T : Nat} {S : List Nat} {a : Option Addr} {xs : List BX} {l : List HB} (hs : HS h0 h p a c xs l) (hg : Gs h h' S) (hb : TyS h S T) (hN : ∀ B ∈ S, h0.size ≤ B) (h1 : T ≠ tyH) (h2 : T ≠ tyB) (h3 : T ≠ tyPt) (h4 : T ≠ tyPo) (h5 : T ≠ tyRB) : HS h0 h' p a c xs l := by
  obtain ⟨v, ys, q1, q2, q3, q4⟩ := hs.I.ex
  exact ⟨⟨⟨v, ys, q1.gsT hg hb h1, q2.gsT hg hb h2, q3, q4.gsT hg hb h3 h4⟩, hg.toExt hs.I.E hN, hs.I.hp⟩, hs.o.gsT hg hb h5, hs.m, hs.b, hs.g⟩
theorem HS.gs1 {h0 h h' : Heap} {p c B T : Nat} {a : Option Addr} {xs : List BX} {l : List HB} {cB : Array Value} (hs : HS h0 h p a c xs l) (hg : Gs h h' [B]) (hb : Has h B (.cells cB T)) (hN : h0.size ≤ B) (h1 : T ≠ tyH) (h2 : T ≠ tyB) (h3 : T ≠ tyPt) (h4 : T ≠ tyPo) (h5 : T ≠ tyRB) : HS h0 h' p a c xs l :=
  hs.gsT hg (.one hb) (by intro x hx; simp at hx; subst hx; exact hN) h1 h2 h3 h4 h5
theorem Wr.gs1 {h h' : Heap} {b : Nat} {o : Obj} (hw : Wr h h' b o) : Gs h h' [b] := Gs.ofWr hw (by simp)
/-- What a range has passed: i bundles; from n on none of them is one to be yielded. -/
structure IT (h0 h7 : Heap) (Bn : Nat) (rec : Loop) (l : List HB) (ok : HB → Bool) (i : Nat) (hx : Heap) : Prop where
  rx : RX h0 h7 [Bn] rec hx
  n : ∃ n : Nat, n ≤ i ∧ (∀ j b, n ≤ j → j < i → l[j]? = some b → ok b = false) ∧ Has hx Bn (.cells #[iV n] tyInt)
theorem c_iter {h0 h7 h8 : Heap} {Bn Bh Bf B N p cap lp f : Nat} {T : TypeId} {cT : Array Value} {rec : Loop} {av : Option Addr} {ys : List BX} {l : List HB} (ok : HB → Bool)
    (hK : HK h7 N p av cap ys) (hyl : ys.map BX.bd = l) (hg : GS l) (hcf : ∀ args w, (callFunc f args).run Try.prog w = .ok (.enter f args) w)
    (hBh : Has h7 Bh (.cells #[ptr p] 27)) (hBf : Has h7 Bf (.cells #[.func (.func f) #[] #[.pointer (some ⟨B, 0, none⟩)]] 108)) (hBc : Has h7 B (.cells cT T)) (hne : B ≠ Bn) (hn : Has h7 Bn (.cells #[iV 0] tyInt))
    (hok : ∀ x h, x ∈ ys → FB x.bd → BXin h x → Has h B (.cells cT T) → HCalls Try.prog f #[.agg (bdL x).toArray, .pointer (some ⟨B, 0, none⟩)] h (Grow (.bool (ok x.bd)) h))
    (hy : ∀ i y hx, l[i]? = some y.bd → ok y.bd = true → IT h0 h7 Bn rec l ok i hx → BXr (fun g => h7.size + 2 ≤ g) hx y → HY Try.prog lp #[.agg (bdL y).toArray] hx fun v h' => ∃ b : Bool, v = .bool b ∧ (b = true → IT h0 h7 Bn rec l ok (i + 1) h') ∧ (b = false → False))
    (h80 : RX h0 h7 [Bn] rec h8) (hx8 : Ext h7 h8) : HCalls Try.prog 69 #[.func (.yield lp) #[] #[], .pointer (some ⟨Bh, 0, none⟩), .pointer (some ⟨Bf, 0, none⟩)] h8 fun _ h' => IT h0 h7 Bn rec l ok l.length h' := by
  refine (c_whereYield (p := p) (av := av) (xs := ys) (cap := cap) (Bh := Bh) (Bf := Bf) (fo := f) (cp := #[.pointer (some ⟨B, 0, none⟩)]) ok (fun i hx => IT h0 h7 Bn rec l ok i hx) (fun _ => False) hyl hg hcf ?_ ?_ ?_ ?_ ?_ ?_).mono ?_
  · rintro i h1 h2 ⟨q1, n, q2, q3, q4⟩ he; exact ⟨q1.ext he, n, q2, q3, q4.ext he⟩
  · rintro i hx ⟨q1, _⟩
    have hk := hK.gs1 q1.gs hn (by decide) (by decide) (by decide) (by decide)
    exact ⟨hBh.gs1 q1.gs hn (by decide), hBf.gs1 q1.gs hn (by decide), hk.hp, hk.sl, hk.b.in_⟩
  · rintro i x hx ⟨q1, _⟩ hm hbi
    exact hok x hx hm (hg.f _ (by rw [← hyl]; exact List.mem_map.2 ⟨x, hm, rfl⟩)) hbi (hBc.gs q1.gs (by simpa using hne))
  · rintro i b hx hb hk ⟨q1, n, q2, q3, q4⟩
    refine ⟨q1, n, by omega, fun j b' h1 h2 h3 => ?_, q4⟩
    by_cases hj : j = i
    · subst hj; rw [hb] at h3; cases h3; exact hk
    · exact q3 j b' h1 (by omega) h3
  · rintro i y hi hx h1 h2 hI hJ hr
    exact hy i y hx h1 h2 hJ (hr.mono fun c hc => Nat.le_trans hI.rx.size hc)
  · exact ⟨h80, 0, Nat.le_refl _, fun j b h1 h2 => by omega, hn.ext hx8⟩
  · rintro v h' (h | h)
    · exact h
    · exact h.elim
/-! The reference's conditions. -/
theorem posts_of {x : BX} {q : AC} {p : PX} {y : PO} (hp : p ∈ x.ps) (hy : y ∈ p.ps) (hq : y.c = q) : posts q x.bd = true :=
  posts_iff.2 ⟨y, by rw [pos_bd]; exact List.mem_flatMap.2 ⟨p, hp, hy⟩, hq⟩
theorem posts_not {x : BX} {q : AC} (h : ∀ p ∈ x.ps, ∀ y ∈ p.ps, y.c ≠ q) : posts q x.bd = false := posts_no fun y hy => by
  rw [pos_bd] at hy
  obtain ⟨p, hp, hy⟩ := List.mem_flatMap.1 hy
  exact h p hp y hy
theorem c_rPosts (x : BX) (q : AC) (hlen : x.ps.length ≤ 1000000 ∧ ∀ p ∈ x.ps, p.ps.length ≤ 1000000) {h : Heap} (hbi : BXin h x) : HCalls Try.prog 28 #[.agg (bdL x).toArray, acV q] h (Grow (.bool (posts q x.bd)) h) := by
  refine hcalls2 Try.func28 rfl (by decide +kernel) (by simp only [Try.ntmps28]; exact of_decide_eq_true rfl) ?_
  intro e hin
  have e0 := hin 0 _ rfl
  have e1 := hin 1 _ rfl
  refine hx_seq ?_
  refine hx_region ?_
  refine WL.box2 (by simp only [EN, Nat.reduceEqDiff, reduceIte, Value.cells, e0, strEq]; rfl) ?_
  intro h1 B1 hx1 hlt1 hB1
  replace hbi := hbi.ext hx1
  refine WL.box2 (by simp only [EN, Nat.reduceEqDiff, reduceIte, Value.cells, e1, strEq, hB1.cell]; rfl) ?_
  intro h2 B2 hx2 hlt2 hB2
  replace hbi := hbi.ext hx2
  replace hB1 := hB1.ext hx2
  refine WL.qq (by simp only [EN, Nat.reduceEqDiff, reduceIte, qv_assign, strEq, hB1.cell, hB2.cell]; rfl) ?_
  refine WL.nil ?_
  refine th_norm ?_
  refine hx_seq ?_
  refine hx_seq ?_
  refine hx_region ?_
  refine WL.qq (by simp only [EN, Nat.reduceEqDiff, reduceIte, qv_assign, strEq, hB1.cell, hB2.cell]; rfl) ?_
  refine WL.nil ?_
  refine th_norm ?_
  refine hx_block ?_
  refine hx_loopS [4, 5, 6, 7, 8, 9, 10, 11, 12, 13, 14, 15, 16, 17, 18, 19, 20, 21, 22, 23, 24, 25, 26, 27, 28, 29, 30, 31, 32, 33, 34, 35, 36] (fun k e => ∃ (i : Nat), x.ps.length - i = k ∧ (i ≤ x.ps.length) ∧ ((∀ p ∈ x.ps.take i, ∀ y ∈ p.ps, y.c ≠ q)) ∧ e 5 = .int .i64 i) _ ⟨0, rfl, ?_, ?_, ?_⟩ ?_
  · omega
  · intro y hy; simp at hy
  · simp only [EN, Nat.reduceEqDiff, reduceIte, e0, e1, strEq, hB1.cell, hB2.cell] <;> rfl
  ·
    rintro k e0L hfr0 ⟨i, rfl, hi, hno, i5_0⟩
    have k2_0 := hfr0 2 rfl; try simp only [EN, Nat.reduceEqDiff, reduceIte, strEq, hB1.cell, hB2.cell] at k2_0
    have k3_0 := hfr0 3 rfl; try simp only [EN, Nat.reduceEqDiff, reduceIte, strEq, hB1.cell, hB2.cell] at k3_0
    refine hx_seq ?_
    refine hx_seq ?_
    refine hx_region ?_
    refine WL.qq (by simp only [EN, Nat.reduceEqDiff, reduceIte, qv_move, i5_0, strEq, hB1.cell, hB2.cell]; rfl) ?_
    refine WL.qq (by simp only [EN, Nat.reduceEqDiff, reduceIte, qv_fieldAddr, fa45_3, Nat.zero_add, Nat.reduceAdd, k2_0, strEq, hB1.cell, hB2.cell]; rfl) ?_
    refine WL.qq (by simp only [EN, Nat.reduceEqDiff, reduceIte, qv_load, ld43, readN, AR, Nat.zero_add, Nat.reduceAdd, strEq, hB1.cell, hB2.cell]; rfl) ?_
    refine WL.qq (by simp only [EN, Nat.reduceEqDiff, reduceIte, qv_len, ln43, AR, strEq, hB1.cell, hB2.cell]; rfl) ?_
    refine WL.qq (by simp only [EN, Nat.reduceEqDiff, reduceIte, qv_binOp, binv_lss, strEq, hB1.cell, hB2.cell]; rfl) ?_
    refine WL.nil ?_
    refine th_norm ?_
    refine hx_cond (by simp only [EN, Nat.reduceEqDiff, reduceIte, strEq, hB1.cell, hB2.cell]; rfl) (fun hct11 => ?_) (fun hct11 => ?_)
    ·
      try simp only [BD] at hct11
      obtain ⟨p, hp⟩ := atG (l := x.ps) (i := i) (by omega)
      obtain ⟨b1, o1, ha1, hr1, hp0, hp1⟩ := pt_rd hbi.1 hp
      have hpl := hlen.2 p (List.mem_of_getElem? hp); have hpi : SlG 4 poL _ p.a p.ps := hbi.2 p (List.mem_of_getElem? hp)
      refine hx_skip ?_
      refine th_norm ?_
      refine hx_seq ?_
      refine hx_block ?_
      refine hx_seq ?_
      refine hx_region ?_
      refine WL.qq (by simp only [EN, Nat.reduceEqDiff, reduceIte, qv_assign, strEq, hB1.cell, hB2.cell]; rfl) ?_
      refine WL.nil ?_
      refine th_norm ?_
      refine hx_block ?_
      refine hx_loopS [4, 6, 14, 15, 16, 17, 18, 19, 20, 21, 22, 23, 24, 25, 26, 27, 28, 29, 30, 31, 32, 33, 34, 35, 36] (fun k e => ∃ (j : Nat), p.ps.length - j = k ∧ (j ≤ p.ps.length) ∧ ((∀ y ∈ p.ps.take j, y.c ≠ q)) ∧ e 6 = .int .i64 j) _ ⟨0, rfl, ?_, ?_, ?_⟩ ?_
      · omega
      · intro y hy; simp at hy
      · simp only [EN, Nat.reduceEqDiff, reduceIte, k2_0, k3_0, i5_0, strEq, hB1.cell, hB2.cell] <;> rfl
      ·
        rintro k e1L hfr1 ⟨j, rfl, hj, hno2, i6_1⟩
        have k2_1 := hfr1 2 rfl; try simp only [EN, Nat.reduceEqDiff, reduceIte, k2_0, strEq, hB1.cell, hB2.cell] at k2_1
        have k3_1 := hfr1 3 rfl; try simp only [EN, Nat.reduceEqDiff, reduceIte, k3_0, strEq, hB1.cell, hB2.cell] at k3_1
        have k5_1 := hfr1 5 rfl; try simp only [EN, Nat.reduceEqDiff, reduceIte, i5_0, strEq, hB1.cell, hB2.cell] at k5_1
        refine hx_seq ?_
        refine hx_seq ?_
        refine hx_region ?_
        refine WL.qq (by simp only [EN, Nat.reduceEqDiff, reduceIte, qv_move, i6_1, strEq, hB1.cell, hB2.cell]; rfl) ?_
        refine WL.qq (by simp only [EN, Nat.reduceEqDiff, reduceIte, qv_fieldAddr, fa45_3, Nat.zero_add, Nat.reduceAdd, k2_1, strEq, hB1.cell, hB2.cell]; rfl) ?_
        refine WL.qq (by simp only [EN, Nat.reduceEqDiff, reduceIte, qv_load, ld43, readN, AR, Nat.zero_add, Nat.reduceAdd, strEq, hB1.cell, hB2.cell]; rfl) ?_
        refine WL.qq (by simp only [EN, Nat.reduceEqDiff, reduceIte, qv_move, k5_1, strEq, hB1.cell, hB2.cell]; rfl) ?_
        refine WL.qq (by simp only [EN, Nat.reduceEqDiff, reduceIte, qv_indexAddr, strEq, hB1.cell, hB2.cell, ha1]; (try simp (disch := omega) only [ix43, Int.toNat_natCast]); rfl) ?_
        refine WL.qq (by simp only [EN, Nat.reduceEqDiff, reduceIte, qv_fieldAddr, fa79_1, Nat.zero_add, Nat.reduceAdd, strEq, hB1.cell, hB2.cell]; rfl) ?_
        refine WL.qq (by simp only [EN, Nat.reduceEqDiff, reduceIte, k2_1, k3_1, k5_1, i6_1, strEq, hB1.cell, hB2.cell, qv_load, ld77, Int.toNat_natCast, hp1]; rfl) ?_
        refine WL.qq (by simp only [EN, Nat.reduceEqDiff, reduceIte, qv_len, ln77, AR, strEq, hB1.cell, hB2.cell]; rfl) ?_
        refine WL.qq (by simp only [EN, Nat.reduceEqDiff, reduceIte, qv_binOp, binv_lss, strEq, hB1.cell, hB2.cell]; rfl) ?_
        refine WL.nil ?_
        refine th_norm ?_
        refine hx_cond (by simp only [EN, Nat.reduceEqDiff, reduceIte, strEq, hB1.cell, hB2.cell]; rfl) (fun hct22 => ?_) (fun hct22 => ?_)
        ·
          try simp only [BD] at hct22
          obtain ⟨y, hy⟩ := atG (l := p.ps) (i := j) (by omega)
          obtain ⟨b2, o2, ha2, _, hr3, _⟩ := po_rd hpi hy
          refine hx_skip ?_
          refine th_norm ?_
          refine hx_seq ?_
          refine hx_block ?_
          refine hx_seq ?_
          apply hx_draw2 Rel.same [] [] [] rfl (by decide +kernel) rfl
          refine LD.qq rfl rfl (by simp only [EN, Nat.reduceEqDiff, reduceIte, qv_fieldAddr, fa45_3, Nat.zero_add, Nat.reduceAdd, k2_1, strEq, hB1.cell, hB2.cell]; rfl) ?_
          refine LD.qq rfl rfl (by simp only [EN, Nat.reduceEqDiff, reduceIte, qv_load, ld43, readN, AR, Nat.zero_add, Nat.reduceAdd, strEq, hB1.cell, hB2.cell]; rfl) ?_
          refine LD.qq rfl rfl (by simp only [EN, Nat.reduceEqDiff, reduceIte, qv_move, k5_1, strEq, hB1.cell, hB2.cell]; rfl) ?_
          refine LD.qq rfl rfl (by simp only [EN, Nat.reduceEqDiff, reduceIte, qv_indexAddr, strEq, hB1.cell, hB2.cell, ha1]; (try simp (disch := omega) only [ix43, Int.toNat_natCast]); rfl) ?_
          refine LD.qq rfl rfl (by simp only [EN, Nat.reduceEqDiff, reduceIte, qv_fieldAddr, fa79_1, Nat.zero_add, Nat.reduceAdd, strEq, hB1.cell, hB2.cell]; rfl) ?_
          refine LD.qq rfl rfl (by simp only [EN, Nat.reduceEqDiff, reduceIte, k2_1, k3_1, k5_1, i6_1, strEq, hB1.cell, hB2.cell, qv_load, ld77, Int.toNat_natCast, hp1]; rfl) ?_
          refine LD.qq rfl rfl (by simp only [EN, Nat.reduceEqDiff, reduceIte, qv_move, i6_1, strEq, hB1.cell, hB2.cell]; rfl) ?_
          refine LD.qq rfl rfl (by simp only [EN, Nat.reduceEqDiff, reduceIte, qv_indexAddr, strEq, hB1.cell, hB2.cell, ha2]; (try simp (disch := omega) only [ix77, Int.toNat_natCast]); rfl) ?_
          refine LD.qq rfl rfl (by simp only [EN, Nat.reduceEqDiff, reduceIte, qv_fieldAddr, fa76_0, Nat.zero_add, Nat.reduceAdd, strEq, hB1.cell, hB2.cell]; rfl) ?_
          refine LD.qq rfl rfl (by simp only [EN, Nat.reduceEqDiff, reduceIte, k2_1, k3_1, k5_1, i6_1, strEq, hB1.cell, hB2.cell, qv_load, ld24, Int.toNat_natCast, hr3]; rfl) ?_
          refine LD.qq rfl rfl (by simp only [EN, Nat.reduceEqDiff, reduceIte, qv_load, ld24, readN, AR, Nat.zero_add, Nat.reduceAdd, k3_1, strEq, hB1.cell, hB2.cell]; rfl) ?_
          refine LD.qq rfl rfl (by simp only [EN, Nat.reduceEqDiff, reduceIte, qv_binOp, binv_eql, eqs24, Option.map_some, strEq, hB1.cell, hB2.cell]; rfl) ?_
          refine LD.nil ?_
          rintro _ rfl -
          refine WL.nil ?_
          refine th_norm ?_
          refine hx_cond (by simp only [EN, Nat.reduceEqDiff, reduceIte, strEq, hB1.cell, hB2.cell]; rfl) (fun hct36 => ?_) (fun hct36 => ?_)
          ·
            try simp only [BD] at hct36
            refine hx_seq ?_
            refine hx_region ?_
            refine WL.qq (by simp only [EN, Nat.reduceEqDiff, reduceIte, qv_assign, strEq, hB1.cell, hB2.cell]; rfl) ?_
            refine WL.nil ?_
            refine th_norm ?_
            refine hx_ret ?_
            refine bl_ret ?_
            refine th_ret ?_
            refine th_ret ?_
            refine bl_ret ?_
            refine bl_ret ?_
            refine th_ret ?_
            refine th_ret ?_
            refine bl_ret ?_
            refine th_ret ?_
            refine fin_ret [.tmp 4] rfl rfl (by simp only [EN, Nat.reduceEqDiff, reduceIte, resv, k2_1, k3_1, k5_1, i6_1, strEq, hB1.cell, hB2.cell]; rfl) ?_  -- ret 0 r8
            have hq : y.c = q := (by simpa [ac_eq] using hct36)
            exact ⟨by rw [posts_of (List.mem_of_getElem? hp) (List.mem_of_getElem? hy) hq]; rfl, ((hx1).trans (hx2))⟩
          ·
            try simp only [BD] at hct36
            have hq : y.c ≠ q := fun hh => (by rw [ac_eq] at hh; simp [hh] at hct36)
            refine hx_skip ?_
            refine bl_norm ?_
            refine th_norm ?_
            refine hx_region ?_
            refine WL.qq (by simp only [EN, Nat.reduceEqDiff, reduceIte, qv_move, i6_1, strEq, hB1.cell, hB2.cell]; rfl) ?_
            refine WL.qq (by simp only [EN, Nat.reduceEqDiff, reduceIte, qv_binOp, binv_add, strEq, hB1.cell, hB2.cell]; (try simp (disch := omega) only [w64, w8, wu64]); rfl) ?_
            refine WL.qq (by simp only [EN, Nat.reduceEqDiff, reduceIte, qv_assign, strEq, hB1.cell, hB2.cell]; rfl) ?_
            refine WL.nil ?_
            refine th_norm ?_
            refine ⟨rfl, rfl, ?_, _, ?_, j + 1, rfl, ?_, ?_, ?_⟩  -- again 0 of loop 1
            · (repeat (first | exact Fr.refl _ _ | refine Fr.set rfl ?_ | refine Fr.put rfl ?_ | with_reducible refine Fr.put0 ?_))
            · omega
            · omega
            · exact all_take hno2 hy hq
            · simp only [EN, Nat.reduceEqDiff, reduceIte, k2_1, k3_1, k5_1, i6_1, strEq, hB1.cell, hB2.cell] <;> first | rfl | (congr 1; omega)
        ·
          try simp only [BD] at hct22
          have hall := all_end hno2 (by omega)
          refine hx_exit ?_
          refine th_exit ?_
          refine th_exit ?_
          refine bl_hit ?_
          refine bl_norm ?_
          refine th_norm ?_
          refine hx_region ?_
          refine WL.qq (by simp only [EN, Nat.reduceEqDiff, reduceIte, qv_move, k5_1, strEq, hB1.cell, hB2.cell]; rfl) ?_
          refine WL.qq (by simp only [EN, Nat.reduceEqDiff, reduceIte, qv_binOp, binv_add, strEq, hB1.cell, hB2.cell]; (try simp (disch := omega) only [w64, w8, wu64]); rfl) ?_
          refine WL.qq (by simp only [EN, Nat.reduceEqDiff, reduceIte, qv_assign, strEq, hB1.cell, hB2.cell]; rfl) ?_
          refine WL.nil ?_
          refine th_norm ?_
          refine ⟨rfl, rfl, ?_, _, ?_, i + 1, rfl, ?_, ?_, ?_⟩  -- again 0 of loop 0
          · (repeat (first | exact Fr.refl _ _ | refine Fr.set rfl ?_ | refine Fr.put rfl ?_ | with_reducible refine Fr.put0 ?_ | refine Fr.trans ?_ (Fr.of hfr1 rfl)))
          · omega
          · omega
          · exact all_take hno hp hall
          · simp only [EN, Nat.reduceEqDiff, reduceIte, k2_1, k3_1, k5_1, i6_1, strEq, hB1.cell, hB2.cell] <;> first | rfl | (congr 1; omega)
    ·
      try simp only [BD] at hct11
      have hall := all_end hno (by omega)
      refine hx_exit ?_
      refine th_exit ?_
      refine th_exit ?_
      refine bl_hit ?_
      refine th_norm ?_
      refine hx_seq ?_
      refine hx_region ?_
      refine WL.qq (by simp only [EN, Nat.reduceEqDiff, reduceIte, qv_assign, strEq, hB1.cell, hB2.cell]; rfl) ?_
      refine WL.nil ?_
      refine th_norm ?_
      refine hx_ret ?_
      refine fin_ret [.tmp 4] rfl rfl (by simp only [EN, Nat.reduceEqDiff, reduceIte, resv, k2_0, k3_0, i5_0, strEq, hB1.cell, hB2.cell]; rfl) ?_  -- ret 1 r9
      exact ⟨by rw [posts_not hall]; rfl, ((hx1).trans (hx2))⟩
theorem refers_of {x : BX} {s : ByteArray} {p : PX} (hp : p ∈ x.ps) (hq : p.r = s) : refers s x.bd = true := by
  simp only [refers, BX.bd, List.any_map, List.any_eq_true]
  exact ⟨p, hp, decide_eq_true (show p.pt.r = s from hq)⟩
theorem refers_not {x : BX} {s : ByteArray} (h : ∀ p ∈ x.ps, p.r ≠ s) : refers s x.bd = false := by
  rw [← Bool.not_eq_true]
  simp only [refers, BX.bd, List.any_map, List.any_eq_true]
  rintro ⟨p, hp, hq⟩
  exact h p hp (show p.pt.r = s from of_decide_eq_true hq)
theorem c_rRefers (x : BX) (s : ByteArray) (hlen : x.ps.length ≤ 1000000) {h : Heap} (hbi : BXin h x) : HCalls Try.prog 31 #[.agg (bdL x).toArray, .string s] h (Grow (.bool (refers s x.bd)) h) := by
  refine hcalls2 Try.func31 rfl (by decide +kernel) (by simp only [Try.ntmps31]; exact of_decide_eq_true rfl) ?_
  intro e hin
  have e0 := hin 0 _ rfl
  have e1 := hin 1 _ rfl
  refine hx_seq ?_
  refine hx_region ?_
  refine WL.box2 (by simp only [EN, Nat.reduceEqDiff, reduceIte, Value.cells, e0, strEq]; rfl) ?_
  intro h1 B1 hx1 hlt1 hB1
  replace hbi := hbi.ext hx1
  refine WL.qq (by simp only [EN, Nat.reduceEqDiff, reduceIte, qv_assign, strEq, hB1.cell]; rfl) ?_
  refine WL.nil ?_
  refine th_norm ?_
  refine hx_seq ?_
  refine hx_seq ?_
  refine hx_region ?_
  refine WL.qq (by simp only [EN, Nat.reduceEqDiff, reduceIte, qv_assign, strEq, hB1.cell]; rfl) ?_
  refine WL.nil ?_
  refine th_norm ?_
  refine hx_block ?_
  refine hx_loopS [4, 5, 6, 7, 8, 9, 10, 11, 12, 13, 14, 15, 16, 17, 18, 19, 20] (fun k e => ∃ (i : Nat), x.ps.length - i = k ∧ (i ≤ x.ps.length) ∧ ((∀ p ∈ x.ps.take i, p.r ≠ s)) ∧ e 5 = .int .i64 i) _ ⟨0, rfl, ?_, ?_, ?_⟩ ?_
  · omega
  · intro y hy; simp at hy
  · simp only [EN, Nat.reduceEqDiff, reduceIte, e0, e1, strEq, hB1.cell] <;> rfl
  ·
    rintro k e0L hfr0 ⟨i, rfl, hi, hno, i5_0⟩
    have k1_0 := hfr0 1 rfl; try simp only [EN, Nat.reduceEqDiff, reduceIte, e1, strEq, hB1.cell] at k1_0
    have k2_0 := hfr0 2 rfl; try simp only [EN, Nat.reduceEqDiff, reduceIte, strEq, hB1.cell] at k2_0
    refine hx_seq ?_
    refine hx_seq ?_
    refine hx_region ?_
    refine WL.qq (by simp only [EN, Nat.reduceEqDiff, reduceIte, qv_move, i5_0, strEq, hB1.cell]; rfl) ?_
    refine WL.qq (by simp only [EN, Nat.reduceEqDiff, reduceIte, qv_fieldAddr, fa45_3, Nat.zero_add, Nat.reduceAdd, k2_0, strEq, hB1.cell]; rfl) ?_
    refine WL.qq (by simp only [EN, Nat.reduceEqDiff, reduceIte, qv_load, ld43, readN, AR, Nat.zero_add, Nat.reduceAdd, strEq, hB1.cell]; rfl) ?_
    refine WL.qq (by simp only [EN, Nat.reduceEqDiff, reduceIte, qv_len, ln43, AR, strEq, hB1.cell]; rfl) ?_
    refine WL.qq (by simp only [EN, Nat.reduceEqDiff, reduceIte, qv_binOp, binv_lss, strEq, hB1.cell]; rfl) ?_
    refine WL.nil ?_
    refine th_norm ?_
    refine hx_cond (by simp only [EN, Nat.reduceEqDiff, reduceIte, strEq, hB1.cell]; rfl) (fun hct10 => ?_) (fun hct10 => ?_)
    ·
      try simp only [BD] at hct10
      obtain ⟨p, hp⟩ := atG (l := x.ps) (i := i) (by omega)
      obtain ⟨b1, o1, ha1, hr1, hp0, hp1⟩ := pt_rd hbi.1 hp
      refine hx_skip ?_
      refine th_norm ?_
      refine hx_seq ?_
      refine hx_block ?_
      refine hx_seq ?_
      refine hx_region ?_
      refine WL.qq (by simp only [EN, Nat.reduceEqDiff, reduceIte, qv_fieldAddr, fa45_3, Nat.zero_add, Nat.reduceAdd, k2_0, strEq, hB1.cell]; rfl) ?_
      refine WL.qq (by simp only [EN, Nat.reduceEqDiff, reduceIte, qv_load, ld43, readN, AR, Nat.zero_add, Nat.reduceAdd, strEq, hB1.cell]; rfl) ?_
      refine WL.qq (by simp only [EN, Nat.reduceEqDiff, reduceIte, qv_move, i5_0, strEq, hB1.cell]; rfl) ?_
      refine WL.qq (by simp only [EN, Nat.reduceEqDiff, reduceIte, qv_indexAddr, strEq, hB1.cell, ha1]; (try simp (disch := omega) only [ix43, Int.toNat_natCast]); rfl) ?_
      refine WL.qq (by simp only [EN, Nat.reduceEqDiff, reduceIte, qv_fieldAddr, fa79_0, Nat.zero_add, Nat.reduceAdd, strEq, hB1.cell]; rfl) ?_
      refine WL.qq (by simp only [EN, Nat.reduceEqDiff, reduceIte, k1_0, k2_0, i5_0, strEq, hB1.cell, qv_load, ld9, Int.toNat_natCast, hp0]; rfl) ?_
      refine WL.qq (by simp only [EN, Nat.reduceEqDiff, reduceIte, qv_move, k1_0, strEq, hB1.cell]; rfl) ?_
      refine WL.qq (by simp only [EN, Nat.reduceEqDiff, reduceIte, qv_binOp, binv_eql, eq9, Option.map_some, strEq, hB1.cell]; rfl) ?_
      refine WL.nil ?_
      refine th_norm ?_
      refine hx_cond (by simp only [EN, Nat.reduceEqDiff, reduceIte, strEq, hB1.cell]; rfl) (fun hct20 => ?_) (fun hct20 => ?_)
      ·
        try simp only [BD] at hct20
        refine hx_seq ?_
        refine hx_region ?_
        refine WL.qq (by simp only [EN, Nat.reduceEqDiff, reduceIte, qv_assign, strEq, hB1.cell]; rfl) ?_
        refine WL.nil ?_
        refine th_norm ?_
        refine hx_ret ?_
        refine bl_ret ?_
        refine th_ret ?_
        refine th_ret ?_
        refine bl_ret ?_
        refine th_ret ?_
        refine fin_ret [.tmp 4] rfl rfl (by simp only [EN, Nat.reduceEqDiff, reduceIte, resv, k1_0, k2_0, i5_0, strEq, hB1.cell]; rfl) ?_  -- ret 0 r5
        exact ⟨by rw [refers_of (List.mem_of_getElem? hp) (by simpa using hct20)]; rfl, (hx1)⟩
      ·
        try simp only [BD] at hct20
        refine hx_skip ?_
        refine bl_norm ?_
        refine th_norm ?_
        refine hx_region ?_
        refine WL.qq (by simp only [EN, Nat.reduceEqDiff, reduceIte, qv_move, i5_0, strEq, hB1.cell]; rfl) ?_
        refine WL.qq (by simp only [EN, Nat.reduceEqDiff, reduceIte, qv_binOp, binv_add, strEq, hB1.cell]; (try simp (disch := omega) only [w64, w8, wu64]); rfl) ?_
        refine WL.qq (by simp only [EN, Nat.reduceEqDiff, reduceIte, qv_assign, strEq, hB1.cell]; rfl) ?_
        refine WL.nil ?_
        refine th_norm ?_
        refine ⟨rfl, rfl, ?_, _, ?_, i + 1, rfl, ?_, ?_, ?_⟩  -- again 0 of loop 0
        · (repeat (first | exact Fr.refl _ _ | refine Fr.set rfl ?_ | refine Fr.put rfl ?_ | with_reducible refine Fr.put0 ?_))
        · omega
        · omega
        · exact all_take hno hp (by simpa using hct20)
        · simp only [EN, Nat.reduceEqDiff, reduceIte, k1_0, k2_0, i5_0, strEq, hB1.cell] <;> first | rfl | (congr 1; omega)
    ·
      try simp only [BD] at hct10
      refine hx_exit ?_
      refine th_exit ?_
      refine th_exit ?_
      refine bl_hit ?_
      refine th_norm ?_
      refine hx_seq ?_
      refine hx_region ?_
      refine WL.qq (by simp only [EN, Nat.reduceEqDiff, reduceIte, qv_assign, strEq, hB1.cell]; rfl) ?_
      refine WL.nil ?_
      refine th_norm ?_
      refine hx_ret ?_
      refine fin_ret [.tmp 4] rfl rfl (by simp only [EN, Nat.reduceEqDiff, reduceIte, resv, k1_0, k2_0, i5_0, strEq, hB1.cell]; rfl) ?_  -- ret 1 r6
      exact ⟨by rw [refers_not (all_end hno (by omega))]; rfl, (hx1)⟩
/-- The bundle at a place, if there is one. -/
theorem at_ex {h : Heap} (a : Option Addr) (xs : List BX) (n : Nat) (hs : SlG 4 bdL h a xs) : ∃ b o x, n < xs.length → xs[n]? = some x ∧ a = some ⟨b, o, none⟩ ∧ GL.readN h b (o + n * 4) 4 = some (bdL x) ∧ GL.cell h b (o + n * 4 + 1) = some (iV x.day) := by
  by_cases hn : n < xs.length
  · obtain ⟨x, hx⟩ := atG hn
    obtain ⟨b, o, h1, h2, _, h3, _⟩ := bd_rd hs hx
    exact ⟨b, o, x, fun _ => ⟨hx, h1, h2, h3⟩⟩
  · exact ⟨0, 0, zX, fun hh => absurd hh hn⟩
end GL


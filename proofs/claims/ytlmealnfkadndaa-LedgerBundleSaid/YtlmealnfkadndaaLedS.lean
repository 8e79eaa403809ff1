/- Ledger: a book agrees with the reference. -/
import Derived.Test.YtlmealnfkadndaaLedR
set_option linter.unusedSimpArgs false
set_option linter.unusedVariables false
set_option linter.unnecessarySimpa false
namespace GL
open Go Go.Proofs
set_option maxRecDepth 8000
theorem FB : (∀ {h : Decidable True}, decide True = true) ∧ (∀ {h : Decidable False}, decide False = false) ∧ ((!true) = false) ∧ ((!false) = true) ∧ (∀ {α : Type} (a : α), (a = a) = True) ∧
    (∀ {α : Type} {h : Decidable True} (a b : α), (if True then a else b) = a) ∧ (∀ {α : Type} {h : Decidable False} (a b : α), (if False then a else b) = b) ∧ (∀ b : Bool, (b || true) = true) ∧ ∀ b : Bool, (b && true) = b := by
  refine ⟨by intros; simp, by intros; simp, rfl, rfl, by intros; simp, by intros; simp, by intros; simp, by intros; simp, by intros; simp⟩
structure SB (h0 h7 : Heap) (B5 : Nat) (rec : Loop) (n : Int) (hx : Heap) : Prop where
  rx : RX h0 h7 [B5] rec hx
  b5 : Has hx B5 (.cells #[iV n] 3)
set_option maxHeartbeats 2000000 in
theorem c_same {h : Heap} {p bm fm : Nat} {vo w vk vf : Value} {s : BS} (hg : GoodB s 1000) (hbk : IsBk h p bm fm vo s.ks s.fs s.sq) (hr : IsRef h w s.ks s.gs s.sq vk vf) :
    HCalls Try.prog 25 #[bkP p, w] h (Grow (.bool true) h) := by
  obtain ⟨rfl, hk, hff⟩ := hr
  have hgl := hg.lk_
  have hgg := hg.lg
  obtain ⟨ak, ck, rfl, _, hks, _⟩ := Own.slG (f := entL) (sz := 3) (fun _ => rfl) hk rfl
  obtain ⟨af, cf, rfl, _, hfs, _⟩ := Own.slG (f := entL) (sz := 3) (fun _ => rfl) hff rfl
  refine hcalls2 Try.func25 rfl (by decide +kernel) (by simp only [Try.ntmps25]; exact of_decide_eq_true rfl) ?_
  intro e hin
  have e0 := hin 0 _ rfl
  have e1 := hin 1 _ rfl
  have hE := Ext.refl h
  refine hx_seq ?_
  refine hx_region ?_
  refine WL.box2 (by simp only [EN, Nat.reduceEqDiff, reduceIte, Value.cells, e0, FB, Bool.and_self, Bool.or_false, Bool.false_or]; rfl) ?_
  intro h1 B1 hx1 hlt1 hB1
  replace hE := hE.ext hx1
  replace hbk := hbk.ext hx1
  replace hk := hk.ext hx1
  replace hff := hff.ext hx1
  refine WL.box2 (by simp only [EN, Nat.reduceEqDiff, reduceIte, Value.cells, e1, FB, Bool.and_self, Bool.or_false, Bool.false_or, hB1.cell]; rfl) ?_
  intro h2 B2 hx2 hlt2 hB2
  replace hE := hE.ext hx2
  replace hbk := hbk.ext hx2
  replace hk := hk.ext hx2
  replace hff := hff.ext hx2
  replace hB1 := hB1.ext hx2
  have hs02 := hE.size
  refine WL.alloc2 zr4 ?_
  intro h3 B3 hx3 hlt3 hB3
  replace hE := hE.ext hx3
  replace hbk := hbk.ext hx3
  replace hk := hk.ext hx3
  replace hff := hff.ext hx3
  replace hB1 := hB1.ext hx3
  replace hB2 := hB2.ext hx3
  simp only [Value.cells] at hB3
  refine WL.nil ?_
  refine th_norm ?_
  refine hx_seq ?_
  refine hx_seq ?_
  apply hx_draw2 Rel.same [] [4, 12] [(4, Spec.is _), (12, Spec.is _)] rfl (by decide +kernel) rfl
  refine LD.qq rfl rfl (by simp only [EN, Nat.reduceEqDiff, reduceIte, qv_load, ld25, readN, AR, Nat.zero_add, Nat.reduceAdd, FB, Bool.and_self, Bool.or_false, Bool.false_or, hB1.cell, hB2.cell, hB3.cell]; rfl) ?_
  refine LD.qq rfl rfl (by simp only [EN, Nat.reduceEqDiff, reduceIte, qv_binOp, binv_eql, eqz25, eqn25, eqm25, Option.map_some, FB, Bool.and_self, Bool.or_false, Bool.false_or, hB1.cell, hB2.cell, hB3.cell]; rfl) ?_
  refine LD.qq rfl rfl (by simp only [EN, Nat.reduceEqDiff, reduceIte, qv_move, FB, Bool.and_self, Bool.or_false, Bool.false_or, hB1.cell, hB2.cell, hB3.cell]; rfl) ?_
  refine LD.cq rfl rfl (gd_at (t := 14) rfl (by simp only [EN, Nat.reduceEqDiff, reduceIte, FB, Bool.and_self, Bool.or_false, Bool.false_or, hB1.cell, hB2.cell, hB3.cell] <;> rfl)) (fun hg1_3 => by simp only [EN, Nat.reduceEqDiff, reduceIte, qv_load, ld25, readN, AR, Nat.zero_add, Nat.reduceAdd, FB, Bool.and_self, Bool.or_false, Bool.false_or, hB1.cell, hB2.cell, hB3.cell, hg1_3, GR]; rfl) ?_
  refine LD.cck rfl rfl (gd_at (t := 14) rfl (by simp only [EN, Nat.reduceEqDiff, reduceIte, FB, Bool.and_self, Bool.or_false, Bool.false_or, hB1.cell, hB2.cell, hB3.cell] <;> rfl)) Try.call20 (fun hg1_4 => by intro hD hr; obtain rfl : hD = _ := hr; simp only [EN, Nat.reduceEqDiff, reduceIte, AR, FB, Bool.and_self, Bool.or_false, Bool.false_or, hB1.cell, hB2.cell, hB3.cell, hg1_4, GR]; exact c_bkLen hbk) ?_
  refine LD.cq rfl rfl (gd_at (t := 14) rfl (by simp only [EN, Nat.reduceEqDiff, reduceIte, FB, Bool.and_self, Bool.or_false, Bool.false_or, hB1.cell, hB2.cell, hB3.cell] <;> rfl)) (fun hg1_5 => by simp only [EN, Nat.reduceEqDiff, reduceIte, qv_fieldAddr, fa29_0, Nat.zero_add, Nat.reduceAdd, FB, Bool.and_self, Bool.or_false, Bool.false_or, hB1.cell, hB2.cell, hB3.cell, hg1_5, GR]; rfl) ?_
  refine LD.cq rfl rfl (gd_at (t := 14) rfl (by simp only [EN, Nat.reduceEqDiff, reduceIte, FB, Bool.and_self, Bool.or_false, Bool.false_or, hB1.cell, hB2.cell, hB3.cell] <;> rfl)) (fun hg1_6 => by simp only [EN, Nat.reduceEqDiff, reduceIte, qv_load, ld26, readN, AR, Nat.zero_add, Nat.reduceAdd, FB, Bool.and_self, Bool.or_false, Bool.false_or, hB1.cell, hB2.cell, hB3.cell, hg1_6, GR]; rfl) ?_
  refine LD.cq rfl rfl (gd_at (t := 14) rfl (by simp only [EN, Nat.reduceEqDiff, reduceIte, FB, Bool.and_self, Bool.or_false, Bool.false_or, hB1.cell, hB2.cell, hB3.cell] <;> rfl)) (fun hg1_7 => by simp only [EN, Nat.reduceEqDiff, reduceIte, qv_len, ln26, AR, FB, Bool.and_self, Bool.or_false, Bool.false_or, hB1.cell, hB2.cell, hB3.cell, hg1_7, GR]; rfl) ?_
  refine LD.cq rfl rfl (gd_at (t := 14) rfl (by simp only [EN, Nat.reduceEqDiff, reduceIte, FB, Bool.and_self, Bool.or_false, Bool.false_or, hB1.cell, hB2.cell, hB3.cell] <;> rfl)) (fun hg1_8 => by simp only [EN, Nat.reduceEqDiff, reduceIte, qv_binOp, binv_neq, eq3, Option.map_some, FB, Bool.and_self, Bool.or_false, Bool.false_or, hB1.cell, hB2.cell, hB3.cell, hg1_8, GR]; rfl) ?_
  refine LD.qq rfl rfl (by simp only [EN, Nat.reduceEqDiff, reduceIte, qv_pick, pk_and, pk_or, GR, FB, Bool.and_self, Bool.or_false, Bool.false_or, hB1.cell, hB2.cell, hB3.cell]; rfl) ?_
  refine LD.qq rfl rfl (by simp only [EN, Nat.reduceEqDiff, reduceIte, qv_move, FB, Bool.and_self, Bool.or_false, Bool.false_or, hB1.cell, hB2.cell, hB3.cell]; rfl) ?_
  refine LD.cq rfl rfl (gd_at (t := 22) rfl (by simp only [EN, Nat.reduceEqDiff, reduceIte, FB, Bool.and_self, Bool.or_false, Bool.false_or, hB1.cell, hB2.cell, hB3.cell] <;> rfl)) (fun hg1_11 => by simp only [EN, Nat.reduceEqDiff, reduceIte, qv_load, ld25, readN, AR, Nat.zero_add, Nat.reduceAdd, FB, Bool.and_self, Bool.or_false, Bool.false_or, hB1.cell, hB2.cell, hB3.cell, hg1_11, GR]; rfl) ?_
  refine LD.cck rfl rfl (gd_at (t := 22) rfl (by simp only [EN, Nat.reduceEqDiff, reduceIte, FB, Bool.and_self, Bool.or_false, Bool.false_or, hB1.cell, hB2.cell, hB3.cell] <;> rfl)) Try.call24 (fun hg1_12 => by intro hD hr; obtain rfl : hD = _ := hr; simp only [EN, Nat.reduceEqDiff, reduceIte, AR, FB, Bool.and_self, Bool.or_false, Bool.false_or, hB1.cell, hB2.cell, hB3.cell, hg1_12, GR]; exact c_bkSeq hbk) ?_
  refine LD.cq rfl rfl (gd_at (t := 22) rfl (by simp only [EN, Nat.reduceEqDiff, reduceIte, FB, Bool.and_self, Bool.or_false, Bool.false_or, hB1.cell, hB2.cell, hB3.cell] <;> rfl)) (fun hg1_13 => by simp only [EN, Nat.reduceEqDiff, reduceIte, qv_fieldAddr, fa29_2, Nat.zero_add, Nat.reduceAdd, FB, Bool.and_self, Bool.or_false, Bool.false_or, hB1.cell, hB2.cell, hB3.cell, hg1_13, GR]; rfl) ?_
  refine LD.cq rfl rfl (gd_at (t := 22) rfl (by simp only [EN, Nat.reduceEqDiff, reduceIte, FB, Bool.and_self, Bool.or_false, Bool.false_or, hB1.cell, hB2.cell, hB3.cell] <;> rfl)) (fun hg1_14 => by simp only [EN, Nat.reduceEqDiff, reduceIte, qv_load, ld3, readN, AR, Nat.zero_add, Nat.reduceAdd, FB, Bool.and_self, Bool.or_false, Bool.false_or, hB1.cell, hB2.cell, hB3.cell, hg1_14, GR]; rfl) ?_
  refine LD.cq rfl rfl (gd_at (t := 22) rfl (by simp only [EN, Nat.reduceEqDiff, reduceIte, FB, Bool.and_self, Bool.or_false, Bool.false_or, hB1.cell, hB2.cell, hB3.cell] <;> rfl)) (fun hg1_15 => by simp only [EN, Nat.reduceEqDiff, reduceIte, qv_binOp, binv_neq, eq3, Option.map_some, FB, Bool.and_self, Bool.or_false, Bool.false_or, hB1.cell, hB2.cell, hB3.cell, hg1_15, GR]; rfl) ?_
  refine LD.qq rfl rfl (by simp only [EN, Nat.reduceEqDiff, reduceIte, qv_pick, pk_and, pk_or, GR, FB, Bool.and_self, Bool.or_false, Bool.false_or, hB1.cell, hB2.cell, hB3.cell]; rfl) ?_
  refine LD.nil ?_
  rintro _ rfl -
  refine WL.nil ?_
  refine th_norm ?_
  refine hx_cond (by simp only [EN, Nat.reduceEqDiff, reduceIte, FB, Bool.and_self, Bool.or_false, Bool.false_or, hB1.cell, hB2.cell, hB3.cell]; rfl) (fun hct28 => ?_) (fun hct28 => ?_)
  ·
    simp at hct28
  ·
    try simp only [BD] at hct28
    refine hx_skip ?_
    refine th_norm ?_
    refine hx_seq ?_
    refine hx_region ?_
    have hs3 := hE.size
    refine WL.allocSt zr3 sz3 (fun u => by simp only [EN, Nat.reduceEqDiff, reduceIte, Value.cells, FB, Bool.and_self, Bool.or_false, Bool.false_or, hB1.cell, hB2.cell, hB3.cell]; rfl) ⟨rfl, rfl⟩ (by simp [Value.oneCell']) ?_
    intro h4 B4 hx4 hlt4 hB4
    replace hE := hE.ext hx4
    replace hbk := hbk.ext hx4
    replace hk := hk.ext hx4
    replace hff := hff.ext hx4
    replace hB1 := hB1.ext hx4
    replace hB2 := hB2.ext hx4
    replace hB3 := hB3.ext hx4
    refine WL.nil ?_
    refine th_norm ?_
    refine hx_seq ?_
    refine hx_seq ?_
    refine hx_region ?_
    refine WL.qq (by simp only [EN, Nat.reduceEqDiff, reduceIte, qv_load, ld25, readN, AR, Nat.zero_add, Nat.reduceAdd, FB, Bool.and_self, Bool.or_false, Bool.false_or, hB1.cell, hB2.cell, hB3.cell, hB4.cell]; rfl) ?_
    refine WL.ce Try.call15 (by simp only [EN, Nat.reduceEqDiff, reduceIte, AR, FB, Bool.and_self, Bool.or_false, Bool.false_or, hB1.cell, hB2.cell, hB3.cell, hB4.cell]; exact c_all _ rfl _) ?_
    rintro _ h9 ⟨B9, rfl, hx9, hlt9, hB9⟩
    simp only [put_some]
    have hne9 : B9 ≠ B4 := (by have h9 := (Array.getElem?_eq_some_iff.1 hB4).1; omega)
    have hne2 : B2 ≠ B4 := hB2.ncell hB4 (by decide)
    have hne1 : B1 ≠ B4 := hB1.ncell hB4 (by decide)
    have hne3 : B3 ≠ B4 := hB3.ncell hB4 (by decide)
    replace hE := hE.ext hx9
    replace hbk := hbk.ext hx9
    replace hB1 := hB1.ext hx9
    replace hB2 := hB2.ext hx9
    replace hB3 := hB3.ext hx9
    replace hB4 := hB4.ext hx9
    replace hk := hk.ext hx9
    replace hff := hff.ext hx9
    refine WL.nil ?_
    refine th_norm ?_
    refine hx_block ?_
    refine hx_range (by simp only [EN, Nat.reduceEqDiff, reduceIte, e0, e1, FB, Bool.and_self, Bool.or_false, Bool.false_or, hB1.cell, hB2.cell, hB3.cell, hB4.cell]; rfl) Try.call45 ?_
    intro fnR0 hR0 hxR0 hsR0 hdR0 hrR0
    have hlu4 : B4 < h9.size := (Array.getElem?_eq_some_iff.1 hB4).1
    have hlu1 : B1 < h9.size := (Array.getElem?_eq_some_iff.1 hB1).1
    have hlu2 : B2 < h9.size := (Array.getElem?_eq_some_iff.1 hB2).1
    have hlu3 : B3 < h9.size := (Array.getElem?_eq_some_iff.1 hB3).1
    have nbk : ∀ x ∈ blks p bm fm vo, x ∉ [B4] := (fun x hx => by simp; exact hbk.offA hB4 (by decide) (by decide) x hx)
    have nk : ∀ c, (Value.slice ak s.ks.length ck).ownBlock = some c → c ∉ [B4] := fun c hc hh => by simp at hh; subst hh; exact hk.ncell hB4 (by decide) hc
    have nf : ∀ c, (Value.slice af s.gs.length cf).ownBlock = some c → c ∉ [B4] := fun c hc hh => by simp at hh; subst hh; exact hff.ncell hB4 (by decide) hc
    generalize hrec : recOf _ _ _ _ _ _ _ = rec at hrR0
    refine (c_allYield (p := p) (bm := bm) (fm := fm) (vo := vo) (ks := s.ks) (fs := s.fs) (sq := s.sq) B9 (h9.size + 1) (fun i hx => SB h h9 B4 rec i hx) (fun _ => False) (by omega) ?_ ?_ ?_ ?_).mono ?_
    · rintro i h1 h2 ⟨q1, q2⟩ he; exact ⟨q1.ext he, q2.ext he⟩
    · rintro i hx ⟨q1, q2⟩; exact ⟨hB9.gs q1.gs (by simpa using hne9), hbk.gsA q1.gs nbk⟩
    rotate_left
    · exact ⟨RX.start hxR0 hsR0 hdR0 hrR0 hE (by simp; omega) (by simp; omega), hB4.ext hxR0⟩
    rotate_left
    ·
      rintro i y hx hyi ⟨hC, hT⟩
      have hsz := hC.size
      have hil : i < s.ks.length := (List.getElem?_eq_some_iff.1 hyi).1
      subst hrec
      refine hy_body (vs := [kV y.1, iV y.2]) (ps := [31, 32]) hC.rc rfl rfl rfl (by decide) rfl rfl ?_
      simp only [pars, List.zip_cons_cons, List.zip_nil_left, List.foldl_cons, List.foldl_nil]
      have hA1 := hB1.gs hC.gs (by simpa using hne1)
      have hA2 := hB2.gs hC.gs (by simpa using hne2)
      have hbx := hbk.gsA hC.gs nbk
      refine hx_seq ?_
      refine hx_region ?_
      refine WL.allocSt zr34 sz34 (fun u => by simp only [EN, Nat.reduceEqDiff, reduceIte, Value.cells, FB, Bool.and_self, Bool.or_false, Bool.false_or, hB1.cell, hB2.cell, hB3.cell, hB4.cell, hT.cell, hA1.cell, hA2.cell, hbx.blk.cell]; rfl) ⟨rfl, rfl⟩ (by simp [Value.oneCell']) ?_
      intro h5 B5 hx5 hlt5 hB5
      replace hC := hC.ext hx5
      replace hT := hT.ext hx5
      replace hA1 := hA1.ext hx5
      replace hA2 := hA2.ext hx5
      replace hbx := hbx.ext hx5
      refine WL.nil ?_
      refine th_norm ?_
      refine hx_region ?_
      refine WL.qq (by simp only [EN, Nat.reduceEqDiff, reduceIte, qv_assign, FB, Bool.and_self, Bool.or_false, Bool.false_or, hB1.cell, hB2.cell, hB3.cell, hB4.cell, hT.cell, hA1.cell, hA2.cell, hbx.blk.cell, hB5.cell]; rfl) ?_
      refine WL.nil ?_
      refine th_norm ?_
      refine ⟨_, hC.rc, rfl, ?_⟩
      intro h20 hw20
      replace hC := hC.turn hw20
      replace hT := hT.wr hw20 (by omega)
      replace hB5 := hB5.wr hw20 (by omega)
      replace hA1 := hB1.gs hC.gs (by simpa using hne1)
      replace hA2 := hB2.gs hC.gs (by simpa using hne2)
      replace hbx := hbk.gsA hC.gs nbk
      have hsk := slG_of (hk.gs hC.gs nk)
      have hsf := slG_of (hff.gs hC.gs nf)
      obtain ⟨b, off, ha, hr3, hr2, hc0, hc1, hc2⟩ := ent_rd hsk hyi
      subst ha
      have hge : decide ((s.ks.length : Int) ≤ i) = false := by simp; omega
      have hlk : lk s.ks y.1 = y.2 := lk_mem hg.nd (List.mem_of_getElem? hyi)
      refine hx_block ?_
      refine hx_seq ?_
      refine hx_seq ?_
      apply hx_draw2 Rel.grows [] [28, 35, 38] [(28, Spec.is _), (35, Spec.is _), (38, Spec.is _)] rfl (by decide +kernel) rfl
      refine LD.qq rfl rfl (by simp only [EN, Nat.reduceEqDiff, reduceIte, qv_load, ld3, readN, AR, Nat.zero_add, Nat.reduceAdd, FB, Bool.and_self, Bool.or_false, Bool.false_or, hB1.cell, hB2.cell, hB3.cell, hB4.cell, hT.cell, hA1.cell, hA2.cell, hbx.blk.cell, hB5.cell]; rfl) ?_
      refine LD.qq rfl rfl (by simp only [EN, Nat.reduceEqDiff, reduceIte, qv_fieldAddr, fa29_0, Nat.zero_add, Nat.reduceAdd, FB, Bool.and_self, Bool.or_false, Bool.false_or, hB1.cell, hB2.cell, hB3.cell, hB4.cell, hT.cell, hA1.cell, hA2.cell, hbx.blk.cell, hB5.cell]; rfl) ?_
      refine LD.qq rfl rfl (by simp only [EN, Nat.reduceEqDiff, reduceIte, qv_load, ld26, readN, AR, Nat.zero_add, Nat.reduceAdd, FB, Bool.and_self, Bool.or_false, Bool.false_or, hB1.cell, hB2.cell, hB3.cell, hB4.cell, hT.cell, hA1.cell, hA2.cell, hbx.blk.cell, hB5.cell]; rfl) ?_
      refine LD.qq rfl rfl (by simp only [EN, Nat.reduceEqDiff, reduceIte, qv_len, ln26, AR, FB, Bool.and_self, Bool.or_false, Bool.false_or, hB1.cell, hB2.cell, hB3.cell, hB4.cell, hT.cell, hA1.cell, hA2.cell, hbx.blk.cell, hB5.cell]; rfl) ?_
      refine LD.qq rfl rfl (by simp only [EN, Nat.reduceEqDiff, reduceIte, e0, e1, FB, Bool.and_self, Bool.or_false, Bool.false_or, hB1.cell, hB2.cell, hB3.cell, hB4.cell, hT.cell, hA1.cell, hA2.cell, hbx.blk.cell, hB5.cell, qv_binOp, binv_geq, hge]; rfl) ?_
      refine LD.qq rfl rfl (by simp only [EN, Nat.reduceEqDiff, reduceIte, qv_move, FB, Bool.and_self, Bool.or_false, Bool.false_or, hB1.cell, hB2.cell, hB3.cell, hB4.cell, hT.cell, hA1.cell, hA2.cell, hbx.blk.cell, hB5.cell]; rfl) ?_
      refine LD.cq rfl rfl (gd_at (t := 38) rfl (by simp only [EN, Nat.reduceEqDiff, reduceIte, FB, Bool.and_self, Bool.or_false, Bool.false_or, hB1.cell, hB2.cell, hB3.cell, hB4.cell, hT.cell, hA1.cell, hA2.cell, hbx.blk.cell, hB5.cell] <;> rfl)) (fun hg7_6 => by simp only [EN, Nat.reduceEqDiff, reduceIte, qv_load, ld34, readN, AR, Nat.zero_add, Nat.reduceAdd, FB, Bool.and_self, Bool.or_false, Bool.false_or, hB1.cell, hB2.cell, hB3.cell, hB4.cell, hT.cell, hA1.cell, hA2.cell, hbx.blk.cell, hB5.cell, hg7_6, GR]; rfl) ?_
      refine LD.cq rfl rfl (gd_at (t := 38) rfl (by simp only [EN, Nat.reduceEqDiff, reduceIte, FB, Bool.and_self, Bool.or_false, Bool.false_or, hB1.cell, hB2.cell, hB3.cell, hB4.cell, hT.cell, hA1.cell, hA2.cell, hbx.blk.cell, hB5.cell] <;> rfl)) (fun hg7_7 => by simp only [EN, Nat.reduceEqDiff, reduceIte, qv_fieldAddr, fa29_0, Nat.zero_add, Nat.reduceAdd, FB, Bool.and_self, Bool.or_false, Bool.false_or, hB1.cell, hB2.cell, hB3.cell, hB4.cell, hT.cell, hA1.cell, hA2.cell, hbx.blk.cell, hB5.cell, hg7_7, GR]; rfl) ?_
      refine LD.cq rfl rfl (gd_at (t := 38) rfl (by simp only [EN, Nat.reduceEqDiff, reduceIte, FB, Bool.and_self, Bool.or_false, Bool.false_or, hB1.cell, hB2.cell, hB3.cell, hB4.cell, hT.cell, hA1.cell, hA2.cell, hbx.blk.cell, hB5.cell] <;> rfl)) (fun hg7_8 => by simp only [EN, Nat.reduceEqDiff, reduceIte, qv_load, ld26, readN, AR, Nat.zero_add, Nat.reduceAdd, FB, Bool.and_self, Bool.or_false, Bool.false_or, hB1.cell, hB2.cell, hB3.cell, hB4.cell, hT.cell, hA1.cell, hA2.cell, hbx.blk.cell, hB5.cell, hg7_8, GR]; rfl) ?_
      refine LD.cq rfl rfl (gd_at (t := 38) rfl (by simp only [EN, Nat.reduceEqDiff, reduceIte, FB, Bool.and_self, Bool.or_false, Bool.false_or, hB1.cell, hB2.cell, hB3.cell, hB4.cell, hT.cell, hA1.cell, hA2.cell, hbx.blk.cell, hB5.cell] <;> rfl)) (fun hg7_9 => by simp only [EN, Nat.reduceEqDiff, reduceIte, qv_load, ld3, readN, AR, Nat.zero_add, Nat.reduceAdd, FB, Bool.and_self, Bool.or_false, Bool.false_or, hB1.cell, hB2.cell, hB3.cell, hB4.cell, hT.cell, hA1.cell, hA2.cell, hbx.blk.cell, hB5.cell, hg7_9, GR]; rfl) ?_
      refine LD.cq rfl rfl (gd_at (t := 38) rfl (by simp only [EN, Nat.reduceEqDiff, reduceIte, FB, Bool.and_self, Bool.or_false, Bool.false_or, hB1.cell, hB2.cell, hB3.cell, hB4.cell, hT.cell, hA1.cell, hA2.cell, hbx.blk.cell, hB5.cell] <;> rfl)) (fun hg7_10 => by have hq0 := hg7_10; (try simp only [BD] at hq0); simp only [EN, Nat.reduceEqDiff, reduceIte, qv_indexAddr, FB, Bool.and_self, Bool.or_false, Bool.false_or, hB1.cell, hB2.cell, hB3.cell, hB4.cell, hT.cell, hA1.cell, hA2.cell, hbx.blk.cell, hB5.cell, hg7_10, GR]; (try simp (disch := omega) only [ix26, Int.toNat_natCast]); rfl) ?_
      refine LD.cq rfl rfl (gd_at (t := 38) rfl (by simp only [EN, Nat.reduceEqDiff, reduceIte, FB, Bool.and_self, Bool.or_false, Bool.false_or, hB1.cell, hB2.cell, hB3.cell, hB4.cell, hT.cell, hA1.cell, hA2.cell, hbx.blk.cell, hB5.cell] <;> rfl)) (fun hg7_11 => by simp only [EN, Nat.reduceEqDiff, reduceIte, qv_fieldAddr, fa44_0, Nat.zero_add, Nat.reduceAdd, FB, Bool.and_self, Bool.or_false, Bool.false_or, hB1.cell, hB2.cell, hB3.cell, hB4.cell, hT.cell, hA1.cell, hA2.cell, hbx.blk.cell, hB5.cell, hg7_11, GR]; rfl) ?_
      refine LD.cq rfl rfl (gd_at (t := 38) rfl (by simp only [EN, Nat.reduceEqDiff, reduceIte, FB, Bool.and_self, Bool.or_false, Bool.false_or, hB1.cell, hB2.cell, hB3.cell, hB4.cell, hT.cell, hA1.cell, hA2.cell, hbx.blk.cell, hB5.cell] <;> rfl)) (fun hg7_12 => by simp only [EN, Nat.reduceEqDiff, reduceIte, e0, e1, FB, Bool.and_self, Bool.or_false, Bool.false_or, hB1.cell, hB2.cell, hB3.cell, hB4.cell, hT.cell, hA1.cell, hA2.cell, hbx.blk.cell, hB5.cell, GR, hg7_12, qv_load, ld34, Int.toNat_natCast, Nat.add_zero, hr2]; rfl) ?_
      refine LD.cq rfl rfl (gd_at (t := 38) rfl (by simp only [EN, Nat.reduceEqDiff, reduceIte, FB, Bool.and_self, Bool.or_false, Bool.false_or, hB1.cell, hB2.cell, hB3.cell, hB4.cell, hT.cell, hA1.cell, hA2.cell, hbx.blk.cell, hB5.cell] <;> rfl)) (fun hg7_13 => by simp only [EN, Nat.reduceEqDiff, reduceIte, qv_binOp, binv_neq, eqs34, Option.map_some, FB, Bool.and_self, Bool.or_false, Bool.false_or, hB1.cell, hB2.cell, hB3.cell, hB4.cell, hT.cell, hA1.cell, hA2.cell, hbx.blk.cell, hB5.cell, hg7_13, GR]; rfl) ?_
      refine LD.qq rfl rfl (by simp only [EN, Nat.reduceEqDiff, reduceIte, qv_pick, pk_and, pk_or, GR, FB, Bool.and_self, Bool.or_false, Bool.false_or, hB1.cell, hB2.cell, hB3.cell, hB4.cell, hT.cell, hA1.cell, hA2.cell, hbx.blk.cell, hB5.cell]; rfl) ?_
      refine LD.qq rfl rfl (by simp only [EN, Nat.reduceEqDiff, reduceIte, qv_move, FB, Bool.and_self, Bool.or_false, Bool.false_or, hB1.cell, hB2.cell, hB3.cell, hB4.cell, hT.cell, hA1.cell, hA2.cell, hbx.blk.cell, hB5.cell]; rfl) ?_
      refine LD.cq rfl rfl (gd_at (t := 48) rfl (by simp only [EN, Nat.reduceEqDiff, reduceIte, FB, Bool.and_self, Bool.or_false, Bool.false_or, hB1.cell, hB2.cell, hB3.cell, hB4.cell, hT.cell, hA1.cell, hA2.cell, hbx.blk.cell, hB5.cell] <;> rfl)) (fun hg7_16 => by simp only [EN, Nat.reduceEqDiff, reduceIte, qv_move, FB, Bool.and_self, Bool.or_false, Bool.false_or, hB1.cell, hB2.cell, hB3.cell, hB4.cell, hT.cell, hA1.cell, hA2.cell, hbx.blk.cell, hB5.cell, hg7_16, GR]; rfl) ?_
      refine LD.cq rfl rfl (gd_at (t := 48) rfl (by simp only [EN, Nat.reduceEqDiff, reduceIte, FB, Bool.and_self, Bool.or_false, Bool.false_or, hB1.cell, hB2.cell, hB3.cell, hB4.cell, hT.cell, hA1.cell, hA2.cell, hbx.blk.cell, hB5.cell] <;> rfl)) (fun hg7_17 => by simp only [EN, Nat.reduceEqDiff, reduceIte, qv_fieldAddr, fa29_0, Nat.zero_add, Nat.reduceAdd, FB, Bool.and_self, Bool.or_false, Bool.false_or, hB1.cell, hB2.cell, hB3.cell, hB4.cell, hT.cell, hA1.cell, hA2.cell, hbx.blk.cell, hB5.cell, hg7_17, GR]; rfl) ?_
      refine LD.cq rfl rfl (gd_at (t := 48) rfl (by simp only [EN, Nat.reduceEqDiff, reduceIte, FB, Bool.and_self, Bool.or_false, Bool.false_or, hB1.cell, hB2.cell, hB3.cell, hB4.cell, hT.cell, hA1.cell, hA2.cell, hbx.blk.cell, hB5.cell] <;> rfl)) (fun hg7_18 => by simp only [EN, Nat.reduceEqDiff, reduceIte, qv_load, ld26, readN, AR, Nat.zero_add, Nat.reduceAdd, FB, Bool.and_self, Bool.or_false, Bool.false_or, hB1.cell, hB2.cell, hB3.cell, hB4.cell, hT.cell, hA1.cell, hA2.cell, hbx.blk.cell, hB5.cell, hg7_18, GR]; rfl) ?_
      refine LD.cq rfl rfl (gd_at (t := 48) rfl (by simp only [EN, Nat.reduceEqDiff, reduceIte, FB, Bool.and_self, Bool.or_false, Bool.false_or, hB1.cell, hB2.cell, hB3.cell, hB4.cell, hT.cell, hA1.cell, hA2.cell, hbx.blk.cell, hB5.cell] <;> rfl)) (fun hg7_19 => by simp only [EN, Nat.reduceEqDiff, reduceIte, qv_load, ld3, readN, AR, Nat.zero_add, Nat.reduceAdd, FB, Bool.and_self, Bool.or_false, Bool.false_or, hB1.cell, hB2.cell, hB3.cell, hB4.cell, hT.cell, hA1.cell, hA2.cell, hbx.blk.cell, hB5.cell, hg7_19, GR]; rfl) ?_
      refine LD.cq rfl rfl (gd_at (t := 48) rfl (by simp only [EN, Nat.reduceEqDiff, reduceIte, FB, Bool.and_self, Bool.or_false, Bool.false_or, hB1.cell, hB2.cell, hB3.cell, hB4.cell, hT.cell, hA1.cell, hA2.cell, hbx.blk.cell, hB5.cell] <;> rfl)) (fun hg7_20 => by have hq0 := hg7_20; (try simp only [BD] at hq0); simp only [EN, Nat.reduceEqDiff, reduceIte, qv_indexAddr, FB, Bool.and_self, Bool.or_false, Bool.false_or, hB1.cell, hB2.cell, hB3.cell, hB4.cell, hT.cell, hA1.cell, hA2.cell, hbx.blk.cell, hB5.cell, hg7_20, GR]; (try simp (disch := omega) only [ix26, Int.toNat_natCast]); rfl) ?_
      refine LD.cq rfl rfl (gd_at (t := 48) rfl (by simp only [EN, Nat.reduceEqDiff, reduceIte, FB, Bool.and_self, Bool.or_false, Bool.false_or, hB1.cell, hB2.cell, hB3.cell, hB4.cell, hT.cell, hA1.cell, hA2.cell, hbx.blk.cell, hB5.cell] <;> rfl)) (fun hg7_21 => by simp only [EN, Nat.reduceEqDiff, reduceIte, qv_fieldAddr, fa44_1, Nat.zero_add, Nat.reduceAdd, FB, Bool.and_self, Bool.or_false, Bool.false_or, hB1.cell, hB2.cell, hB3.cell, hB4.cell, hT.cell, hA1.cell, hA2.cell, hbx.blk.cell, hB5.cell, hg7_21, GR]; rfl) ?_
      refine LD.cq rfl rfl (gd_at (t := 48) rfl (by simp only [EN, Nat.reduceEqDiff, reduceIte, FB, Bool.and_self, Bool.or_false, Bool.false_or, hB1.cell, hB2.cell, hB3.cell, hB4.cell, hT.cell, hA1.cell, hA2.cell, hbx.blk.cell, hB5.cell] <;> rfl)) (fun hg7_22 => by simp only [EN, Nat.reduceEqDiff, reduceIte, e0, e1, FB, Bool.and_self, Bool.or_false, Bool.false_or, hB1.cell, hB2.cell, hB3.cell, hB4.cell, hT.cell, hA1.cell, hA2.cell, hbx.blk.cell, hB5.cell, GR, hg7_22, qv_load, ld2, Int.toNat_natCast, hc2]; rfl) ?_
      refine LD.cq rfl rfl (gd_at (t := 48) rfl (by simp only [EN, Nat.reduceEqDiff, reduceIte, FB, Bool.and_self, Bool.or_false, Bool.false_or, hB1.cell, hB2.cell, hB3.cell, hB4.cell, hT.cell, hA1.cell, hA2.cell, hbx.blk.cell, hB5.cell] <;> rfl)) (fun hg7_23 => by simp only [EN, Nat.reduceEqDiff, reduceIte, qv_binOp, binv_neq, eq2, Option.map_some, FB, Bool.and_self, Bool.or_false, Bool.false_or, hB1.cell, hB2.cell, hB3.cell, hB4.cell, hT.cell, hA1.cell, hA2.cell, hbx.blk.cell, hB5.cell, hg7_23, GR]; rfl) ?_
      refine LD.qq rfl rfl (by simp only [EN, Nat.reduceEqDiff, reduceIte, qv_pick, pk_and, pk_or, GR, FB, Bool.and_self, Bool.or_false, Bool.false_or, hB1.cell, hB2.cell, hB3.cell, hB4.cell, hT.cell, hA1.cell, hA2.cell, hbx.blk.cell, hB5.cell]; rfl) ?_
      refine LD.qq rfl rfl (by simp only [EN, Nat.reduceEqDiff, reduceIte, qv_move, FB, Bool.and_self, Bool.or_false, Bool.false_or, hB1.cell, hB2.cell, hB3.cell, hB4.cell, hT.cell, hA1.cell, hA2.cell, hbx.blk.cell, hB5.cell]; rfl) ?_
      refine LD.cq rfl rfl (gd_at (t := 58) rfl (by simp only [EN, Nat.reduceEqDiff, reduceIte, FB, Bool.and_self, Bool.or_false, Bool.false_or, hB1.cell, hB2.cell, hB3.cell, hB4.cell, hT.cell, hA1.cell, hA2.cell, hbx.blk.cell, hB5.cell] <;> rfl)) (fun hg7_26 => by simp only [EN, Nat.reduceEqDiff, reduceIte, qv_load, ld25, readN, AR, Nat.zero_add, Nat.reduceAdd, FB, Bool.and_self, Bool.or_false, Bool.false_or, hB1.cell, hB2.cell, hB3.cell, hB4.cell, hT.cell, hA1.cell, hA2.cell, hbx.blk.cell, hB5.cell, hg7_26, GR]; rfl) ?_
      refine LD.cq rfl rfl (gd_at (t := 58) rfl (by simp only [EN, Nat.reduceEqDiff, reduceIte, FB, Bool.and_self, Bool.or_false, Bool.false_or, hB1.cell, hB2.cell, hB3.cell, hB4.cell, hT.cell, hA1.cell, hA2.cell, hbx.blk.cell, hB5.cell] <;> rfl)) (fun hg7_27 => by simp only [EN, Nat.reduceEqDiff, reduceIte, qv_load, ld34, readN, AR, Nat.zero_add, Nat.reduceAdd, FB, Bool.and_self, Bool.or_false, Bool.false_or, hB1.cell, hB2.cell, hB3.cell, hB4.cell, hT.cell, hA1.cell, hA2.cell, hbx.blk.cell, hB5.cell, hg7_27, GR]; rfl) ?_
      refine LD.cck rfl rfl (gd_at (t := 58) rfl (by simp only [EN, Nat.reduceEqDiff, reduceIte, FB, Bool.and_self, Bool.or_false, Bool.false_or, hB1.cell, hB2.cell, hB3.cell, hB4.cell, hT.cell, hA1.cell, hA2.cell, hbx.blk.cell, hB5.cell] <;> rfl)) Try.call21 (fun hg7_28 => by intro hD hr; have hx : Ext _ _ := hr; have hC := hC.ext hx; have hT := hT.ext hx; have hA1 := hA1.ext hx; have hA2 := hA2.ext hx; have hbx := hbx.ext hx; have hB5 := hB5.ext hx; simp only [EN, Nat.reduceEqDiff, reduceIte, AR, FB, Bool.and_self, Bool.or_false, Bool.false_or, hB1.cell, hB2.cell, hB3.cell, hB4.cell, hT.cell, hA1.cell, hA2.cell, hbx.blk.cell, hB5.cell, hg7_28, GR]; exact hlk ▸ c_bkBal y.1 hbx) ?_
      refine LD.cq rfl rfl (gd_at (t := 58) rfl (by simp only [EN, Nat.reduceEqDiff, reduceIte, FB, Bool.and_self, Bool.or_false, Bool.false_or, hB1.cell, hB2.cell, hB3.cell, hB4.cell, hT.cell, hA1.cell, hA2.cell, hbx.blk.cell, hB5.cell] <;> rfl)) (fun hg7_29 => by simp only [EN, Nat.reduceEqDiff, reduceIte, qv_move, FB, Bool.and_self, Bool.or_false, Bool.false_or, hB1.cell, hB2.cell, hB3.cell, hB4.cell, hT.cell, hA1.cell, hA2.cell, hbx.blk.cell, hB5.cell, hg7_29, GR]; rfl) ?_
      refine LD.cq rfl rfl (gd_at (t := 58) rfl (by simp only [EN, Nat.reduceEqDiff, reduceIte, FB, Bool.and_self, Bool.or_false, Bool.false_or, hB1.cell, hB2.cell, hB3.cell, hB4.cell, hT.cell, hA1.cell, hA2.cell, hbx.blk.cell, hB5.cell] <;> rfl)) (fun hg7_30 => by simp only [EN, Nat.reduceEqDiff, reduceIte, qv_binOp, binv_neq, eq2, Option.map_some, FB, Bool.and_self, Bool.or_false, Bool.false_or, hB1.cell, hB2.cell, hB3.cell, hB4.cell, hT.cell, hA1.cell, hA2.cell, hbx.blk.cell, hB5.cell, hg7_30, GR]; rfl) ?_
      refine LD.qq rfl rfl (by simp only [EN, Nat.reduceEqDiff, reduceIte, qv_pick, pk_and, pk_or, GR, FB, Bool.and_self, Bool.or_false, Bool.false_or, hB1.cell, hB2.cell, hB3.cell, hB4.cell, hT.cell, hA1.cell, hA2.cell, hbx.blk.cell, hB5.cell]; rfl) ?_
      refine LD.qq rfl rfl (by simp only [EN, Nat.reduceEqDiff, reduceIte, qv_move, FB, Bool.and_self, Bool.or_false, Bool.false_or, hB1.cell, hB2.cell, hB3.cell, hB4.cell, hT.cell, hA1.cell, hA2.cell, hbx.blk.cell, hB5.cell]; rfl) ?_
      refine LD.cq rfl rfl (gd_at (t := 65) rfl (by simp only [EN, Nat.reduceEqDiff, reduceIte, FB, Bool.and_self, Bool.or_false, Bool.false_or, hB1.cell, hB2.cell, hB3.cell, hB4.cell, hT.cell, hA1.cell, hA2.cell, hbx.blk.cell, hB5.cell] <;> rfl)) (fun hg7_33 => by simp only [EN, Nat.reduceEqDiff, reduceIte, qv_load, ld25, readN, AR, Nat.zero_add, Nat.reduceAdd, FB, Bool.and_self, Bool.or_false, Bool.false_or, hB1.cell, hB2.cell, hB3.cell, hB4.cell, hT.cell, hA1.cell, hA2.cell, hbx.blk.cell, hB5.cell, hg7_33, GR]; rfl) ?_
      refine LD.cq rfl rfl (gd_at (t := 65) rfl (by simp only [EN, Nat.reduceEqDiff, reduceIte, FB, Bool.and_self, Bool.or_false, Bool.false_or, hB1.cell, hB2.cell, hB3.cell, hB4.cell, hT.cell, hA1.cell, hA2.cell, hbx.blk.cell, hB5.cell] <;> rfl)) (fun hg7_34 => by simp only [EN, Nat.reduceEqDiff, reduceIte, qv_load, ld34, readN, AR, Nat.zero_add, Nat.reduceAdd, FB, Bool.and_self, Bool.or_false, Bool.false_or, hB1.cell, hB2.cell, hB3.cell, hB4.cell, hT.cell, hA1.cell, hA2.cell, hbx.blk.cell, hB5.cell, hg7_34, GR]; rfl) ?_
      refine LD.cck rfl rfl (gd_at (t := 65) rfl (by simp only [EN, Nat.reduceEqDiff, reduceIte, FB, Bool.and_self, Bool.or_false, Bool.false_or, hB1.cell, hB2.cell, hB3.cell, hB4.cell, hT.cell, hA1.cell, hA2.cell, hbx.blk.cell, hB5.cell] <;> rfl)) Try.call16 (fun hg7_35 => by intro hD hr; have hx : Ext _ _ := hr; have hC := hC.ext hx; have hT := hT.ext hx; have hA1 := hA1.ext hx; have hA2 := hA2.ext hx; have hbx := hbx.ext hx; have hB5 := hB5.ext hx; simp only [EN, Nat.reduceEqDiff, reduceIte, AR, FB, Bool.and_self, Bool.or_false, Bool.false_or, hB1.cell, hB2.cell, hB3.cell, hB4.cell, hT.cell, hA1.cell, hA2.cell, hbx.blk.cell, hB5.cell, hg7_35, GR]; exact c_bkFlo y.1 hbx) ?_
      refine LD.cq rfl rfl (gd_at (t := 65) rfl (by simp only [EN, Nat.reduceEqDiff, reduceIte, FB, Bool.and_self, Bool.or_false, Bool.false_or, hB1.cell, hB2.cell, hB3.cell, hB4.cell, hT.cell, hA1.cell, hA2.cell, hbx.blk.cell, hB5.cell] <;> rfl)) (fun hg7_36 => by simp only [EN, Nat.reduceEqDiff, reduceIte, qv_load, ld29, readN, AR, Nat.zero_add, Nat.reduceAdd, FB, Bool.and_self, Bool.or_false, Bool.false_or, hB1.cell, hB2.cell, hB3.cell, hB4.cell, hT.cell, hA1.cell, hA2.cell, hbx.blk.cell, hB5.cell, hg7_36, GR]; rfl) ?_
      refine LD.cq rfl rfl (gd_at (t := 65) rfl (by simp only [EN, Nat.reduceEqDiff, reduceIte, FB, Bool.and_self, Bool.or_false, Bool.false_or, hB1.cell, hB2.cell, hB3.cell, hB4.cell, hT.cell, hA1.cell, hA2.cell, hbx.blk.cell, hB5.cell] <;> rfl)) (fun hg7_37 => by simp only [EN, Nat.reduceEqDiff, reduceIte, qv_load, ld34, readN, AR, Nat.zero_add, Nat.reduceAdd, FB, Bool.and_self, Bool.or_false, Bool.false_or, hB1.cell, hB2.cell, hB3.cell, hB4.cell, hT.cell, hA1.cell, hA2.cell, hbx.blk.cell, hB5.cell, hg7_37, GR]; rfl) ?_
      refine LD.cck rfl rfl (gd_at (t := 65) rfl (by simp only [EN, Nat.reduceEqDiff, reduceIte, FB, Bool.and_self, Bool.or_false, Bool.false_or, hB1.cell, hB2.cell, hB3.cell, hB4.cell, hT.cell, hA1.cell, hA2.cell, hbx.blk.cell, hB5.cell] <;> rfl)) Try.call52 (fun hg7_38 => by intro hD hr; have hx : Ext _ _ := hr; have hC := hC.ext hx; have hT := hT.ext hx; have hA1 := hA1.ext hx; have hA2 := hA2.ext hx; have hbx := hbx.ext hx; have hB5 := hB5.ext hx; simp only [EN, Nat.reduceEqDiff, reduceIte, AR, FB, Bool.and_self, Bool.or_false, Bool.false_or, hB1.cell, hB2.cell, hB3.cell, hB4.cell, hT.cell, hA1.cell, hA2.cell, hbx.blk.cell, hB5.cell, hg7_38, GR]; exact (hg.same y.1).symm ▸ c_rfloor _ af s.gs cf s.sq y.1 (by omega) (hsf.ext hx)) ?_
      refine LD.cq rfl rfl (gd_at (t := 65) rfl (by simp only [EN, Nat.reduceEqDiff, reduceIte, FB, Bool.and_self, Bool.or_false, Bool.false_or, hB1.cell, hB2.cell, hB3.cell, hB4.cell, hT.cell, hA1.cell, hA2.cell, hbx.blk.cell, hB5.cell] <;> rfl)) (fun hg7_39 => by simp only [EN, Nat.reduceEqDiff, reduceIte, qv_binOp, binv_neq, eq2, Option.map_some, FB, Bool.and_self, Bool.or_false, Bool.false_or, hB1.cell, hB2.cell, hB3.cell, hB4.cell, hT.cell, hA1.cell, hA2.cell, hbx.blk.cell, hB5.cell, hg7_39, GR]; rfl) ?_
      refine LD.qq rfl rfl (by simp only [EN, Nat.reduceEqDiff, reduceIte, qv_pick, pk_and, pk_or, GR, FB, Bool.and_self, Bool.or_false, Bool.false_or, hB1.cell, hB2.cell, hB3.cell, hB4.cell, hT.cell, hA1.cell, hA2.cell, hbx.blk.cell, hB5.cell]; rfl) ?_
      refine LD.nil ?_
      rintro h6 hx6 hF7
      replace hx6 : Ext _ _ := hx6
      replace hC := hC.ext hx6
      replace hT := hT.ext hx6
      replace hA1 := hA1.ext hx6
      replace hA2 := hA2.ext hx6
      replace hbx := hbx.ext hx6
      replace hB5 := hB5.ext hx6
      refine WL.nil ?_
      refine th_norm ?_
      refine hx_cond (by simp only [EN, Nat.reduceEqDiff, reduceIte, FB, Bool.and_self, Bool.or_false, Bool.false_or, hB1.cell, hB2.cell, hB3.cell, hB4.cell, hT.cell, hA1.cell, hA2.cell, hbx.blk.cell, hB5.cell]; rfl) (fun hct73 => ?_) (fun hct73 => ?_)
      ·
        simp at hct73
      ·
        try simp only [BD] at hct73
        refine hx_skip ?_
        refine th_norm ?_
        refine hx_region ?_
        refine WL.qq (by simp only [EN, Nat.reduceEqDiff, reduceIte, qv_load, ld3, readN, AR, Nat.zero_add, Nat.reduceAdd, FB, Bool.and_self, Bool.or_false, Bool.false_or, hB1.cell, hB2.cell, hB3.cell, hB4.cell, hT.cell, hA1.cell, hA2.cell, hbx.blk.cell, hB5.cell]; rfl) ?_
        refine WL.qq (by simp only [EN, Nat.reduceEqDiff, reduceIte, qv_binOp, binv_add, FB, Bool.and_self, Bool.or_false, Bool.false_or, hB1.cell, hB2.cell, hB3.cell, hB4.cell, hT.cell, hA1.cell, hA2.cell, hbx.blk.cell, hB5.cell]; (try simp (disch := omega) only [w64, w8, wu64]); rfl) ?_
        refine WL.store (by simp only [EN, Nat.reduceEqDiff, reduceIte, FB, Bool.and_self, Bool.or_false, Bool.false_or, hB1.cell, hB2.cell, hB3.cell, hB4.cell, hT.cell, hA1.cell, hA2.cell, hbx.blk.cell, hB5.cell] <;> rfl) sz3 (by simp only [EN, Nat.reduceEqDiff, reduceIte, Value.cells, FB, Bool.and_self, Bool.or_false, Bool.false_or, hB1.cell, hB2.cell, hB3.cell, hB4.cell, hT.cell, hA1.cell, hA2.cell, hbx.blk.cell, hB5.cell] <;> rfl) rfl hT (by first | (simp [true_and]; done) | (simp [true_and]; omega) | omega) (by simp [Value.oneCell']) ?_
        intro h7 hw7
        replace hC := hC.put hw7 (.inl (by simp))
        have hT9 := hw7.at_
        replace hT : Has _ B4 (.cells #[iV ((i + 1 : Nat) : Int)] 3) := (by simpa [splc] using hT9)
        refine WL.nil ?_
        refine bl_norm ?_
        refine ⟨_, hC.rc, ?_⟩
        intro h50 hw50
        exact ⟨true, rfl, fun _ => ⟨hC.turn hw50, hT.wr hw50 (by omega)⟩, fun hh => by cases hh⟩
    ·
      rintro v0 h3 (⟨hC, hT⟩ | hf)
      rotate_left
      · exact hf.elim
      refine after_any hC.rc (by subst hrec; rfl) (.inl ⟨by subst hrec; rfl, ?_⟩)
      intro h51 o hw51
      replace hT := hT.wr hw51 (by omega)
      have hd : Has h51 h9.size (.deferred (some [])) := by rw [Has, hw51.same _ (by omega)]; exact hC.df
      obtain ⟨hg51, hE51⟩ := hC.end_ hw51 (by omega)
      have hA1 := hB1.gs hg51 (by simpa using hne1)
      have hA2 := hB2.gs hg51 (by simpa using hne2)
      have hA3 := hB3.gs hg51 (by simpa using hne3)
      have hbx := hbk.gsA hg51 nbk
      have hsk := slG_of (hk.gs hg51 nk)
      have hsf := slG_of (hff.gs hg51 nf)
      have hE := hE51
      refine bl_norm ?_
      refine th_norm ?_
      refine hx_seq ?_
      refine hx_seq ?_
      refine hx_region ?_
      refine WL.qq (by simp only [EN, Nat.reduceEqDiff, reduceIte, qv_load, ld3, readN, AR, Nat.zero_add, Nat.reduceAdd, FB, Bool.and_self, Bool.or_false, Bool.false_or, hB1.cell, hB2.cell, hB3.cell, hB4.cell, hT.cell, hA1.cell, hA2.cell, hbx.blk.cell]; rfl) ?_
      refine WL.qq (by simp only [EN, Nat.reduceEqDiff, reduceIte, qv_fieldAddr, fa29_0, Nat.zero_add, Nat.reduceAdd, FB, Bool.and_self, Bool.or_false, Bool.false_or, hB1.cell, hB2.cell, hB3.cell, hB4.cell, hT.cell, hA1.cell, hA2.cell, hbx.blk.cell]; rfl) ?_
      refine WL.qq (by simp only [EN, Nat.reduceEqDiff, reduceIte, qv_load, ld26, readN, AR, Nat.zero_add, Nat.reduceAdd, FB, Bool.and_self, Bool.or_false, Bool.false_or, hB1.cell, hB2.cell, hB3.cell, hB4.cell, hT.cell, hA1.cell, hA2.cell, hbx.blk.cell]; rfl) ?_
      refine WL.qq (by simp only [EN, Nat.reduceEqDiff, reduceIte, qv_len, ln26, AR, FB, Bool.and_self, Bool.or_false, Bool.false_or, hB1.cell, hB2.cell, hB3.cell, hB4.cell, hT.cell, hA1.cell, hA2.cell, hbx.blk.cell]; rfl) ?_
      refine WL.qq (by simp only [EN, Nat.reduceEqDiff, reduceIte, qv_binOp, binv_neq, eq3, Option.map_some, FB, Bool.and_self, Bool.or_false, Bool.false_or, hB1.cell, hB2.cell, hB3.cell, hB4.cell, hT.cell, hA1.cell, hA2.cell, hbx.blk.cell]; rfl) ?_
      refine WL.nil ?_
      refine th_norm ?_
      refine hx_cond (by simp only [EN, Nat.reduceEqDiff, reduceIte, FB, Bool.and_self, Bool.or_false, Bool.false_or, hB1.cell, hB2.cell, hB3.cell, hB4.cell, hT.cell, hA1.cell, hA2.cell, hbx.blk.cell]; rfl) (fun hct80 => ?_) (fun hct80 => ?_)
      ·
        simp at hct80
      ·
        try simp only [BD] at hct80
        refine hx_skip ?_
        refine th_norm ?_
        refine hx_seq ?_
        refine hx_seq ?_
        refine hx_region ?_
        refine WL.qq (by simp only [EN, Nat.reduceEqDiff, reduceIte, qv_assign, FB, Bool.and_self, Bool.or_false, Bool.false_or, hB1.cell, hB2.cell, hB3.cell, hB4.cell, hT.cell, hA1.cell, hA2.cell, hbx.blk.cell]; rfl) ?_
        refine WL.nil ?_
        refine th_norm ?_
        refine hx_block ?_
        refine hx_loopX [8, 81, 82, 83, 84, 85, 86, 87, 88, 89, 90, 91, 92, 93, 94, 95, 96, 97, 98, 99, 100, 101, 102, 103, 104, 105, 106, 107, 108, 109, 110, 111, 112, 113, 114, 115, 116, 117, 118, 119, 120, 121] (fun k e => ∃ (j : Nat), s.gs.length - j = k ∧ (j ≤ s.gs.length) ∧ e 8 = .int .i64 j) _ ⟨0, rfl, ?_, ?_⟩ ?_
        · omega
        · simp only [EN, Nat.reduceEqDiff, reduceIte, e0, e1, FB, Bool.and_self, Bool.or_false, Bool.false_or, hB1.cell, hB2.cell, hB3.cell, hB4.cell, hT.cell, hA1.cell, hA2.cell, hbx.blk.cell] <;> rfl
        ·
          rintro k e0L hL0 hX0 hfr0 ⟨j, rfl, hj, i8_0⟩
          replace hT := hT.ext hX0
          replace hd := hd.ext hX0
          replace hA1 := hA1.ext hX0
          replace hA2 := hA2.ext hX0
          replace hA3 := hA3.ext hX0
          replace hbx := hbx.ext hX0
          replace hsk := hsk.ext hX0
          replace hsf := hsf.ext hX0
          replace hE := hE.ext hX0
          have k2_0 := hfr0 2 rfl; try simp only [EN, Nat.reduceEqDiff, reduceIte, FB, Bool.and_self, Bool.or_false, Bool.false_or, hB1.cell, hB2.cell, hB3.cell, hB4.cell, hT.cell, hA1.cell, hA2.cell, hbx.blk.cell] at k2_0
          have k3_0 := hfr0 3 rfl; try simp only [EN, Nat.reduceEqDiff, reduceIte, FB, Bool.and_self, Bool.or_false, Bool.false_or, hB1.cell, hB2.cell, hB3.cell, hB4.cell, hT.cell, hA1.cell, hA2.cell, hbx.blk.cell] at k3_0
          have k4_0 := hfr0 4 rfl; try simp only [EN, Nat.reduceEqDiff, reduceIte, FB, Bool.and_self, Bool.or_false, Bool.false_or, hB1.cell, hB2.cell, hB3.cell, hB4.cell, hT.cell, hA1.cell, hA2.cell, hbx.blk.cell] at k4_0
          refine hx_seq ?_
          refine hx_seq ?_
          refine hx_region ?_
          refine WL.qq (by simp only [EN, Nat.reduceEqDiff, reduceIte, qv_move, i8_0, FB, Bool.and_self, Bool.or_false, Bool.false_or, hB1.cell, hB2.cell, hB3.cell, hB4.cell, hT.cell, hA1.cell, hA2.cell, hbx.blk.cell]; rfl) ?_
          refine WL.qq (by simp only [EN, Nat.reduceEqDiff, reduceIte, qv_fieldAddr, fa29_1, Nat.zero_add, Nat.reduceAdd, k3_0, FB, Bool.and_self, Bool.or_false, Bool.false_or, hB1.cell, hB2.cell, hB3.cell, hB4.cell, hT.cell, hA1.cell, hA2.cell, hbx.blk.cell]; rfl) ?_
          refine WL.qq (by simp only [EN, Nat.reduceEqDiff, reduceIte, qv_load, ld27, readN, AR, Nat.zero_add, Nat.reduceAdd, FB, Bool.and_self, Bool.or_false, Bool.false_or, hB1.cell, hB2.cell, hB3.cell, hB4.cell, hT.cell, hA1.cell, hA2.cell, hbx.blk.cell]; rfl) ?_
          refine WL.qq (by simp only [EN, Nat.reduceEqDiff, reduceIte, qv_len, ln27, AR, FB, Bool.and_self, Bool.or_false, Bool.false_or, hB1.cell, hB2.cell, hB3.cell, hB4.cell, hT.cell, hA1.cell, hA2.cell, hbx.blk.cell]; rfl) ?_
          refine WL.qq (by simp only [EN, Nat.reduceEqDiff, reduceIte, qv_binOp, binv_lss, FB, Bool.and_self, Bool.or_false, Bool.false_or, hB1.cell, hB2.cell, hB3.cell, hB4.cell, hT.cell, hA1.cell, hA2.cell, hbx.blk.cell]; rfl) ?_
          refine WL.nil ?_
          refine th_norm ?_
          refine hx_cond (by simp only [EN, Nat.reduceEqDiff, reduceIte, FB, Bool.and_self, Bool.or_false, Bool.false_or, hB1.cell, hB2.cell, hB3.cell, hB4.cell, hT.cell, hA1.cell, hA2.cell, hbx.blk.cell]; rfl) (fun hct85 => ?_) (fun hct85 => ?_)
          ·
            try simp only [BD] at hct85
            obtain ⟨z, hz⟩ := atG (l := s.gs) (i := j) (by omega)
            obtain ⟨b, off, hae, hr3, hr2, hc0, hc1, hc2⟩ := ent_rd hsf hz
            have hfz : lk s.fs z.1 = z.2 := (hg.same z.1).trans (lk_mem hg.gnd (List.mem_of_getElem? hz))
            refine hx_skip ?_
            refine th_norm ?_
            refine hx_seq ?_
            refine hx_block ?_
            refine hx_seq ?_
            apply hx_draw2 Rel.grows [] [7, 23, 31] [(7, Spec.is _), (23, Spec.is _), (31, Spec.is _)] rfl (by decide +kernel) rfl
            refine LD.qq rfl rfl (by simp only [EN, Nat.reduceEqDiff, reduceIte, qv_load, ld25, readN, AR, Nat.zero_add, Nat.reduceAdd, k2_0, FB, Bool.and_self, Bool.or_false, Bool.false_or, hB1.cell, hB2.cell, hB3.cell, hB4.cell, hT.cell, hA1.cell, hA2.cell, hbx.blk.cell]; rfl) ?_
            refine LD.qq rfl rfl (by simp only [EN, Nat.reduceEqDiff, reduceIte, qv_fieldAddr, fa29_1, Nat.zero_add, Nat.reduceAdd, k3_0, FB, Bool.and_self, Bool.or_false, Bool.false_or, hB1.cell, hB2.cell, hB3.cell, hB4.cell, hT.cell, hA1.cell, hA2.cell, hbx.blk.cell]; rfl) ?_
            refine LD.qq rfl rfl (by simp only [EN, Nat.reduceEqDiff, reduceIte, qv_load, ld27, readN, AR, Nat.zero_add, Nat.reduceAdd, FB, Bool.and_self, Bool.or_false, Bool.false_or, hB1.cell, hB2.cell, hB3.cell, hB4.cell, hT.cell, hA1.cell, hA2.cell, hbx.blk.cell]; rfl) ?_
            refine LD.qq rfl rfl (by simp only [EN, Nat.reduceEqDiff, reduceIte, qv_move, i8_0, FB, Bool.and_self, Bool.or_false, Bool.false_or, hB1.cell, hB2.cell, hB3.cell, hB4.cell, hT.cell, hA1.cell, hA2.cell, hbx.blk.cell]; rfl) ?_
            refine LD.qq rfl rfl (by simp only [EN, Nat.reduceEqDiff, reduceIte, k2_0, k3_0, k4_0, i8_0, FB, Bool.and_self, Bool.or_false, Bool.false_or, hB1.cell, hB2.cell, hB3.cell, hB4.cell, hT.cell, hA1.cell, hA2.cell, hbx.blk.cell, qv_indexAddr, hae]; (try simp (disch := omega) only [ix27, Int.toNat_natCast]); rfl) ?_
            refine LD.qq rfl rfl (by simp only [EN, Nat.reduceEqDiff, reduceIte, qv_fieldAddr, fa94_0, Nat.zero_add, Nat.reduceAdd, FB, Bool.and_self, Bool.or_false, Bool.false_or, hB1.cell, hB2.cell, hB3.cell, hB4.cell, hT.cell, hA1.cell, hA2.cell, hbx.blk.cell]; rfl) ?_
            refine LD.qq rfl rfl (by simp only [EN, Nat.reduceEqDiff, reduceIte, k2_0, k3_0, k4_0, i8_0, FB, Bool.and_self, Bool.or_false, Bool.false_or, hB1.cell, hB2.cell, hB3.cell, hB4.cell, hT.cell, hA1.cell, hA2.cell, hbx.blk.cell, qv_load, ld34, Int.toNat_natCast, Nat.add_zero, hr2]; rfl) ?_
            refine LD.ck rfl rfl Try.call16 (by intro hD hr; have hx : Ext _ _ := hr; have hT := hT.ext hx; have hd := hd.ext hx; have hA1 := hA1.ext hx; have hA2 := hA2.ext hx; have hA3 := hA3.ext hx; have hbx := hbx.ext hx; have hsk := hsk.ext hx; have hsf := hsf.ext hx; have hE := hE.ext hx; simp only [EN, Nat.reduceEqDiff, reduceIte, AR, FB, Bool.and_self, Bool.or_false, Bool.false_or, hB1.cell, hB2.cell, hB3.cell, hB4.cell, hT.cell, hA1.cell, hA2.cell, hbx.blk.cell]; exact hfz ▸ c_bkFlo z.1 hbx) ?_
            refine LD.qq rfl rfl (by simp only [EN, Nat.reduceEqDiff, reduceIte, qv_fieldAddr, fa29_1, Nat.zero_add, Nat.reduceAdd, k3_0, FB, Bool.and_self, Bool.or_false, Bool.false_or, hB1.cell, hB2.cell, hB3.cell, hB4.cell, hT.cell, hA1.cell, hA2.cell, hbx.blk.cell]; rfl) ?_
            refine LD.qq rfl rfl (by simp only [EN, Nat.reduceEqDiff, reduceIte, qv_load, ld27, readN, AR, Nat.zero_add, Nat.reduceAdd, FB, Bool.and_self, Bool.or_false, Bool.false_or, hB1.cell, hB2.cell, hB3.cell, hB4.cell, hT.cell, hA1.cell, hA2.cell, hbx.blk.cell]; rfl) ?_
            refine LD.qq rfl rfl (by simp only [EN, Nat.reduceEqDiff, reduceIte, qv_move, i8_0, FB, Bool.and_self, Bool.or_false, Bool.false_or, hB1.cell, hB2.cell, hB3.cell, hB4.cell, hT.cell, hA1.cell, hA2.cell, hbx.blk.cell]; rfl) ?_
            refine LD.qq rfl rfl (by simp only [EN, Nat.reduceEqDiff, reduceIte, k2_0, k3_0, k4_0, i8_0, FB, Bool.and_self, Bool.or_false, Bool.false_or, hB1.cell, hB2.cell, hB3.cell, hB4.cell, hT.cell, hA1.cell, hA2.cell, hbx.blk.cell, qv_indexAddr, hae]; (try simp (disch := omega) only [ix27, Int.toNat_natCast]); rfl) ?_
            refine LD.qq rfl rfl (by simp only [EN, Nat.reduceEqDiff, reduceIte, qv_fieldAddr, fa94_1, Nat.zero_add, Nat.reduceAdd, FB, Bool.and_self, Bool.or_false, Bool.false_or, hB1.cell, hB2.cell, hB3.cell, hB4.cell, hT.cell, hA1.cell, hA2.cell, hbx.blk.cell]; rfl) ?_
            refine LD.qq rfl rfl (by simp only [EN, Nat.reduceEqDiff, reduceIte, k2_0, k3_0, k4_0, i8_0, FB, Bool.and_self, Bool.or_false, Bool.false_or, hB1.cell, hB2.cell, hB3.cell, hB4.cell, hT.cell, hA1.cell, hA2.cell, hbx.blk.cell, qv_load, ld2, Int.toNat_natCast, hc2]; rfl) ?_
            refine LD.qq rfl rfl (by simp only [EN, Nat.reduceEqDiff, reduceIte, qv_binOp, binv_neq, eq2, Option.map_some, FB, Bool.and_self, Bool.or_false, Bool.false_or, hB1.cell, hB2.cell, hB3.cell, hB4.cell, hT.cell, hA1.cell, hA2.cell, hbx.blk.cell]; rfl) ?_
            refine LD.qq rfl rfl (by simp only [EN, Nat.reduceEqDiff, reduceIte, qv_move, FB, Bool.and_self, Bool.or_false, Bool.false_or, hB1.cell, hB2.cell, hB3.cell, hB4.cell, hT.cell, hA1.cell, hA2.cell, hbx.blk.cell]; rfl) ?_
            refine LD.cq rfl rfl (gd_at (t := 103) rfl (by simp only [EN, Nat.reduceEqDiff, reduceIte, k2_0, FB, Bool.and_self, Bool.or_false, Bool.false_or, hB1.cell, hB2.cell, hB3.cell, hB4.cell, hT.cell, hA1.cell, hA2.cell, hbx.blk.cell] <;> rfl)) (fun hg15_16 => by simp only [EN, Nat.reduceEqDiff, reduceIte, qv_load, ld25, readN, AR, Nat.zero_add, Nat.reduceAdd, k2_0, FB, Bool.and_self, Bool.or_false, Bool.false_or, hB1.cell, hB2.cell, hB3.cell, hB4.cell, hT.cell, hA1.cell, hA2.cell, hbx.blk.cell, hg15_16, GR]; rfl) ?_
            refine LD.cq rfl rfl (gd_at (t := 103) rfl (by simp only [EN, Nat.reduceEqDiff, reduceIte, k3_0, FB, Bool.and_self, Bool.or_false, Bool.false_or, hB1.cell, hB2.cell, hB3.cell, hB4.cell, hT.cell, hA1.cell, hA2.cell, hbx.blk.cell] <;> rfl)) (fun hg15_17 => by simp only [EN, Nat.reduceEqDiff, reduceIte, qv_fieldAddr, fa29_1, Nat.zero_add, Nat.reduceAdd, k3_0, FB, Bool.and_self, Bool.or_false, Bool.false_or, hB1.cell, hB2.cell, hB3.cell, hB4.cell, hT.cell, hA1.cell, hA2.cell, hbx.blk.cell, hg15_17, GR]; rfl) ?_
            refine LD.cq rfl rfl (gd_at (t := 103) rfl (by simp only [EN, Nat.reduceEqDiff, reduceIte, FB, Bool.and_self, Bool.or_false, Bool.false_or, hB1.cell, hB2.cell, hB3.cell, hB4.cell, hT.cell, hA1.cell, hA2.cell, hbx.blk.cell] <;> rfl)) (fun hg15_18 => by simp only [EN, Nat.reduceEqDiff, reduceIte, qv_load, ld27, readN, AR, Nat.zero_add, Nat.reduceAdd, FB, Bool.and_self, Bool.or_false, Bool.false_or, hB1.cell, hB2.cell, hB3.cell, hB4.cell, hT.cell, hA1.cell, hA2.cell, hbx.blk.cell, hg15_18, GR]; rfl) ?_
            refine LD.cq rfl rfl (gd_at (t := 103) rfl (by simp only [EN, Nat.reduceEqDiff, reduceIte, i8_0, FB, Bool.and_self, Bool.or_false, Bool.false_or, hB1.cell, hB2.cell, hB3.cell, hB4.cell, hT.cell, hA1.cell, hA2.cell, hbx.blk.cell] <;> rfl)) (fun hg15_19 => by simp only [EN, Nat.reduceEqDiff, reduceIte, qv_move, i8_0, FB, Bool.and_self, Bool.or_false, Bool.false_or, hB1.cell, hB2.cell, hB3.cell, hB4.cell, hT.cell, hA1.cell, hA2.cell, hbx.blk.cell, hg15_19, GR]; rfl) ?_
            refine LD.cq rfl rfl (gd_at (t := 103) rfl (by simp only [EN, Nat.reduceEqDiff, reduceIte, FB, Bool.and_self, Bool.or_false, Bool.false_or, hB1.cell, hB2.cell, hB3.cell, hB4.cell, hT.cell, hA1.cell, hA2.cell, hbx.blk.cell] <;> rfl)) (fun hg15_20 => by simp only [EN, Nat.reduceEqDiff, reduceIte, k2_0, k3_0, k4_0, i8_0, FB, Bool.and_self, Bool.or_false, Bool.false_or, hB1.cell, hB2.cell, hB3.cell, hB4.cell, hT.cell, hA1.cell, hA2.cell, hbx.blk.cell, GR, hg15_20, qv_indexAddr, hae]; (try simp (disch := omega) only [ix27, Int.toNat_natCast]); rfl) ?_
            refine LD.cq rfl rfl (gd_at (t := 103) rfl (by simp only [EN, Nat.reduceEqDiff, reduceIte, FB, Bool.and_self, Bool.or_false, Bool.false_or, hB1.cell, hB2.cell, hB3.cell, hB4.cell, hT.cell, hA1.cell, hA2.cell, hbx.blk.cell] <;> rfl)) (fun hg15_21 => by simp only [EN, Nat.reduceEqDiff, reduceIte, qv_fieldAddr, fa94_0, Nat.zero_add, Nat.reduceAdd, FB, Bool.and_self, Bool.or_false, Bool.false_or, hB1.cell, hB2.cell, hB3.cell, hB4.cell, hT.cell, hA1.cell, hA2.cell, hbx.blk.cell, hg15_21, GR]; rfl) ?_
            refine LD.cq rfl rfl (gd_at (t := 103) rfl (by simp only [EN, Nat.reduceEqDiff, reduceIte, FB, Bool.and_self, Bool.or_false, Bool.false_or, hB1.cell, hB2.cell, hB3.cell, hB4.cell, hT.cell, hA1.cell, hA2.cell, hbx.blk.cell] <;> rfl)) (fun hg15_22 => by simp only [EN, Nat.reduceEqDiff, reduceIte, k2_0, k3_0, k4_0, i8_0, FB, Bool.and_self, Bool.or_false, Bool.false_or, hB1.cell, hB2.cell, hB3.cell, hB4.cell, hT.cell, hA1.cell, hA2.cell, hbx.blk.cell, GR, hg15_22, qv_load, ld34, Int.toNat_natCast, Nat.add_zero, hr2]; rfl) ?_
            refine LD.cck rfl rfl (gd_at (t := 103) rfl (by simp only [EN, Nat.reduceEqDiff, reduceIte, FB, Bool.and_self, Bool.or_false, Bool.false_or, hB1.cell, hB2.cell, hB3.cell, hB4.cell, hT.cell, hA1.cell, hA2.cell, hbx.blk.cell] <;> rfl)) Try.call21 (fun hg15_23 => by intro hD hr; have hx : Ext _ _ := hr; have hT := hT.ext hx; have hd := hd.ext hx; have hA1 := hA1.ext hx; have hA2 := hA2.ext hx; have hA3 := hA3.ext hx; have hbx := hbx.ext hx; have hsk := hsk.ext hx; have hsf := hsf.ext hx; have hE := hE.ext hx; simp only [EN, Nat.reduceEqDiff, reduceIte, AR, FB, Bool.and_self, Bool.or_false, Bool.false_or, hB1.cell, hB2.cell, hB3.cell, hB4.cell, hT.cell, hA1.cell, hA2.cell, hbx.blk.cell, hg15_23, GR]; exact c_bkBal z.1 hbx) ?_
            refine LD.cq rfl rfl (gd_at (t := 103) rfl (by simp only [EN, Nat.reduceEqDiff, reduceIte, k3_0, FB, Bool.and_self, Bool.or_false, Bool.false_or, hB1.cell, hB2.cell, hB3.cell, hB4.cell, hT.cell, hA1.cell, hA2.cell, hbx.blk.cell] <;> rfl)) (fun hg15_24 => by simp only [EN, Nat.reduceEqDiff, reduceIte, qv_load, ld29, readN, AR, Nat.zero_add, Nat.reduceAdd, k3_0, FB, Bool.and_self, Bool.or_false, Bool.false_or, hB1.cell, hB2.cell, hB3.cell, hB4.cell, hT.cell, hA1.cell, hA2.cell, hbx.blk.cell, hg15_24, GR]; rfl) ?_
            refine LD.cq rfl rfl (gd_at (t := 103) rfl (by simp only [EN, Nat.reduceEqDiff, reduceIte, k3_0, FB, Bool.and_self, Bool.or_false, Bool.false_or, hB1.cell, hB2.cell, hB3.cell, hB4.cell, hT.cell, hA1.cell, hA2.cell, hbx.blk.cell] <;> rfl)) (fun hg15_25 => by simp only [EN, Nat.reduceEqDiff, reduceIte, qv_fieldAddr, fa29_1, Nat.zero_add, Nat.reduceAdd, k3_0, FB, Bool.and_self, Bool.or_false, Bool.false_or, hB1.cell, hB2.cell, hB3.cell, hB4.cell, hT.cell, hA1.cell, hA2.cell, hbx.blk.cell, hg15_25, GR]; rfl) ?_
            refine LD.cq rfl rfl (gd_at (t := 103) rfl (by simp only [EN, Nat.reduceEqDiff, reduceIte, FB, Bool.and_self, Bool.or_false, Bool.false_or, hB1.cell, hB2.cell, hB3.cell, hB4.cell, hT.cell, hA1.cell, hA2.cell, hbx.blk.cell] <;> rfl)) (fun hg15_26 => by simp only [EN, Nat.reduceEqDiff, reduceIte, qv_load, ld27, readN, AR, Nat.zero_add, Nat.reduceAdd, FB, Bool.and_self, Bool.or_false, Bool.false_or, hB1.cell, hB2.cell, hB3.cell, hB4.cell, hT.cell, hA1.cell, hA2.cell, hbx.blk.cell, hg15_26, GR]; rfl) ?_
            refine LD.cq rfl rfl (gd_at (t := 103) rfl (by simp only [EN, Nat.reduceEqDiff, reduceIte, i8_0, FB, Bool.and_self, Bool.or_false, Bool.false_or, hB1.cell, hB2.cell, hB3.cell, hB4.cell, hT.cell, hA1.cell, hA2.cell, hbx.blk.cell] <;> rfl)) (fun hg15_27 => by simp only [EN, Nat.reduceEqDiff, reduceIte, qv_move, i8_0, FB, Bool.and_self, Bool.or_false, Bool.false_or, hB1.cell, hB2.cell, hB3.cell, hB4.cell, hT.cell, hA1.cell, hA2.cell, hbx.blk.cell, hg15_27, GR]; rfl) ?_
            refine LD.cq rfl rfl (gd_at (t := 103) rfl (by simp only [EN, Nat.reduceEqDiff, reduceIte, FB, Bool.and_self, Bool.or_false, Bool.false_or, hB1.cell, hB2.cell, hB3.cell, hB4.cell, hT.cell, hA1.cell, hA2.cell, hbx.blk.cell] <;> rfl)) (fun hg15_28 => by simp only [EN, Nat.reduceEqDiff, reduceIte, k2_0, k3_0, k4_0, i8_0, FB, Bool.and_self, Bool.or_false, Bool.false_or, hB1.cell, hB2.cell, hB3.cell, hB4.cell, hT.cell, hA1.cell, hA2.cell, hbx.blk.cell, GR, hg15_28, qv_indexAddr, hae]; (try simp (disch := omega) only [ix27, Int.toNat_natCast]); rfl) ?_
            refine LD.cq rfl rfl (gd_at (t := 103) rfl (by simp only [EN, Nat.reduceEqDiff, reduceIte, FB, Bool.and_self, Bool.or_false, Bool.false_or, hB1.cell, hB2.cell, hB3.cell, hB4.cell, hT.cell, hA1.cell, hA2.cell, hbx.blk.cell] <;> rfl)) (fun hg15_29 => by simp only [EN, Nat.reduceEqDiff, reduceIte, qv_fieldAddr, fa94_0, Nat.zero_add, Nat.reduceAdd, FB, Bool.and_self, Bool.or_false, Bool.false_or, hB1.cell, hB2.cell, hB3.cell, hB4.cell, hT.cell, hA1.cell, hA2.cell, hbx.blk.cell, hg15_29, GR]; rfl) ?_
            refine LD.cq rfl rfl (gd_at (t := 103) rfl (by simp only [EN, Nat.reduceEqDiff, reduceIte, FB, Bool.and_self, Bool.or_false, Bool.false_or, hB1.cell, hB2.cell, hB3.cell, hB4.cell, hT.cell, hA1.cell, hA2.cell, hbx.blk.cell] <;> rfl)) (fun hg15_30 => by simp only [EN, Nat.reduceEqDiff, reduceIte, k2_0, k3_0, k4_0, i8_0, FB, Bool.and_self, Bool.or_false, Bool.false_or, hB1.cell, hB2.cell, hB3.cell, hB4.cell, hT.cell, hA1.cell, hA2.cell, hbx.blk.cell, GR, hg15_30, qv_load, ld34, Int.toNat_natCast, Nat.add_zero, hr2]; rfl) ?_
            refine LD.cck rfl rfl (gd_at (t := 103) rfl (by simp only [EN, Nat.reduceEqDiff, reduceIte, FB, Bool.and_self, Bool.or_false, Bool.false_or, hB1.cell, hB2.cell, hB3.cell, hB4.cell, hT.cell, hA1.cell, hA2.cell, hbx.blk.cell] <;> rfl)) Try.call37 (fun hg15_31 => by intro hD hr; have hx : Ext _ _ := hr; have hT := hT.ext hx; have hd := hd.ext hx; have hA1 := hA1.ext hx; have hA2 := hA2.ext hx; have hA3 := hA3.ext hx; have hbx := hbx.ext hx; have hsk := hsk.ext hx; have hsf := hsf.ext hx; have hE := hE.ext hx; simp only [EN, Nat.reduceEqDiff, reduceIte, AR, FB, Bool.and_self, Bool.or_false, Bool.false_or, hB1.cell, hB2.cell, hB3.cell, hB4.cell, hT.cell, hA1.cell, hA2.cell, hbx.blk.cell, hg15_31, GR]; exact c_rbal ak s.ks ck _ s.sq z.1 (by omega) hsk) ?_
            refine LD.cq rfl rfl (gd_at (t := 103) rfl (by simp only [EN, Nat.reduceEqDiff, reduceIte, FB, Bool.and_self, Bool.or_false, Bool.false_or, hB1.cell, hB2.cell, hB3.cell, hB4.cell, hT.cell, hA1.cell, hA2.cell, hbx.blk.cell] <;> rfl)) (fun hg15_32 => by simp only [EN, Nat.reduceEqDiff, reduceIte, qv_binOp, binv_neq, eq2, Option.map_some, FB, Bool.and_self, Bool.or_false, Bool.false_or, hB1.cell, hB2.cell, hB3.cell, hB4.cell, hT.cell, hA1.cell, hA2.cell, hbx.blk.cell, hg15_32, GR]; rfl) ?_
            refine LD.qq rfl rfl (by simp only [EN, Nat.reduceEqDiff, reduceIte, qv_pick, pk_and, pk_or, GR, FB, Bool.and_self, Bool.or_false, Bool.false_or, hB1.cell, hB2.cell, hB3.cell, hB4.cell, hT.cell, hA1.cell, hA2.cell, hbx.blk.cell]; rfl) ?_
            refine LD.nil ?_
            rintro h8 hx8 hF15
            replace hx8 : Ext _ _ := hx8
            replace hT := hT.ext hx8
            replace hd := hd.ext hx8
            replace hA1 := hA1.ext hx8
            replace hA2 := hA2.ext hx8
            replace hA3 := hA3.ext hx8
            replace hbx := hbx.ext hx8
            replace hsk := hsk.ext hx8
            replace hsf := hsf.ext hx8
            replace hE := hE.ext hx8
            refine WL.nil ?_
            refine th_norm ?_
            refine hx_cond (by simp only [EN, Nat.reduceEqDiff, reduceIte, FB, Bool.and_self, Bool.or_false, Bool.false_or, hB1.cell, hB2.cell, hB3.cell, hB4.cell, hT.cell, hA1.cell, hA2.cell, hbx.blk.cell]; rfl) (fun hct121 => ?_) (fun hct121 => ?_)
            ·
              simp at hct121
            ·
              try simp only [BD] at hct121
              refine hx_skip ?_
              refine bl_norm ?_
              refine th_norm ?_
              refine hx_region ?_
              refine WL.qq (by simp only [EN, Nat.reduceEqDiff, reduceIte, qv_move, i8_0, FB, Bool.and_self, Bool.or_false, Bool.false_or, hB1.cell, hB2.cell, hB3.cell, hB4.cell, hT.cell, hA1.cell, hA2.cell, hbx.blk.cell]; rfl) ?_
              refine WL.qq (by simp only [EN, Nat.reduceEqDiff, reduceIte, qv_binOp, binv_add, FB, Bool.and_self, Bool.or_false, Bool.false_or, hB1.cell, hB2.cell, hB3.cell, hB4.cell, hT.cell, hA1.cell, hA2.cell, hbx.blk.cell]; (try simp (disch := omega) only [w64, w8, wu64]); rfl) ?_
              refine WL.qq (by simp only [EN, Nat.reduceEqDiff, reduceIte, qv_assign, FB, Bool.and_self, Bool.or_false, Bool.false_or, hB1.cell, hB2.cell, hB3.cell, hB4.cell, hT.cell, hA1.cell, hA2.cell, hbx.blk.cell]; rfl) ?_
              refine WL.nil ?_
              refine th_norm ?_
              refine ⟨rfl, ?_, ?_, _, ?_, j + 1, rfl, ?_, ?_⟩  -- again 0 of loop 0
              · exact hx8
              · (repeat (first | exact Fr.refl _ _ | refine Fr.set rfl ?_ | refine Fr.put rfl ?_ | with_reducible refine Fr.put0 ?_))
              · omega
              · omega
              · simp only [EN, Nat.reduceEqDiff, reduceIte, k2_0, k3_0, k4_0, i8_0, FB, Bool.and_self, Bool.or_false, Bool.false_or, hB1.cell, hB2.cell, hB3.cell, hB4.cell, hT.cell, hA1.cell, hA2.cell, hbx.blk.cell] <;> first | rfl | (congr 1; omega)
          ·
            try simp only [BD] at hct85
            refine hx_exit ?_
            refine th_exit ?_
            refine th_exit ?_
            refine bl_hit ?_
            refine th_norm ?_
            refine hx_seq ?_
            apply hx_draw2 Rel.grows [] [1, 3] [(1, Spec.slg 1 (fun x => [Value.string (grpS x)]) (asl (asK s.ks))), (3, Spec.slg 1 (fun x => [u8V x]) (asl (asK s.ks)))] rfl (by decide +kernel) rfl
            refine LD.qq rfl rfl (by simp only [EN, Nat.reduceEqDiff, reduceIte, qv_load, ld25, readN, AR, Nat.zero_add, Nat.reduceAdd, k2_0, FB, Bool.and_self, Bool.or_false, Bool.false_or, hB1.cell, hB2.cell, hB3.cell, hB4.cell, hT.cell, hA1.cell, hA2.cell, hbx.blk.cell]; rfl) ?_
            refine LD.es rfl rfl (by intro hD hr hf; have hx : Ext _ _ := hr; have hT := hT.ext hx; have hd := hd.ext hx; have hA1 := hA1.ext hx; have hA2 := hA2.ext hx; have hA3 := hA3.ext hx; have hbx := hbx.ext hx; have hsk := hsk.ext hx; have hsf := hsf.ext hx; have hE := hE.ext hx; exact EOp.mono (e_call Try.call42 (by simp only [EN, Nat.reduceEqDiff, reduceIte, k2_0, k3_0, k4_0, i8_0, FB, Bool.and_self, Bool.or_false, Bool.false_or, hB1.cell, hB2.cell, hB3.cell, hB4.cell, hT.cell, hA1.cell, hA2.cell, hbx.blk.cell, AR]; exact c_groups (by omega) hg.rng hbx)) (fun v h' hh => by obtain ⟨h1, a, c, rfl, h2⟩ := hh; exact ⟨h1, ⟨a, c, rfl⟩, fun a' n' c' hv => by injection hv with e1 e2 e3; subst e1; exact h2⟩)) ?_
            intro u17_1 w17_1
            obtain ⟨a17, c17, rfl⟩ := w17_1
            refine LD.qq rfl rfl (by simp only [EN, Nat.reduceEqDiff, reduceIte, qv_load, ld29, readN, AR, Nat.zero_add, Nat.reduceAdd, k3_0, FB, Bool.and_self, Bool.or_false, Bool.false_or, hB1.cell, hB2.cell, hB3.cell, hB4.cell, hT.cell, hA1.cell, hA2.cell, hbx.blk.cell]; rfl) ?_
            refine LD.es rfl rfl (by intro hD hr hf; have hx : Ext _ _ := hr; have hT := hT.ext hx; have hd := hd.ext hx; have hA1 := hA1.ext hx; have hA2 := hA2.ext hx; have hA3 := hA3.ext hx; have hbx := hbx.ext hx; have hsk := hsk.ext hx; have hsf := hsf.ext hx; have hE := hE.ext hx; exact EOp.mono (e_call Try.call53 (by simp only [EN, Nat.reduceEqDiff, reduceIte, k2_0, k3_0, k4_0, i8_0, FB, Bool.and_self, Bool.or_false, Bool.false_or, hB1.cell, hB2.cell, hB3.cell, hB4.cell, hT.cell, hA1.cell, hA2.cell, hbx.blk.cell, AR]; exact c_assets ak s.ks ck _ s.sq (by omega) hg.rng hsk rfl)) (fun v h' hh => by obtain ⟨h1, h2⟩ := hh; obtain ⟨a, c, rfl, _, h3, _⟩ := Own.slG (f := fun x => [u8V x]) (sz := 1) (fun _ => rfl) h2 rfl; exact ⟨h1, ⟨a, c, rfl⟩, fun a' n' c' hv => by injection hv with e1 e2 e3; subst e1; exact h3⟩)) ?_
            intro u17_3 w17_3
            obtain ⟨a18, c18, rfl⟩ := w17_3
            refine LD.qq rfl rfl (by simp only [EN, Nat.reduceEqDiff, reduceIte, qv_assign, FB, Bool.and_self, Bool.or_false, Bool.false_or, hB1.cell, hB2.cell, hB3.cell, hB4.cell, hT.cell, hA1.cell, hA2.cell, hbx.blk.cell]; rfl) ?_
            refine LD.qq rfl rfl (by simp only [EN, Nat.reduceEqDiff, reduceIte, qv_assign, FB, Bool.and_self, Bool.or_false, Bool.false_or, hB1.cell, hB2.cell, hB3.cell, hB4.cell, hT.cell, hA1.cell, hA2.cell, hbx.blk.cell]; rfl) ?_
            refine LD.nil ?_
            rintro h9 hx9 hF17
            replace hx9 : Ext _ _ := hx9
            replace hT := hT.ext hx9
            replace hd := hd.ext hx9
            replace hA1 := hA1.ext hx9
            replace hA2 := hA2.ext hx9
            replace hA3 := hA3.ext hx9
            replace hbx := hbx.ext hx9
            replace hsk := hsk.ext hx9
            replace hsf := hsf.ext hx9
            replace hE := hE.ext hx9
            refine WL.nil ?_
            refine th_norm ?_
            refine hx_seq ?_
            refine hx_seq ?_
            refine hx_region ?_
            have hs17 : SlG 1 (fun x => [Value.string (grpS x)]) h9 a17 (asl (asK s.ks)) := hF17 (1, .slice a17 (asl (asK s.ks)).length c17) (by simp) _ rfl _ _ _ rfl
            have hs18 : SlG 1 (fun x => [u8V x]) h9 a18 (asl (asK s.ks)) := hF17 (3, .slice a18 (asl (asK s.ks)).length c18) (by simp) _ rfl _ _ _ rfl
            refine WL.qq (by simp only [EN, Nat.reduceEqDiff, reduceIte, qv_move, FB, Bool.and_self, Bool.or_false, Bool.false_or, hB1.cell, hB2.cell, hB3.cell, hB4.cell, hT.cell, hA1.cell, hA2.cell, hbx.blk.cell]; rfl) ?_
            refine WL.qq (by simp only [EN, Nat.reduceEqDiff, reduceIte, qv_len, ln73, AR, FB, Bool.and_self, Bool.or_false, Bool.false_or, hB1.cell, hB2.cell, hB3.cell, hB4.cell, hT.cell, hA1.cell, hA2.cell, hbx.blk.cell]; rfl) ?_
            refine WL.qq (by simp only [EN, Nat.reduceEqDiff, reduceIte, qv_move, FB, Bool.and_self, Bool.or_false, Bool.false_or, hB1.cell, hB2.cell, hB3.cell, hB4.cell, hT.cell, hA1.cell, hA2.cell, hbx.blk.cell]; rfl) ?_
            refine WL.qq (by simp only [EN, Nat.reduceEqDiff, reduceIte, qv_len, ln35, AR, FB, Bool.and_self, Bool.or_false, Bool.false_or, hB1.cell, hB2.cell, hB3.cell, hB4.cell, hT.cell, hA1.cell, hA2.cell, hbx.blk.cell]; rfl) ?_
            refine WL.qq (by simp only [EN, Nat.reduceEqDiff, reduceIte, qv_binOp, binv_neq, eq3, Option.map_some, FB, Bool.and_self, Bool.or_false, Bool.false_or, hB1.cell, hB2.cell, hB3.cell, hB4.cell, hT.cell, hA1.cell, hA2.cell, hbx.blk.cell]; rfl) ?_
            refine WL.nil ?_
            refine th_norm ?_
            refine hx_cond (by simp only [EN, Nat.reduceEqDiff, reduceIte, FB, Bool.and_self, Bool.or_false, Bool.false_or, hB1.cell, hB2.cell, hB3.cell, hB4.cell, hT.cell, hA1.cell, hA2.cell, hbx.blk.cell]; rfl) (fun hct130 => ?_) (fun hct130 => ?_)
            ·
              simp at hct130
            ·
              try simp only [BD] at hct130
              refine hx_skip ?_
              refine th_norm ?_
              refine hx_seq ?_
              refine hx_seq ?_
              refine hx_region ?_
              refine WL.qq (by simp only [EN, Nat.reduceEqDiff, reduceIte, qv_assign, FB, Bool.and_self, Bool.or_false, Bool.false_or, hB1.cell, hB2.cell, hB3.cell, hB4.cell, hT.cell, hA1.cell, hA2.cell, hbx.blk.cell]; rfl) ?_
              refine WL.nil ?_
              refine th_norm ?_
              refine hx_block ?_
              refine hx_loopX [11, 131, 132, 133, 134, 135, 136, 137, 138, 139, 140, 141, 142, 143, 144, 145, 146, 147] (fun k e => ∃ (j : Nat), (asl (asK s.ks)).length - j = k ∧ (j ≤ (asl (asK s.ks)).length) ∧ e 11 = .int .i64 j) _ ⟨0, rfl, ?_, ?_⟩ ?_
              · omega
              · simp only [EN, Nat.reduceEqDiff, reduceIte, k2_0, k3_0, k4_0, i8_0, FB, Bool.and_self, Bool.or_false, Bool.false_or, hB1.cell, hB2.cell, hB3.cell, hB4.cell, hT.cell, hA1.cell, hA2.cell, hbx.blk.cell] <;> rfl
              ·
                rintro k e1L hL1 hX1 hfr1 ⟨j, rfl, hj, i11_1⟩
                replace hT := hT.ext hX1
                replace hd := hd.ext hX1
                replace hA1 := hA1.ext hX1
                replace hA2 := hA2.ext hX1
                replace hA3 := hA3.ext hX1
                replace hbx := hbx.ext hX1
                replace hsk := hsk.ext hX1
                replace hsf := hsf.ext hX1
                replace hE := hE.ext hX1
                replace hs17 := hs17.ext hX1
                replace hs18 := hs18.ext hX1
                have k4_1 := hfr1 4 rfl; try simp only [EN, Nat.reduceEqDiff, reduceIte, k4_0, FB, Bool.and_self, Bool.or_false, Bool.false_or, hB1.cell, hB2.cell, hB3.cell, hB4.cell, hT.cell, hA1.cell, hA2.cell, hbx.blk.cell] at k4_1
                have k9_1 := hfr1 9 rfl; try simp only [EN, Nat.reduceEqDiff, reduceIte, FB, Bool.and_self, Bool.or_false, Bool.false_or, hB1.cell, hB2.cell, hB3.cell, hB4.cell, hT.cell, hA1.cell, hA2.cell, hbx.blk.cell] at k9_1
                have k10_1 := hfr1 10 rfl; try simp only [EN, Nat.reduceEqDiff, reduceIte, FB, Bool.and_self, Bool.or_false, Bool.false_or, hB1.cell, hB2.cell, hB3.cell, hB4.cell, hT.cell, hA1.cell, hA2.cell, hbx.blk.cell] at k10_1
                refine hx_seq ?_
                refine hx_seq ?_
                refine hx_region ?_
                refine WL.qq (by simp only [EN, Nat.reduceEqDiff, reduceIte, qv_move, i11_1, FB, Bool.and_self, Bool.or_false, Bool.false_or, hB1.cell, hB2.cell, hB3.cell, hB4.cell, hT.cell, hA1.cell, hA2.cell, hbx.blk.cell]; rfl) ?_
                refine WL.qq (by simp only [EN, Nat.reduceEqDiff, reduceIte, qv_move, k9_1, FB, Bool.and_self, Bool.or_false, Bool.false_or, hB1.cell, hB2.cell, hB3.cell, hB4.cell, hT.cell, hA1.cell, hA2.cell, hbx.blk.cell]; rfl) ?_
                refine WL.qq (by simp only [EN, Nat.reduceEqDiff, reduceIte, qv_len, ln73, AR, FB, Bool.and_self, Bool.or_false, Bool.false_or, hB1.cell, hB2.cell, hB3.cell, hB4.cell, hT.cell, hA1.cell, hA2.cell, hbx.blk.cell]; rfl) ?_
                refine WL.qq (by simp only [EN, Nat.reduceEqDiff, reduceIte, qv_binOp, binv_lss, FB, Bool.and_self, Bool.or_false, Bool.false_or, hB1.cell, hB2.cell, hB3.cell, hB4.cell, hT.cell, hA1.cell, hA2.cell, hbx.blk.cell]; rfl) ?_
                refine WL.nil ?_
                refine th_norm ?_
                refine hx_cond (by simp only [EN, Nat.reduceEqDiff, reduceIte, FB, Bool.and_self, Bool.or_false, Bool.false_or, hB1.cell, hB2.cell, hB3.cell, hB4.cell, hT.cell, hA1.cell, hA2.cell, hbx.blk.cell]; rfl) (fun hct134 => ?_) (fun hct134 => ?_)
                ·
                  try simp only [BD] at hct134
                  obtain ⟨z, hz⟩ := atG (l := asl (asK s.ks)) (i := j) (by omega)
                  obtain ⟨b1, o1, hae1, hz1⟩ := hs17 j z hz
                  obtain ⟨b2, o2, hae2, hz2⟩ := hs18 j z hz
                  replace hz1 := readN_cell hz1 0 _ rfl; replace hz2 := readN_cell hz2 0 _ rfl; simp only [Nat.add_zero, Nat.mul_one] at hz1 hz2
                  have hlen256 : (asl (asK s.ks)).length ≤ 256 := aslN_len _ 256
                  have hbe : (grpS z == grpS z) = true := (MapKept.bytes_beq _ _).2 rfl
                  refine hx_skip ?_
                  refine th_norm ?_
                  refine hx_seq ?_
                  refine hx_block ?_
                  refine hx_seq ?_
                  apply hx_draw2 Rel.grows [] [8] [(8, Spec.ls 0 #[u8V z] _ _)] rfl (by decide +kernel) rfl
                  refine LD.qq rfl rfl (by simp only [EN, Nat.reduceEqDiff, reduceIte, qv_move, k9_1, FB, Bool.and_self, Bool.or_false, Bool.false_or, hB1.cell, hB2.cell, hB3.cell, hB4.cell, hT.cell, hA1.cell, hA2.cell, hbx.blk.cell]; rfl) ?_
                  refine LD.qq rfl rfl (by simp only [EN, Nat.reduceEqDiff, reduceIte, qv_move, i11_1, FB, Bool.and_self, Bool.or_false, Bool.false_or, hB1.cell, hB2.cell, hB3.cell, hB4.cell, hT.cell, hA1.cell, hA2.cell, hbx.blk.cell]; rfl) ?_
                  refine LD.qq rfl rfl (by simp only [EN, Nat.reduceEqDiff, reduceIte, k4_1, k9_1, k10_1, i11_1, FB, Bool.and_self, Bool.or_false, Bool.false_or, hB1.cell, hB2.cell, hB3.cell, hB4.cell, hT.cell, hA1.cell, hA2.cell, hbx.blk.cell, qv_indexAddr, hae1]; (try simp (disch := omega) only [ix73, Int.toNat_natCast]); rfl) ?_
                  refine LD.qq rfl rfl (by simp only [EN, Nat.reduceEqDiff, reduceIte, k4_1, k9_1, k10_1, i11_1, FB, Bool.and_self, Bool.or_false, Bool.false_or, hB1.cell, hB2.cell, hB3.cell, hB4.cell, hT.cell, hA1.cell, hA2.cell, hbx.blk.cell, qv_load, ld9, Int.toNat_natCast, hz1]; rfl) ?_
                  refine LD.qq rfl rfl (by simp only [EN, Nat.reduceEqDiff, reduceIte, qv_move, k10_1, FB, Bool.and_self, Bool.or_false, Bool.false_or, hB1.cell, hB2.cell, hB3.cell, hB4.cell, hT.cell, hA1.cell, hA2.cell, hbx.blk.cell]; rfl) ?_
                  refine LD.qq rfl rfl (by simp only [EN, Nat.reduceEqDiff, reduceIte, qv_move, i11_1, FB, Bool.and_self, Bool.or_false, Bool.false_or, hB1.cell, hB2.cell, hB3.cell, hB4.cell, hT.cell, hA1.cell, hA2.cell, hbx.blk.cell]; rfl) ?_
                  refine LD.qq rfl rfl (by simp only [EN, Nat.reduceEqDiff, reduceIte, k4_1, k9_1, k10_1, i11_1, FB, Bool.and_self, Bool.or_false, Bool.false_or, hB1.cell, hB2.cell, hB3.cell, hB4.cell, hT.cell, hA1.cell, hA2.cell, hbx.blk.cell, qv_indexAddr, hae2]; (try simp (disch := omega) only [ix35, Int.toNat_natCast]); rfl) ?_
                  refine LD.qq rfl rfl (by simp only [EN, Nat.reduceEqDiff, reduceIte, k4_1, k9_1, k10_1, i11_1, FB, Bool.and_self, Bool.or_false, Bool.false_or, hB1.cell, hB2.cell, hB3.cell, hB4.cell, hT.cell, hA1.cell, hA2.cell, hbx.blk.cell, qv_load, ld5, Int.toNat_natCast, hz2]; rfl) ?_
                  refine LD.es rfl rfl (by intro hD hr hf; have hx : Ext _ _ := hr; have hT := hT.ext hx; have hd := hd.ext hx; have hA1 := hA1.ext hx; have hA2 := hA2.ext hx; have hA3 := hA3.ext hx; have hbx := hbx.ext hx; have hsk := hsk.ext hx; have hsf := hsf.ext hx; have hE := hE.ext hx; have hs17 := hs17.ext hx; have hs18 := hs18.ext hx; exact e_lit1 (c := #[u8V z]) (Nat.zero_le _) Try.underlying35 sz5 zr5 (by decide) (by simp only [EN, Nat.reduceEqDiff, reduceIte, k4_1, k9_1, k10_1, i11_1, FB, Bool.and_self, Bool.or_false, Bool.false_or, hB1.cell, hB2.cell, hB3.cell, hB4.cell, hT.cell, hA1.cell, hA2.cell, hbx.blk.cell, Value.cells] <;> rfl) rfl) ?_
                  intro u23_8 w23_8
                  obtain ⟨B23, _, rfl⟩ := w23_8
                  refine LD.qf rfl rfl (by intro hD hr hf; have hx : Ext _ _ := hr; have hT := hT.ext hx; have hd := hd.ext hx; have hA1 := hA1.ext hx; have hA2 := hA2.ext hx; have hA3 := hA3.ext hx; have hbx := hbx.ext hx; have hsk := hsk.ext hx; have hsf := hsf.ext hx; have hE := hE.ext hx; have hs17 := hs17.ext hx; have hs18 := hs18.ext hx; have hB23 := hf (8, .slice (some ⟨B23, 0, none⟩) 1 1) (by simp) (by show tb _ _ 8 = true; decide +kernel) _ rfl B23 rfl; simp only [EN, Nat.reduceEqDiff, reduceIte, k4_1, k9_1, k10_1, i11_1, FB, Bool.and_self, Bool.or_false, Bool.false_or, hB1.cell, hB2.cell, hB3.cell, hB4.cell, hT.cell, hA1.cell, hA2.cell, hbx.blk.cell, qv_convert, convv, Try.underlying35, Try.underlying9, Try.underlying5, GL.readN, hB23.cell]; rfl) ?_
                  refine LD.qq rfl rfl (by simp only [EN, Nat.reduceEqDiff, reduceIte, k4_1, k9_1, k10_1, i11_1, FB, Bool.and_self, Bool.or_false, Bool.false_or, hB1.cell, hB2.cell, hB3.cell, hB4.cell, hT.cell, hA1.cell, hA2.cell, hbx.blk.cell, qv_binOp, binv_neq, eq9, Option.map_some]; exact congrArg (fun q => some (Value.bool (!q))) hbe) ?_
                  refine LD.nil ?_
                  rintro h10 hx10 hF23
                  replace hx10 : Ext _ _ := hx10
                  replace hT := hT.ext hx10
                  replace hd := hd.ext hx10
                  replace hA1 := hA1.ext hx10
                  replace hA2 := hA2.ext hx10
                  replace hA3 := hA3.ext hx10
                  replace hbx := hbx.ext hx10
                  replace hsk := hsk.ext hx10
                  replace hsf := hsf.ext hx10
                  replace hE := hE.ext hx10
                  replace hs17 := hs17.ext hx10
                  replace hs18 := hs18.ext hx10
                  refine WL.nil ?_
                  refine th_norm ?_
                  refine hx_cond (by simp only [EN, Nat.reduceEqDiff, reduceIte, FB, Bool.and_self, Bool.or_false, Bool.false_or, hB1.cell, hB2.cell, hB3.cell, hB4.cell, hT.cell, hA1.cell, hA2.cell, hbx.blk.cell]; rfl) (fun hct147 => ?_) (fun hct147 => ?_)
                  ·
                    simp at hct147
                  ·
                    try simp only [BD] at hct147
                    refine hx_skip ?_
                    refine bl_norm ?_
                    refine th_norm ?_
                    refine hx_region ?_
                    refine WL.qq (by simp only [EN, Nat.reduceEqDiff, reduceIte, qv_move, i11_1, FB, Bool.and_self, Bool.or_false, Bool.false_or, hB1.cell, hB2.cell, hB3.cell, hB4.cell, hT.cell, hA1.cell, hA2.cell, hbx.blk.cell]; rfl) ?_
                    refine WL.qq (by simp only [EN, Nat.reduceEqDiff, reduceIte, qv_binOp, binv_add, FB, Bool.and_self, Bool.or_false, Bool.false_or, hB1.cell, hB2.cell, hB3.cell, hB4.cell, hT.cell, hA1.cell, hA2.cell, hbx.blk.cell]; (try simp (disch := omega) only [w64, w8, wu64]); rfl) ?_
                    refine WL.qq (by simp only [EN, Nat.reduceEqDiff, reduceIte, qv_assign, FB, Bool.and_self, Bool.or_false, Bool.false_or, hB1.cell, hB2.cell, hB3.cell, hB4.cell, hT.cell, hA1.cell, hA2.cell, hbx.blk.cell]; rfl) ?_
                    refine WL.nil ?_
                    refine th_norm ?_
                    refine ⟨rfl, ?_, ?_, _, ?_, j + 1, rfl, ?_, ?_⟩  -- again 0 of loop 1
                    · exact hx10
                    · (repeat (first | exact Fr.refl _ _ | refine Fr.set rfl ?_ | refine Fr.put rfl ?_ | with_reducible refine Fr.put0 ?_))
                    · omega
                    · omega
                    · simp only [EN, Nat.reduceEqDiff, reduceIte, k4_1, k9_1, k10_1, i11_1, FB, Bool.and_self, Bool.or_false, Bool.false_or, hB1.cell, hB2.cell, hB3.cell, hB4.cell, hT.cell, hA1.cell, hA2.cell, hbx.blk.cell] <;> first | rfl | (congr 1; omega)
                ·
                  try simp only [BD] at hct134
                  refine hx_exit ?_
                  refine th_exit ?_
                  refine th_exit ?_
                  refine bl_hit ?_
                  refine th_norm ?_
                  refine hx_seq ?_
                  refine hx_region ?_
                  refine WL.store (by simp only [EN, Nat.reduceEqDiff, reduceIte, k4_1, FB, Bool.and_self, Bool.or_false, Bool.false_or, hB1.cell, hB2.cell, hB3.cell, hB4.cell, hT.cell, hA1.cell, hA2.cell, hbx.blk.cell] <;> rfl) sz4 (by simp only [EN, Nat.reduceEqDiff, reduceIte, Value.cells, k4_1, FB, Bool.and_self, Bool.or_false, Bool.false_or, hB1.cell, hB2.cell, hB3.cell, hB4.cell, hT.cell, hA1.cell, hA2.cell, hbx.blk.cell] <;> rfl) rfl hA3 (by first | (simp [true_and]; done) | (simp [true_and]; omega) | omega) (by simp [Value.oneCell']) ?_
                  intro h11 hw11
                  have hE9 := hw11.ext hE (Nat.le_trans hs02 hlt3)
                  have hA4 := hw11.at_
                  try simp only [splc, List.take_zero, List.nil_append, List.drop_succ_cons, List.drop_zero, List.length_cons, List.length_nil, List.drop_nil, List.append_nil, Nat.zero_add] at hA4
                  have hd9 := hd.wr hw11 (by omega)
                  refine WL.nil ?_
                  refine th_norm ?_
                  refine hx_ret ?_
                  refine fin_mark (.inr rfl) [.cell 4 4] rfl rfl hd9 ?_
                  intro h5 hw5
                  have hA5 := hA4.wr hw5 (by omega)
                  exact ⟨[.bool true], by simp only [EN, Nat.reduceEqDiff, reduceIte, k4_1, k9_1, k10_1, i11_1, FB, Bool.and_self, Bool.or_false, Bool.false_or, hB1.cell, hB2.cell, hB3.cell, hB4.cell, hT.cell, hA1.cell, hA2.cell, hbx.blk.cell, resv, ld4, hA5.cell, AR], rfl, hw5.ext hE9 (by omega)⟩
end GL


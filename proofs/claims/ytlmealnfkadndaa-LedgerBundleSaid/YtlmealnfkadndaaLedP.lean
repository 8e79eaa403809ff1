/- Ledger: the statement on conservation. -/
import Derived.Test.YtlmealnfkadndaaLedO
import Derived.Test.YtlmealnfkadndaaLedL
set_option linter.unusedSimpArgs false
set_option linter.unusedVariables false
set_option linter.unnecessarySimpa false
namespace GL
open Go Go.Proofs
set_option maxRecDepth 8000
abbrev u8V (n : Int) : Value := .int .u8 n
theorem kt5 : KT Try.prog 5 u8V := kt_plain Try.underlying5 (fun a => rfl) (fun h => by cases h; rfl)
abbrev acA (l : List E2) : List (Int × Int) := accL (fun x => x.1.a) l
theorem acA_lk (l : List E2) (a : Int) : lk (acA l) a = sumA l a := accL_lk _ _ _
theorem GoodB.vals {s : BS} {n : Nat} (g : GoodB s n) : ∀ x ∈ s.ks, vld x.2 = true := fun x hx => by
  have h1 := g.val x.1
  rwa [lk_mem g.nd (show (x.1, x.2) ∈ s.ks from hx)] at h1
theorem GoodB.sumA {s : BS} (g : GoodB s 12) (a : Int) : sumA s.ks a = 0 := by
  rw [(sumA_eq (by have := g.lk_; omega) g.vals a).1]
  exact g.sum a
theorem GoodB.tot {s : BS} (g : GoodB s 12) {a : Int} (ha : 0 ≤ a ∧ a ≤ 255) : totM s.ks (grpS a) = 0 := by
  rw [← g.sumA a]
  unfold totM GL.sumA
  refine foldl_congr2 s.ks 0 fun x hx n => ?_
  by_cases h : x.1.a = a
  · rw [if_pos (by rw [h]), if_pos h]
  · rw [if_neg (fun hh => h (grpS_inj (g.rng x hx) ha hh)), if_neg h]
structure CB (h0 h7 : Heap) (Bm : Nat) (rec : Loop) (l : List E2) (hx : Heap) : Prop where
  rx : RX h0 h7 [Bm] rec hx
  m : MapT u8V iV hx Bm (acA l)
set_option maxHeartbeats 1000000 in
theorem l_cons (al : Option Addr) (l : List LOp) (cl : Nat) (a : Int) (ha : 0 ≤ a ∧ a ≤ 255) {h : Heap} (hl : SlO h al l) (ll : l.length ≤ 9223372036854775807) (hu : ∀ o ∈ l, okE o.L) :
    HCalls Try.prog 3 #[.slice al l.length cl, .int .u8 a] h (Grow (.bool true) h) := by
  refine hcalls2 Try.func3 rfl (by decide +kernel) (by simp only [Try.ntmps3]; exact of_decide_eq_true rfl) ?_
  intro e hin
  have e0 := hin 0 _ rfl
  have e1 := hin 1 _ rfl
  have hE := Ext.refl h
  refine hx_seq ?_
  refine hx_region ?_
  refine WL.alloc2 zr4 ?_
  intro h1 B1 hx1 hlt1 hB1
  replace hE := hE.ext hx1
  replace hl := hl.ext hx1
  simp only [Value.cells] at hB1
  refine WL.nil ?_
  refine th_norm ?_
  refine hx_seq ?_
  refine hx_seq ?_
  refine hx_region ?_
  refine WL.qq (by simp only [EN, Nat.reduceEqDiff, reduceIte, qv_move, e0, decide_true, Bool.not_true, Bool.not_false, decide_false, hB1.cell]; rfl) ?_
  refine WL.cg Try.call11 (by simp only [EN, Nat.reduceEqDiff, reduceIte, AR, decide_true, Bool.not_true, Bool.not_false, decide_false, hB1.cell]; exact c_few al l cl ll hl.ops) ?_
  intro h2 hx2
  replace hE := hE.ext hx2
  replace hl := hl.ext hx2
  replace hB1 := hB1.ext hx2
  refine WL.qq (by simp only [EN, Nat.reduceEqDiff, reduceIte, qv_unOp, unv_not, decide_true, Bool.not_true, Bool.not_false, decide_false, hB1.cell]; rfl) ?_
  refine WL.qq (by simp only [EN, Nat.reduceEqDiff, reduceIte, qv_move, decide_true, Bool.not_true, Bool.not_false, decide_false, hB1.cell]; rfl) ?_
  refine WL.ccg (gd_at (t := 14) rfl (by simp only [EN, Nat.reduceEqDiff, reduceIte, decide_true, Bool.not_true, Bool.not_false, decide_false, hB1.cell] <;> rfl)) Try.call12 (fun hg1_4 => by simp only [EN, Nat.reduceEqDiff, reduceIte, AR, decide_true, Bool.not_true, Bool.not_false, decide_false, hB1.cell, hg1_4, GR]; exact c_known13 _) ?_
  intro h3 hx3
  replace hE := hE.ext hx3
  replace hl := hl.ext hx3
  replace hB1 := hB1.ext hx3
  refine WL.cq (gd_at (t := 14) rfl (by simp only [EN, Nat.reduceEqDiff, reduceIte, decide_true, Bool.not_true, Bool.not_false, decide_false, hB1.cell] <;> rfl)) (fun hg1_5 => by simp only [EN, Nat.reduceEqDiff, reduceIte, qv_unOp, unv_not, decide_true, Bool.not_true, Bool.not_false, decide_false, hB1.cell, hg1_5, GR]; rfl) ?_
  refine WL.qq (by simp only [EN, Nat.reduceEqDiff, reduceIte, qv_pick, pk_and, pk_or, GR, decide_true, Bool.not_true, Bool.not_false, decide_false, hB1.cell]; rfl) ?_
  refine WL.nil ?_
  refine th_norm ?_
  refine hx_cond (by simp only [EN, Nat.reduceEqDiff, reduceIte, e0, e1, decide_true, Bool.not_true, Bool.not_false, decide_false, hB1.cell]; rfl) (fun hct17 => ?_) (fun hct17 => ?_)
  ·
    try simp only [BD] at hct17
    refine hx_seq ?_
    refine hx_region ?_
    refine WL.cg Try.call12 (by simp only [EN, Nat.reduceEqDiff, reduceIte, AR, decide_true, Bool.not_true, Bool.not_false, decide_false, hB1.cell]; exact c_known13 _) ?_
    intro h4 hx4
    replace hE := hE.ext hx4
    replace hl := hl.ext hx4
    replace hB1 := hB1.ext hx4
    refine WL.store (by simp only [EN, Nat.reduceEqDiff, reduceIte, decide_true, Bool.not_true, Bool.not_false, decide_false, hB1.cell] <;> rfl) sz4 (by simp only [EN, Nat.reduceEqDiff, reduceIte, Value.cells, decide_true, Bool.not_true, Bool.not_false, decide_false, hB1.cell] <;> rfl) rfl hB1 (by first | (simp [true_and]; done) | (simp [true_and]; omega) | omega) (by simp [Value.oneCell']) ?_
    intro h5 hw5
    have hE9 := hw5.ext hE hlt1
    replace hB1 := hw5.at_
    try simp only [splc, List.take_zero, List.nil_append, List.drop_succ_cons, List.drop_zero, List.length_cons, List.length_nil] at hB1
    refine WL.nil ?_
    refine th_norm ?_
    refine hx_ret ?_
    refine th_ret ?_
    refine fin_ret [.cell 4 4] rfl rfl (by simp only [EN, Nat.reduceEqDiff, reduceIte, resv, ld4, readN, AR, Nat.zero_add, Nat.reduceAdd, e0, e1, decide_true, Bool.not_true, Bool.not_false, decide_false, hB1.cell]; rfl) ?_  -- ret 0 r2
    exact ⟨by simp [retOf], hE9⟩
  ·
    try simp only [BD] at hct17
    have ok : OkO l := few_ok (by cases hq : fewB l; (rw [hq] at hct17; simp at hct17); rfl) hu
    obtain ⟨s, hs⟩ : ∃ s, runB l = s := ⟨_, rfl⟩
    have hg : GoodB s 12 := hs ▸ (List.take_length (l := l) ▸ good_run ok l.length (Nat.le_refl _)).up ok.len
    have hgl := hg.lk_; have hgs := hg.sq_
    refine hx_skip ?_
    refine th_norm ?_
    refine hx_seq ?_
    refine hx_region ?_
    refine WL.qq (by simp only [EN, Nat.reduceEqDiff, reduceIte, qv_move, e0, decide_true, Bool.not_true, Bool.not_false, decide_false, hB1.cell]; rfl) ?_
    refine WL.ce Try.call13 (by simp only [EN, Nat.reduceEqDiff, reduceIte, AR, decide_true, Bool.not_true, Bool.not_false, decide_false, hB1.cell]; exact hs ▸ c_made al l cl ok hl) ?_
    rintro _ h6 ⟨hx6, p, bm, fm, vo, w, vk, vf, rfl, hbk, hrk, hfr⟩
    replace hE := hE.ext hx6
    replace hl := hl.ext hx6
    replace hB1 := hB1.ext hx6
    simp only [put_some]
    refine WL.qq (by simp only [EN, Nat.reduceEqDiff, reduceIte, qv_move, decide_true, Bool.not_true, Bool.not_false, decide_false, hB1.cell]; rfl) ?_
    refine WL.qq (by simp only [EN, Nat.reduceEqDiff, reduceIte, qv_extract, AR, decide_true, Bool.not_true, Bool.not_false, decide_false, hB1.cell]; rfl) ?_
    refine WL.qq (by simp only [EN, Nat.reduceEqDiff, reduceIte, qv_extract, AR, decide_true, Bool.not_true, Bool.not_false, decide_false, hB1.cell]; rfl) ?_
    have hs0 := hE.size
    replace hfr := hfr.le (Nat.le_trans hx1.size (Nat.le_trans hx2.size hx3.size))
    have hB1s := hB1
    refine WL.alloc2 zr25 ?_
    intro h7 B7 hx7 hlt7 hB7
    replace hE := hE.ext hx7
    replace hl := hl.ext hx7
    replace hB1 := hB1.ext hx7
    replace hbk := hbk.ext hx7
    replace hrk := hrk.ext hx7
    simp only [Value.cells] at hB7
    have hB7s := hB7
    refine WL.alloc2 zr29 ?_
    intro h8 B8 hx8 hlt8 hB8
    replace hE := hE.ext hx8
    replace hl := hl.ext hx8
    replace hB1 := hB1.ext hx8
    replace hbk := hbk.ext hx8
    replace hrk := hrk.ext hx8
    replace hB7 := hB7.ext hx8
    simp only [Value.cells] at hB8
    have n78 : B8 ≠ B7 := (by have h9 := (Array.getElem?_eq_some_iff.1 hB7s).1; omega)
    have n17 : B1 ≠ B7 := (by have h9 := (Array.getElem?_eq_some_iff.1 hB1s).1; omega)
    have n18 : B1 ≠ B8 := (by have h9 := (Array.getElem?_eq_some_iff.1 hB1s).1; have := hx7.size; omega)
    refine WL.store (by simp only [EN, Nat.reduceEqDiff, reduceIte, e0, e1, decide_true, Bool.not_true, Bool.not_false, decide_false, hB1.cell, hB7.cell, hB8.cell] <;> rfl) sz25 (by simp only [EN, Nat.reduceEqDiff, reduceIte, e0, e1, decide_true, Bool.not_true, Bool.not_false, decide_false, hB1.cell, hB7.cell, hB8.cell, Value.cells] <;> rfl) rfl hB7 (by simp) (by simp [Value.oneCell']) ?_
    intro h30 hw30
    replace hE := hw30.ext hE (Nat.le_trans hs0 hlt7)
    replace hbk := hbk.st (.inr ⟨_, hw30⟩) hB7 (by decide) (by decide)
    replace hB8 := hB8.wr hw30 n78
    replace hB1 := hB1.wr hw30 n17
    replace hB7 := hw30.at_
    simp only [splc, List.take_zero, List.nil_append, List.drop_succ_cons, List.drop_zero, List.length_cons, List.length_nil, List.drop_nil, List.append_nil, Nat.zero_add] at hB7
    obtain rfl := hrk.val
    refine WL.store (by simp only [EN, Nat.reduceEqDiff, reduceIte, e0, e1, decide_true, Bool.not_true, Bool.not_false, decide_false, hB1.cell, hB7.cell, hB8.cell] <;> rfl) sz29 (by simp only [EN, Nat.reduceEqDiff, reduceIte, e0, e1, decide_true, Bool.not_true, Bool.not_false, decide_false, hB1.cell, hB7.cell, hB8.cell, Value.cells]; rfl) rfl hB8 (by simp) (by have h8 := hrk.ks.one; have h9 := hrk.fs.one; intro u hu; simp at hu; rcases hu with rfl | rfl | rfl <;> first | exact h8 | exact h9 | rfl) ?_
    intro h31 hw31
    replace hE := hw31.ext hE (Nat.le_trans hs0 (Nat.le_trans hx7.size hlt8))
    replace hbk := hbk.st (.inr ⟨_, hw31⟩) hB8 (by decide) (by decide)
    replace hB7 := hB7.wr hw31 n78.symm
    replace hB1 := hB1.wr hw31 n18
    refine WL.nil ?_
    refine th_norm ?_
    refine hx_seq ?_
    refine hx_seq ?_
    refine hx_region ?_
    refine WL.qq (by simp only [EN, Nat.reduceEqDiff, reduceIte, qv_load, ld25, readN, AR, Nat.zero_add, Nat.reduceAdd, decide_true, Bool.not_true, Bool.not_false, decide_false, hB1.cell, hB7.cell, hB8.cell]; rfl) ?_
    refine WL.qq (by simp only [EN, Nat.reduceEqDiff, reduceIte, qv_binOp, binv_eql, eqz25, eqn25, eqm25, Option.map_some, decide_true, Bool.not_true, Bool.not_false, decide_false, hB1.cell, hB7.cell, hB8.cell]; rfl) ?_
    refine WL.qq (by simp only [EN, Nat.reduceEqDiff, reduceIte, qv_move, decide_true, Bool.not_true, Bool.not_false, decide_false, hB1.cell, hB7.cell, hB8.cell]; rfl) ?_
    refine WL.cq (gd_at (t := 26) rfl (by simp only [EN, Nat.reduceEqDiff, reduceIte, decide_true, Bool.not_true, Bool.not_false, decide_false, hB1.cell, hB7.cell, hB8.cell] <;> rfl)) (fun hg4_3 => by simp only [EN, Nat.reduceEqDiff, reduceIte, qv_load, ld25, readN, AR, Nat.zero_add, Nat.reduceAdd, decide_true, Bool.not_true, Bool.not_false, decide_false, hB1.cell, hB7.cell, hB8.cell, hg4_3, GR]; rfl) ?_
    refine WL.cq (gd_at (t := 26) rfl (by simp only [EN, Nat.reduceEqDiff, reduceIte, e1, decide_true, Bool.not_true, Bool.not_false, decide_false, hB1.cell, hB7.cell, hB8.cell] <;> rfl)) (fun hg4_4 => by simp only [EN, Nat.reduceEqDiff, reduceIte, qv_move, e1, decide_true, Bool.not_true, Bool.not_false, decide_false, hB1.cell, hB7.cell, hB8.cell, hg4_4, GR]; rfl) ?_
    refine WL.gy _ (gd_at (t := 26) rfl (by simp only [EN, Nat.reduceEqDiff, reduceIte, e0, e1, decide_true, Bool.not_true, Bool.not_false, decide_false, hB1.cell, hB7.cell, hB8.cell] <;> rfl)) (e_lit1 (N := 0) (Nat.zero_le _) Try.underlying35 sz5 zr5 (by decide) (by simp only [EN, Nat.reduceEqDiff, reduceIte, e0, e1, decide_true, Bool.not_true, Bool.not_false, decide_false, hB1.cell, hB7.cell, hB8.cell, Value.cells]; rfl) rfl) ?_
    rintro _ h32 ⟨hx32, ⟨B32, _, rfl⟩, hm32⟩
    simp only [put_some]
    have hB32 := hm32 B32 rfl
    replace hx32 : Ext _ _ := hx32
    replace hE := hE.ext hx32
    replace hbk := hbk.ext hx32
    replace hB7 := hB7.ext hx32
    replace hB1 := hB1.ext hx32
    refine WL.cq (gd_at (t := 26) rfl (by simp only [EN, Nat.reduceEqDiff, reduceIte, decide_true, Bool.not_true, Bool.not_false, decide_false, hB1.cell, hB7.cell, hB8.cell] <;> rfl)) (fun hg4_6 => by simp only [EN, Nat.reduceEqDiff, reduceIte, e0, e1, decide_true, Bool.not_true, Bool.not_false, decide_false, hB1.cell, hB7.cell, hB8.cell, qv_convert, convv, Try.underlying35, Try.underlying9, Try.underlying5, GL.readN, hB32.cell]; rfl) ?_
    refine WL.gy _ (gd_at (t := 26) rfl (by simp only [EN, Nat.reduceEqDiff, reduceIte, decide_true, Bool.not_true, Bool.not_false, decide_false, hB1.cell, hB7.cell, hB8.cell] <;> rfl)) (e_call Try.call14 (by simp only [EN, Nat.reduceEqDiff, reduceIte, AR, decide_true, Bool.not_true, Bool.not_false, decide_false, hB1.cell, hB7.cell, hB8.cell]; exact hg.tot ha ▸ c_total (grpS a) (by omega) hbk)) ?_
    rintro _ h33 ⟨rfl, hx33⟩
    simp only [put_some]
    replace hE := hE.ext hx33
    replace hbk := hbk.ext hx33
    replace hB7 := hB7.ext hx33
    replace hB1 := hB1.ext hx33
    refine WL.cq (gd_at (t := 26) rfl (by simp only [EN, Nat.reduceEqDiff, reduceIte, decide_true, Bool.not_true, Bool.not_false, decide_false, hB1.cell, hB7.cell, hB8.cell] <;> rfl)) (fun hg4_8 => by simp only [EN, Nat.reduceEqDiff, reduceIte, qv_binOp, binv_neq, eq2, Option.map_some, decide_true, Bool.not_true, Bool.not_false, decide_false, hB1.cell, hB7.cell, hB8.cell, hg4_8, GR]; rfl) ?_
    refine WL.qq (by simp only [EN, Nat.reduceEqDiff, reduceIte, qv_pick, pk_and, pk_or, GR, decide_true, Bool.not_true, Bool.not_false, decide_false, hB1.cell, hB7.cell, hB8.cell]; rfl) ?_
    refine WL.nil ?_
    refine th_norm ?_
    refine hx_cond (by simp only [EN, Nat.reduceEqDiff, reduceIte, e0, e1, decide_true, Bool.not_true, Bool.not_false, decide_false, hB1.cell, hB7.cell, hB8.cell]; rfl) (fun hct33 => ?_) (fun hct33 => ?_)
    ·
      simp at hct33
    ·
      try simp only [BD] at hct33
      refine hx_skip ?_
      refine th_norm ?_
      refine hx_seq ?_
      refine hx_region ?_
      have hE34 := hE
      have hbk34 := hbk.below
      refine WL.makeMap2 ?_
      intro h9 B9 hx9 hlt9 hB9
      replace hE := hE.ext hx9
      replace hbk := hbk.ext hx9
      replace hB7 := hB7.ext hx9
      replace hB1 := hB1.ext hx9
      have hm9 : MapT u8V iV h9 B9 (acA []) := MapT.new hB9
      have hlt9b := Nat.le_trans hE34.size hlt9
      refine WL.allocSt zr36 sz36 (fun u => by simp only [EN, Nat.reduceEqDiff, reduceIte, Value.cells, decide_true, Bool.not_true, Bool.not_false, decide_false, hB1.cell, hB7.cell, hB8.cell]; rfl) ⟨rfl, rfl⟩ (by simp [Value.oneCell']) ?_
      intro h10 B10 hx10 hlt10 hB10
      replace hE := hE.ext hx10
      replace hbk := hbk.ext hx10
      replace hB7 := hB7.ext hx10
      replace hB1 := hB1.ext hx10
      replace hB9 := hB9.ext hx10
      replace hm9 := hm9.ext hx10
      refine WL.nil ?_
      refine th_norm ?_
      refine hx_seq ?_
      refine hx_seq ?_
      refine hx_region ?_
      refine WL.qq (by simp only [EN, Nat.reduceEqDiff, reduceIte, qv_load, ld25, readN, AR, Nat.zero_add, Nat.reduceAdd, decide_true, Bool.not_true, Bool.not_false, decide_false, hB1.cell, hB7.cell, hB8.cell, hB10.cell]; rfl) ?_
      refine WL.ce Try.call15 (by simp only [EN, Nat.reduceEqDiff, reduceIte, AR, decide_true, Bool.not_true, Bool.not_false, decide_false, hB1.cell, hB7.cell, hB8.cell, hB10.cell]; exact c_all _ rfl _) ?_
      rintro _ h41 ⟨B41, rfl, hx41, hlt41, hB41⟩
      simp only [put_some]
      have n41 : B41 ≠ B9 := (by have h9 := hm9.lt; omega)
      replace hE := hE.ext hx41
      replace hbk := hbk.ext hx41
      replace hB7 := hB7.ext hx41
      replace hB1 := hB1.ext hx41
      replace hm9 := hm9.ext hx41
      replace hB10 := hB10.ext hx41
      refine WL.nil ?_
      refine th_norm ?_
      refine hx_block ?_
      refine hx_range (by simp only [EN, Nat.reduceEqDiff, reduceIte, e0, e1, decide_true, Bool.not_true, Bool.not_false, decide_false, hB1.cell, hB7.cell, hB8.cell, hB10.cell]; rfl) Try.call45 ?_
      intro fnR0 hR0 hxR0 hsR0 hdR0 hrR0
      have hlu9 : B9 < h41.size := hm9.lt
      have hlu7 : B7 < h41.size := (Array.getElem?_eq_some_iff.1 hB7).1
      have hlu10 : B10 < h41.size := (Array.getElem?_eq_some_iff.1 hB10).1
      have n7 : B7 ≠ B9 := hB7.nmap hm9
      have n10 : B10 ≠ B9 := hB10.nmap hm9
      have n1 : B1 ≠ B9 := hB1.nmap hm9
      have nbk : ∀ x ∈ blks p bm fm vo, x ∉ [B9] := (fun x hx => by have h9 := hbk34 x hx; simp; omega)
      generalize hrec : recOf _ _ _ _ _ _ _ = rec at hrR0
      refine (c_allYield (p := p) (bm := bm) (fm := fm) (vo := vo) (ks := s.ks) (fs := s.fs) (sq := s.sq) B41 (h41.size + 1) (fun i hx => CB h h41 B9 rec (s.ks.take i) hx) (fun _ => False) (by omega) ?_ ?_ ?_ ?_).mono ?_
      · rintro i h1 h2 ⟨q1, q2⟩ he; exact ⟨q1.ext he, q2.ext he⟩
      · rintro i hx ⟨q1, q2⟩; exact ⟨hB41.gs q1.gs (by simpa using n41), hbk.gsA q1.gs nbk⟩
      rotate_left
      · exact ⟨RX.start hxR0 hsR0 hdR0 hrR0 hE (by simp; omega) (by simp; omega), hm9.ext hxR0⟩
      rotate_left
      ·
        rintro i y hx hyi ⟨hC, hT⟩
        have hsz := hC.size
        subst hrec
        refine hy_body (vs := [kV y.1, iV y.2]) (ps := [37, 38]) hC.rc rfl rfl rfl (by decide) rfl rfl ?_
        simp only [pars, List.zip_cons_cons, List.zip_nil_left, List.foldl_cons, List.foldl_nil]
        have hA7 := hB7.gs hC.gs (by simpa using n7)
        have hA10 := hB10.gs hC.gs (by simpa using n10)
        have hbx := hbk.gsA hC.gs nbk
        refine hx_seq ?_
        refine hx_region ?_
        refine WL.allocSt zr34 sz34 (fun u => by simp only [EN, Nat.reduceEqDiff, reduceIte, Value.cells, decide_true, Bool.not_true, Bool.not_false, decide_false, hB1.cell, hB7.cell, hB8.cell, hB10.cell, hA7.cell, hA10.cell, hbx.blk.cell]; rfl) ⟨rfl, rfl⟩ (by simp [Value.oneCell']) ?_
        intro h11 B11 hx11 hlt11 hB11
        replace hC := hC.ext hx11
        replace hT := hT.ext hx11
        replace hA7 := hA7.ext hx11
        replace hA10 := hA10.ext hx11
        replace hbx := hbx.ext hx11
        refine WL.nil ?_
        refine th_norm ?_
        refine hx_region ?_
        refine WL.qq (by simp only [EN, Nat.reduceEqDiff, reduceIte, qv_assign, decide_true, Bool.not_true, Bool.not_false, decide_false, hB1.cell, hB7.cell, hB8.cell, hB10.cell, hA7.cell, hA10.cell, hbx.blk.cell, hB11.cell]; rfl) ?_
        refine WL.nil ?_
        refine th_norm ?_
        refine ⟨_, hC.rc, rfl, ?_⟩
        intro h20 hw20
        replace hC := hC.turn hw20
        replace hT := hT.wr hw20 (by omega)
        replace hB11 := hB11.wr hw20 (by omega)
        replace hA7 := hB7.gs hC.gs (by simpa using n7)
        replace hA10 := hB10.gs hC.gs (by simpa using n10)
        replace hbx := hbk.gsA hC.gs nbk
        have hyk : y ∈ s.ks := List.mem_of_getElem? hyi
        have hyv := vld_iff.1 (hg.vals y hyk)
        have hyg : lk s.fs y.1 ≤ y.2 := (by have h9 := hg.ge y.1; rwa [lk_mem hg.nd (show (y.1, y.2) ∈ s.ks from hyk)] at h9)
        refine hx_block ?_
        refine hx_seq ?_
        refine hx_region ?_
        refine WL.qq (by simp only [EN, Nat.reduceEqDiff, reduceIte, qv_load, ld36, readN, AR, Nat.zero_add, Nat.reduceAdd, decide_true, Bool.not_true, Bool.not_false, decide_false, hB1.cell, hB7.cell, hB8.cell, hB10.cell, hA7.cell, hA10.cell, hbx.blk.cell, hB11.cell]; rfl) ?_
        refine WL.qq (by simp only [EN, Nat.reduceEqDiff, reduceIte, qv_fieldAddr, fa34_1, Nat.zero_add, Nat.reduceAdd, decide_true, Bool.not_true, Bool.not_false, decide_false, hB1.cell, hB7.cell, hB8.cell, hB10.cell, hA7.cell, hA10.cell, hbx.blk.cell, hB11.cell]; rfl) ?_
        refine WL.qq (by simp only [EN, Nat.reduceEqDiff, reduceIte, qv_load, ld5, readN, AR, Nat.zero_add, Nat.reduceAdd, decide_true, Bool.not_true, Bool.not_false, decide_false, hB1.cell, hB7.cell, hB8.cell, hB10.cell, hA7.cell, hA10.cell, hbx.blk.cell, hB11.cell]; rfl) ?_
        refine WL.qq (by simp only [EN, Nat.reduceEqDiff, reduceIte, e0, e1, decide_true, Bool.not_true, Bool.not_false, decide_false, hB1.cell, hB7.cell, hB8.cell, hB10.cell, hA7.cell, hA10.cell, hbx.blk.cell, hB11.cell, qv_lookup, hT.lookv (z := 0) kt5 Try.underlying36 zr2 _ false]; rfl) ?_
        refine WL.qq (by simp only [EN, Nat.reduceEqDiff, reduceIte, qv_move, decide_true, Bool.not_true, Bool.not_false, decide_false, hB1.cell, hB7.cell, hB8.cell, hB10.cell, hA7.cell, hA10.cell, hbx.blk.cell, hB11.cell]; rfl) ?_
        refine WL.qq (by simp only [EN, Nat.reduceEqDiff, reduceIte, e0, e1, decide_true, Bool.not_true, Bool.not_false, decide_false, hB1.cell, hB7.cell, hB8.cell, hB10.cell, hA7.cell, hA10.cell, hbx.blk.cell, hB11.cell, qv_binOp, binv_add]; rfl) ?_
        refine WL.ef _ (e_mapUpdate (x := y.1.a) (v := IntKind.i64.wrap (lk (acA (s.ks.take i)) y.1.a + y.2)) kt5 Try.underlying36 hT (by simp only [EN, Nat.reduceEqDiff, reduceIte, e0, e1, decide_true, Bool.not_true, Bool.not_false, decide_false, hB1.cell, hB7.cell, hB8.cell, hB10.cell, hA7.cell, hA10.cell, hbx.blk.cell, hB11.cell]) (by simp only [EN, Nat.reduceEqDiff, reduceIte, e0, e1, decide_true, Bool.not_true, Bool.not_false, decide_false, hB1.cell, hB7.cell, hB8.cell, hB10.cell, hA7.cell, hA10.cell, hbx.blk.cell, hB11.cell]) (by simp only [EN, Nat.reduceEqDiff, reduceIte, e0, e1, decide_true, Bool.not_true, Bool.not_false, decide_false, hB1.cell, hB7.cell, hB8.cell, hB10.cell, hA7.cell, hA10.cell, hbx.blk.cell, hB11.cell] <;> rfl)) ?_
        rintro _ h42 ⟨⟨o42, hw42⟩, hT⟩
        simp only [put_none]
        rw [← accL_step (fun x => x.1.a) hyi] at hT
        replace hC := hC.put hw42 (.inl (by simp))
        replace hA7 := hB7.gs hC.gs (by simpa using n7)
        replace hbx := hbk.gsA hC.gs nbk
        replace hB11 := hB11.wr hw42 (by omega)
        refine WL.nil ?_
        refine th_norm ?_
        refine hx_seq ?_
        refine hx_region ?_
        refine WL.qq (by simp only [EN, Nat.reduceEqDiff, reduceIte, qv_move, decide_true, Bool.not_true, Bool.not_false, decide_false, hB1.cell, hB7.cell, hB8.cell, hB10.cell, hA7.cell, hA10.cell, hbx.blk.cell, hB11.cell]; rfl) ?_
        refine WL.qq (by simp only [EN, Nat.reduceEqDiff, reduceIte, qv_load, ld25, readN, AR, Nat.zero_add, Nat.reduceAdd, decide_true, Bool.not_true, Bool.not_false, decide_false, hB1.cell, hB7.cell, hB8.cell, hB10.cell, hA7.cell, hA10.cell, hbx.blk.cell, hB11.cell]; rfl) ?_
        refine WL.qq (by simp only [EN, Nat.reduceEqDiff, reduceIte, qv_load, ld34, readN, AR, Nat.zero_add, Nat.reduceAdd, decide_true, Bool.not_true, Bool.not_false, decide_false, hB1.cell, hB7.cell, hB8.cell, hB10.cell, hA7.cell, hA10.cell, hbx.blk.cell, hB11.cell]; rfl) ?_
        refine WL.cg Try.call16 (by simp only [EN, Nat.reduceEqDiff, reduceIte, AR, decide_true, Bool.not_true, Bool.not_false, decide_false, hB1.cell, hB7.cell, hB8.cell, hB10.cell, hA7.cell, hA10.cell, hbx.blk.cell, hB11.cell]; exact c_bkFlo y.1 hbx) ?_
        intro h12 hx12
        replace hC := hC.ext hx12
        replace hT := hT.ext hx12
        replace hA7 := hA7.ext hx12
        replace hbx := hbx.ext hx12
        replace hB11 := hB11.ext hx12
        refine WL.qq (by simp only [EN, Nat.reduceEqDiff, reduceIte, qv_binOp, binv_lss, decide_true, Bool.not_true, Bool.not_false, decide_false, hB1.cell, hB7.cell, hB8.cell, hB10.cell, hA7.cell, hA10.cell, hbx.blk.cell, hB11.cell]; rfl) ?_
        refine WL.qq (by simp only [EN, Nat.reduceEqDiff, reduceIte, qv_move, decide_true, Bool.not_true, Bool.not_false, decide_false, hB1.cell, hB7.cell, hB8.cell, hB10.cell, hA7.cell, hA10.cell, hbx.blk.cell, hB11.cell]; rfl) ?_
        refine WL.cq (gd_at (t := 50) rfl (by simp only [EN, Nat.reduceEqDiff, reduceIte, decide_true, Bool.not_true, Bool.not_false, decide_false, hB1.cell, hB7.cell, hB8.cell, hB10.cell, hA7.cell, hA10.cell, hbx.blk.cell, hB11.cell] <;> rfl)) (fun hg11_6 => by simp only [EN, Nat.reduceEqDiff, reduceIte, qv_move, decide_true, Bool.not_true, Bool.not_false, decide_false, hB1.cell, hB7.cell, hB8.cell, hB10.cell, hA7.cell, hA10.cell, hbx.blk.cell, hB11.cell, hg11_6, GR]; rfl) ?_
        refine WL.cq (gd_at (t := 50) rfl (by simp only [EN, Nat.reduceEqDiff, reduceIte, decide_true, Bool.not_true, Bool.not_false, decide_false, hB1.cell, hB7.cell, hB8.cell, hB10.cell, hA7.cell, hA10.cell, hbx.blk.cell, hB11.cell] <;> rfl)) (fun hg11_7 => by simp only [EN, Nat.reduceEqDiff, reduceIte, qv_binOp, binv_lss, decide_true, Bool.not_true, Bool.not_false, decide_false, hB1.cell, hB7.cell, hB8.cell, hB10.cell, hA7.cell, hA10.cell, hbx.blk.cell, hB11.cell, hg11_7, GR]; rfl) ?_
        refine WL.qq (by simp only [EN, Nat.reduceEqDiff, reduceIte, qv_pick, pk_and, pk_or, GR, decide_true, Bool.not_true, Bool.not_false, decide_false, hB1.cell, hB7.cell, hB8.cell, hB10.cell, hA7.cell, hA10.cell, hbx.blk.cell, hB11.cell]; rfl) ?_
        refine WL.qq (by simp only [EN, Nat.reduceEqDiff, reduceIte, qv_move, decide_true, Bool.not_true, Bool.not_false, decide_false, hB1.cell, hB7.cell, hB8.cell, hB10.cell, hA7.cell, hA10.cell, hbx.blk.cell, hB11.cell]; rfl) ?_
        refine WL.cq (gd_at (t := 54) rfl (by simp only [EN, Nat.reduceEqDiff, reduceIte, decide_true, Bool.not_true, Bool.not_false, decide_false, hB1.cell, hB7.cell, hB8.cell, hB10.cell, hA7.cell, hA10.cell, hbx.blk.cell, hB11.cell] <;> rfl)) (fun hg11_10 => by simp only [EN, Nat.reduceEqDiff, reduceIte, qv_move, decide_true, Bool.not_true, Bool.not_false, decide_false, hB1.cell, hB7.cell, hB8.cell, hB10.cell, hA7.cell, hA10.cell, hbx.blk.cell, hB11.cell, hg11_10, GR]; rfl) ?_
        refine WL.cq (gd_at (t := 54) rfl (by simp only [EN, Nat.reduceEqDiff, reduceIte, decide_true, Bool.not_true, Bool.not_false, decide_false, hB1.cell, hB7.cell, hB8.cell, hB10.cell, hA7.cell, hA10.cell, hbx.blk.cell, hB11.cell] <;> rfl)) (fun hg11_11 => by simp only [EN, Nat.reduceEqDiff, reduceIte, qv_binOp, binv_gtr, decide_true, Bool.not_true, Bool.not_false, decide_false, hB1.cell, hB7.cell, hB8.cell, hB10.cell, hA7.cell, hA10.cell, hbx.blk.cell, hB11.cell, hg11_11, GR]; rfl) ?_
        refine WL.qq (by simp only [EN, Nat.reduceEqDiff, reduceIte, qv_pick, pk_and, pk_or, GR, decide_true, Bool.not_true, Bool.not_false, decide_false, hB1.cell, hB7.cell, hB8.cell, hB10.cell, hA7.cell, hA10.cell, hbx.blk.cell, hB11.cell]; rfl) ?_
        refine WL.nil ?_
        refine th_norm ?_
        refine hx_cond (by simp only [EN, Nat.reduceEqDiff, reduceIte, e0, e1, decide_true, Bool.not_true, Bool.not_false, decide_false, hB1.cell, hB7.cell, hB8.cell, hB10.cell, hA7.cell, hA10.cell, hbx.blk.cell, hB11.cell]; rfl) (fun hct57 => ?_) (fun hct57 => ?_)
        ·
          (exfalso; have h1 : ¬ (y.2 < lk s.fs y.1) := (by omega); have h2 : ¬ (y.2 < -1000000000000000) := (by omega); have h3 : ¬ (1000000000000000 < y.2) := (by omega); simp [h1, h2, h3] at hct57)
        ·
          try simp only [BD] at hct57
          refine hx_skip ?_
          refine bl_norm ?_
          refine ⟨_, hC.rc, ?_⟩
          intro h50 hw50
          exact ⟨true, rfl, fun _ => ⟨hC.turn hw50, hT.wr hw50 (by omega)⟩, fun hh => by cases hh⟩
      ·
        rintro v0 h3 (⟨hC, hT⟩ | hf)
        rotate_left
        · exact hf.elim
        refine after_any hC.rc (by subst hrec; rfl) (.inl ⟨by subst hrec; rfl, ?_⟩)
        intro h51 o hw51
        rw [List.take_length] at hT
        replace hT := hT.wr hw51 (by omega)
        have hd51 : h51[h41.size]? = some (.deferred (some [])) := by rw [hw51.same _ (by omega)]; exact hC.df
        obtain ⟨hg51, hE51⟩ := hC.end_ hw51 (by omega)
        have hA10 := hB10.gs hg51 (by simpa using n10)
        have hA1 := hB1.gs hg51 (by simpa using n1)
        have hlu1 : B1 < h41.size := (Array.getElem?_eq_some_iff.1 hB1).1
        refine bl_norm ?_
        refine th_norm ?_
        refine hx_seq ?_
        refine hx_seq ?_
        refine hx_region ?_
        refine WL.qq (by simp only [EN, Nat.reduceEqDiff, reduceIte, qv_assign, decide_true, Bool.not_true, Bool.not_false, decide_false, hB1.cell, hB7.cell, hB8.cell, hB10.cell, hA10.cell, hA1.cell]; rfl) ?_
        refine WL.nil ?_
        refine th_norm ?_
        refine hx_block ?_
        refine hx_loopS [10, 58, 59, 60, 61, 62, 63, 64, 65, 66] (fun k e => ∃ (j : Nat), 256 - j = k ∧ (j ≤ 256) ∧ e 10 = .int .i64 j) _ ⟨0, rfl, ?_, ?_⟩ ?_
        · omega
        · simp only [EN, Nat.reduceEqDiff, reduceIte, e0, e1, decide_true, Bool.not_true, Bool.not_false, decide_false, hB1.cell, hB7.cell, hB8.cell, hB10.cell, hA10.cell, hA1.cell] <;> rfl
        ·
          rintro k e0L hfr0 ⟨j, rfl, hj, i10_0⟩
          have k4_0 := hfr0 4 rfl; try simp only [EN, Nat.reduceEqDiff, reduceIte, e0, e1, decide_true, Bool.not_true, Bool.not_false, decide_false, hB1.cell, hB7.cell, hB8.cell, hB10.cell, hA10.cell, hA1.cell] at k4_0
          have k7_0 := hfr0 7 rfl; try simp only [EN, Nat.reduceEqDiff, reduceIte, e0, e1, decide_true, Bool.not_true, Bool.not_false, decide_false, hB1.cell, hB7.cell, hB8.cell, hB10.cell, hA10.cell, hA1.cell] at k7_0
          refine hx_seq ?_
          refine hx_seq ?_
          refine hx_region ?_
          refine WL.qq (by simp only [EN, Nat.reduceEqDiff, reduceIte, qv_move, i10_0, decide_true, Bool.not_true, Bool.not_false, decide_false, hB1.cell, hB7.cell, hB8.cell, hB10.cell, hA10.cell, hA1.cell]; rfl) ?_
          refine WL.qq (by simp only [EN, Nat.reduceEqDiff, reduceIte, qv_binOp, binv_lss, decide_true, Bool.not_true, Bool.not_false, decide_false, hB1.cell, hB7.cell, hB8.cell, hB10.cell, hA10.cell, hA1.cell]; rfl) ?_
          refine WL.nil ?_
          refine th_norm ?_
          refine hx_cond (by simp only [EN, Nat.reduceEqDiff, reduceIte, k4_0, k7_0, i10_0, decide_true, Bool.not_true, Bool.not_false, decide_false, hB1.cell, hB7.cell, hB8.cell, hB10.cell, hA10.cell, hA1.cell]; rfl) (fun hct59 => ?_) (fun hct59 => ?_)
          ·
            try simp only [BD] at hct59
            refine hx_skip ?_
            refine th_norm ?_
            refine hx_seq ?_
            refine hx_block ?_
            refine hx_seq ?_
            refine hx_region ?_
            refine WL.qq (by simp only [EN, Nat.reduceEqDiff, reduceIte, qv_load, ld36, readN, AR, Nat.zero_add, Nat.reduceAdd, k7_0, decide_true, Bool.not_true, Bool.not_false, decide_false, hB1.cell, hB7.cell, hB8.cell, hB10.cell, hA10.cell, hA1.cell]; rfl) ?_
            refine WL.qq (by simp only [EN, Nat.reduceEqDiff, reduceIte, qv_move, i10_0, decide_true, Bool.not_true, Bool.not_false, decide_false, hB1.cell, hB7.cell, hB8.cell, hB10.cell, hA10.cell, hA1.cell]; rfl) ?_
            refine WL.qq (by simp only [EN, Nat.reduceEqDiff, reduceIte, qv_convert, convv, Try.underlying3, Try.underlying5, decide_true, Bool.not_true, Bool.not_false, decide_false, hB1.cell, hB7.cell, hB8.cell, hB10.cell, hA10.cell, hA1.cell]; (try simp (disch := omega) only [w64, w8, wu64]); rfl) ?_
            refine WL.qq (by simp only [EN, Nat.reduceEqDiff, reduceIte, k4_0, k7_0, i10_0, decide_true, Bool.not_true, Bool.not_false, decide_false, hB1.cell, hB7.cell, hB8.cell, hB10.cell, hA10.cell, hA1.cell, qv_lookup, hT.lookv (z := 0) kt5 Try.underlying36 zr2 _ false]; rfl) ?_
            refine WL.qq (by simp only [EN, Nat.reduceEqDiff, reduceIte, qv_binOp, binv_neq, eq2, Option.map_some, decide_true, Bool.not_true, Bool.not_false, decide_false, hB1.cell, hB7.cell, hB8.cell, hB10.cell, hA10.cell, hA1.cell]; rfl) ?_
            refine WL.nil ?_
            refine th_norm ?_
            refine hx_cond (by simp only [EN, Nat.reduceEqDiff, reduceIte, k4_0, k7_0, i10_0, decide_true, Bool.not_true, Bool.not_false, decide_false, hB1.cell, hB7.cell, hB8.cell, hB10.cell, hA10.cell, hA1.cell]; rfl) (fun hct66 => ?_) (fun hct66 => ?_)
            ·
              (exfalso; have h9 := (acA_lk s.ks (j : Int)).trans (hg.sumA _); unfold lk at h9; rw [h9] at hct66; simp at hct66)
            ·
              try simp only [BD] at hct66
              refine hx_skip ?_
              refine bl_norm ?_
              refine th_norm ?_
              refine hx_region ?_
              refine WL.qq (by simp only [EN, Nat.reduceEqDiff, reduceIte, qv_move, i10_0, decide_true, Bool.not_true, Bool.not_false, decide_false, hB1.cell, hB7.cell, hB8.cell, hB10.cell, hA10.cell, hA1.cell]; rfl) ?_
              refine WL.qq (by simp only [EN, Nat.reduceEqDiff, reduceIte, qv_binOp, binv_add, decide_true, Bool.not_true, Bool.not_false, decide_false, hB1.cell, hB7.cell, hB8.cell, hB10.cell, hA10.cell, hA1.cell]; (try simp (disch := omega) only [w64, w8, wu64]); rfl) ?_
              refine WL.qq (by simp only [EN, Nat.reduceEqDiff, reduceIte, qv_assign, decide_true, Bool.not_true, Bool.not_false, decide_false, hB1.cell, hB7.cell, hB8.cell, hB10.cell, hA10.cell, hA1.cell]; rfl) ?_
              refine WL.nil ?_
              refine th_norm ?_
              refine ⟨rfl, rfl, ?_, _, ?_, j + 1, rfl, ?_, ?_⟩  -- again 0 of loop 0
              · (repeat (first | exact Fr.refl _ _ | refine Fr.set rfl ?_ | refine Fr.put rfl ?_ | refine Fr.put0 ?_))
              · omega
              · omega
              · simp only [EN, Nat.reduceEqDiff, reduceIte, k4_0, k7_0, i10_0, decide_true, Bool.not_true, Bool.not_false, decide_false, hB1.cell, hB7.cell, hB8.cell, hB10.cell, hA10.cell, hA1.cell] <;> first | rfl | (congr 1; omega)
          ·
            try simp only [BD] at hct59
            refine hx_exit ?_
            refine th_exit ?_
            refine th_exit ?_
            refine bl_hit ?_
            refine th_norm ?_
            refine hx_seq ?_
            refine hx_region ?_
            refine WL.store (by simp only [EN, Nat.reduceEqDiff, reduceIte, k4_0, decide_true, Bool.not_true, Bool.not_false, decide_false, hB1.cell, hB7.cell, hB8.cell, hB10.cell, hA10.cell, hA1.cell] <;> rfl) sz4 (by simp only [EN, Nat.reduceEqDiff, reduceIte, Value.cells, k4_0, decide_true, Bool.not_true, Bool.not_false, decide_false, hB1.cell, hB7.cell, hB8.cell, hB10.cell, hA10.cell, hA1.cell] <;> rfl) rfl hA1 (by first | (simp [true_and]; done) | (simp [true_and]; omega) | omega) (by simp [Value.oneCell']) ?_
            intro h13 hw13
            have hE9 := hw13.ext hE51 hlt1
            have hA1' := hw13.at_
            try simp only [splc, List.take_zero, List.nil_append, List.drop_succ_cons, List.drop_zero, List.length_cons, List.length_nil, List.drop_nil, List.append_nil, Nat.zero_add] at hA1'
            have hd9 := (hw13.same _ (by omega)).trans hd51
            refine WL.nil ?_
            refine th_norm ?_
            refine hx_ret ?_
            refine fin_mark (.inr rfl) [.cell 4 4] rfl rfl hd9 ?_
            intro h5 hw5
            have hA2 := hA1'.wr hw5 (by omega)
            exact ⟨[.bool true], by simp only [EN, Nat.reduceEqDiff, reduceIte, k4_0, k7_0, i10_0, decide_true, Bool.not_true, Bool.not_false, decide_false, hB1.cell, hB7.cell, hB8.cell, hB10.cell, hA10.cell, hA1.cell, resv, ld4, hA2.cell, AR], rfl, hw5.ext hE9 (by have := hE.size; omega)⟩
end GL


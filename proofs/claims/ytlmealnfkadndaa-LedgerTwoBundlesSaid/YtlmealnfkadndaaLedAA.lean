/- Ledger: the statement on two bundles. -/
import Derived.Test.YtlmealnfkadndaaLedZ
set_option linter.unusedSimpArgs false
set_option linter.unusedVariables false
set_option linter.unnecessarySimpa false
namespace GL
open Go Go.Proofs
set_option maxRecDepth 8000
theorem IsRef.gsT {h h' : Heap} {S : List Nat} {w vk vf : Value} {ks gs : List E2} {sq : Int} (hr : IsRef h w ks gs sq vk vf) (hg : Gs h h' S) (hS : ∀ x ∈ S, ∀ cur, ¬ Has h x (.cells cur 44) ∧ ¬ Has h x (.cells cur 94)) : IsRef h' w ks gs sq vk vf :=
  ⟨hr.val, hr.ks.gs hg (fun c hc hm => by obtain ⟨cur, hb⟩ := hr.ks.typ c hc; exact (hS c hm cur).1 hb), hr.fs.gs hg (fun c hc hm => by obtain ⟨cur, hb⟩ := hr.fs.typ c hc; exact (hS c hm cur).2 hb)⟩
theorem Bd.gsS {h h' : Heap} {N t p : Nat} {ve : Value} {es : List E2} {o : Bool} {S : List Nat} (hb : Bd h N t p ve es o) (hg : Gs h h' S) (ht : t ∉ S) (hS : ∀ x ∈ S, ∀ cur, ¬ Has h x (.cells cur entT)) : Bd h' N t p ve es o := ⟨hb.blk.gs hg ht, hb.en.gsT hg hS⟩
theorem Has.noty {h : Heap} {b : Nat} {c cur : Array Value} {t t' : TypeId} (hb : Has h b (.cells c t)) (ht : t ≠ t') : ¬ Has h b (.cells cur t') := fun hc => hb.ncell hc ht rfl
theorem good_if {s : BS} {k : Nat} (g : GoodB s k) {l : List E2} (hu : okE l) (hl : l.length ≤ 12) {r : Int} (hc : chkE (lk s.ks) (lk s.fs) l = r) : GoodB ⟨if r = 0 then putL s.ks l else s.ks, s.gs, s.fs, if r = 0 then s.sq + 1 else s.sq⟩ (k + 1) := by
  by_cases h : r = 0
  · rw [if_pos h, if_pos h]; exact good_post g hu hl (hc.trans h)
  · rw [if_neg h, if_neg h]; exact g.up (Nat.le_succ k)
theorem foot_noty {h : Heap} {p bm fm : Nat} {vo : Value} {ks fs : List E2} {os : List K2} {sq : Int} {t : TypeId} (hb : BkO h p bm fm vo ks os fs sq) (h1 : t ≠ 83) (h2 : t ≠ 34) : ∀ x ∈ foot p bm vo, ∀ cur, ¬ Has h x (.cells cur t) := fun x hx cur hc => hb.offC hc h1 h2 hx
set_option maxHeartbeats 2000000 in
theorem l_two1 (al : Option Addr) (l : List LOp) (cl : Nat) (am : Option Addr) (m : List E2) (cm : Nat) (an : Option Addr) (n : List E2) (cn : Nat) {h : Heap} (hl : SlO h al l) (ll : l.length ≤ 9223372036854775807) (hu : ∀ o ∈ l, okE o.L)
    (hm : SlG 3 entL h am m) (hum : okE m) (hn : SlG 3 entL h an n) (hun : okE n) {r1 : Int} (hr1 : addE true [] m = r1) (h1n : r1 ≠ 0) : HCalls Try.prog 8 #[.slice al l.length cl, .slice am m.length cm, .slice an n.length cn] h (Grow (.bool true) h) := by
  refine hcalls2 Try.func8 rfl (by decide +kernel) (by simp only [Try.ntmps8]; exact of_decide_eq_true rfl) ?_
  intro e hin
  have e0 := hin 0 _ rfl
  have e1 := hin 1 _ rfl
  have e2 := hin 2 _ rfl
  have hE := Ext.refl h; have km := hm; have kn := hn
  refine hx_seq ?_
  refine hx_region ?_
  refine WL.qq (by simp only [EN, Nat.reduceEqDiff, reduceIte, qv_assign, decide_true, Bool.not_true, Bool.not_false, decide_false, eq_self, if_true, if_false, Bool.or_true, Bool.and_true]; rfl) ?_
  refine WL.nil ?_
  refine th_norm ?_
  refine hx_seq ?_
  refine hx_seq ?_
  refine hx_region ?_
  refine WL.qq (by simp only [EN, Nat.reduceEqDiff, reduceIte, qv_move, e0, decide_true, Bool.not_true, Bool.not_false, decide_false, eq_self, if_true, if_false, Bool.or_true, Bool.and_true]; rfl) ?_
  refine WL.cg Try.call11 (by simp only [EN, Nat.reduceEqDiff, reduceIte, AR, decide_true, Bool.not_true, Bool.not_false, decide_false, eq_self, if_true, if_false, Bool.or_true, Bool.and_true]; exact c_few al l cl ll hl.ops) ?_
  intro h1 hx1
  replace hE := hE.ext hx1
  replace hl := hl.ext hx1
  replace hm := hm.ext hx1
  replace hn := hn.ext hx1
  refine WL.qq (by simp only [EN, Nat.reduceEqDiff, reduceIte, qv_unOp, unv_not, decide_true, Bool.not_true, Bool.not_false, decide_false, eq_self, if_true, if_false, Bool.or_true, Bool.and_true]; rfl) ?_
  refine WL.qq (by simp only [EN, Nat.reduceEqDiff, reduceIte, qv_move, decide_true, Bool.not_true, Bool.not_false, decide_false, eq_self, if_true, if_false, Bool.or_true, Bool.and_true]; rfl) ?_
  refine WL.cq (gd_at (t := 19) rfl (by simp only [EN, Nat.reduceEqDiff, reduceIte, e1, decide_true, Bool.not_true, Bool.not_false, decide_false, eq_self, if_true, if_false, Bool.or_true, Bool.and_true] <;> rfl)) (fun hg1_4 => by simp only [EN, Nat.reduceEqDiff, reduceIte, qv_move, e1, decide_true, Bool.not_true, Bool.not_false, decide_false, eq_self, if_true, if_false, Bool.or_true, Bool.and_true, hg1_4, GR]; rfl) ?_
  refine WL.cq (gd_at (t := 19) rfl (by simp only [EN, Nat.reduceEqDiff, reduceIte, decide_true, Bool.not_true, Bool.not_false, decide_false, eq_self, if_true, if_false, Bool.or_true, Bool.and_true] <;> rfl)) (fun hg1_5 => by simp only [EN, Nat.reduceEqDiff, reduceIte, qv_len, ln26, AR, decide_true, Bool.not_true, Bool.not_false, decide_false, eq_self, if_true, if_false, Bool.or_true, Bool.and_true, hg1_5, GR]; rfl) ?_
  refine WL.cq (gd_at (t := 19) rfl (by simp only [EN, Nat.reduceEqDiff, reduceIte, decide_true, Bool.not_true, Bool.not_false, decide_false, eq_self, if_true, if_false, Bool.or_true, Bool.and_true] <;> rfl)) (fun hg1_6 => by simp only [EN, Nat.reduceEqDiff, reduceIte, qv_binOp, binv_gtr, decide_true, Bool.not_true, Bool.not_false, decide_false, eq_self, if_true, if_false, Bool.or_true, Bool.and_true, hg1_6, GR]; rfl) ?_
  refine WL.qq (by simp only [EN, Nat.reduceEqDiff, reduceIte, qv_pick, pk_and, pk_or, GR, decide_true, Bool.not_true, Bool.not_false, decide_false, eq_self, if_true, if_false, Bool.or_true, Bool.and_true]; rfl) ?_
  refine WL.qq (by simp only [EN, Nat.reduceEqDiff, reduceIte, qv_move, decide_true, Bool.not_true, Bool.not_false, decide_false, eq_self, if_true, if_false, Bool.or_true, Bool.and_true]; rfl) ?_
  refine WL.cq (gd_at (t := 24) rfl (by simp only [EN, Nat.reduceEqDiff, reduceIte, e2, decide_true, Bool.not_true, Bool.not_false, decide_false, eq_self, if_true, if_false, Bool.or_true, Bool.and_true] <;> rfl)) (fun hg1_9 => by simp only [EN, Nat.reduceEqDiff, reduceIte, qv_move, e2, decide_true, Bool.not_true, Bool.not_false, decide_false, eq_self, if_true, if_false, Bool.or_true, Bool.and_true, hg1_9, GR]; rfl) ?_
  refine WL.cq (gd_at (t := 24) rfl (by simp only [EN, Nat.reduceEqDiff, reduceIte, decide_true, Bool.not_true, Bool.not_false, decide_false, eq_self, if_true, if_false, Bool.or_true, Bool.and_true] <;> rfl)) (fun hg1_10 => by simp only [EN, Nat.reduceEqDiff, reduceIte, qv_len, ln26, AR, decide_true, Bool.not_true, Bool.not_false, decide_false, eq_self, if_true, if_false, Bool.or_true, Bool.and_true, hg1_10, GR]; rfl) ?_
  refine WL.cq (gd_at (t := 24) rfl (by simp only [EN, Nat.reduceEqDiff, reduceIte, decide_true, Bool.not_true, Bool.not_false, decide_false, eq_self, if_true, if_false, Bool.or_true, Bool.and_true] <;> rfl)) (fun hg1_11 => by simp only [EN, Nat.reduceEqDiff, reduceIte, qv_binOp, binv_gtr, decide_true, Bool.not_true, Bool.not_false, decide_false, eq_self, if_true, if_false, Bool.or_true, Bool.and_true, hg1_11, GR]; rfl) ?_
  refine WL.qq (by simp only [EN, Nat.reduceEqDiff, reduceIte, qv_pick, pk_and, pk_or, GR, decide_true, Bool.not_true, Bool.not_false, decide_false, eq_self, if_true, if_false, Bool.or_true, Bool.and_true]; rfl) ?_
  refine WL.nil ?_
  refine th_norm ?_
  refine hx_cond (by simp only [EN, Nat.reduceEqDiff, reduceIte, e0, e1, e2, decide_true, Bool.not_true, Bool.not_false, decide_false, eq_self, if_true, if_false, Bool.or_true, Bool.and_true]; rfl) (fun hct28 => ?_) (fun hct28 => ?_)
  ·
    try simp only [BD] at hct28
    refine hx_seq ?_
    refine hx_region ?_
    refine WL.cg Try.call12 (by simp only [EN, Nat.reduceEqDiff, reduceIte, AR, decide_true, Bool.not_true, Bool.not_false, decide_false, eq_self, if_true, if_false, Bool.or_true, Bool.and_true]; exact c_known13 _) ?_
    intro h2 hx2
    replace hE := hE.ext hx2
    replace hl := hl.ext hx2
    replace hm := hm.ext hx2
    replace hn := hn.ext hx2
    refine WL.qq (by simp only [EN, Nat.reduceEqDiff, reduceIte, qv_assign, decide_true, Bool.not_true, Bool.not_false, decide_false, eq_self, if_true, if_false, Bool.or_true, Bool.and_true]; rfl) ?_
    refine WL.nil ?_
    refine th_norm ?_
    refine hx_ret ?_
    refine th_ret ?_
    refine fin_ret [.tmp 6] rfl rfl (by simp only [EN, Nat.reduceEqDiff, reduceIte, resv, e0, e1, e2, decide_true, Bool.not_true, Bool.not_false, decide_false, eq_self, if_true, if_false, Bool.or_true, Bool.and_true]; rfl) ?_  -- ret 0 r2
    exact ⟨rfl, hE⟩
  ·
    try simp only [BD] at hct28
    have hfw : fewB l = true := (by cases h8 : fewB l; (rw [h8] at hct28; simp at hct28); rfl)
    have hml : m.length ≤ 12 ∧ n.length ≤ 12 := (by rw [hfw] at hct28; simp at hct28; omega)
    have ok : OkO l := few_ok hfw hu
    obtain ⟨s, hs⟩ : ∃ s, runB l = s := ⟨_, rfl⟩
    have hg : GoodB s 12 := hs ▸ (List.take_length (l := l) ▸ good_run ok l.length (Nat.le_refl _)).up ok.len
    have hgl := hg.lk_; have hgs := hg.sq_; have hgg := hg.lg
    refine hx_skip ?_
    refine th_norm ?_
    refine hx_seq ?_
    refine hx_region ?_
    refine WL.qq (by simp only [EN, Nat.reduceEqDiff, reduceIte, qv_move, e0, decide_true, Bool.not_true, Bool.not_false, decide_false, eq_self, if_true, if_false, Bool.or_true, Bool.and_true]; rfl) ?_
    refine WL.ce Try.call13 (by simp only [EN, Nat.reduceEqDiff, reduceIte, AR, decide_true, Bool.not_true, Bool.not_false, decide_false, eq_self, if_true, if_false, Bool.or_true, Bool.and_true]; exact hs ▸ c_made al l cl ok hl) ?_
    rintro _ h3 ⟨hx3, p, bm, fm, vo, w, vk, vf, rfl, hbk, hrk, hfr⟩
    replace hE := hE.ext hx3
    replace hl := hl.ext hx3
    replace hm := hm.ext hx3
    replace hn := hn.ext hx3
    simp only [put_some]
    refine WL.qq (by simp only [EN, Nat.reduceEqDiff, reduceIte, qv_move, decide_true, Bool.not_true, Bool.not_false, decide_false, eq_self, if_true, if_false, Bool.or_true, Bool.and_true]; rfl) ?_
    refine WL.qq (by simp only [EN, Nat.reduceEqDiff, reduceIte, qv_extract, AR, decide_true, Bool.not_true, Bool.not_false, decide_false, eq_self, if_true, if_false, Bool.or_true, Bool.and_true]; rfl) ?_
    refine WL.qq (by simp only [EN, Nat.reduceEqDiff, reduceIte, qv_extract, AR, decide_true, Bool.not_true, Bool.not_false, decide_false, eq_self, if_true, if_false, Bool.or_true, Bool.and_true]; rfl) ?_
    have hs2 := hE.size
    have hE0 := hE; replace hfr := hfr.le hx1.size
    refine WL.alloc2 zr29 ?_
    intro h4 B4 hx4 hlt4 hB4
    replace hE := hE.ext hx4
    replace hl := hl.ext hx4
    replace hm := hm.ext hx4
    replace hn := hn.ext hx4
    replace hbk := hbk.ext hx4
    replace hrk := hrk.ext hx4
    simp only [Value.cells] at hB4
    refine WL.qq (by simp only [EN, Nat.reduceEqDiff, reduceIte, qv_assign, decide_true, Bool.not_true, Bool.not_false, decide_false, eq_self, if_true, if_false, Bool.or_true, Bool.and_true, hB4.cell]; rfl) ?_
    obtain rfl := hrk.val
    refine WL.store (by simp only [EN, Nat.reduceEqDiff, reduceIte, e0, e1, e2, decide_true, Bool.not_true, Bool.not_false, decide_false, eq_self, if_true, if_false, Bool.or_true, Bool.and_true, hB4.cell] <;> rfl) sz29 (by simp only [EN, Nat.reduceEqDiff, reduceIte, e0, e1, e2, decide_true, Bool.not_true, Bool.not_false, decide_false, eq_self, if_true, if_false, Bool.or_true, Bool.and_true, hB4.cell, Value.cells]; rfl) rfl hB4 (by simp) (by have h8 := hrk.ks.one; have h9 := hrk.fs.one; intro u hu; simp at hu; rcases hu with rfl | rfl | rfl <;> first | exact h8 | exact h9 | rfl) ?_
    intro h30 hw30
    replace hE := hw30.ext (hE0.trans hx4) (Nat.le_trans hs2 hlt4)
    have hlB4 := Nat.le_trans hs2 hlt4
    replace hbk := hbk.st (.inr ⟨_, hw30⟩) hB4 (by decide) (by decide)
    replace hrk : IsRef h30 _ _ _ _ _ _ := ⟨hrk.val, hrk.ks.keep (fun c hc => hw30.same c fun hh => by subst hh; exact hrk.ks.ncell hB4 (by decide) hc), hrk.fs.keep (fun c hc => hw30.same c fun hh => by subst hh; exact hrk.fs.ncell hB4 (by decide) hc)⟩
    replace hm := km.ext hE
    replace hn := kn.ext hE
    replace hB4 := hw30.at_
    simp only [splc, List.take_zero, List.nil_append, List.drop_succ_cons, List.drop_zero, List.length_cons, List.length_nil, List.drop_nil, List.append_nil, Nat.zero_add, Nat.reduceAdd] at hB4
    refine WL.nil ?_
    refine th_norm ?_
    refine hx_seq ?_
    refine hx_seq ?_
    refine hx_region ?_
    refine WL.qq (by simp only [EN, Nat.reduceEqDiff, reduceIte, qv_move, decide_true, Bool.not_true, Bool.not_false, decide_false, eq_self, if_true, if_false, Bool.or_true, Bool.and_true, hB4.cell]; rfl) ?_
    refine WL.qq (by simp only [EN, Nat.reduceEqDiff, reduceIte, qv_binOp, binv_eql, eqz25, eqn25, eqm25, Option.map_some, decide_true, Bool.not_true, Bool.not_false, decide_false, eq_self, if_true, if_false, Bool.or_true, Bool.and_true, hB4.cell]; rfl) ?_
    refine WL.nil ?_
    refine th_norm ?_
    refine hx_cond (by simp only [EN, Nat.reduceEqDiff, reduceIte, e0, e1, e2, decide_true, Bool.not_true, Bool.not_false, decide_false, eq_self, if_true, if_false, Bool.or_true, Bool.and_true, hB4.cell]; rfl) (fun hct36 => ?_) (fun hct36 => ?_)
    ·
      simp at hct36
    ·
      try simp only [BD] at hct36
      refine hx_skip ?_
      refine th_norm ?_
      refine hx_seq ?_
      refine hx_region ?_
      refine WL.qq (by simp only [EN, Nat.reduceEqDiff, reduceIte, qv_move, decide_true, Bool.not_true, Bool.not_false, decide_false, eq_self, if_true, if_false, Bool.or_true, Bool.and_true, hB4.cell]; rfl) ?_
      refine WL.ce Try.call29 (by simp only [EN, Nat.reduceEqDiff, reduceIte, AR, decide_true, Bool.not_true, Bool.not_false, decide_false, eq_self, if_true, if_false, Bool.or_true, Bool.and_true, hB4.cell]; exact c_begin hbk) ?_
      rintro _ h31 ⟨hx31, t1, rfl, hl1, hb1⟩
      simp only [put_some]
      have hf1 := Nat.le_trans hE.size hl1
      replace hE := hE.ext hx31
      replace hbk := hbk.ext hx31
      replace hrk := hrk.ext hx31
      replace hB4 := hB4.ext hx31
      replace hm := hm.ext hx31
      replace hn := hn.ext hx31
      refine WL.qq (by simp only [EN, Nat.reduceEqDiff, reduceIte, qv_move, decide_true, Bool.not_true, Bool.not_false, decide_false, eq_self, if_true, if_false, Bool.or_true, Bool.and_true, hB4.cell]; rfl) ?_
      refine WL.ce Try.call29 (by simp only [EN, Nat.reduceEqDiff, reduceIte, AR, decide_true, Bool.not_true, Bool.not_false, decide_false, eq_self, if_true, if_false, Bool.or_true, Bool.and_true, hB4.cell]; exact c_begin hbk) ?_
      rintro _ h32 ⟨hx32, t2, rfl, hl2, hb2⟩
      simp only [put_some]
      have hf2 := Nat.le_trans hE.size hl2
      have n12 : t2 ≠ t1 := (by have h9 := (Array.getElem?_eq_some_iff.1 hb1.blk).1; omega)
      replace hE := hE.ext hx32
      replace hbk := hbk.ext hx32
      replace hrk := hrk.ext hx32
      replace hB4 := hB4.ext hx32
      replace hm := hm.ext hx32
      replace hn := hn.ext hx32
      replace hb1 := hb1.ext hx32
      refine WL.qq (by simp only [EN, Nat.reduceEqDiff, reduceIte, qv_assign, decide_true, Bool.not_true, Bool.not_false, decide_false, eq_self, if_true, if_false, Bool.or_true, Bool.and_true, hB4.cell]; rfl) ?_
      refine WL.qq (by simp only [EN, Nat.reduceEqDiff, reduceIte, qv_assign, decide_true, Bool.not_true, Bool.not_false, decide_false, eq_self, if_true, if_false, Bool.or_true, Bool.and_true, hB4.cell]; rfl) ?_
      refine WL.nil ?_
      refine th_norm ?_
      refine hx_seq ?_
      refine hx_seq ?_
      refine hx_region ?_
      refine WL.qq (by simp only [EN, Nat.reduceEqDiff, reduceIte, qv_move, decide_true, Bool.not_true, Bool.not_false, decide_false, eq_self, if_true, if_false, Bool.or_true, Bool.and_true, hB4.cell]; rfl) ?_
      refine WL.qq (by simp only [EN, Nat.reduceEqDiff, reduceIte, qv_move, e1, decide_true, Bool.not_true, Bool.not_false, decide_false, eq_self, if_true, if_false, Bool.or_true, Bool.and_true, hB4.cell]; rfl) ?_
      refine WL.ce Try.call19 (by simp only [EN, Nat.reduceEqDiff, reduceIte, AR, decide_true, Bool.not_true, Bool.not_false, decide_false, eq_self, if_true, if_false, Bool.or_true, Bool.and_true, hB4.cell]; exact c_entries am m cm (by omega) hm) ?_
      rintro _ h5 ⟨hx5, hoe⟩
      replace hE := hE.ext hx5
      replace hbk := hbk.ext hx5
      replace hrk := hrk.ext hx5
      replace hB4 := hB4.ext hx5
      replace hm := hm.ext hx5
      replace hn := hn.ext hx5
      replace hb1 := hb1.ext hx5
      replace hb2 := hb2.ext hx5
      simp only [put_some]
      have hl1b := hl1; have hEs : h30.size ≤ h5.size := (by have h1 := hx31.size; have h2 := hx32.size; have h3 := hx5.size; omega)
      obtain ⟨ae, ce, rfl, _, hse, _⟩ := Own.slG (f := entL) (sz := 3) (fun _ => rfl) hoe rfl
      have hd0 : decide (r1 = 0) = false := decide_eq_false h1n
      refine WL.ce Try.call30 (by simp only [EN, Nat.reduceEqDiff, reduceIte, AR, decide_true, Bool.not_true, Bool.not_false, decide_false, eq_self, if_true, if_false, Bool.or_true, Bool.and_true, hB4.cell]; exact c_add ae m ce (by omega) (by simp) hEs hb1 hse hr1) ?_
      rintro _ h33 ⟨rfl, hno, _⟩
      simp only [put_some]
      have hx33 := hno h1n
      replace hE := hE.ext hx33
      refine WL.qq (by simp only [EN, Nat.reduceEqDiff, reduceIte, e0, e1, e2, decide_true, Bool.not_true, Bool.not_false, decide_false, eq_self, if_true, if_false, Bool.or_true, Bool.and_true, hB4.cell, qv_binOp, binv_neq, eq45, Option.map_some, hd0]; rfl) ?_
      refine WL.qq (by simp only [EN, Nat.reduceEqDiff, reduceIte, qv_move, decide_true, Bool.not_true, Bool.not_false, decide_false, eq_self, if_true, if_false, Bool.or_true, Bool.and_true, hB4.cell]; rfl) ?_
      refine WL.cq (gd_at (t := 46) rfl (by simp only [EN, Nat.reduceEqDiff, reduceIte, decide_true, Bool.not_true, Bool.not_false, decide_false, eq_self, if_true, if_false, Bool.or_true, Bool.and_true, hB4.cell] <;> rfl)) (fun hg7_6 => by simp only [EN, Nat.reduceEqDiff, reduceIte, qv_move, decide_true, Bool.not_true, Bool.not_false, decide_false, eq_self, if_true, if_false, Bool.or_true, Bool.and_true, hB4.cell, hg7_6, GR]; rfl) ?_
      refine WL.cq (gd_at (t := 46) rfl (by simp only [EN, Nat.reduceEqDiff, reduceIte, e2, decide_true, Bool.not_true, Bool.not_false, decide_false, eq_self, if_true, if_false, Bool.or_true, Bool.and_true, hB4.cell] <;> rfl)) (fun hg7_7 => by simp only [EN, Nat.reduceEqDiff, reduceIte, qv_move, e2, decide_true, Bool.not_true, Bool.not_false, decide_false, eq_self, if_true, if_false, Bool.or_true, Bool.and_true, hB4.cell, hg7_7, GR]; rfl) ?_
      refine WL.gn (by rw [gd_at (t := 46) rfl (by simp only [EN, Nat.reduceEqDiff, reduceIte, e0, e1, e2, decide_true, Bool.not_true, Bool.not_false, decide_false, eq_self, if_true, if_false, Bool.or_true, Bool.and_true, hB4.cell] <;> rfl)]; rfl) ?_
      simp only [put_some]
      refine WL.gn (by rw [gd_at (t := 46) rfl (by simp only [EN, Nat.reduceEqDiff, reduceIte, e0, e1, e2, decide_true, Bool.not_true, Bool.not_false, decide_false, eq_self, if_true, if_false, Bool.or_true, Bool.and_true, hB4.cell] <;> rfl)]; rfl) ?_
      simp only [put_some]
      refine WL.gn (by rw [gd_at (t := 46) rfl (by simp only [EN, Nat.reduceEqDiff, reduceIte, e0, e1, e2, decide_true, Bool.not_true, Bool.not_false, decide_false, eq_self, if_true, if_false, Bool.or_true, Bool.and_true, hB4.cell] <;> rfl)]; rfl) ?_
      simp only [put_some]
      refine WL.qq (by simp only [EN, Nat.reduceEqDiff, reduceIte, qv_pick, pk_and, pk_or, GR, decide_true, Bool.not_true, Bool.not_false, decide_false, eq_self, if_true, if_false, Bool.or_true, Bool.and_true, hB4.cell]; rfl) ?_
      refine WL.nil ?_
      refine th_norm ?_
      refine hx_cond (by simp only [EN, Nat.reduceEqDiff, reduceIte, e0, e1, e2, decide_true, Bool.not_true, Bool.not_false, decide_false, eq_self, if_true, if_false, Bool.or_true, Bool.and_true, hB4.cell]; rfl) (fun hct52 => ?_) (fun hct52 => ?_)
      ·
        try simp only [BD] at hct52
        refine hx_seq ?_
        refine hx_region ?_
        refine WL.cg Try.call12 (by simp only [EN, Nat.reduceEqDiff, reduceIte, AR, decide_true, Bool.not_true, Bool.not_false, decide_false, eq_self, if_true, if_false, Bool.or_true, Bool.and_true, hB4.cell]; exact c_known13 _) ?_
        intro h6 hx6
        replace hE := hE.ext hx6
        refine WL.qq (by simp only [EN, Nat.reduceEqDiff, reduceIte, qv_assign, decide_true, Bool.not_true, Bool.not_false, decide_false, eq_self, if_true, if_false, Bool.or_true, Bool.and_true, hB4.cell]; rfl) ?_
        refine WL.nil ?_
        refine th_norm ?_
        refine hx_ret ?_
        refine th_ret ?_
        refine fin_ret [.tmp 6] rfl rfl (by simp only [EN, Nat.reduceEqDiff, reduceIte, resv, e0, e1, e2, decide_true, Bool.not_true, Bool.not_false, decide_false, eq_self, if_true, if_false, Bool.or_true, Bool.and_true, hB4.cell]; rfl) ?_  -- ret 1 r8
        exact ⟨rfl, hE⟩
      ·
        simp at hct52
set_option maxHeartbeats 2000000 in
theorem l_two2 (al : Option Addr) (l : List LOp) (cl : Nat) (am : Option Addr) (m : List E2) (cm : Nat) (an : Option Addr) (n : List E2) (cn : Nat) {h : Heap} (hl : SlO h al l) (ll : l.length ≤ 9223372036854775807) (hu : ∀ o ∈ l, okE o.L)
    (hm : SlG 3 entL h am m) (hum : okE m) (hn : SlG 3 entL h an n) (hun : okE n) (hr1 : addE true [] m = 0) : HCalls Try.prog 8 #[.slice al l.length cl, .slice am m.length cm, .slice an n.length cn] h (Grow (.bool true) h) := by
  refine hcalls2 Try.func8 rfl (by decide +kernel) (by simp only [Try.ntmps8]; exact of_decide_eq_true rfl) ?_
  intro e hin
  have e0 := hin 0 _ rfl
  have e1 := hin 1 _ rfl
  have e2 := hin 2 _ rfl
  have hE := Ext.refl h; have km := hm; have kn := hn
  refine hx_seq ?_
  refine hx_region ?_
  refine WL.qq (by simp only [EN, Nat.reduceEqDiff, reduceIte, qv_assign, decide_true, Bool.not_true, Bool.not_false, decide_false, eq_self, if_true, if_false, Bool.or_true, Bool.and_true]; rfl) ?_
  refine WL.nil ?_
  refine th_norm ?_
  refine hx_seq ?_
  refine hx_seq ?_
  refine hx_region ?_
  refine WL.qq (by simp only [EN, Nat.reduceEqDiff, reduceIte, qv_move, e0, decide_true, Bool.not_true, Bool.not_false, decide_false, eq_self, if_true, if_false, Bool.or_true, Bool.and_true]; rfl) ?_
  refine WL.cg Try.call11 (by simp only [EN, Nat.reduceEqDiff, reduceIte, AR, decide_true, Bool.not_true, Bool.not_false, decide_false, eq_self, if_true, if_false, Bool.or_true, Bool.and_true]; exact c_few al l cl ll hl.ops) ?_
  intro h1 hx1
  replace hE := hE.ext hx1
  replace hl := hl.ext hx1
  replace hm := hm.ext hx1
  replace hn := hn.ext hx1
  refine WL.qq (by simp only [EN, Nat.reduceEqDiff, reduceIte, qv_unOp, unv_not, decide_true, Bool.not_true, Bool.not_false, decide_false, eq_self, if_true, if_false, Bool.or_true, Bool.and_true]; rfl) ?_
  refine WL.qq (by simp only [EN, Nat.reduceEqDiff, reduceIte, qv_move, decide_true, Bool.not_true, Bool.not_false, decide_false, eq_self, if_true, if_false, Bool.or_true, Bool.and_true]; rfl) ?_
  refine WL.cq (gd_at (t := 19) rfl (by simp only [EN, Nat.reduceEqDiff, reduceIte, e1, decide_true, Bool.not_true, Bool.not_false, decide_false, eq_self, if_true, if_false, Bool.or_true, Bool.and_true] <;> rfl)) (fun hg1_4 => by simp only [EN, Nat.reduceEqDiff, reduceIte, qv_move, e1, decide_true, Bool.not_true, Bool.not_false, decide_false, eq_self, if_true, if_false, Bool.or_true, Bool.and_true, hg1_4, GR]; rfl) ?_
  refine WL.cq (gd_at (t := 19) rfl (by simp only [EN, Nat.reduceEqDiff, reduceIte, decide_true, Bool.not_true, Bool.not_false, decide_false, eq_self, if_true, if_false, Bool.or_true, Bool.and_true] <;> rfl)) (fun hg1_5 => by simp only [EN, Nat.reduceEqDiff, reduceIte, qv_len, ln26, AR, decide_true, Bool.not_true, Bool.not_false, decide_false, eq_self, if_true, if_false, Bool.or_true, Bool.and_true, hg1_5, GR]; rfl) ?_
  refine WL.cq (gd_at (t := 19) rfl (by simp only [EN, Nat.reduceEqDiff, reduceIte, decide_true, Bool.not_true, Bool.not_false, decide_false, eq_self, if_true, if_false, Bool.or_true, Bool.and_true] <;> rfl)) (fun hg1_6 => by simp only [EN, Nat.reduceEqDiff, reduceIte, qv_binOp, binv_gtr, decide_true, Bool.not_true, Bool.not_false, decide_false, eq_self, if_true, if_false, Bool.or_true, Bool.and_true, hg1_6, GR]; rfl) ?_
  refine WL.qq (by simp only [EN, Nat.reduceEqDiff, reduceIte, qv_pick, pk_and, pk_or, GR, decide_true, Bool.not_true, Bool.not_false, decide_false, eq_self, if_true, if_false, Bool.or_true, Bool.and_true]; rfl) ?_
  refine WL.qq (by simp only [EN, Nat.reduceEqDiff, reduceIte, qv_move, decide_true, Bool.not_true, Bool.not_false, decide_false, eq_self, if_true, if_false, Bool.or_true, Bool.and_true]; rfl) ?_
  refine WL.cq (gd_at (t := 24) rfl (by simp only [EN, Nat.reduceEqDiff, reduceIte, e2, decide_true, Bool.not_true, Bool.not_false, decide_false, eq_self, if_true, if_false, Bool.or_true, Bool.and_true] <;> rfl)) (fun hg1_9 => by simp only [EN, Nat.reduceEqDiff, reduceIte, qv_move, e2, decide_true, Bool.not_true, Bool.not_false, decide_false, eq_self, if_true, if_false, Bool.or_true, Bool.and_true, hg1_9, GR]; rfl) ?_
  refine WL.cq (gd_at (t := 24) rfl (by simp only [EN, Nat.reduceEqDiff, reduceIte, decide_true, Bool.not_true, Bool.not_false, decide_false, eq_self, if_true, if_false, Bool.or_true, Bool.and_true] <;> rfl)) (fun hg1_10 => by simp only [EN, Nat.reduceEqDiff, reduceIte, qv_len, ln26, AR, decide_true, Bool.not_true, Bool.not_false, decide_false, eq_self, if_true, if_false, Bool.or_true, Bool.and_true, hg1_10, GR]; rfl) ?_
  refine WL.cq (gd_at (t := 24) rfl (by simp only [EN, Nat.reduceEqDiff, reduceIte, decide_true, Bool.not_true, Bool.not_false, decide_false, eq_self, if_true, if_false, Bool.or_true, Bool.and_true] <;> rfl)) (fun hg1_11 => by simp only [EN, Nat.reduceEqDiff, reduceIte, qv_binOp, binv_gtr, decide_true, Bool.not_true, Bool.not_false, decide_false, eq_self, if_true, if_false, Bool.or_true, Bool.and_true, hg1_11, GR]; rfl) ?_
  refine WL.qq (by simp only [EN, Nat.reduceEqDiff, reduceIte, qv_pick, pk_and, pk_or, GR, decide_true, Bool.not_true, Bool.not_false, decide_false, eq_self, if_true, if_false, Bool.or_true, Bool.and_true]; rfl) ?_
  refine WL.nil ?_
  refine th_norm ?_
  refine hx_cond (by simp only [EN, Nat.reduceEqDiff, reduceIte, e0, e1, e2, decide_true, Bool.not_true, Bool.not_false, decide_false, eq_self, if_true, if_false, Bool.or_true, Bool.and_true]; rfl) (fun hct28 => ?_) (fun hct28 => ?_)
  ·
    try simp only [BD] at hct28
    refine hx_seq ?_
    refine hx_region ?_
    refine WL.cg Try.call12 (by simp only [EN, Nat.reduceEqDiff, reduceIte, AR, decide_true, Bool.not_true, Bool.not_false, decide_false, eq_self, if_true, if_false, Bool.or_true, Bool.and_true]; exact c_known13 _) ?_
    intro h2 hx2
    replace hE := hE.ext hx2
    replace hl := hl.ext hx2
    replace hm := hm.ext hx2
    replace hn := hn.ext hx2
    refine WL.qq (by simp only [EN, Nat.reduceEqDiff, reduceIte, qv_assign, decide_true, Bool.not_true, Bool.not_false, decide_false, eq_self, if_true, if_false, Bool.or_true, Bool.and_true]; rfl) ?_
    refine WL.nil ?_
    refine th_norm ?_
    refine hx_ret ?_
    refine th_ret ?_
    refine fin_ret [.tmp 6] rfl rfl (by simp only [EN, Nat.reduceEqDiff, reduceIte, resv, e0, e1, e2, decide_true, Bool.not_true, Bool.not_false, decide_false, eq_self, if_true, if_false, Bool.or_true, Bool.and_true]; rfl) ?_  -- ret 0 r2
    exact ⟨rfl, hE⟩
  ·
    try simp only [BD] at hct28
    have hfw : fewB l = true := (by cases h8 : fewB l; (rw [h8] at hct28; simp at hct28); rfl)
    have hml : m.length ≤ 12 ∧ n.length ≤ 12 := (by rw [hfw] at hct28; simp at hct28; omega)
    have ok : OkO l := few_ok hfw hu
    obtain ⟨s, hs⟩ : ∃ s, runB l = s := ⟨_, rfl⟩
    have hg : GoodB s 12 := hs ▸ (List.take_length (l := l) ▸ good_run ok l.length (Nat.le_refl _)).up ok.len
    have hgl := hg.lk_; have hgs := hg.sq_; have hgg := hg.lg
    refine hx_skip ?_
    refine th_norm ?_
    refine hx_seq ?_
    refine hx_region ?_
    refine WL.qq (by simp only [EN, Nat.reduceEqDiff, reduceIte, qv_move, e0, decide_true, Bool.not_true, Bool.not_false, decide_false, eq_self, if_true, if_false, Bool.or_true, Bool.and_true]; rfl) ?_
    refine WL.ce Try.call13 (by simp only [EN, Nat.reduceEqDiff, reduceIte, AR, decide_true, Bool.not_true, Bool.not_false, decide_false, eq_self, if_true, if_false, Bool.or_true, Bool.and_true]; exact hs ▸ c_made al l cl ok hl) ?_
    rintro _ h3 ⟨hx3, p, bm, fm, vo, w, vk, vf, rfl, hbk, hrk, hfr⟩
    replace hE := hE.ext hx3
    replace hl := hl.ext hx3
    replace hm := hm.ext hx3
    replace hn := hn.ext hx3
    simp only [put_some]
    refine WL.qq (by simp only [EN, Nat.reduceEqDiff, reduceIte, qv_move, decide_true, Bool.not_true, Bool.not_false, decide_false, eq_self, if_true, if_false, Bool.or_true, Bool.and_true]; rfl) ?_
    refine WL.qq (by simp only [EN, Nat.reduceEqDiff, reduceIte, qv_extract, AR, decide_true, Bool.not_true, Bool.not_false, decide_false, eq_self, if_true, if_false, Bool.or_true, Bool.and_true]; rfl) ?_
    refine WL.qq (by simp only [EN, Nat.reduceEqDiff, reduceIte, qv_extract, AR, decide_true, Bool.not_true, Bool.not_false, decide_false, eq_self, if_true, if_false, Bool.or_true, Bool.and_true]; rfl) ?_
    have hs2 := hE.size
    have hE0 := hE; replace hfr := hfr.le hx1.size
    refine WL.alloc2 zr29 ?_
    intro h4 B4 hx4 hlt4 hB4
    replace hE := hE.ext hx4
    replace hl := hl.ext hx4
    replace hm := hm.ext hx4
    replace hn := hn.ext hx4
    replace hbk := hbk.ext hx4
    replace hrk := hrk.ext hx4
    simp only [Value.cells] at hB4
    refine WL.qq (by simp only [EN, Nat.reduceEqDiff, reduceIte, qv_assign, decide_true, Bool.not_true, Bool.not_false, decide_false, eq_self, if_true, if_false, Bool.or_true, Bool.and_true, hB4.cell]; rfl) ?_
    obtain rfl := hrk.val
    refine WL.store (by simp only [EN, Nat.reduceEqDiff, reduceIte, e0, e1, e2, decide_true, Bool.not_true, Bool.not_false, decide_false, eq_self, if_true, if_false, Bool.or_true, Bool.and_true, hB4.cell] <;> rfl) sz29 (by simp only [EN, Nat.reduceEqDiff, reduceIte, e0, e1, e2, decide_true, Bool.not_true, Bool.not_false, decide_false, eq_self, if_true, if_false, Bool.or_true, Bool.and_true, hB4.cell, Value.cells]; rfl) rfl hB4 (by simp) (by have h8 := hrk.ks.one; have h9 := hrk.fs.one; intro u hu; simp at hu; rcases hu with rfl | rfl | rfl <;> first | exact h8 | exact h9 | rfl) ?_
    intro h30 hw30
    replace hE := hw30.ext (hE0.trans hx4) (Nat.le_trans hs2 hlt4)
    have hlB4 := Nat.le_trans hs2 hlt4
    replace hbk := hbk.st (.inr ⟨_, hw30⟩) hB4 (by decide) (by decide)
    replace hrk : IsRef h30 _ _ _ _ _ _ := ⟨hrk.val, hrk.ks.keep (fun c hc => hw30.same c fun hh => by subst hh; exact hrk.ks.ncell hB4 (by decide) hc), hrk.fs.keep (fun c hc => hw30.same c fun hh => by subst hh; exact hrk.fs.ncell hB4 (by decide) hc)⟩
    replace hm := km.ext hE
    replace hn := kn.ext hE
    replace hB4 := hw30.at_
    simp only [splc, List.take_zero, List.nil_append, List.drop_succ_cons, List.drop_zero, List.length_cons, List.length_nil, List.drop_nil, List.append_nil, Nat.zero_add, Nat.reduceAdd] at hB4
    refine WL.nil ?_
    refine th_norm ?_
    refine hx_seq ?_
    refine hx_seq ?_
    refine hx_region ?_
    refine WL.qq (by simp only [EN, Nat.reduceEqDiff, reduceIte, qv_move, decide_true, Bool.not_true, Bool.not_false, decide_false, eq_self, if_true, if_false, Bool.or_true, Bool.and_true, hB4.cell]; rfl) ?_
    refine WL.qq (by simp only [EN, Nat.reduceEqDiff, reduceIte, qv_binOp, binv_eql, eqz25, eqn25, eqm25, Option.map_some, decide_true, Bool.not_true, Bool.not_false, decide_false, eq_self, if_true, if_false, Bool.or_true, Bool.and_true, hB4.cell]; rfl) ?_
    refine WL.nil ?_
    refine th_norm ?_
    refine hx_cond (by simp only [EN, Nat.reduceEqDiff, reduceIte, e0, e1, e2, decide_true, Bool.not_true, Bool.not_false, decide_false, eq_self, if_true, if_false, Bool.or_true, Bool.and_true, hB4.cell]; rfl) (fun hct36 => ?_) (fun hct36 => ?_)
    ·
      simp at hct36
    ·
      try simp only [BD] at hct36
      refine hx_skip ?_
      refine th_norm ?_
      refine hx_seq ?_
      refine hx_region ?_
      refine WL.qq (by simp only [EN, Nat.reduceEqDiff, reduceIte, qv_move, decide_true, Bool.not_true, Bool.not_false, decide_false, eq_self, if_true, if_false, Bool.or_true, Bool.and_true, hB4.cell]; rfl) ?_
      refine WL.ce Try.call29 (by simp only [EN, Nat.reduceEqDiff, reduceIte, AR, decide_true, Bool.not_true, Bool.not_false, decide_false, eq_self, if_true, if_false, Bool.or_true, Bool.and_true, hB4.cell]; exact c_begin hbk) ?_
      rintro _ h31 ⟨hx31, t1, rfl, hl1, hb1⟩
      simp only [put_some]
      have hf1 := Nat.le_trans hE.size hl1
      replace hE := hE.ext hx31
      replace hbk := hbk.ext hx31
      replace hrk := hrk.ext hx31
      replace hB4 := hB4.ext hx31
      replace hm := hm.ext hx31
      replace hn := hn.ext hx31
      refine WL.qq (by simp only [EN, Nat.reduceEqDiff, reduceIte, qv_move, decide_true, Bool.not_true, Bool.not_false, decide_false, eq_self, if_true, if_false, Bool.or_true, Bool.and_true, hB4.cell]; rfl) ?_
      refine WL.ce Try.call29 (by simp only [EN, Nat.reduceEqDiff, reduceIte, AR, decide_true, Bool.not_true, Bool.not_false, decide_false, eq_self, if_true, if_false, Bool.or_true, Bool.and_true, hB4.cell]; exact c_begin hbk) ?_
      rintro _ h32 ⟨hx32, t2, rfl, hl2, hb2⟩
      simp only [put_some]
      have hf2 := Nat.le_trans hE.size hl2
      have n12 : t2 ≠ t1 := (by have h9 := (Array.getElem?_eq_some_iff.1 hb1.blk).1; omega)
      replace hE := hE.ext hx32
      replace hbk := hbk.ext hx32
      replace hrk := hrk.ext hx32
      replace hB4 := hB4.ext hx32
      replace hm := hm.ext hx32
      replace hn := hn.ext hx32
      replace hb1 := hb1.ext hx32
      refine WL.qq (by simp only [EN, Nat.reduceEqDiff, reduceIte, qv_assign, decide_true, Bool.not_true, Bool.not_false, decide_false, eq_self, if_true, if_false, Bool.or_true, Bool.and_true, hB4.cell]; rfl) ?_
      refine WL.qq (by simp only [EN, Nat.reduceEqDiff, reduceIte, qv_assign, decide_true, Bool.not_true, Bool.not_false, decide_false, eq_self, if_true, if_false, Bool.or_true, Bool.and_true, hB4.cell]; rfl) ?_
      refine WL.nil ?_
      refine th_norm ?_
      refine hx_seq ?_
      refine hx_seq ?_
      refine hx_region ?_
      refine WL.qq (by simp only [EN, Nat.reduceEqDiff, reduceIte, qv_move, decide_true, Bool.not_true, Bool.not_false, decide_false, eq_self, if_true, if_false, Bool.or_true, Bool.and_true, hB4.cell]; rfl) ?_
      refine WL.qq (by simp only [EN, Nat.reduceEqDiff, reduceIte, qv_move, e1, decide_true, Bool.not_true, Bool.not_false, decide_false, eq_self, if_true, if_false, Bool.or_true, Bool.and_true, hB4.cell]; rfl) ?_
      refine WL.ce Try.call19 (by simp only [EN, Nat.reduceEqDiff, reduceIte, AR, decide_true, Bool.not_true, Bool.not_false, decide_false, eq_self, if_true, if_false, Bool.or_true, Bool.and_true, hB4.cell]; exact c_entries am m cm (by omega) hm) ?_
      rintro _ h5 ⟨hx5, hoe⟩
      replace hE := hE.ext hx5
      replace hbk := hbk.ext hx5
      replace hrk := hrk.ext hx5
      replace hB4 := hB4.ext hx5
      replace hm := hm.ext hx5
      replace hn := hn.ext hx5
      replace hb1 := hb1.ext hx5
      replace hb2 := hb2.ext hx5
      simp only [put_some]
      have hl1b := hl1; have hEs : h30.size ≤ h5.size := (by have h1 := hx31.size; have h2 := hx32.size; have h3 := hx5.size; omega)
      obtain ⟨ae, ce, rfl, _, hse, _⟩ := Own.slG (f := entL) (sz := 3) (fun _ => rfl) hoe rfl
      obtain ⟨r2, hr2⟩ : ∃ r2, addE true [] n = r2 := ⟨_, rfl⟩
      refine WL.ce Try.call30 (by simp only [EN, Nat.reduceEqDiff, reduceIte, AR, decide_true, Bool.not_true, Bool.not_false, decide_false, eq_self, if_true, if_false, Bool.or_true, Bool.and_true, hB4.cell]; exact c_add ae m ce (by omega) (by simp) hEs hb1 hse hr1) ?_
      rintro _ h33 ⟨rfl, _, hyes⟩
      simp only [put_some]
      obtain ⟨hg33, ve1, hb1', _⟩ := hyes rfl
      have hS : t1 :: (Value.slice none 0 0).ownBlock.toList = [t1] := rfl
      rw [hS] at hg33
      have bt1 := hb1.blk
      replace hE := hg33.toExt hE (by simp; omega)
      replace hbk := hbk.gsA hg33 (fun x hx => by simp; exact hbk.offA bt1 (by decide) (by decide) x hx)
      replace hrk := hrk.gsT hg33 (fun x hx cur => by simp at hx; subst hx; exact ⟨bt1.noty (by decide), bt1.noty (by decide)⟩)
      replace hB4 := hB4.gs hg33 (by simp; exact hB4.ncell bt1 (by decide))
      replace hb2 := hb2.gsS hg33 (by simpa using n12) (fun x hx cur => by simp at hx; subst hx; exact bt1.noty (by decide))
      replace hb1 := hb1'
      replace hn := kn.ext hE
      refine WL.qq (by simp only [EN, Nat.reduceEqDiff, reduceIte, qv_binOp, binv_neq, eq45, Option.map_some, decide_true, Bool.not_true, Bool.not_false, decide_false, eq_self, if_true, if_false, Bool.or_true, Bool.and_true, hB4.cell]; rfl) ?_
      refine WL.qq (by simp only [EN, Nat.reduceEqDiff, reduceIte, qv_move, decide_true, Bool.not_true, Bool.not_false, decide_false, eq_self, if_true, if_false, Bool.or_true, Bool.and_true, hB4.cell]; rfl) ?_
      refine WL.cq (gd_at (t := 46) rfl (by simp only [EN, Nat.reduceEqDiff, reduceIte, decide_true, Bool.not_true, Bool.not_false, decide_false, eq_self, if_true, if_false, Bool.or_true, Bool.and_true, hB4.cell] <;> rfl)) (fun hg7_6 => by simp only [EN, Nat.reduceEqDiff, reduceIte, qv_move, decide_true, Bool.not_true, Bool.not_false, decide_false, eq_self, if_true, if_false, Bool.or_true, Bool.and_true, hB4.cell, hg7_6, GR]; rfl) ?_
      refine WL.cq (gd_at (t := 46) rfl (by simp only [EN, Nat.reduceEqDiff, reduceIte, e2, decide_true, Bool.not_true, Bool.not_false, decide_false, eq_self, if_true, if_false, Bool.or_true, Bool.and_true, hB4.cell] <;> rfl)) (fun hg7_7 => by simp only [EN, Nat.reduceEqDiff, reduceIte, qv_move, e2, decide_true, Bool.not_true, Bool.not_false, decide_false, eq_self, if_true, if_false, Bool.or_true, Bool.and_true, hB4.cell, hg7_7, GR]; rfl) ?_
      refine WL.gy _ (gd_at (t := 46) rfl (by simp only [EN, Nat.reduceEqDiff, reduceIte, decide_true, Bool.not_true, Bool.not_false, decide_false, eq_self, if_true, if_false, Bool.or_true, Bool.and_true, hB4.cell] <;> rfl)) (e_call Try.call19 (by simp only [EN, Nat.reduceEqDiff, reduceIte, AR, decide_true, Bool.not_true, Bool.not_false, decide_false, eq_self, if_true, if_false, Bool.or_true, Bool.and_true, hB4.cell]; exact c_entries an n cn (by omega) hn)) ?_
      rintro vn h34 ⟨hx34, hon⟩
      simp only [put_some]
      obtain ⟨aen, cen, rfl, _, hsn, _⟩ := Own.slG (f := entL) (sz := 3) (fun _ => rfl) hon rfl
      replace hE := hE.ext hx34
      replace hbk := hbk.ext hx34
      replace hrk := hrk.ext hx34
      replace hB4 := hB4.ext hx34
      replace hb1 := hb1.ext hx34
      replace hb2 := hb2.ext hx34
      refine WL.gy _ (gd_at (t := 46) rfl (by simp only [EN, Nat.reduceEqDiff, reduceIte, decide_true, Bool.not_true, Bool.not_false, decide_false, eq_self, if_true, if_false, Bool.or_true, Bool.and_true, hB4.cell] <;> rfl)) (e_call Try.call30 (by simp only [EN, Nat.reduceEqDiff, reduceIte, AR, decide_true, Bool.not_true, Bool.not_false, decide_false, eq_self, if_true, if_false, Bool.or_true, Bool.and_true, hB4.cell]; exact c_add aen n cen (by omega) (by simp) (by have h9 := (Array.getElem?_eq_some_iff.1 hb2.blk).1; omega) hb2 hsn hr2)) ?_
      rintro _ h35 ⟨rfl, hno2, hyes2⟩
      simp only [put_some]
      have hE35 : r2 ≠ 0 → Ext h h35 := fun q => hE.trans (hno2 q)
      refine WL.cq (gd_at (t := 46) rfl (by simp only [EN, Nat.reduceEqDiff, reduceIte, decide_true, Bool.not_true, Bool.not_false, decide_false, eq_self, if_true, if_false, Bool.or_true, Bool.and_true, hB4.cell] <;> rfl)) (fun hg7_10 => by simp only [EN, Nat.reduceEqDiff, reduceIte, qv_binOp, binv_neq, eq45, Option.map_some, decide_true, Bool.not_true, Bool.not_false, decide_false, eq_self, if_true, if_false, Bool.or_true, Bool.and_true, hB4.cell, hg7_10, GR]; rfl) ?_
      refine WL.qq (by simp only [EN, Nat.reduceEqDiff, reduceIte, qv_pick, pk_and, pk_or, GR, decide_true, Bool.not_true, Bool.not_false, decide_false, eq_self, if_true, if_false, Bool.or_true, Bool.and_true, hB4.cell]; rfl) ?_
      refine WL.nil ?_
      refine th_norm ?_
      refine hx_cond (by simp only [EN, Nat.reduceEqDiff, reduceIte, e0, e1, e2, decide_true, Bool.not_true, Bool.not_false, decide_false, eq_self, if_true, if_false, Bool.or_true, Bool.and_true, hB4.cell]; rfl) (fun hct52 => ?_) (fun hct52 => ?_)
      ·
        try simp only [BD] at hct52
        have hE2 := hE35 (by simpa using hct52)
        refine hx_seq ?_
        refine hx_region ?_
        refine WL.cg Try.call12 (by simp only [EN, Nat.reduceEqDiff, reduceIte, AR, decide_true, Bool.not_true, Bool.not_false, decide_false, eq_self, if_true, if_false, Bool.or_true, Bool.and_true, hB4.cell]; exact c_known13 _) ?_
        intro h6 hx6
        refine WL.qq (by simp only [EN, Nat.reduceEqDiff, reduceIte, qv_assign, decide_true, Bool.not_true, Bool.not_false, decide_false, eq_self, if_true, if_false, Bool.or_true, Bool.and_true, hB4.cell]; rfl) ?_
        refine WL.nil ?_
        refine th_norm ?_
        refine hx_ret ?_
        refine th_ret ?_
        refine fin_ret [.tmp 6] rfl rfl (by simp only [EN, Nat.reduceEqDiff, reduceIte, resv, e0, e1, e2, decide_true, Bool.not_true, Bool.not_false, decide_false, eq_self, if_true, if_false, Bool.or_true, Bool.and_true, hB4.cell]; rfl) ?_  -- ret 1 r8
        exact ⟨rfl, hE2.trans hx6⟩
      ·
        try simp only [BD] at hct52
        have h20 : r2 = 0 := (by simpa using hct52)
        subst h20
        obtain ⟨hg35, ve2, hb2', _⟩ := hyes2 rfl
        have hS2 : t2 :: (Value.slice none 0 0).ownBlock.toList = [t2] := rfl
        rw [hS2] at hg35
        have bt2 := hb2.blk
        replace hE := hg35.toExt hE (by simp; omega)
        replace hbk := hbk.gsA hg35 (fun x hx => by simp; exact hbk.offA bt2 (by decide) (by decide) x hx)
        replace hrk := hrk.gsT hg35 (fun x hx cur => by simp at hx; subst hx; exact ⟨bt2.noty (by decide), bt2.noty (by decide)⟩)
        replace hB4 := hB4.gs hg35 (by simp; exact hB4.ncell bt2 (by decide))
        replace hb1 := hb1.gsS hg35 (by simpa using n12.symm) (fun x hx cur => by simp at hx; subst hx; exact bt2.noty (by decide))
        replace hb2 := hb2'
        simp only [List.nil_append] at hb1 hb2
        have hm0 : m ≠ [] := fun hh => (by rw [hh] at hr1; simp [addE] at hr1)
        have hn0 : n ≠ [] := fun hh => (by rw [hh] at hr2; simp [addE] at hr2)
        obtain ⟨r, hck⟩ : ∃ r, chkE (lk s.ks) (lk s.fs) n = r := ⟨_, rfl⟩
        have hcm : comE true (lk s.ks) (lk s.fs) n = r := (by unfold comE; rw [if_neg (by simp), if_neg (fun hh => hn0 (List.length_eq_zero_iff.1 hh))]; exact hck)
        have hg1 := good_if hg hun hml.2 hck
        refine hx_skip ?_
        refine th_norm ?_
        refine hx_seq ?_
        refine hx_region ?_
        refine WL.qq (by simp only [EN, Nat.reduceEqDiff, reduceIte, qv_move, decide_true, Bool.not_true, Bool.not_false, decide_false, eq_self, if_true, if_false, Bool.or_true, Bool.and_true, hB4.cell]; rfl) ?_
        refine WL.ce Try.call31 (by simp only [EN, Nat.reduceEqDiff, reduceIte, AR, decide_true, Bool.not_true, Bool.not_false, decide_false, eq_self, if_true, if_false, Bool.or_true, Bool.and_true, hB4.cell]; exact c_commit (by omega) (by omega) (by omega) hg.val hun hbk hb2 hcm hE hfr (by omega)) ?_
        rintro _ h36 ⟨rfl, hE36, hg36, ⟨ve3, hb3⟩, vo3, hbk3, hfr3, hv3⟩
        simp only [put_some]
        have bt2' := hb2.blk
        have hS36 : ∀ (T : TypeId), T ≠ bdT → T ≠ 83 → T ≠ 34 → ∀ x ∈ t2 :: foot p bm vo, ∀ cur, ¬ Has h35 x (.cells cur T) := (fun T q1 q2 q3 x hx cur hc => by rcases List.mem_cons.1 hx with rfl | hx; exact bt2'.noty (Ne.symm q1) hc; exact foot_noty hbk q2 q3 x hx cur hc)
        replace hrk := hrk.gsT hg36 (fun x hx cur => ⟨hS36 _ (by decide) (by decide) (by decide) x hx cur, hS36 _ (by decide) (by decide) (by decide) x hx cur⟩)
        replace hB4 := hB4.gs hg36 (fun hh => hS36 _ (by decide) (by decide) (by decide) _ hh _ hB4)
        replace hb1 := hb1.gsS hg36 (fun hh => by rcases List.mem_cons.1 hh with hh | hh; exact n12 hh.symm; exact hbk.offC hb1.blk (by decide) (by decide) hh) (fun x hx cur => hS36 _ (by decide) (by decide) (by decide) x hx cur)
        replace hE := hE36
        replace hn := kn.ext hE
        have hsq3 : (if r = 0 ∧ n ≠ [] then s.sq + 1 else s.sq) = (if r = 0 then s.sq + 1 else s.sq) := (by simp [hn0])
        rw [hsq3] at hbk3
        replace hbk := hbk3
        replace hfr := hfr3
        refine WL.qq (by simp only [EN, Nat.reduceEqDiff, reduceIte, qv_assign, decide_true, Bool.not_true, Bool.not_false, decide_false, eq_self, if_true, if_false, Bool.or_true, Bool.and_true, hB4.cell]; rfl) ?_
        refine WL.nil ?_
        refine th_norm ?_
        refine hx_seq ?_
        refine hx_region ?_
        refine WL.qq (by simp only [EN, Nat.reduceEqDiff, reduceIte, e0, e1, e2, decide_true, Bool.not_true, Bool.not_false, decide_false, eq_self, if_true, if_false, Bool.or_true, Bool.and_true, hB4.cell, qv_load, ld29, readN, hB4.cell, AR, Nat.zero_add, Nat.reduceAdd]; rfl) ?_
        refine WL.qq (by simp only [EN, Nat.reduceEqDiff, reduceIte, qv_move, e2, decide_true, Bool.not_true, Bool.not_false, decide_false, eq_self, if_true, if_false, Bool.or_true, Bool.and_true, hB4.cell]; rfl) ?_
        refine WL.ce Try.call28 (by simp only [EN, Nat.reduceEqDiff, reduceIte, AR, decide_true, Bool.not_true, Bool.not_false, decide_false, eq_self, if_true, if_false, Bool.or_true, Bool.and_true, hB4.cell]; exact c_rpost an n cn (by omega) (by omega) (by omega) (by omega) hg.val hg.nd hrk hn ((chkE_congr (fun _ => rfl) (fun q => (hg.same q).symm) _).trans hck)) ?_
        rintro _ h37 ⟨hx37, w2, vk2, vf2, rfl, hrk2⟩
        simp only [put_some]
        obtain rfl := hrk2.val
        replace hE := hE.ext hx37
        replace hbk := hbk.ext hx37
        replace hB4 := hB4.ext hx37
        replace hb1 := hb1.ext hx37
        refine WL.qq (by simp only [EN, Nat.reduceEqDiff, reduceIte, qv_move, decide_true, Bool.not_true, Bool.not_false, decide_false, eq_self, if_true, if_false, Bool.or_true, Bool.and_true, hB4.cell]; rfl) ?_
        refine WL.qq (by simp only [EN, Nat.reduceEqDiff, reduceIte, qv_extract, AR, decide_true, Bool.not_true, Bool.not_false, decide_false, eq_self, if_true, if_false, Bool.or_true, Bool.and_true, hB4.cell]; rfl) ?_
        refine WL.qq (by simp only [EN, Nat.reduceEqDiff, reduceIte, qv_extract, AR, decide_true, Bool.not_true, Bool.not_false, decide_false, eq_self, if_true, if_false, Bool.or_true, Bool.and_true, hB4.cell]; rfl) ?_
        refine WL.store (by simp only [EN, Nat.reduceEqDiff, reduceIte, e0, e1, e2, decide_true, Bool.not_true, Bool.not_false, decide_false, eq_self, if_true, if_false, Bool.or_true, Bool.and_true, hB4.cell] <;> rfl) sz29 (by simp only [EN, Nat.reduceEqDiff, reduceIte, e0, e1, e2, decide_true, Bool.not_true, Bool.not_false, decide_false, eq_self, if_true, if_false, Bool.or_true, Bool.and_true, hB4.cell, Value.cells]; rfl) rfl hB4 (by simp) (by have h8 := hrk2.ks.one; have h9 := hrk2.fs.one; intro u hu; simp at hu; rcases hu with rfl | rfl | rfl <;> first | exact h8 | exact h9 | rfl) ?_
        intro h38 hw38
        replace hE := hw38.ext hE hlB4
        replace hbk := hbk.st (.inr ⟨_, hw38⟩) hB4 (by decide) (by decide)
        replace hrk : IsRef h38 _ _ _ _ _ _ := ⟨hrk2.val, hrk2.ks.keep (fun c hc => hw38.same c fun hh => by subst hh; exact hrk2.ks.ncell hB4 (by decide) hc), hrk2.fs.keep (fun c hc => hw38.same c fun hh => by subst hh; exact hrk2.fs.ncell hB4 (by decide) hc)⟩
        have bB4 := hB4
        replace hb1 := hb1.gsS (Gs.ofWr hw38 (S := [B4]) (by simp)) (by simp; exact hb1.blk.ncell bB4 (by decide)) (fun x hx cur => by simp at hx; subst hx; exact bB4.noty (by decide))
        replace hB4 := hw38.at_
        simp only [splc, List.take_zero, List.nil_append, List.drop_succ_cons, List.drop_zero, List.length_cons, List.length_nil, List.drop_nil, List.append_nil, Nat.zero_add, Nat.reduceAdd] at hB4
        obtain ⟨s1, hs1⟩ : ∃ s1 : BS, (⟨if r = 0 then putL s.ks n else s.ks, s.gs, s.fs, if r = 0 then s.sq + 1 else s.sq⟩ : BS) = s1 := ⟨_, rfl⟩
        have ek : (if r = 0 then putL s.ks n else s.ks) = s1.ks := (by rw [← hs1])
        have eg : s.gs = s1.gs := (by rw [← hs1])
        have ef : s.fs = s1.fs := (by rw [← hs1])
        have es : (if r = 0 then s.sq + 1 else s.sq) = s1.sq := (by rw [← hs1])
        rw [hs1] at hg1
        rw [ek, es] at hrk hbk
        rw [es] at hB4
        rw [ef] at hbk
        rw [eg] at hrk
        have hgl1 := hg1.lk_; have hgs1 := hg1.sq_; have hgg1 := hg1.lg
        obtain ⟨q, hcq⟩ : ∃ q, chkE (lk s1.ks) (lk s1.fs) m = q := ⟨_, rfl⟩
        have hcq' : comE true (lk s1.ks) (lk s1.fs) m = q := (by unfold comE; rw [if_neg (by simp), if_neg (fun hh => hm0 (List.length_eq_zero_iff.1 hh))]; exact hcq)
        have hg2 := good_if hg1 hum hml.1 hcq
        refine WL.qq (by simp only [EN, Nat.reduceEqDiff, reduceIte, qv_assign, decide_true, Bool.not_true, Bool.not_false, decide_false, eq_self, if_true, if_false, Bool.or_true, Bool.and_true, hB4.cell]; rfl) ?_
        refine WL.nil ?_
        refine th_norm ?_
        refine hx_seq ?_
        refine hx_region ?_
        refine WL.qq (by simp only [EN, Nat.reduceEqDiff, reduceIte, qv_move, decide_true, Bool.not_true, Bool.not_false, decide_false, eq_self, if_true, if_false, Bool.or_true, Bool.and_true, hB4.cell]; rfl) ?_
        refine WL.ce Try.call31 (by simp only [EN, Nat.reduceEqDiff, reduceIte, AR, decide_true, Bool.not_true, Bool.not_false, decide_false, eq_self, if_true, if_false, Bool.or_true, Bool.and_true, hB4.cell]; exact c_commit (by omega) (by omega) (by omega) hg1.val hum hbk hb1 hcq' hE hfr (by omega)) ?_
        rintro _ h39 ⟨rfl, hE39, hg39, _, vo4, hbk4, hfr4, _⟩
        simp only [put_some]
        have bt1' := hb1.blk
        have hS39 : ∀ (T : TypeId), T ≠ bdT → T ≠ 83 → T ≠ 34 → ∀ x ∈ t1 :: foot p bm vo3, ∀ cur, ¬ Has h38 x (.cells cur T) := (fun T q1 q2 q3 x hx cur hc => by rcases List.mem_cons.1 hx with rfl | hx; exact bt1'.noty (Ne.symm q1) hc; exact foot_noty hbk q2 q3 x hx cur hc)
        replace hrk := hrk.gsT hg39 (fun x hx cur => ⟨hS39 _ (by decide) (by decide) (by decide) x hx cur, hS39 _ (by decide) (by decide) (by decide) x hx cur⟩)
        replace hB4 := hB4.gs hg39 (fun hh => hS39 _ (by decide) (by decide) (by decide) _ hh _ hB4)
        replace hE := hE39
        replace hm := km.ext hE
        have hsq4 : (if q = 0 ∧ m ≠ [] then s1.sq + 1 else s1.sq) = (if q = 0 then s1.sq + 1 else s1.sq) := (by simp [hm0])
        rw [hsq4] at hbk4
        replace hbk := hbk4
        refine WL.qq (by simp only [EN, Nat.reduceEqDiff, reduceIte, qv_assign, decide_true, Bool.not_true, Bool.not_false, decide_false, eq_self, if_true, if_false, Bool.or_true, Bool.and_true, hB4.cell]; rfl) ?_
        refine WL.nil ?_
        refine th_norm ?_
        refine hx_seq ?_
        refine hx_region ?_
        refine WL.qq (by simp only [EN, Nat.reduceEqDiff, reduceIte, e0, e1, e2, decide_true, Bool.not_true, Bool.not_false, decide_false, eq_self, if_true, if_false, Bool.or_true, Bool.and_true, hB4.cell, qv_load, ld29, readN, hB4.cell, AR, Nat.zero_add, Nat.reduceAdd]; rfl) ?_
        refine WL.qq (by simp only [EN, Nat.reduceEqDiff, reduceIte, qv_move, e1, decide_true, Bool.not_true, Bool.not_false, decide_false, eq_self, if_true, if_false, Bool.or_true, Bool.and_true, hB4.cell]; rfl) ?_
        refine WL.ce Try.call28 (by simp only [EN, Nat.reduceEqDiff, reduceIte, AR, decide_true, Bool.not_true, Bool.not_false, decide_false, eq_self, if_true, if_false, Bool.or_true, Bool.and_true, hB4.cell]; exact c_rpost am m cm (by omega) (by omega) (by omega) (by omega) hg1.val hg1.nd hrk hm ((chkE_congr (fun _ => rfl) (fun q => (hg1.same q).symm) _).trans hcq)) ?_
        rintro _ h40 ⟨hx40, w3, vk3, vf3, rfl, hrk3⟩
        simp only [put_some]
        obtain rfl := hrk3.val
        replace hE := hE.ext hx40
        replace hbk := hbk.ext hx40
        refine WL.qq (by simp only [EN, Nat.reduceEqDiff, reduceIte, qv_move, decide_true, Bool.not_true, Bool.not_false, decide_false, eq_self, if_true, if_false, Bool.or_true, Bool.and_true, hB4.cell]; rfl) ?_
        refine WL.qq (by simp only [EN, Nat.reduceEqDiff, reduceIte, qv_extract, AR, decide_true, Bool.not_true, Bool.not_false, decide_false, eq_self, if_true, if_false, Bool.or_true, Bool.and_true, hB4.cell]; rfl) ?_
        refine WL.qq (by simp only [EN, Nat.reduceEqDiff, reduceIte, qv_extract, AR, decide_true, Bool.not_true, Bool.not_false, decide_false, eq_self, if_true, if_false, Bool.or_true, Bool.and_true, hB4.cell]; rfl) ?_
        refine WL.allocSt zr29 sz29 (fun u => by simp only [EN, Nat.reduceEqDiff, reduceIte, e0, e1, e2, decide_true, Bool.not_true, Bool.not_false, decide_false, eq_self, if_true, if_false, Bool.or_true, Bool.and_true, hB4.cell, Value.cells] <;> rfl) ⟨rfl, rfl⟩ (by have h8 := hrk3.ks.one; have h9 := hrk3.fs.one; intro u hu; simp at hu; rcases hu with rfl | rfl | rfl <;> first | exact h8 | exact h9 | rfl) ?_
        intro h53 B53 hx53 hlt53 hB53
        replace hE := hE.ext hx53
        replace hbk := hbk.ext hx53
        replace hrk3 := hrk3.ext hx53
        skip
        refine WL.qq (by simp only [EN, Nat.reduceEqDiff, reduceIte, qv_assign, decide_true, Bool.not_true, Bool.not_false, decide_false, eq_self, if_true, if_false, Bool.or_true, Bool.and_true, hB4.cell]; rfl) ?_
        refine WL.nil ?_
        refine th_norm ?_
        refine hx_seq ?_
        refine hx_region ?_
        refine WL.cg Try.call12 (by simp only [EN, Nat.reduceEqDiff, reduceIte, AR, decide_true, Bool.not_true, Bool.not_false, decide_false, eq_self, if_true, if_false, Bool.or_true, Bool.and_true, hB4.cell]; exact c_known13 _) ?_
        intro h7 hx7
        replace hE := hE.ext hx7
        replace hbk := hbk.ext hx7
        replace hrk3 := hrk3.ext hx7
        replace hB53 := hB53.ext hx7
        refine WL.qq (by simp only [EN, Nat.reduceEqDiff, reduceIte, qv_move, decide_true, Bool.not_true, Bool.not_false, decide_false, eq_self, if_true, if_false, Bool.or_true, Bool.and_true, hB4.cell]; rfl) ?_
        refine WL.cq (gd_at (t := 71) rfl (by simp only [EN, Nat.reduceEqDiff, reduceIte, decide_true, Bool.not_true, Bool.not_false, decide_false, eq_self, if_true, if_false, Bool.or_true, Bool.and_true, hB4.cell] <;> rfl)) (fun hg13_2 => by simp only [EN, Nat.reduceEqDiff, reduceIte, qv_move, decide_true, Bool.not_true, Bool.not_false, decide_false, eq_self, if_true, if_false, Bool.or_true, Bool.and_true, hB4.cell, hg13_2, GR]; rfl) ?_
        refine WL.cq (gd_at (t := 71) rfl (by simp only [EN, Nat.reduceEqDiff, reduceIte, decide_true, Bool.not_true, Bool.not_false, decide_false, eq_self, if_true, if_false, Bool.or_true, Bool.and_true, hB4.cell] <;> rfl)) (fun hg13_3 => by simp only [EN, Nat.reduceEqDiff, reduceIte, qv_move, decide_true, Bool.not_true, Bool.not_false, decide_false, eq_self, if_true, if_false, Bool.or_true, Bool.and_true, hB4.cell, hg13_3, GR]; rfl) ?_
        refine WL.cq (gd_at (t := 71) rfl (by simp only [EN, Nat.reduceEqDiff, reduceIte, decide_true, Bool.not_true, Bool.not_false, decide_false, eq_self, if_true, if_false, Bool.or_true, Bool.and_true, hB4.cell] <;> rfl)) (fun hg13_4 => by simp only [EN, Nat.reduceEqDiff, reduceIte, qv_binOp, binv_eql, eq3, Option.map_some, decide_true, Bool.not_true, Bool.not_false, decide_false, eq_self, if_true, if_false, Bool.or_true, Bool.and_true, hB4.cell, hg13_4, GR]; rfl) ?_
        refine WL.qq (by simp only [EN, Nat.reduceEqDiff, reduceIte, qv_pick, pk_and, pk_or, GR, decide_true, Bool.not_true, Bool.not_false, decide_false, eq_self, if_true, if_false, Bool.or_true, Bool.and_true, hB4.cell]; rfl) ?_
        refine WL.qq (by simp only [EN, Nat.reduceEqDiff, reduceIte, qv_move, decide_true, Bool.not_true, Bool.not_false, decide_false, eq_self, if_true, if_false, Bool.or_true, Bool.and_true, hB4.cell]; rfl) ?_
        refine WL.cq (gd_at (t := 76) rfl (by simp only [EN, Nat.reduceEqDiff, reduceIte, decide_true, Bool.not_true, Bool.not_false, decide_false, eq_self, if_true, if_false, Bool.or_true, Bool.and_true, hB4.cell] <;> rfl)) (fun hg13_7 => by simp only [EN, Nat.reduceEqDiff, reduceIte, qv_move, decide_true, Bool.not_true, Bool.not_false, decide_false, eq_self, if_true, if_false, Bool.or_true, Bool.and_true, hB4.cell, hg13_7, GR]; rfl) ?_
        refine WL.cq (gd_at (t := 76) rfl (by simp only [EN, Nat.reduceEqDiff, reduceIte, decide_true, Bool.not_true, Bool.not_false, decide_false, eq_self, if_true, if_false, Bool.or_true, Bool.and_true, hB4.cell] <;> rfl)) (fun hg13_8 => by simp only [EN, Nat.reduceEqDiff, reduceIte, qv_move, decide_true, Bool.not_true, Bool.not_false, decide_false, eq_self, if_true, if_false, Bool.or_true, Bool.and_true, hB4.cell, hg13_8, GR]; rfl) ?_
        refine WL.cq (gd_at (t := 76) rfl (by simp only [EN, Nat.reduceEqDiff, reduceIte, decide_true, Bool.not_true, Bool.not_false, decide_false, eq_self, if_true, if_false, Bool.or_true, Bool.and_true, hB4.cell] <;> rfl)) (fun hg13_9 => by simp only [EN, Nat.reduceEqDiff, reduceIte, qv_binOp, binv_eql, eq3, Option.map_some, decide_true, Bool.not_true, Bool.not_false, decide_false, eq_self, if_true, if_false, Bool.or_true, Bool.and_true, hB4.cell, hg13_9, GR]; rfl) ?_
        refine WL.qq (by simp only [EN, Nat.reduceEqDiff, reduceIte, qv_pick, pk_and, pk_or, GR, decide_true, Bool.not_true, Bool.not_false, decide_false, eq_self, if_true, if_false, Bool.or_true, Bool.and_true, hB4.cell]; rfl) ?_
        refine WL.qq (by simp only [EN, Nat.reduceEqDiff, reduceIte, qv_move, decide_true, Bool.not_true, Bool.not_false, decide_false, eq_self, if_true, if_false, Bool.or_true, Bool.and_true, hB4.cell]; rfl) ?_
        refine WL.cq (gd_at (t := 81) rfl (by simp only [EN, Nat.reduceEqDiff, reduceIte, decide_true, Bool.not_true, Bool.not_false, decide_false, eq_self, if_true, if_false, Bool.or_true, Bool.and_true, hB4.cell] <;> rfl)) (fun hg13_12 => by simp only [EN, Nat.reduceEqDiff, reduceIte, qv_move, decide_true, Bool.not_true, Bool.not_false, decide_false, eq_self, if_true, if_false, Bool.or_true, Bool.and_true, hB4.cell, hg13_12, GR]; rfl) ?_
        refine WL.cq (gd_at (t := 81) rfl (by simp only [EN, Nat.reduceEqDiff, reduceIte, decide_true, Bool.not_true, Bool.not_false, decide_false, eq_self, if_true, if_false, Bool.or_true, Bool.and_true, hB4.cell] <;> rfl)) (fun hg13_13 => by simp only [EN, Nat.reduceEqDiff, reduceIte, e0, e1, e2, decide_true, Bool.not_true, Bool.not_false, decide_false, eq_self, if_true, if_false, Bool.or_true, Bool.and_true, hB4.cell, GR, hg13_13, qv_load, ld29, readN, hB53.cell, AR, Nat.zero_add, Nat.reduceAdd]; rfl) ?_
        refine WL.ccg (gd_at (t := 81) rfl (by simp only [EN, Nat.reduceEqDiff, reduceIte, decide_true, Bool.not_true, Bool.not_false, decide_false, eq_self, if_true, if_false, Bool.or_true, Bool.and_true, hB4.cell] <;> rfl)) Try.call25 (fun hg13_14 => by simp only [EN, Nat.reduceEqDiff, reduceIte, AR, decide_true, Bool.not_true, Bool.not_false, decide_false, eq_self, if_true, if_false, Bool.or_true, Bool.and_true, hB4.cell, hg13_14, GR]; exact c_same (hg2.up (by omega)) hbk hrk3) ?_
        intro h8 hx8
        replace hE := hE.ext hx8
        replace hbk := hbk.ext hx8
        replace hrk3 := hrk3.ext hx8
        replace hB53 := hB53.ext hx8
        refine WL.qq (by simp only [EN, Nat.reduceEqDiff, reduceIte, qv_pick, pk_and, pk_or, GR, decide_true, Bool.not_true, Bool.not_false, decide_false, eq_self, if_true, if_false, Bool.or_true, Bool.and_true, hB4.cell]; rfl) ?_
        refine WL.qq (by simp only [EN, Nat.reduceEqDiff, reduceIte, qv_assign, decide_true, Bool.not_true, Bool.not_false, decide_false, eq_self, if_true, if_false, Bool.or_true, Bool.and_true, hB4.cell]; rfl) ?_
        refine WL.nil ?_
        refine th_norm ?_
        refine hx_ret ?_
        refine fin_ret [.tmp 6] rfl rfl (by simp only [EN, Nat.reduceEqDiff, reduceIte, resv, e0, e1, e2, decide_true, Bool.not_true, Bool.not_false, decide_false, eq_self, if_true, if_false, Bool.or_true, Bool.and_true, hB4.cell]; rfl) ?_  -- ret 2 r13
        exact ⟨by simp [retOf], hE⟩
theorem l_two (al : Option Addr) (l : List LOp) (cl : Nat) (am : Option Addr) (m : List E2) (cm : Nat) (an : Option Addr) (n : List E2) (cn : Nat) {h : Heap} (hl : SlO h al l) (ll : l.length ≤ 9223372036854775807) (hu : ∀ o ∈ l, okE o.L)
    (hm : SlG 3 entL h am m) (hum : okE m) (hn : SlG 3 entL h an n) (hun : okE n) : HCalls Try.prog 8 #[.slice al l.length cl, .slice am m.length cm, .slice an n.length cn] h (Grow (.bool true) h) := by
  by_cases h0 : addE true [] m = 0
  · exact l_two2 al l cl am m cm an n cn hl ll hu hm hum hn hun h0
  · exact l_two1 al l cl am m cm an n cn hl ll hu hm hum hn hun rfl h0
end GL


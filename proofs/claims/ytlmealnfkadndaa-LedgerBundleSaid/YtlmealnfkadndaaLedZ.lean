/- Ledger: committing a bundle. -/
import Derived.Test.YtlmealnfkadndaaLedY
set_option linter.unusedSimpArgs false
set_option linter.unusedVariables false
set_option linter.unnecessarySimpa false
namespace GL
open Go Go.Proofs
set_option maxRecDepth 8000
theorem c_commit1 {h : Heap} {N t p B1 B2 : Nat} {ve : Value} {es : List E2} {o : Bool} {r : Int} (hB1 : Has h B1 (.cells #[bdP t] 58)) (hB2 : Has h B2 (.cells #[iV r] 45)) (hb : Bd h N t p ve es o) :
    HDef Try.prog 59 #[.pointer (some ⟨B2, 0, none⟩), .pointer (some ⟨B1, 0, none⟩)] h fun h' => Gs h h' [t] ∧ ∃ ve', Bd h' N t p ve' (if r = 0 then [] else es) (if r = 0 then false else o) := by
  refine hdef2 Try.func59 rfl (by decide +kernel) (by simp only [Try.ntmps59]; exact of_decide_eq_true rfl) ?_
  intro e hin
  have e0 := hin 0 _ rfl
  have e1 := hin 1 _ rfl
  refine hx_seq ?_
  refine hx_region ?_
  refine WL.qq (by simp only [EN, Nat.reduceEqDiff, reduceIte, qv_load, ld45, readN, AR, Nat.zero_add, Nat.reduceAdd, e0, hB1.cell, hB2.cell]; rfl) ?_
  refine WL.qq (by simp only [EN, Nat.reduceEqDiff, reduceIte, qv_binOp, binv_eql, eq45, Option.map_some, hB1.cell, hB2.cell]; rfl) ?_
  refine WL.nil ?_
  refine th_norm ?_
  refine hx_cond (by simp only [EN, Nat.reduceEqDiff, reduceIte, e0, e1, hB1.cell, hB2.cell]; rfl) (fun hct3 => ?_) (fun hct3 => ?_)
  ·
    try simp only [BD] at hct3
    refine hx_region ?_
    refine WL.qq (by simp only [EN, Nat.reduceEqDiff, reduceIte, qv_load, ld58, readN, AR, Nat.zero_add, Nat.reduceAdd, e1, hB1.cell, hB2.cell]; rfl) ?_
    refine WL.ce Try.call40 (by simp only [EN, Nat.reduceEqDiff, reduceIte, AR, hB1.cell, hB2.cell]; exact c_rollback hb) ?_
    rintro _ h9 ⟨hg9, hb9⟩
    simp only [put_some]
    refine WL.nil ?_
    have h0 : r = 0 := (by simpa using hct3)
    refine ⟨by simp, by simp, leaves_nil (rs := []) (l := []) rfl rfl rfl ?_⟩
    exact ⟨hg9, _, by rw [if_pos h0, if_pos h0]; exact hb9⟩
  ·
    try simp only [BD] at hct3
    refine hx_skip ?_
    have h0 : r ≠ 0 := (by simpa using hct3)
    refine ⟨by simp, by simp, leaves_nil (rs := []) (l := []) rfl rfl rfl ?_⟩
    exact ⟨Gs.refl _ _, _, by rw [if_neg h0, if_neg h0]; exact hb⟩
def comE (o : Bool) (bal flo : K2 → Int) (es : List E2) : Int := if o = false then 21 else if es.length = 0 then 0 else chkE bal flo es
set_option maxHeartbeats 1000000 in
theorem c_commit {h0 h : Heap} {N t p bm fm : Nat} {vo ve : Value} {ks fs es : List E2} {sq : Int} {o : Bool} (le : es.length ≤ 1000000) (lk' : ks.length ≤ 1000000) (hsq : 0 ≤ sq ∧ sq ≤ 1000000) (hbal : ∀ q, vld (lk ks q) = true) (hu : okE es)
    (hk : IsBk h p bm fm vo ks fs sq) (hb : Bd h N t p ve es o) {r : Int} (hr : comE o (lk ks) (lk fs) es = r) (hE : Ext h0 h) (hfr : Fresh h0.size p bm fm vo) (htf : h0.size ≤ t) :
    HCalls Try.prog 31 #[bdP t] h fun v h' => v = iV r ∧ Ext h0 h' ∧ Gs h h' (t :: foot p bm vo) ∧ (∃ ve', Bd h' N t p ve' (if r = 0 then [] else es) (if r = 0 then false else o)) ∧
      ∃ vo', IsBk h' p bm fm vo' (if r = 0 then putL ks es else ks) fs (if r = 0 ∧ es ≠ [] then sq + 1 else sq) ∧ Fresh h0.size p bm fm vo' ∧ ∀ c, vo'.ownBlock = some c → vo.ownBlock = some c ∨ h.size ≤ c := by
  obtain ⟨ae, ce, rfl, hce, hse, hn, hsp⟩ := hb.en.sl
  refine hcalls2 Try.func31 rfl (by decide +kernel) (by simp only [Try.ntmps31]; exact of_decide_eq_true rfl) ?_
  intro e hin
  have e0 := hin 0 _ rfl
  have kE := hE; have kb := hb; have kk := hk; have ks' := hse
  refine hx_seq ?_
  refine hx_region ?_
  refine WL.box2 (by simp only [EN, Nat.reduceEqDiff, reduceIte, Value.cells, e0, hb.blk.cell]; rfl) ?_
  intro h1 B1 hx1 hlt1 hB1
  replace hb := hb.ext hx1
  replace hk := hk.ext hx1
  replace hse := hse.ext hx1
  have hlb := hx1.size
  refine WL.alloc2 zr45 ?_
  intro h2 B2 hx2 hlt2 hB2
  replace hb := hb.ext hx2
  replace hk := hk.ext hx2
  replace hse := hse.ext hx2
  replace hB1 := hB1.ext hx2
  simp only [Value.cells] at hB2
  refine WL.nil ?_
  refine th_norm ?_
  refine hx_seq ?_
  refine hx_seq ?_
  refine hx_region ?_
  have hX2 : Ext h h2 := hx1.trans hx2
  have hlB2 : h.size ≤ B2 := Nat.le_trans hlb hlt2
  have hlB1 : h.size ≤ B1 := hlt1
  have n12 : B1 ≠ B2 := hB1.ncell hB2 (by decide)
  refine WL.qq (by simp only [EN, Nat.reduceEqDiff, reduceIte, qv_load, ld58, readN, AR, Nat.zero_add, Nat.reduceAdd, hb.blk.cell, hB1.cell, hB2.cell]; rfl) ?_
  refine WL.ck Try.call55 (by simp only [EN, Nat.reduceEqDiff, reduceIte, AR, hb.blk.cell, hB1.cell, hB2.cell]; exact c_ready hb.blk) ?_
  refine WL.qq (by simp only [EN, Nat.reduceEqDiff, reduceIte, qv_assign, hb.blk.cell, hB1.cell, hB2.cell]; rfl) ?_
  refine WL.nil ?_
  refine th_norm ?_
  refine hx_seq ?_
  refine hx_region ?_
  refine WL.qq (by simp only [EN, Nat.reduceEqDiff, reduceIte, qv_move, hb.blk.cell, hB1.cell, hB2.cell]; rfl) ?_
  refine WL.qq (by simp only [EN, Nat.reduceEqDiff, reduceIte, qv_binOp, binv_neq, eq45, Option.map_some, hb.blk.cell, hB1.cell, hB2.cell]; rfl) ?_
  refine WL.nil ?_
  refine th_norm ?_
  refine hx_cond (by simp only [EN, Nat.reduceEqDiff, reduceIte, e0, hb.blk.cell, hB1.cell, hB2.cell]; rfl) (fun hct7 => ?_) (fun hct7 => ?_)
  ·
    try simp only [BD] at hct7
    refine hx_seq ?_
    refine hx_region ?_
    refine WL.qq (by simp only [EN, Nat.reduceEqDiff, reduceIte, qv_move, hb.blk.cell, hB1.cell, hB2.cell]; rfl) ?_
    refine WL.store (by simp only [EN, Nat.reduceEqDiff, reduceIte, hb.blk.cell, hB1.cell, hB2.cell] <;> rfl) sz45 (by simp only [EN, Nat.reduceEqDiff, reduceIte, Value.cells, hb.blk.cell, hB1.cell, hB2.cell] <;> rfl) rfl hB2 (by first | (simp [true_and]; done) | (simp [true_and]; omega) | omega) (by simp [Value.oneCell']) ?_
    intro h3 hw3
    have hX9 := hw3.ext hX2 hlB2
    have hB9 := hw3.at_
    try simp only [splc, List.take_succ_cons, List.take_zero, List.take_nil, List.drop_succ_cons, List.drop_zero, List.drop_nil, List.cons_append, List.nil_append, List.length_cons, List.length_nil, Nat.zero_add, Nat.add_zero, Nat.reduceAdd, List.append_nil] at hB9
    refine WL.nil ?_
    refine th_norm ?_
    refine hx_ret ?_
    refine th_ret ?_
    have ho : o = false := (by cases o <;> simp at hct7 ⊢)
    subst ho
    have h21 : r = 21 := (by rw [← hr]; rfl)
    subst h21
    refine fin_ret [.cell 2 45] rfl rfl (by simp only [EN, Nat.reduceEqDiff, reduceIte, e0, hb.blk.cell, hB1.cell, hB2.cell, resv, ld45, hB9.cell, AR] <;> rfl) ?_
    exact ⟨rfl, kE.trans hX9, Gs.ofExt hX9, ⟨_, kb.ext hX9⟩, _, kk.ext hX9, hfr, fun c hc => .inl hc⟩
  ·
    try simp only [BD] at hct7
    have ho : o = true := (by cases o <;> simp at hct7 ⊢); subst ho
    refine hx_skip ?_
    refine th_norm ?_
    refine hx_seq ?_
    refine hx_mkDefer ?_
    simp only [EN, Nat.reduceEqDiff, reduceIte, e0, hb.blk.cell, hB1.cell, hB2.cell, AR, Array.append_empty, List.map_toArray, List.map_cons, List.map_nil]
    refine th_norm ?_
    refine hx_seq ?_
    refine hx_seq ?_
    refine hx_region ?_
    refine WL.qq (by simp only [EN, Nat.reduceEqDiff, reduceIte, qv_load, ld58, readN, AR, Nat.zero_add, Nat.reduceAdd, hb.blk.cell, hB1.cell, hB2.cell]; rfl) ?_
    refine WL.qq (by simp only [EN, Nat.reduceEqDiff, reduceIte, qv_nilCheck, hb.blk.cell, hB1.cell, hB2.cell]; rfl) ?_
    refine WL.qq (by simp only [EN, Nat.reduceEqDiff, reduceIte, qv_fieldAddr, fa98_1, Nat.zero_add, Nat.reduceAdd, hb.blk.cell, hB1.cell, hB2.cell]; rfl) ?_
    refine WL.qq (by simp only [EN, Nat.reduceEqDiff, reduceIte, qv_load, ld47, readN, AR, Nat.zero_add, Nat.reduceAdd, hb.blk.cell, hB1.cell, hB2.cell]; rfl) ?_
    refine WL.qq (by simp only [EN, Nat.reduceEqDiff, reduceIte, qv_len, ln47, AR, hb.blk.cell, hB1.cell, hB2.cell]; rfl) ?_
    refine WL.qq (by simp only [EN, Nat.reduceEqDiff, reduceIte, qv_binOp, binv_eql, eq3, Option.map_some, hb.blk.cell, hB1.cell, hB2.cell]; rfl) ?_
    refine WL.nil ?_
    refine th_norm ?_
    refine hx_cond (by simp only [EN, Nat.reduceEqDiff, reduceIte, e0, hb.blk.cell, hB1.cell, hB2.cell]; rfl) (fun hct15 => ?_) (fun hct15 => ?_)
    ·
      try simp only [BD] at hct15
      refine hx_seq ?_
      refine hx_region ?_
      refine WL.store (by simp only [EN, Nat.reduceEqDiff, reduceIte, hb.blk.cell, hB1.cell, hB2.cell] <;> rfl) sz45 (by simp only [EN, Nat.reduceEqDiff, reduceIte, Value.cells, hb.blk.cell, hB1.cell, hB2.cell] <;> rfl) rfl hB2 (by first | (simp [true_and]; done) | (simp [true_and]; omega) | omega) (by simp [Value.oneCell']) ?_
      intro h4 hw4
      have hX9 := hw4.ext hX2 hlB2
      have hB9 : Has _ B2 (.cells #[iV 0] 45) := (by have h9 := hw4.at_; simpa [splc] using h9)
      have hB8 := hB1.wr hw4 n12
      refine WL.nil ?_
      refine th_norm ?_
      refine hx_ret ?_
      refine th_ret ?_
      have h0e : es.length = 0 := (by omega)
      have hr0 : r = 0 := (by rw [← hr]; unfold comE; rw [if_neg (by simp), if_pos h0e])
      have hes : es = [] := List.length_eq_zero_iff.1 h0e
      refine fin_defer (.inr rfl) Try.call59 ?_
      refine (c_commit1 hB8 hB9 (kb.ext hX9)).mono ?_
      rintro h5 ⟨hg5, ve5, hb5⟩
      have htl := (Array.getElem?_eq_some_iff.1 kb.blk).1
      have hB7 := hB9.gs hg5 (fun hh => by simp at hh; omega)
      refine leaves_nil (rs := [.cell 2 45]) (l := [iV 0]) rfl rfl (by simp only [resv, EN, Nat.reduceEqDiff, reduceIte, e0, hb.blk.cell, hB1.cell, hB2.cell, ld45, hB7.cell, AR]) ?_
      have hk5 := (kk.ext hX9).gsA hg5 (fun x hx => by simp; exact (kk.ext hX9).offA (kb.ext hX9).blk (by decide) (by decide) x hx)
      exact ⟨by rw [hr0]; rfl, hg5.toExt (kE.trans hX9) (fun x hx => by simp at hx; subst hx; exact htf), (Gs.ofExt hX9).step hg5 (fun x hx => by simp at hx; subst hx; exact .inl (by simp)), ⟨ve5, by rw [hr0]; exact hb5⟩, vo, by rw [if_pos hr0, if_neg (fun hh => hh.2 hes), hes]; exact hk5, hfr, fun c hc => .inl hc⟩
    ·
      try simp only [BD] at hct15
      refine hx_skip ?_
      refine th_norm ?_
      refine hx_seq ?_
      apply hx_draw2 Rel.same [8, 9] [] [] rfl (by decide +kernel) rfl
      refine LD.qq rfl rfl (by simp only [EN, Nat.reduceEqDiff, reduceIte, qv_load, ld58, readN, AR, Nat.zero_add, Nat.reduceAdd, hb.blk.cell, hB1.cell, hB2.cell]; rfl) ?_
      refine LD.qq rfl rfl (by simp only [EN, Nat.reduceEqDiff, reduceIte, qv_nilCheck, hb.blk.cell, hB1.cell, hB2.cell]; rfl) ?_
      refine LD.qq rfl rfl (by simp only [EN, Nat.reduceEqDiff, reduceIte, qv_fieldAddr, fa98_0, Nat.zero_add, Nat.reduceAdd, hb.blk.cell, hB1.cell, hB2.cell]; rfl) ?_
      refine LD.qq rfl rfl (by simp only [EN, Nat.reduceEqDiff, reduceIte, qv_load, ld25, readN, AR, Nat.zero_add, Nat.reduceAdd, hb.blk.cell, hB1.cell, hB2.cell]; rfl) ?_
      refine LD.qq rfl rfl (by simp only [EN, Nat.reduceEqDiff, reduceIte, qv_load, ld58, readN, AR, Nat.zero_add, Nat.reduceAdd, hb.blk.cell, hB1.cell, hB2.cell]; rfl) ?_
      refine LD.qq rfl rfl (by simp only [EN, Nat.reduceEqDiff, reduceIte, qv_nilCheck, hb.blk.cell, hB1.cell, hB2.cell]; rfl) ?_
      refine LD.qq rfl rfl (by simp only [EN, Nat.reduceEqDiff, reduceIte, qv_fieldAddr, fa98_1, Nat.zero_add, Nat.reduceAdd, hb.blk.cell, hB1.cell, hB2.cell]; rfl) ?_
      refine LD.qq rfl rfl (by simp only [EN, Nat.reduceEqDiff, reduceIte, qv_load, ld47, readN, AR, Nat.zero_add, Nat.reduceAdd, hb.blk.cell, hB1.cell, hB2.cell]; rfl) ?_
      refine LD.skip rfl ?_
      refine LD.skip rfl ?_
      refine LD.nil ?_
      rintro _ rfl -
      refine WL.ce Try.call18 (by simp only [EN, Nat.reduceEqDiff, reduceIte, AR, hb.blk.cell, hB1.cell, hB2.cell]; exact c_postFT ae es ce le lk' hsq hbal hu hk hse rfl (kE.trans hX2) hfr) ?_
      rintro _ h9 ⟨rfl, hE9, hg9, vo9, hk9, hfr9, hv9⟩
      simp only [put_some]
      have nB1 := hk.offC hB1 (by decide) (by decide)
      have nB2 := hk.offC hB2 (by decide) (by decide)
      have hb9 := hb.gsP hk hg9
      have hB19 := hB1.gs hg9 nB1
      have hB29 := hB2.gs hg9 nB2
      refine WL.store (by simp only [EN, Nat.reduceEqDiff, reduceIte, hb.blk.cell, hB1.cell, hB2.cell] <;> rfl) sz45 (by simp only [EN, Nat.reduceEqDiff, reduceIte, Value.cells, hb.blk.cell, hB1.cell, hB2.cell] <;> rfl) rfl hB29 (by first | (simp [true_and]; done) | (simp [true_and]; omega) | omega) (by simp [Value.oneCell']) ?_
      intro h5 hw5
      have hB9 : Has _ B2 (.cells #[iV (chkE (lk ks) (lk fs) es)] 45) := (by have h9 := hw5.at_; simpa [splc] using h9)
      have hB8 := hB19.wr hw5 n12
      have hE10 := hw5.ext hE9 (Nat.le_trans kE.size hlB2)
      have hk10 := hk9.st (.inr ⟨_, hw5⟩) hB29 (by decide) (by decide)
      have hb10 : Bd _ N t p _ es true := ⟨hb9.blk.wr hw5 (hb9.blk.ncell hB29 (by decide)), hb9.en.gsT (Gs.ofWr hw5 (S := [B2]) (by simp)) (fun x hx cur hc => by simp at hx; subst hx; exact hc.ncell hB29 (by decide) rfl)⟩
      have hg10 := ((Gs.ofExt hX2).step hg9 (T := foot p bm vo) (S := t :: foot p bm vo) (fun x hx => .inl (List.mem_cons_of_mem _ hx))).stp (.inr ⟨_, hw5⟩) (.inr hlB2)
      refine WL.nil ?_
      refine th_norm ?_
      refine hx_ret ?_
      have h0e : ¬ es.length = 0 := (by omega)
      have hr0 : chkE (lk ks) (lk fs) es = r := (by rw [← hr]; unfold comE; rw [if_neg (by simp), if_neg h0e])
      have hes : es ≠ [] := fun hh => h0e (by rw [hh]; rfl)
      rw [hr0] at hB9 hk10
      refine fin_defer (.inr rfl) Try.call59 ?_
      refine (c_commit1 hB8 hB9 hb10).mono ?_
      rintro h5 ⟨hg5, ve5, hb5⟩
      have htl := (Array.getElem?_eq_some_iff.1 kb.blk).1
      have hB7 := hB9.gs hg5 (fun hh => by simp at hh; omega)
      refine leaves_nil (rs := [.cell 2 45]) (l := [iV r]) rfl rfl (by simp only [resv, EN, Nat.reduceEqDiff, reduceIte, e0, hb.blk.cell, hB1.cell, hB2.cell, ld45, hB7.cell, AR]) ?_
      have hk5 := hk10.gsA hg5 (fun x hx => by simp; exact hk10.offA hb10.blk (by decide) (by decide) x hx)
      exact ⟨rfl, hg5.toExt hE10 (fun x hx => by simp at hx; subst hx; exact htf), hg10.step hg5 (fun x hx => by simp at hx; subst hx; exact .inl (by simp)), ⟨ve5, hb5⟩, vo9, by have e9 : (if r = 0 ∧ es ≠ [] then sq + 1 else sq) = (if r = 0 then sq + 1 else sq) := (by simp [hes]); rw [e9]; exact hk5, hfr9, fun c hc => (hv9 c hc).imp id (fun h9 => Nat.le_trans hX2.size h9)⟩
end GL


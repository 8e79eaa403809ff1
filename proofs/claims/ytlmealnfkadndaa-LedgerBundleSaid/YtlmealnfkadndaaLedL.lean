/- Ledger: the statement on atomicity. -/
import Derived.Test.YtlmealnfkadndaaLedK
import Derived.Test.YtlmealnfkadndaaLedV
set_option linter.unusedSimpArgs false
set_option linter.unusedVariables false
set_option linter.unnecessarySimpa false
namespace GL
open Go Go.Proofs
set_option maxRecDepth 8000
theorem few_ok {l : List LOp} (h : fewB l = true) (hu : ∀ o ∈ l, okE o.L) : OkO l := by
  simp only [fewB, Bool.and_eq_true, List.all_eq_true, decide_eq_true_eq] at h
  exact ⟨h.2, h.1, hu⟩
theorem Fresh.le {n k p bm fm : Nat} {vo : Value} (hf : Fresh n p bm fm vo) (h : k ≤ n) : Fresh k p bm fm vo := ⟨Nat.le_trans h hf.p, Nat.le_trans h hf.b, Nat.le_trans h hf.f, fun c hc => Nat.le_trans h (hf.o c hc)⟩
theorem bkEq_refl {ks fs : List E2} {sq : Int} (h1 : (ks.map Prod.fst).Nodup) (h2 : (fs.map Prod.fst).Nodup) : bkEq ks fs sq ks fs sq = true := by
  have hf : floEq fs fs := fun p hp => lk_mem h2 hp
  simp [bkEq, mapEq_refl h1, hf]
theorem bkEq_post {ks fs ks' : List E2} {sq r : Int} (h1 : (ks.map Prod.fst).Nodup) (h2 : (fs.map Prod.fst).Nodup) : bkEq (if r = 0 then ks' else ks) fs (if r = 0 then sq + 1 else sq) ks fs sq = !decide (r = 0) := by
  by_cases h0 : r = 0
  · rw [if_pos h0, if_pos h0]
    have : ¬ sq + 1 = sq := by omega
    simp [bkEq, this, h0]
  · rw [if_neg h0, if_neg h0, bkEq_refl h1 h2]
    simp [h0]
set_option maxHeartbeats 1000000 in
theorem l_atom (al : Option Addr) (l : List LOp) (cl : Nat) (am : Option Addr) (m : List E2) (cm : Nat) {h : Heap} (hl : SlO h al l) (ll : l.length ≤ 9223372036854775807) (hu : ∀ o ∈ l, okE o.L)
    (hm : SlG 3 entL h am m) (hum : okE m) : HCalls Try.prog 5 #[.slice al l.length cl, .slice am m.length cm] h (Grow (.bool true) h) := by
  refine hcalls2 Try.func5 rfl (by decide +kernel) (by simp only [Try.ntmps5]; exact of_decide_eq_true rfl) ?_
  intro e hin
  have e0 := hin 0 _ rfl
  have e1 := hin 1 _ rfl
  have hE := Ext.refl h
  have km := hm
  refine hx_seq ?_
  refine hx_region ?_
  refine WL.qq (by simp only [EN, Nat.reduceEqDiff, reduceIte, qv_assign, decide_true, Bool.not_true, Bool.not_false, decide_false]; rfl) ?_
  refine WL.nil ?_
  refine th_norm ?_
  refine hx_seq ?_
  refine hx_seq ?_
  refine hx_region ?_
  refine WL.qq (by simp only [EN, Nat.reduceEqDiff, reduceIte, qv_move, e0, decide_true, Bool.not_true, Bool.not_false, decide_false]; rfl) ?_
  refine WL.cg Try.call11 (by simp only [EN, Nat.reduceEqDiff, reduceIte, AR, decide_true, Bool.not_true, Bool.not_false, decide_false]; exact c_few al l cl ll hl.ops) ?_
  intro h1 hx1
  replace hE := hE.ext hx1
  replace hl := hl.ext hx1
  replace hm := hm.ext hx1
  refine WL.qq (by simp only [EN, Nat.reduceEqDiff, reduceIte, qv_unOp, unv_not, decide_true, Bool.not_true, Bool.not_false, decide_false]; rfl) ?_
  refine WL.qq (by simp only [EN, Nat.reduceEqDiff, reduceIte, qv_move, decide_true, Bool.not_true, Bool.not_false, decide_false]; rfl) ?_
  refine WL.cq (gd_at (t := 13) rfl (by simp only [EN, Nat.reduceEqDiff, reduceIte, e1, decide_true, Bool.not_true, Bool.not_false, decide_false] <;> rfl)) (fun hg1_4 => by simp only [EN, Nat.reduceEqDiff, reduceIte, qv_move, e1, decide_true, Bool.not_true, Bool.not_false, decide_false, hg1_4, GR]; rfl) ?_
  refine WL.cq (gd_at (t := 13) rfl (by simp only [EN, Nat.reduceEqDiff, reduceIte, decide_true, Bool.not_true, Bool.not_false, decide_false] <;> rfl)) (fun hg1_5 => by simp only [EN, Nat.reduceEqDiff, reduceIte, qv_len, ln26, AR, decide_true, Bool.not_true, Bool.not_false, decide_false, hg1_5, GR]; rfl) ?_
  refine WL.cq (gd_at (t := 13) rfl (by simp only [EN, Nat.reduceEqDiff, reduceIte, decide_true, Bool.not_true, Bool.not_false, decide_false] <;> rfl)) (fun hg1_6 => by simp only [EN, Nat.reduceEqDiff, reduceIte, qv_binOp, binv_gtr, decide_true, Bool.not_true, Bool.not_false, decide_false, hg1_6, GR]; rfl) ?_
  refine WL.qq (by simp only [EN, Nat.reduceEqDiff, reduceIte, qv_pick, pk_and, pk_or, GR, decide_true, Bool.not_true, Bool.not_false, decide_false]; rfl) ?_
  refine WL.nil ?_
  refine th_norm ?_
  refine hx_cond (by simp only [EN, Nat.reduceEqDiff, reduceIte, e0, e1, decide_true, Bool.not_true, Bool.not_false, decide_false]; rfl) (fun hct17 => ?_) (fun hct17 => ?_)
  ·
    try simp only [BD] at hct17
    refine hx_seq ?_
    refine hx_region ?_
    refine WL.cg Try.call12 (by simp only [EN, Nat.reduceEqDiff, reduceIte, AR, decide_true, Bool.not_true, Bool.not_false, decide_false]; exact c_known13 _) ?_
    intro h2 hx2
    replace hE := hE.ext hx2
    replace hl := hl.ext hx2
    replace hm := hm.ext hx2
    refine WL.qq (by simp only [EN, Nat.reduceEqDiff, reduceIte, qv_assign, decide_true, Bool.not_true, Bool.not_false, decide_false]; rfl) ?_
    refine WL.nil ?_
    refine th_norm ?_
    refine hx_ret ?_
    refine th_ret ?_
    refine fin_ret [.tmp 4] rfl rfl (by simp only [EN, Nat.reduceEqDiff, reduceIte, resv, e0, e1, decide_true, Bool.not_true, Bool.not_false, decide_false]; rfl) ?_  -- ret 0 r2
    exact ⟨rfl, hE⟩
  ·
    try simp only [BD] at hct17
    have ok : OkO l := few_ok (by simpa using hct17.1) hu
    have hml : m.length ≤ 12 := (by have h9 := hct17.2; omega)
    obtain ⟨s, hs⟩ : ∃ s, runB l = s := ⟨_, rfl⟩
    have hg : GoodB s 12 := hs ▸ (List.take_length (l := l) ▸ good_run ok l.length (Nat.le_refl _)).up ok.len
    have hgl := hg.lk_; have hgs := hg.sq_
    obtain ⟨r, hck⟩ : ∃ r, chkE (lk s.ks) (lk s.fs) m = r := ⟨_, rfl⟩
    refine hx_skip ?_
    refine th_norm ?_
    refine hx_seq ?_
    refine hx_region ?_
    refine WL.qq (by simp only [EN, Nat.reduceEqDiff, reduceIte, qv_move, e0, decide_true, Bool.not_true, Bool.not_false, decide_false]; rfl) ?_
    refine WL.ce Try.call13 (by simp only [EN, Nat.reduceEqDiff, reduceIte, AR, decide_true, Bool.not_true, Bool.not_false, decide_false]; exact hs ▸ c_made al l cl ok hl) ?_
    rintro _ h3 ⟨hx3, p, bm, fm, vo, w, vk, vf, rfl, hbk, hrk, hfr⟩
    replace hE := hE.ext hx3
    replace hl := hl.ext hx3
    replace hm := hm.ext hx3
    simp only [put_some]
    refine WL.qq (by simp only [EN, Nat.reduceEqDiff, reduceIte, qv_move, decide_true, Bool.not_true, Bool.not_false, decide_false]; rfl) ?_
    refine WL.qq (by simp only [EN, Nat.reduceEqDiff, reduceIte, qv_extract, AR, decide_true, Bool.not_true, Bool.not_false, decide_false]; rfl) ?_
    refine WL.qq (by simp only [EN, Nat.reduceEqDiff, reduceIte, qv_extract, AR, decide_true, Bool.not_true, Bool.not_false, decide_false]; rfl) ?_
    have hs2 := hE.size
    have hE0 := hE; replace hfr := hfr.le hx1.size
    refine WL.alloc2 zr29 ?_
    intro h4 B4 hx4 hlt4 hB4
    replace hE := hE.ext hx4
    replace hl := hl.ext hx4
    replace hm := hm.ext hx4
    replace hbk := hbk.ext hx4
    replace hrk := hrk.ext hx4
    simp only [Value.cells] at hB4
    refine WL.qq (by simp only [EN, Nat.reduceEqDiff, reduceIte, qv_assign, decide_true, Bool.not_true, Bool.not_false, decide_false, hB4.cell]; rfl) ?_
    obtain rfl := hrk.val
    refine WL.store (by simp only [EN, Nat.reduceEqDiff, reduceIte, e0, e1, decide_true, Bool.not_true, Bool.not_false, decide_false, hB4.cell] <;> rfl) sz29 (by simp only [EN, Nat.reduceEqDiff, reduceIte, e0, e1, decide_true, Bool.not_true, Bool.not_false, decide_false, hB4.cell, Value.cells]; rfl) rfl hB4 (by simp) (by have h8 := hrk.ks.one; have h9 := hrk.fs.one; intro u hu; simp at hu; rcases hu with rfl | rfl | rfl <;> first | exact h8 | exact h9 | rfl) ?_
    intro h30 hw30
    replace hE := hw30.ext (hE0.trans hx4) (Nat.le_trans hs2 hlt4)
    replace hbk := hbk.st (.inr ⟨_, hw30⟩) hB4 (by decide) (by decide)
    replace hm := km.ext hE
    refine WL.nil ?_
    refine th_norm ?_
    refine hx_seq ?_
    refine hx_seq ?_
    refine hx_region ?_
    refine WL.qq (by simp only [EN, Nat.reduceEqDiff, reduceIte, qv_move, decide_true, Bool.not_true, Bool.not_false, decide_false, hB4.cell]; rfl) ?_
    refine WL.qq (by simp only [EN, Nat.reduceEqDiff, reduceIte, qv_binOp, binv_eql, eqz25, eqn25, eqm25, Option.map_some, decide_true, Bool.not_true, Bool.not_false, decide_false, hB4.cell]; rfl) ?_
    refine WL.nil ?_
    refine th_norm ?_
    refine hx_cond (by simp only [EN, Nat.reduceEqDiff, reduceIte, e0, e1, decide_true, Bool.not_true, Bool.not_false, decide_false, hB4.cell]; rfl) (fun hct25 => ?_) (fun hct25 => ?_)
    ·
      simp at hct25
    ·
      try simp only [BD] at hct25
      refine hx_skip ?_
      refine th_norm ?_
      refine hx_seq ?_
      refine hx_region ?_
      refine WL.qq (by simp only [EN, Nat.reduceEqDiff, reduceIte, qv_move, decide_true, Bool.not_true, Bool.not_false, decide_false, hB4.cell]; rfl) ?_
      refine WL.ce Try.call17 (by simp only [EN, Nat.reduceEqDiff, reduceIte, AR, decide_true, Bool.not_true, Bool.not_false, decide_false, hB4.cell]; exact c_bkClone (by omega) hbk) ?_
      rintro _ h31 ⟨hx31, p', bm', fm', vo', rfl, hck', hfc⟩
      simp only [put_some]
      replace hE := hE.ext hx31
      have hap : ∀ x ∈ blks p' bm' fm' vo', x ∉ foot p bm vo := (fun x hx hf => by have h1 := hfc.above x hx; have h2 := hbk.below x (foot_blks hf); omega)
      replace hbk := hbk.ext hx31
      replace hm := km.ext hE
      refine WL.qq (by simp only [EN, Nat.reduceEqDiff, reduceIte, qv_assign, decide_true, Bool.not_true, Bool.not_false, decide_false, hB4.cell]; rfl) ?_
      refine WL.nil ?_
      refine th_norm ?_
      refine hx_seq ?_
      refine hx_region ?_
      refine WL.qq (by simp only [EN, Nat.reduceEqDiff, reduceIte, qv_move, decide_true, Bool.not_true, Bool.not_false, decide_false, hB4.cell]; rfl) ?_
      refine WL.qq (by simp only [EN, Nat.reduceEqDiff, reduceIte, qv_move, e1, decide_true, Bool.not_true, Bool.not_false, decide_false, hB4.cell]; rfl) ?_
      refine WL.ce Try.call19 (by simp only [EN, Nat.reduceEqDiff, reduceIte, AR, decide_true, Bool.not_true, Bool.not_false, decide_false, hB4.cell]; exact c_entries am m cm (by omega) hm) ?_
      rintro ve h32 ⟨hx32, hoe⟩
      simp only [put_some]
      obtain ⟨ae, ce, rfl, _, hse, _⟩ := Own.slG (f := entL) (sz := 3) (fun _ => rfl) hoe rfl
      replace hE := hE.ext hx32
      replace hbk := hbk.ext hx32
      replace hck' := hck'.ext hx32
      refine WL.ce Try.call22 (by simp only [EN, Nat.reduceEqDiff, reduceIte, AR, decide_true, Bool.not_true, Bool.not_false, decide_false, hB4.cell]; exact c_bkCheck ae m ce (by omega) hg.val hum hbk hse) ?_
      rintro _ h33 ⟨rfl, hx33⟩
      simp only [put_some]
      replace hE := hE.ext hx33
      replace hbk := hbk.ext hx33
      replace hck' := hck'.ext hx33
      rw [hck]
      refine WL.qq (by simp only [EN, Nat.reduceEqDiff, reduceIte, qv_assign, decide_true, Bool.not_true, Bool.not_false, decide_false, hB4.cell]; rfl) ?_
      refine WL.nil ?_
      refine th_norm ?_
      refine hx_seq ?_
      refine hx_seq ?_
      refine hx_region ?_
      refine WL.qq (by simp only [EN, Nat.reduceEqDiff, reduceIte, qv_move, decide_true, Bool.not_true, Bool.not_false, decide_false, hB4.cell]; rfl) ?_
      refine WL.qq (by simp only [EN, Nat.reduceEqDiff, reduceIte, qv_move, decide_true, Bool.not_true, Bool.not_false, decide_false, hB4.cell]; rfl) ?_
      refine WL.ce Try.call23 (by simp only [EN, Nat.reduceEqDiff, reduceIte, AR, decide_true, Bool.not_true, Bool.not_false, decide_false, hB4.cell]; exact bkEq_refl hg.nd hg.fnd ▸ c_bkEqual (by omega) hbk hck') ?_
      rintro _ h34 ⟨rfl, hx34⟩
      simp only [put_some]
      replace hE := hE.ext hx34
      replace hbk := hbk.ext hx34
      replace hck' := hck'.ext hx34
      refine WL.qq (by simp only [EN, Nat.reduceEqDiff, reduceIte, qv_unOp, unv_not, decide_true, Bool.not_true, Bool.not_false, decide_false, hB4.cell]; rfl) ?_
      refine WL.qq (by simp only [EN, Nat.reduceEqDiff, reduceIte, qv_move, decide_true, Bool.not_true, Bool.not_false, decide_false, hB4.cell]; rfl) ?_
      refine WL.cq (gd_at (t := 36) rfl (by simp only [EN, Nat.reduceEqDiff, reduceIte, decide_true, Bool.not_true, Bool.not_false, decide_false, hB4.cell] <;> rfl)) (fun hg8_5 => by simp only [EN, Nat.reduceEqDiff, reduceIte, qv_move, decide_true, Bool.not_true, Bool.not_false, decide_false, hB4.cell, hg8_5, GR]; rfl) ?_
      refine WL.cq (gd_at (t := 36) rfl (by simp only [EN, Nat.reduceEqDiff, reduceIte, decide_true, Bool.not_true, Bool.not_false, decide_false, hB4.cell] <;> rfl)) (fun hg8_6 => by simp only [EN, Nat.reduceEqDiff, reduceIte, qv_move, decide_true, Bool.not_true, Bool.not_false, decide_false, hB4.cell, hg8_6, GR]; rfl) ?_
      refine WL.gy _ (gd_at (t := 36) rfl (by simp only [EN, Nat.reduceEqDiff, reduceIte, decide_true, Bool.not_true, Bool.not_false, decide_false, hB4.cell] <;> rfl)) (e_call Try.call23 (by simp only [EN, Nat.reduceEqDiff, reduceIte, AR, decide_true, Bool.not_true, Bool.not_false, decide_false, hB4.cell]; exact bkEq_refl hg.nd hg.fnd ▸ c_bkEqual (by omega) hck' hbk)) ?_
      rintro _ h35 ⟨rfl, hx35⟩
      simp only [put_some]
      replace hE := hE.ext hx35
      replace hbk := hbk.ext hx35
      replace hck' := hck'.ext hx35
      replace hm := km.ext hE
      refine WL.cq (gd_at (t := 36) rfl (by simp only [EN, Nat.reduceEqDiff, reduceIte, decide_true, Bool.not_true, Bool.not_false, decide_false, hB4.cell] <;> rfl)) (fun hg8_8 => by simp only [EN, Nat.reduceEqDiff, reduceIte, qv_unOp, unv_not, decide_true, Bool.not_true, Bool.not_false, decide_false, hB4.cell, hg8_8, GR]; rfl) ?_
      refine WL.qq (by simp only [EN, Nat.reduceEqDiff, reduceIte, qv_pick, pk_and, pk_or, GR, decide_true, Bool.not_true, Bool.not_false, decide_false, hB4.cell]; rfl) ?_
      refine WL.nil ?_
      refine th_norm ?_
      refine hx_cond (by simp only [EN, Nat.reduceEqDiff, reduceIte, e0, e1, decide_true, Bool.not_true, Bool.not_false, decide_false, hB4.cell]; rfl) (fun hct41 => ?_) (fun hct41 => ?_)
      ·
        simp at hct41
      ·
        try simp only [BD] at hct41
        refine hx_skip ?_
        refine th_norm ?_
        refine hx_seq ?_
        refine hx_region ?_
        refine WL.qq (by simp only [EN, Nat.reduceEqDiff, reduceIte, qv_move, decide_true, Bool.not_true, Bool.not_false, decide_false, hB4.cell]; rfl) ?_
        refine WL.qq (by simp only [EN, Nat.reduceEqDiff, reduceIte, qv_move, e1, decide_true, Bool.not_true, Bool.not_false, decide_false, hB4.cell]; rfl) ?_
        refine WL.ce Try.call19 (by simp only [EN, Nat.reduceEqDiff, reduceIte, AR, decide_true, Bool.not_true, Bool.not_false, decide_false, hB4.cell]; exact c_entries am m cm (by omega) hm) ?_
        rintro ve h36 ⟨hx36, hoe⟩
        simp only [put_some]
        obtain ⟨ae2, ce2, rfl, _, hse, _⟩ := Own.slG (f := entL) (sz := 3) (fun _ => rfl) hoe rfl
        replace hE := hE.ext hx36
        replace hbk := hbk.ext hx36
        replace hck' := hck'.ext hx36
        refine WL.ce Try.call18 (by simp only [EN, Nat.reduceEqDiff, reduceIte, AR, decide_true, Bool.not_true, Bool.not_false, decide_false, hB4.cell]; exact c_postF ae2 m ce2 (by omega) (by omega) (by omega) hg.val hum hbk (hoe.base (Nat.zero_le _)) hck hE hfr) ?_
        rintro _ h37 ⟨rfl, hE', hg37, vo2, hbk', hfr', _⟩
        simp only [put_some]
        replace hck' := hck'.gsA hg37 hap
        replace hE := hE'
        replace hbk := hbk'
        refine WL.qq (by simp only [EN, Nat.reduceEqDiff, reduceIte, qv_assign, decide_true, Bool.not_true, Bool.not_false, decide_false, hB4.cell]; rfl) ?_
        refine WL.nil ?_
        refine th_norm ?_
        refine hx_seq ?_
        refine hx_seq ?_
        refine hx_region ?_
        refine WL.qq (by simp only [EN, Nat.reduceEqDiff, reduceIte, qv_move, decide_true, Bool.not_true, Bool.not_false, decide_false, hB4.cell]; rfl) ?_
        refine WL.qq (by simp only [EN, Nat.reduceEqDiff, reduceIte, qv_move, decide_true, Bool.not_true, Bool.not_false, decide_false, hB4.cell]; rfl) ?_
        refine WL.qq (by simp only [EN, Nat.reduceEqDiff, reduceIte, qv_binOp, binv_neq, eq45, Option.map_some, decide_true, Bool.not_true, Bool.not_false, decide_false, hB4.cell]; rfl) ?_
        refine WL.qq (by simp only [EN, Nat.reduceEqDiff, reduceIte, qv_move, decide_true, Bool.not_true, Bool.not_false, decide_false, hB4.cell]; rfl) ?_
        refine WL.cq (gd_at (t := 49) rfl (by simp only [EN, Nat.reduceEqDiff, reduceIte, decide_true, Bool.not_true, Bool.not_false, decide_false, hB4.cell] <;> rfl)) (fun hg11_4 => by simp only [EN, Nat.reduceEqDiff, reduceIte, qv_move, decide_true, Bool.not_true, Bool.not_false, decide_false, hB4.cell, hg11_4, GR]; rfl) ?_
        refine WL.cq (gd_at (t := 49) rfl (by simp only [EN, Nat.reduceEqDiff, reduceIte, decide_true, Bool.not_true, Bool.not_false, decide_false, hB4.cell] <;> rfl)) (fun hg11_5 => by simp only [EN, Nat.reduceEqDiff, reduceIte, qv_move, decide_true, Bool.not_true, Bool.not_false, decide_false, hB4.cell, hg11_5, GR]; rfl) ?_
        refine WL.gy _ (gd_at (t := 49) rfl (by simp only [EN, Nat.reduceEqDiff, reduceIte, decide_true, Bool.not_true, Bool.not_false, decide_false, hB4.cell] <;> rfl)) (e_call Try.call23 (by simp only [EN, Nat.reduceEqDiff, reduceIte, AR, decide_true, Bool.not_true, Bool.not_false, decide_false, hB4.cell]; exact bkEq_post hg.nd hg.fnd ▸ c_bkEqual (by split; (have h9 := putL_len m s.ks; omega); omega) hbk hck')) ?_
        rintro _ h38 ⟨rfl, hx38⟩
        simp only [put_some]
        replace hE := hE.ext hx38
        replace hbk := hbk.ext hx38
        replace hck' := hck'.ext hx38
        refine WL.cq (gd_at (t := 49) rfl (by simp only [EN, Nat.reduceEqDiff, reduceIte, decide_true, Bool.not_true, Bool.not_false, decide_false, hB4.cell] <;> rfl)) (fun hg11_7 => by simp only [EN, Nat.reduceEqDiff, reduceIte, qv_move, decide_true, Bool.not_true, Bool.not_false, decide_false, hB4.cell, hg11_7, GR]; rfl) ?_
        refine WL.cq (gd_at (t := 49) rfl (by simp only [EN, Nat.reduceEqDiff, reduceIte, decide_true, Bool.not_true, Bool.not_false, decide_false, hB4.cell] <;> rfl)) (fun hg11_8 => by simp only [EN, Nat.reduceEqDiff, reduceIte, qv_binOp, binv_neq, eq45, Option.map_some, decide_true, Bool.not_true, Bool.not_false, decide_false, hB4.cell, hg11_8, GR]; rfl) ?_
        refine WL.cq (gd_at (t := 49) rfl (by simp only [EN, Nat.reduceEqDiff, reduceIte, decide_true, Bool.not_true, Bool.not_false, decide_false, hB4.cell] <;> rfl)) (fun hg11_9 => by simp only [EN, Nat.reduceEqDiff, reduceIte, qv_binOp, binv_neq, eq4, Option.map_some, decide_true, Bool.not_true, Bool.not_false, decide_false, hB4.cell, hg11_9, GR]; rfl) ?_
        refine WL.qq (by simp only [EN, Nat.reduceEqDiff, reduceIte, qv_pick, pk_and, pk_or, GR, decide_true, Bool.not_true, Bool.not_false, decide_false, hB4.cell]; rfl) ?_
        refine WL.nil ?_
        refine th_norm ?_
        refine hx_cond (by simp only [EN, Nat.reduceEqDiff, reduceIte, e0, e1, decide_true, Bool.not_true, Bool.not_false, decide_false, hB4.cell]; rfl) (fun hct56 => ?_) (fun hct56 => ?_)
        ·
          simp at hct56
        ·
          try simp only [BD] at hct56
          refine hx_skip ?_
          refine th_norm ?_
          refine hx_seq ?_
          refine hx_region ?_
          refine WL.cg Try.call12 (by simp only [EN, Nat.reduceEqDiff, reduceIte, AR, decide_true, Bool.not_true, Bool.not_false, decide_false, hB4.cell]; exact c_known13 _) ?_
          intro h5 hx5
          replace hE := hE.ext hx5
          replace hbk := hbk.ext hx5
          replace hck' := hck'.ext hx5
          refine WL.qq (by simp only [EN, Nat.reduceEqDiff, reduceIte, qv_move, decide_true, Bool.not_true, Bool.not_false, decide_false, hB4.cell]; rfl) ?_
          refine WL.cq (gd_at (t := 58) rfl (by simp only [EN, Nat.reduceEqDiff, reduceIte, decide_true, Bool.not_true, Bool.not_false, decide_false, hB4.cell] <;> rfl)) (fun hg13_2 => by simp only [EN, Nat.reduceEqDiff, reduceIte, qv_move, decide_true, Bool.not_true, Bool.not_false, decide_false, hB4.cell, hg13_2, GR]; rfl) ?_
          refine WL.cq (gd_at (t := 58) rfl (by simp only [EN, Nat.reduceEqDiff, reduceIte, decide_true, Bool.not_true, Bool.not_false, decide_false, hB4.cell] <;> rfl)) (fun hg13_3 => by simp only [EN, Nat.reduceEqDiff, reduceIte, qv_binOp, binv_eql, eq45, Option.map_some, decide_true, Bool.not_true, Bool.not_false, decide_false, hB4.cell, hg13_3, GR]; rfl) ?_
          refine WL.cq (gd_at (t := 58) rfl (by simp only [EN, Nat.reduceEqDiff, reduceIte, decide_true, Bool.not_true, Bool.not_false, decide_false, hB4.cell] <;> rfl)) (fun hg13_4 => by simp only [EN, Nat.reduceEqDiff, reduceIte, qv_move, decide_true, Bool.not_true, Bool.not_false, decide_false, hB4.cell, hg13_4, GR]; rfl) ?_
          refine WL.gy _ (gd_at (t := 58) rfl (by simp only [EN, Nat.reduceEqDiff, reduceIte, decide_true, Bool.not_true, Bool.not_false, decide_false, hB4.cell] <;> rfl)) (e_call Try.call24 (by simp only [EN, Nat.reduceEqDiff, reduceIte, AR, decide_true, Bool.not_true, Bool.not_false, decide_false, hB4.cell]; exact c_bkSeq hbk)) ?_
          rintro _ h39 ⟨rfl, hq39⟩
          obtain rfl : h39 = _ := hq39
          simp only [put_some]
          refine WL.cq (gd_at (t := 58) rfl (by simp only [EN, Nat.reduceEqDiff, reduceIte, decide_true, Bool.not_true, Bool.not_false, decide_false, hB4.cell] <;> rfl)) (fun hg13_6 => by simp only [EN, Nat.reduceEqDiff, reduceIte, qv_move, decide_true, Bool.not_true, Bool.not_false, decide_false, hB4.cell, hg13_6, GR]; rfl) ?_
          refine WL.gy _ (gd_at (t := 58) rfl (by simp only [EN, Nat.reduceEqDiff, reduceIte, decide_true, Bool.not_true, Bool.not_false, decide_false, hB4.cell] <;> rfl)) (e_call Try.call24 (by simp only [EN, Nat.reduceEqDiff, reduceIte, AR, decide_true, Bool.not_true, Bool.not_false, decide_false, hB4.cell]; exact c_bkSeq hck')) ?_
          rintro _ h40 ⟨rfl, hq40⟩
          obtain rfl : h40 = _ := hq40
          simp only [put_some]
          refine WL.cq (gd_at (t := 58) rfl (by simp only [EN, Nat.reduceEqDiff, reduceIte, decide_true, Bool.not_true, Bool.not_false, decide_false, hB4.cell] <;> rfl)) (fun hg13_8 => by have hq0 := hg13_8; (try simp only [BD] at hq0); simp only [EN, Nat.reduceEqDiff, reduceIte, qv_binOp, binv_add, decide_true, Bool.not_true, Bool.not_false, decide_false, hB4.cell, hg13_8, GR]; (try simp (disch := omega) only [w64, w8, wu64]); rfl) ?_
          refine WL.cq (gd_at (t := 58) rfl (by simp only [EN, Nat.reduceEqDiff, reduceIte, decide_true, Bool.not_true, Bool.not_false, decide_false, hB4.cell] <;> rfl)) (fun hg13_9 => by simp only [EN, Nat.reduceEqDiff, reduceIte, qv_binOp, binv_eql, eq3, Option.map_some, decide_true, Bool.not_true, Bool.not_false, decide_false, hB4.cell, hg13_9, GR]; rfl) ?_
          refine WL.cq (gd_at (t := 58) rfl (by simp only [EN, Nat.reduceEqDiff, reduceIte, decide_true, Bool.not_true, Bool.not_false, decide_false, hB4.cell] <;> rfl)) (fun hg13_10 => by simp only [EN, Nat.reduceEqDiff, reduceIte, qv_binOp, binv_eql, eq4, Option.map_some, decide_true, Bool.not_true, Bool.not_false, decide_false, hB4.cell, hg13_10, GR]; rfl) ?_
          refine WL.qq (by simp only [EN, Nat.reduceEqDiff, reduceIte, qv_pick, pk_and, pk_or, GR, decide_true, Bool.not_true, Bool.not_false, decide_false, hB4.cell]; rfl) ?_
          refine WL.qq (by simp only [EN, Nat.reduceEqDiff, reduceIte, qv_assign, decide_true, Bool.not_true, Bool.not_false, decide_false, hB4.cell]; rfl) ?_
          refine WL.nil ?_
          refine th_norm ?_
          refine hx_ret ?_
          refine fin_ret [.tmp 4] rfl rfl (by simp only [EN, Nat.reduceEqDiff, reduceIte, resv, e0, e1, decide_true, Bool.not_true, Bool.not_false, decide_false, hB4.cell]; rfl) ?_  -- ret 1 r13
          refine ⟨?_, hE⟩
          by_cases h0 : r = 0
          · simp [retOf, h0]
          · have h1 : ¬ (s.sq = s.sq + 1) := (by omega); simp [retOf, h0, h1]
end GL


/- Ledger: the end of the statement on bundles. -/
import Derived.Test.YtlmealnfkadndaaLedAS
set_option linter.unusedSimpArgs false
set_option linter.unusedVariables false
set_option linter.unnecessarySimpa false
namespace GL
open Go Go.Proofs
set_option maxRecDepth 8000
theorem good_big {s : BS} {n : Nat} (g : GoodB s n) {l : List E2} (hu : okE l) (hl : l.length ≤ 96) (hc : chkE (lk s.ks) (lk s.fs) l = 0) : GoodB { s with ks := putL s.ks l, sq := s.sq + 1 } (n + 8) := by
  obtain ⟨hlen, hv, hbv, hsum, hfl⟩ := chk_ok hc
  refine ⟨putL_nodup _ g.nd, put_vld hc g.val, g.same, g.gnd, g.fnd, ?_, ?_, put_rng hu g.rng, ?_, Nat.le_trans g.lg (by omega), Nat.le_trans g.lf (by omega), ?_⟩
  · intro q
    show lk s.fs q ≤ lk (putL s.ks l) q
    rw [putL_lk (by omega) hv (g.val q)]
    have h1 := g.ge q
    by_cases h0 : netM l q < 0
    · by_cases hx : ∃ x ∈ l, x.1 = q
      · obtain ⟨x, hx, rfl⟩ := hx
        exact hfl x hx h0
      · rw [netM_no (fun x hx' hh => hx ⟨x, hx', hh⟩)]; omega
    · omega
  · intro a
    show sumS (inA a) (putL s.ks l) = 0
    rw [put_sum (inA a) (fun k u v => Iff.rfl) l (B := 1000000000000000) g.nd (fun q => vld_iff.1 (g.val q)) (by omega) hv, g.sum a]
    by_cases hx : ∃ x ∈ l, x.1.a = a
    · obtain ⟨x, hx, rfl⟩ := hx
      have h1 := hsum x hx
      rw [(sumA_eq (by omega) hv _).1] at h1
      show 0 + sumS (fun y => y.1.a = x.1.a) l = 0
      omega
    · have h3 : sumS (inA a) l = 0 := sumS_no (fun x hx' hh => hx ⟨x, hx', hh⟩)
      omega
  · have h1 := putL_len l s.ks
    have h2 := g.lk_
    show (putL s.ks l).length ≤ _
    omega
  · have := g.sq_
    show 0 ≤ s.sq + 1 ∧ s.sq + 1 ≤ ((n + 8 : Nat) : Int)
    omega
theorem good_fin {s : BS} {k : Nat} (g : GoodB s k) {l : List E2} (hu : okE l) (hl : l.length ≤ 96) {r : Int} (hc : chkE (lk s.ks) (lk s.fs) l = r) : GoodB ⟨if r = 0 then putL s.ks l else s.ks, s.gs, s.fs, if r = 0 then s.sq + 1 else s.sq⟩ (k + 8) := by
  by_cases h : r = 0
  · rw [if_pos h, if_pos h]; exact good_big g hu hl (hc.trans h)
  · rw [if_neg h, if_neg h]; exact g.up (by omega)
theorem fin_eq {s : BS} {es : List E2} {q r : Int} (hq : comE true (lk s.ks) (lk s.fs) es = q) (hr : chkE (lk s.ks) (lk s.fs) es = r) :
    (es.length = 0 → q = 0) ∧ (es.length ≠ 0 → q = r) ∧ (if q = 0 then putL s.ks es else s.ks) = (if r = 0 then putL s.ks es else s.ks) ∧ (if q = 0 ∧ es ≠ [] then s.sq + 1 else s.sq) = (if r = 0 then s.sq + 1 else s.sq) := by
  cases es with
  | nil =>
    have h1 : q = 0 := by rw [← hq]; rfl
    have h2 : r = 1 := by rw [← hr]; rfl
    subst h1 h2
    exact ⟨fun _ => rfl, fun hh => absurd rfl hh, rfl, by simp⟩
  | cons y l =>
    have h1 : q = r := by rw [← hq, ← hr]; unfold comE; rw [if_neg (by simp), if_neg (by simp)]
    subst h1
    exact ⟨fun hh => by simp at hh, fun _ => rfl, rfl, by simp⟩
theorem one_sl {h : Heap} {B : Nat} {x : E2} {t : TypeId} (hB : Has h B (.cells #[.int .u8 x.1.o, .int .u8 x.1.a, iV x.2] t)) : SlG 3 entL h (some ⟨B, 0, none⟩) [x] := fun i y hi => by
  cases i with
  | succ i => simp at hi
  | zero =>
    simp at hi
    subst hi
    exact ⟨B, 0, rfl, by simp only [readN, hB.cell, AR, Nat.zero_add, Nat.reduceAdd, Nat.zero_mul] <;> rfl⟩
theorem c_save0 {h : Heap} {N t p : Nat} {ve : Value} {o : Bool} (hb : Bd h N t p ve [] o) : HCalls Try.prog 33 #[bdP t] h (Pure (iV 0) h) := c_save hb
theorem Own.gsF {h h' : Heap} {N t p bm fm n : Nat} {vo ve va : Value} {ks fs : List E2} {os : List K2} {sq : Int} {es : List E2} {o : Bool} {xs : List Value} {M : Nat} (ho : Own h M 44 3 va n xs) (hk : BkO h p bm fm vo ks os fs sq) (hb : Bd h N t p ve es o) (hg : Gs h h' (t :: foot p bm vo)) : Own h' M 44 3 va n xs :=
  ho.gs hg (fun c hc hm => by
    obtain ⟨cur, hcc⟩ := ho.typ c hc
    rcases List.mem_cons.1 hm with rfl | hm
    · exact hb.blk.noty (by decide) hcc
    · exact foot_noty hk (by decide) (by decide) _ hm _ hcc)
set_option maxHeartbeats 2000000 in
theorem c_finished {h0 h : Heap} {p bm fm t N M : Nat} {vo w vk vf ve : Value} {s : BS} {es : List E2} (a : Option Addr) (cl : Nat) (hg : GoodB s 12) (le : es.length ≤ 96) (hu : okE es)
    (hbk : IsBk h p bm fm vo s.ks s.fs s.sq) (hrk : IsRef h w s.ks s.gs s.sq vk vf) (hb : Bd h N t p ve es true) (ho : Own h M 44 3 (.slice a es.length cl) es.length (es.flatMap entL)) (hE : Ext h0 h) (hfr : Fresh h0.size p bm fm vo) (htf : h0.size ≤ t) (hNt : N ≤ t) :
    HCalls Try.prog 38 #[bkP p, bdP t, w, .slice a es.length cl] h fun v h' => v = .bool true ∧ Ext h0 h' := by
  obtain rfl := hrk.val
  have hgl := hg.lk_; have hgs := hg.sq_; have hgg := hg.lg
  obtain ⟨r, hrr⟩ : ∃ r, chkE (lk s.ks) (lk s.fs) es = r := ⟨_, rfl⟩
  obtain ⟨q, hq⟩ : ∃ q, comE true (lk s.ks) (lk s.fs) es = q := ⟨_, rfl⟩
  obtain ⟨hq0, hq1, hqk, hqs⟩ := fin_eq hq hrr
  have hg2 := good_fin hg hu le hrr
  refine hcalls2 Try.func38 rfl (by decide +kernel) (by simp only [Try.ntmps38]; exact of_decide_eq_true rfl) ?_
  intro e hin
  have e0 := hin 0 _ rfl
  have e1 := hin 1 _ rfl
  have e2 := hin 2 _ rfl
  have e3 := hin 3 _ rfl
  refine hx_seq ?_
  refine hx_region ?_
  refine WL.box2 (by simp only [EN, Nat.reduceEqDiff, reduceIte, Value.cells, e2, FB, not_true, not_false_iff, ne_eq]; rfl) ?_
  intro h1 B1 hx1 hlt1 hB1
  replace hE := hE.ext hx1
  replace hbk := hbk.ext hx1
  replace hrk := hrk.ext hx1
  replace hb := hb.ext hx1
  replace ho := ho.ext hx1
  refine WL.qq (by simp only [EN, Nat.reduceEqDiff, reduceIte, qv_assign, FB, not_true, not_false_iff, ne_eq, hB1.cell]; rfl) ?_
  refine WL.nil ?_
  refine th_norm ?_
  refine hx_seq ?_
  refine hx_region ?_
  refine WL.qq (by simp only [EN, Nat.reduceEqDiff, reduceIte, qv_load, ld29, readN, AR, Nat.zero_add, Nat.reduceAdd, FB, not_true, not_false_iff, ne_eq, hB1.cell]; rfl) ?_
  refine WL.qq (by simp only [EN, Nat.reduceEqDiff, reduceIte, qv_move, e3, FB, not_true, not_false_iff, ne_eq, hB1.cell]; rfl) ?_
  refine WL.ce Try.call28 (by simp only [EN, Nat.reduceEqDiff, reduceIte, AR, FB, not_true, not_false_iff, ne_eq, hB1.cell]; exact c_rpost a es cl (by omega) (by omega) (by omega) (by omega) hg.val hg.nd hrk (slG_of ho) ((chkE_congr (fun _ => rfl) (fun q => (hg.same q).symm) _).trans hrr)) ?_
  rintro _ h10 ⟨hx10, w2, vk2, vf2, rfl, hrk2⟩
  simp only [put_some]
  obtain rfl := hrk2.val
  replace hE := hE.ext hx10
  replace hbk := hbk.ext hx10
  replace hb := hb.ext hx10
  replace ho := ho.ext hx10
  refine WL.qq (by simp only [EN, Nat.reduceEqDiff, reduceIte, qv_move, FB, not_true, not_false_iff, ne_eq, hB1.cell]; rfl) ?_
  refine WL.qq (by simp only [EN, Nat.reduceEqDiff, reduceIte, qv_extract, AR, FB, not_true, not_false_iff, ne_eq, hB1.cell]; rfl) ?_
  refine WL.qq (by simp only [EN, Nat.reduceEqDiff, reduceIte, qv_extract, AR, FB, not_true, not_false_iff, ne_eq, hB1.cell]; rfl) ?_
  refine WL.allocSt zr29 sz29 (fun u => by simp only [EN, Nat.reduceEqDiff, reduceIte, e0, e1, e2, e3, FB, not_true, not_false_iff, ne_eq, hB1.cell, Value.cells] <;> rfl) ⟨rfl, rfl⟩ (by have h8 := hrk2.ks.one; have h9 := hrk2.fs.one; intro u hu; simp at hu; rcases hu with rfl | rfl | rfl <;> first | exact h8 | exact h9 | rfl) ?_
  intro h11 B11 hx11 hlt11 hB11
  replace hE := hE.ext hx11
  replace hbk := hbk.ext hx11
  replace hrk2 := hrk2.ext hx11
  replace hb := hb.ext hx11
  replace ho := ho.ext hx11
  skip
  refine WL.qq (by simp only [EN, Nat.reduceEqDiff, reduceIte, qv_assign, FB, not_true, not_false_iff, ne_eq, hB1.cell]; rfl) ?_
  refine WL.nil ?_
  refine th_norm ?_
  refine hx_cutS [10, 18, 19, 20] (fun e => e 10 = iV q) ?_ ?_
  ·
    refine hx_seq ?_
    refine hx_region ?_
    refine WL.qq (by simp only [EN, Nat.reduceEqDiff, reduceIte, qv_move, e3, FB, not_true, not_false_iff, ne_eq, hB1.cell]; rfl) ?_
    refine WL.qq (by simp only [EN, Nat.reduceEqDiff, reduceIte, qv_len, ln26, AR, FB, not_true, not_false_iff, ne_eq, hB1.cell]; rfl) ?_
    refine WL.qq (by simp only [EN, Nat.reduceEqDiff, reduceIte, qv_binOp, binv_eql, eq3, Option.map_some, FB, not_true, not_false_iff, ne_eq, hB1.cell]; rfl) ?_
    refine WL.nil ?_
    refine th_norm ?_
    refine hx_cond (by simp only [EN, Nat.reduceEqDiff, reduceIte, FB, not_true, not_false_iff, ne_eq, hB1.cell]; rfl) (fun hct20 => ?_) (fun hct20 => ?_)
    ·
      try simp only [BD] at hct20
      refine hx_region ?_
      refine WL.qq (by simp only [EN, Nat.reduceEqDiff, reduceIte, qv_assign, FB, not_true, not_false_iff, ne_eq, hB1.cell]; rfl) ?_
      refine WL.nil ?_
      refine th_norm ?_
      refine ⟨rfl, rfl, ?_, ?_⟩  -- meet 0 of cut 2
      · (repeat (first | exact Fr.refl _ _ | refine Fr.set rfl ?_ | refine Fr.put rfl ?_ | with_reducible refine Fr.put0 ?_))
      · simp only [EN, Nat.reduceEqDiff, reduceIte, e0, e1, e2, e3, FB, not_true, not_false_iff, ne_eq, hB1.cell] <;> first | (have h5 := hq0 (by omega); rw [h5]) | (have h5 := hq1 (by omega); rw [h5])
    ·
      try simp only [BD] at hct20
      refine hx_skip ?_
      refine th_norm ?_
      refine ⟨rfl, rfl, ?_, ?_⟩  -- meet 1 of cut 2
      · (repeat (first | exact Fr.refl _ _ | refine Fr.set rfl ?_ | refine Fr.put rfl ?_ | with_reducible refine Fr.put0 ?_))
      · simp only [EN, Nat.reduceEqDiff, reduceIte, e0, e1, e2, e3, FB, not_true, not_false_iff, ne_eq, hB1.cell] <;> first | (have h5 := hq0 (by omega); rw [h5]) | (have h5 := hq1 (by omega); rw [h5])
  ·
    rintro ec2 hfc2 i10_c2
    have k0_c2 := hfc2 0 rfl; try simp only [EN, Nat.reduceEqDiff, reduceIte, e0, FB, not_true, not_false_iff, ne_eq, hB1.cell] at k0_c2
    have k1_c2 := hfc2 1 rfl; try simp only [EN, Nat.reduceEqDiff, reduceIte, e1, FB, not_true, not_false_iff, ne_eq, hB1.cell] at k1_c2
    have k3_c2 := hfc2 3 rfl; try simp only [EN, Nat.reduceEqDiff, reduceIte, e3, FB, not_true, not_false_iff, ne_eq, hB1.cell] at k3_c2
    have k8_c2 := hfc2 8 rfl; try simp only [EN, Nat.reduceEqDiff, reduceIte, FB, not_true, not_false_iff, ne_eq, hB1.cell] at k8_c2
    have k9_c2 := hfc2 9 rfl; try simp only [EN, Nat.reduceEqDiff, reduceIte, FB, not_true, not_false_iff, ne_eq, hB1.cell] at k9_c2
    refine hx_seq ?_
    refine hx_seq ?_
    refine hx_region ?_
    refine WL.qq (by simp only [EN, Nat.reduceEqDiff, reduceIte, qv_move, k1_c2, FB, not_true, not_false_iff, ne_eq, hB1.cell]; rfl) ?_
    have hS20 : ∀ (T : TypeId), T ≠ bdT → T ≠ 83 → T ≠ 34 → ∀ x ∈ t :: foot p bm vo, ∀ cur, ¬ Has h11 x (.cells cur T) := (fun T q1 q2 q3 x hx cur hc => by rcases List.mem_cons.1 hx with rfl | hx; exact hb.blk.noty (Ne.symm q1) hc; exact foot_noty hbk q2 q3 x hx cur hc)
    refine WL.ce Try.call31 (by simp only [EN, Nat.reduceEqDiff, reduceIte, AR, FB, not_true, not_false_iff, ne_eq, hB1.cell]; exact c_commit (by omega) (by omega) (by omega) hg.val hu hbk hb hq hE hfr htf) ?_
    rintro _ h20 ⟨rfl, hE20, hg20, ⟨ve3, hb3⟩, vo3, hbk3, hfr3, _⟩
    simp only [put_some]
    replace ho := ho.gsF hbk hb hg20
    replace hrk2 := hrk2.gsT hg20 (fun x hx cur => ⟨hS20 _ (by decide) (by decide) (by decide) x hx cur, hS20 _ (by decide) (by decide) (by decide) x hx cur⟩)
    replace hB11 := hB11.gs hg20 (fun hh => hS20 _ (by decide) (by decide) (by decide) _ hh _ hB11)
    replace hE := hE20
    rw [hqk, hqs] at hbk3
    replace hbk := hbk3
    refine WL.qq (by simp only [EN, Nat.reduceEqDiff, reduceIte, qv_move, i10_c2, FB, not_true, not_false_iff, ne_eq, hB1.cell]; rfl) ?_
    refine WL.qq (by simp only [EN, Nat.reduceEqDiff, reduceIte, qv_binOp, binv_neq, eq3, Option.map_some, FB, not_true, not_false_iff, ne_eq, hB1.cell]; rfl) ?_
    refine WL.qq (by simp only [EN, Nat.reduceEqDiff, reduceIte, qv_move, FB, not_true, not_false_iff, ne_eq, hB1.cell]; rfl) ?_
    refine WL.cq (gd_at (t := 25) rfl (by simp only [EN, Nat.reduceEqDiff, reduceIte, k0_c2, FB, not_true, not_false_iff, ne_eq, hB1.cell] <;> rfl)) (fun hg4_5 => by simp only [EN, Nat.reduceEqDiff, reduceIte, qv_move, k0_c2, FB, not_true, not_false_iff, ne_eq, hB1.cell, hg4_5, GR]; rfl) ?_
    refine WL.cq (gd_at (t := 25) rfl (by simp only [EN, Nat.reduceEqDiff, reduceIte, k9_c2, FB, not_true, not_false_iff, ne_eq, hB1.cell] <;> rfl)) (fun hg4_6 => by simp only [EN, Nat.reduceEqDiff, reduceIte, k0_c2, k1_c2, k3_c2, k8_c2, k9_c2, i10_c2, FB, not_true, not_false_iff, ne_eq, hB1.cell, GR, hg4_6, qv_load, ld29, readN, hB11.cell, AR, Nat.zero_add, Nat.reduceAdd]; rfl) ?_
    refine WL.ccg (gd_at (t := 25) rfl (by simp only [EN, Nat.reduceEqDiff, reduceIte, FB, not_true, not_false_iff, ne_eq, hB1.cell] <;> rfl)) Try.call25 (fun hg4_7 => by simp only [EN, Nat.reduceEqDiff, reduceIte, AR, FB, not_true, not_false_iff, ne_eq, hB1.cell, hg4_7, GR]; exact c_same (hg2.up (by omega)) hbk hrk2) ?_
    intro h2 hx2
    replace hE := hE.ext hx2
    replace hbk := hbk.ext hx2
    replace ho := ho.ext hx2
    replace hrk2 := hrk2.ext hx2
    replace hB11 := hB11.ext hx2
    replace hb3 := hb3.ext hx2
    refine WL.cq (gd_at (t := 25) rfl (by simp only [EN, Nat.reduceEqDiff, reduceIte, FB, not_true, not_false_iff, ne_eq, hB1.cell] <;> rfl)) (fun hg4_8 => by simp only [EN, Nat.reduceEqDiff, reduceIte, qv_unOp, unv_not, FB, not_true, not_false_iff, ne_eq, hB1.cell, hg4_8, GR]; rfl) ?_
    refine WL.qq (by simp only [EN, Nat.reduceEqDiff, reduceIte, qv_pick, pk_and, pk_or, GR, FB, not_true, not_false_iff, ne_eq, hB1.cell]; rfl) ?_
    refine WL.nil ?_
    refine th_norm ?_
    refine hx_cond (by simp only [EN, Nat.reduceEqDiff, reduceIte, FB, not_true, not_false_iff, ne_eq, hB1.cell]; rfl) (fun hct30 => ?_) (fun hct30 => ?_)
    ·
      simp at hct30
    ·
      try simp only [BD] at hct30
      refine hx_skip ?_
      refine th_norm ?_
      refine hx_seq ?_
      refine hx_seq ?_
      refine hx_region ?_
      refine WL.qq (by simp only [EN, Nat.reduceEqDiff, reduceIte, qv_move, i10_c2, FB, not_true, not_false_iff, ne_eq, hB1.cell]; rfl) ?_
      refine WL.qq (by simp only [EN, Nat.reduceEqDiff, reduceIte, qv_binOp, binv_neq, eq3, Option.map_some, FB, not_true, not_false_iff, ne_eq, hB1.cell]; rfl) ?_
      refine WL.nil ?_
      refine th_norm ?_
      refine hx_cond (by simp only [EN, Nat.reduceEqDiff, reduceIte, FB, not_true, not_false_iff, ne_eq, hB1.cell]; rfl) (fun hct32 => ?_) (fun hct32 => ?_)
      ·
        try simp only [BD] at hct32
        have h50 : q ≠ 0 := (by omega)
        have hb5 := hb3; rw [if_neg h50, if_neg h50] at hb5
        refine hx_seq ?_
        refine hx_seq ?_
        refine hx_region ?_
        refine WL.qq (by simp only [EN, Nat.reduceEqDiff, reduceIte, qv_move, k1_c2, FB, not_true, not_false_iff, ne_eq, hB1.cell]; rfl) ?_
        refine WL.ce Try.call35 (by simp only [EN, Nat.reduceEqDiff, reduceIte, AR, FB, not_true, not_false_iff, ne_eq, hB1.cell]; exact c_ents (by omega) hb5) ?_
        rintro _ h21 ⟨hx21, hon⟩
        simp only [put_some]
        obtain ⟨a7, c7, rfl, _, hs7, _⟩ := Own.slG (f := entL) (sz := 3) (fun _ => rfl) hon rfl
        replace hE := hE.ext hx21
        replace hbk := hbk.ext hx21
        replace hrk2 := hrk2.ext hx21
        replace hB11 := hB11.ext hx21
        replace hb5 := hb5.ext hx21
        replace ho := ho.ext hx21
        replace hb3 := hb3.ext hx21
        refine WL.qq (by simp only [EN, Nat.reduceEqDiff, reduceIte, qv_move, k3_c2, FB, not_true, not_false_iff, ne_eq, hB1.cell]; rfl) ?_
        refine WL.ck Try.call34 (by simp only [EN, Nat.reduceEqDiff, reduceIte, AR, FB, not_true, not_false_iff, ne_eq, hB1.cell]; exact c_listed a7 a es c7 cl (by omega) hs7 (slG_of ho)) ?_
        refine WL.qq (by simp only [EN, Nat.reduceEqDiff, reduceIte, qv_unOp, unv_not, FB, not_true, not_false_iff, ne_eq, hB1.cell]; rfl) ?_
        refine WL.nil ?_
        refine th_norm ?_
        refine hx_cond (by simp only [EN, Nat.reduceEqDiff, reduceIte, FB, not_true, not_false_iff, ne_eq, hB1.cell]; rfl) (fun hct37 => ?_) (fun hct37 => ?_)
        ·
          simp at hct37
        ·
          try simp only [BD] at hct37
          refine hx_skip ?_
          refine th_norm ?_
          refine hx_region ?_
          refine WL.qq (by simp only [EN, Nat.reduceEqDiff, reduceIte, qv_move, k1_c2, FB, not_true, not_false_iff, ne_eq, hB1.cell]; rfl) ?_
          refine WL.ce Try.call40 (by simp only [EN, Nat.reduceEqDiff, reduceIte, AR, FB, not_true, not_false_iff, ne_eq, hB1.cell]; exact c_rollback hb5) ?_
          rintro _ h22 ⟨hg22, hb4⟩
          simp only [put_some]
          have bt5 := hb5.blk
          replace hE := hg22.toExt hE (fun x hx => by simp at hx; subst hx; exact htf)
          replace hbk := hbk.gsA hg22 (fun x hx => by simp; exact hbk.offA bt5 (by decide) (by decide) x hx)
          replace hrk2 := hrk2.gsT hg22 (fun x hx cur => by simp at hx; subst hx; exact ⟨bt5.noty (by decide), bt5.noty (by decide)⟩)
          replace hB11 := hB11.gs hg22 (by simp; exact hB11.ncell bt5 (by decide))
          refine WL.nil ?_
          refine th_norm ?_
          refine hx_seq ?_
          refine hx_region ?_
          refine WL.qq (by refine qv_bld (by simp only [EN, Nat.reduceEqDiff, reduceIte, AR, FB, not_true, not_false_iff, ne_eq, hB1.cell] <;> rfl) (by rw [bl89]; simp [Instr.fill, Value.cells]; rfl)) ?_
          have hb4 := hb4
          refine WL.allocSt zr89 sz89 (fun u => by simp only [EN, Nat.reduceEqDiff, reduceIte, k0_c2, k1_c2, k3_c2, k8_c2, k9_c2, i10_c2, FB, not_true, not_false_iff, ne_eq, hB1.cell, Value.cells] <;> rfl) ⟨rfl, rfl⟩ (by simp [Value.oneCell']) ?_
          intro h30 B30 hx30 hlt30 hB30
          replace hE := hE.ext hx30
          replace hbk := hbk.ext hx30
          replace hrk2 := hrk2.ext hx30
          replace hB11 := hB11.ext hx30
          replace hb4 := hb4.ext hx30
          skip
          refine WL.nil ?_
          refine th_norm ?_
          refine hx_seq ?_
          refine hx_region ?_
          refine WL.qq (by simp only [EN, Nat.reduceEqDiff, reduceIte, qv_move, k1_c2, FB, not_true, not_false_iff, ne_eq, hB1.cell]; rfl) ?_
          have hgl2 := hg2.lk_; have hgs2 := hg2.sq_; have hgg2 := hg2.lg
          have hS31 : ∀ (T : TypeId), T ≠ bdT → T ≠ 83 → T ≠ 34 → ∀ x ∈ t :: foot p bm vo3, ∀ cur, ¬ Has h30 x (.cells cur T) := (fun T q1 q2 q3 x hx cur hc => by rcases List.mem_cons.1 hx with rfl | hx; exact hb4.blk.noty (Ne.symm q1) hc; exact foot_noty hbk q2 q3 x hx cur hc)
          refine WL.ce Try.call31 (by simp only [EN, Nat.reduceEqDiff, reduceIte, AR, FB, not_true, not_false_iff, ne_eq, hB1.cell]; exact c_commit (r := 21) (by simp) (by omega) (by omega) hg2.val (fun _ hh => by simp at hh) hbk hb4 rfl hE hfr3 htf) ?_
          rintro _ h31 ⟨rfl, hE31, hg31, ⟨ve6, hb6⟩, vo6, hbk6, hfr6, _⟩
          simp only [put_some]
          replace hrk2 := hrk2.gsT hg31 (fun x hx cur => ⟨hS31 _ (by decide) (by decide) (by decide) x hx cur, hS31 _ (by decide) (by decide) (by decide) x hx cur⟩)
          replace hB11 := hB11.gs hg31 (fun hh => hS31 _ (by decide) (by decide) (by decide) _ hh _ hB11)
          replace hB30 := hB30.gs hg31 (fun hh => hS31 _ (by decide) (by decide) (by decide) _ hh _ hB30)
          replace hE := hE31
          replace hb6 : Bd h31 N t p ve6 [] false := hb6
          replace hbk : IsBk h31 p bm fm vo6 (if r = 0 then putL s.ks es else s.ks) s.fs (if r = 0 then s.sq + 1 else s.sq) := hbk6
          refine WL.qq (by simp only [EN, Nat.reduceEqDiff, reduceIte, qv_binOp, binv_eql, eq45, Option.map_some, FB, not_true, not_false_iff, ne_eq, hB1.cell]; rfl) ?_
          refine WL.qq (by simp only [EN, Nat.reduceEqDiff, reduceIte, qv_move, FB, not_true, not_false_iff, ne_eq, hB1.cell]; rfl) ?_
          refine WL.cq (gd_at (t := 44) rfl (by simp only [EN, Nat.reduceEqDiff, reduceIte, k1_c2, FB, not_true, not_false_iff, ne_eq, hB1.cell] <;> rfl)) (fun hg11_4 => by simp only [EN, Nat.reduceEqDiff, reduceIte, qv_move, k1_c2, FB, not_true, not_false_iff, ne_eq, hB1.cell, hg11_4, GR]; rfl) ?_
          refine WL.cq (gd_at (t := 44) rfl (by simp only [EN, Nat.reduceEqDiff, reduceIte, FB, not_true, not_false_iff, ne_eq, hB1.cell] <;> rfl)) (fun hg11_5 => by simp only [EN, Nat.reduceEqDiff, reduceIte, k0_c2, k1_c2, k3_c2, k8_c2, k9_c2, i10_c2, FB, not_true, not_false_iff, ne_eq, hB1.cell, GR, hg11_5, qv_load, ld89, readN, hB30.cell, AR, Nat.zero_add, Nat.reduceAdd]; rfl) ?_
          refine WL.gy _ (gd_at (t := 44) rfl (by simp only [EN, Nat.reduceEqDiff, reduceIte, k0_c2, k1_c2, k3_c2, k8_c2, k9_c2, i10_c2, FB, not_true, not_false_iff, ne_eq, hB1.cell] <;> rfl)) (e_lit1 (N := 0) (Nat.zero_le _) Try.underlying47 sz89 zr89 (by decide) (by simp only [EN, Nat.reduceEqDiff, reduceIte, k0_c2, k1_c2, k3_c2, k8_c2, k9_c2, i10_c2, FB, not_true, not_false_iff, ne_eq, hB1.cell, Value.cells]; rfl) rfl) ?_
          rintro _ h32 ⟨hx32, ⟨B32, _, rfl⟩, hm32⟩
          simp only [put_some]
          have hB32 := hm32 B32 rfl
          replace hx32 : Ext _ _ := hx32
          replace hE := hE.ext hx32
          replace hbk := hbk.ext hx32
          replace hrk2 := hrk2.ext hx32
          replace hB11 := hB11.ext hx32
          replace hb6 := hb6.ext hx32
          have hs32 := one_sl (x := (⟨0, 0⟩, 0)) hB32
          refine WL.gy _ (gd_at (t := 44) rfl (by simp only [EN, Nat.reduceEqDiff, reduceIte, FB, not_true, not_false_iff, ne_eq, hB1.cell] <;> rfl)) (e_call Try.call30 (by simp only [EN, Nat.reduceEqDiff, reduceIte, AR, FB, not_true, not_false_iff, ne_eq, hB1.cell]; exact c_add (some ⟨B32, 0, none⟩) [(⟨0, 0⟩, 0)] 1 (r := 21) (by simp) (by simp) (Nat.le_trans hNt (Nat.le_of_lt (Array.getElem?_eq_some_iff.1 hb6.blk).1)) hb6 hs32 rfl)) ?_
          rintro _ h33 ⟨rfl, hno, _⟩
          simp only [put_some]
          have hx33 := hno (by decide)
          replace hE := hE.ext hx33
          replace hbk := hbk.ext hx33
          replace hrk2 := hrk2.ext hx33
          replace hB11 := hB11.ext hx33
          replace hb6 := hb6.ext hx33
          refine WL.cq (gd_at (t := 44) rfl (by simp only [EN, Nat.reduceEqDiff, reduceIte, FB, not_true, not_false_iff, ne_eq, hB1.cell] <;> rfl)) (fun hg11_8 => by simp only [EN, Nat.reduceEqDiff, reduceIte, qv_binOp, binv_eql, eq45, Option.map_some, FB, not_true, not_false_iff, ne_eq, hB1.cell, hg11_8, GR]; rfl) ?_
          refine WL.qq (by simp only [EN, Nat.reduceEqDiff, reduceIte, qv_pick, pk_and, pk_or, GR, FB, not_true, not_false_iff, ne_eq, hB1.cell]; rfl) ?_
          refine WL.qq (by simp only [EN, Nat.reduceEqDiff, reduceIte, qv_move, FB, not_true, not_false_iff, ne_eq, hB1.cell]; rfl) ?_
          refine WL.cq (gd_at (t := 51) rfl (by simp only [EN, Nat.reduceEqDiff, reduceIte, k1_c2, FB, not_true, not_false_iff, ne_eq, hB1.cell] <;> rfl)) (fun hg11_11 => by simp only [EN, Nat.reduceEqDiff, reduceIte, qv_move, k1_c2, FB, not_true, not_false_iff, ne_eq, hB1.cell, hg11_11, GR]; rfl) ?_
          refine WL.gy _ (gd_at (t := 51) rfl (by simp only [EN, Nat.reduceEqDiff, reduceIte, FB, not_true, not_false_iff, ne_eq, hB1.cell] <;> rfl)) (e_call Try.call32 (by simp only [EN, Nat.reduceEqDiff, reduceIte, AR, FB, not_true, not_false_iff, ne_eq, hB1.cell]; exact c_rollTo 0 hb6 (r := 21) rfl)) ?_
          rintro _ h34 ⟨rfl, hno4, _⟩
          simp only [put_some]
          have hh4 := hno4 (by decide)
          subst hh4
          refine WL.cq (gd_at (t := 51) rfl (by simp only [EN, Nat.reduceEqDiff, reduceIte, FB, not_true, not_false_iff, ne_eq, hB1.cell] <;> rfl)) (fun hg11_13 => by simp only [EN, Nat.reduceEqDiff, reduceIte, qv_binOp, binv_eql, eq45, Option.map_some, FB, not_true, not_false_iff, ne_eq, hB1.cell, hg11_13, GR]; rfl) ?_
          refine WL.qq (by simp only [EN, Nat.reduceEqDiff, reduceIte, qv_pick, pk_and, pk_or, GR, FB, not_true, not_false_iff, ne_eq, hB1.cell]; rfl) ?_
          refine WL.qq (by simp only [EN, Nat.reduceEqDiff, reduceIte, qv_move, FB, not_true, not_false_iff, ne_eq, hB1.cell]; rfl) ?_
          refine WL.cq (gd_at (t := 56) rfl (by simp only [EN, Nat.reduceEqDiff, reduceIte, k1_c2, FB, not_true, not_false_iff, ne_eq, hB1.cell] <;> rfl)) (fun hg11_16 => by simp only [EN, Nat.reduceEqDiff, reduceIte, qv_move, k1_c2, FB, not_true, not_false_iff, ne_eq, hB1.cell, hg11_16, GR]; rfl) ?_
          refine WL.gy _ (gd_at (t := 56) rfl (by simp only [EN, Nat.reduceEqDiff, reduceIte, FB, not_true, not_false_iff, ne_eq, hB1.cell] <;> rfl)) (e_call Try.call35 (by simp only [EN, Nat.reduceEqDiff, reduceIte, AR, FB, not_true, not_false_iff, ne_eq, hB1.cell]; exact c_ents (by simp) hb6)) ?_
          rintro v8 h35 ⟨hx35, hon8⟩
          simp only [put_some]
          obtain ⟨a8, c8, hv8, _⟩ := Own.slG (f := entL) (sz := 3) (fun _ => rfl) hon8 rfl
          have hv8' : v8 = .slice a8 0 c8 := hv8
          subst hv8'
          replace hE := hE.ext hx35
          replace hbk := hbk.ext hx35
          replace hrk2 := hrk2.ext hx35
          replace hB11 := hB11.ext hx35
          replace hb6 := hb6.ext hx35
          refine WL.cq (gd_at (t := 56) rfl (by simp only [EN, Nat.reduceEqDiff, reduceIte, FB, not_true, not_false_iff, ne_eq, hB1.cell] <;> rfl)) (fun hg11_18 => by simp only [EN, Nat.reduceEqDiff, reduceIte, qv_len, ln47, AR, FB, not_true, not_false_iff, ne_eq, hB1.cell, hg11_18, GR]; rfl) ?_
          refine WL.cq (gd_at (t := 56) rfl (by simp only [EN, Nat.reduceEqDiff, reduceIte, FB, not_true, not_false_iff, ne_eq, hB1.cell] <;> rfl)) (fun hg11_19 => by simp only [EN, Nat.reduceEqDiff, reduceIte, qv_binOp, binv_eql, eq3, Option.map_some, FB, not_true, not_false_iff, ne_eq, hB1.cell, hg11_19, GR]; rfl) ?_
          refine WL.qq (by simp only [EN, Nat.reduceEqDiff, reduceIte, qv_pick, pk_and, pk_or, GR, FB, not_true, not_false_iff, ne_eq, hB1.cell]; rfl) ?_
          refine WL.qq (by simp only [EN, Nat.reduceEqDiff, reduceIte, qv_move, FB, not_true, not_false_iff, ne_eq, hB1.cell]; rfl) ?_
          refine WL.cq (gd_at (t := 62) rfl (by simp only [EN, Nat.reduceEqDiff, reduceIte, k1_c2, FB, not_true, not_false_iff, ne_eq, hB1.cell] <;> rfl)) (fun hg11_22 => by simp only [EN, Nat.reduceEqDiff, reduceIte, qv_move, k1_c2, FB, not_true, not_false_iff, ne_eq, hB1.cell, hg11_22, GR]; rfl) ?_
          refine WL.cck (gd_at (t := 62) rfl (by simp only [EN, Nat.reduceEqDiff, reduceIte, FB, not_true, not_false_iff, ne_eq, hB1.cell] <;> rfl)) Try.call33 (fun hg11_23 => by simp only [EN, Nat.reduceEqDiff, reduceIte, AR, FB, not_true, not_false_iff, ne_eq, hB1.cell, hg11_23, GR]; exact c_save0 hb6) ?_
          refine WL.cq (gd_at (t := 62) rfl (by simp only [EN, Nat.reduceEqDiff, reduceIte, FB, not_true, not_false_iff, ne_eq, hB1.cell] <;> rfl)) (fun hg11_24 => by simp only [EN, Nat.reduceEqDiff, reduceIte, qv_binOp, binv_eql, eq3, Option.map_some, FB, not_true, not_false_iff, ne_eq, hB1.cell, hg11_24, GR]; rfl) ?_
          refine WL.qq (by simp only [EN, Nat.reduceEqDiff, reduceIte, qv_pick, pk_and, pk_or, GR, FB, not_true, not_false_iff, ne_eq, hB1.cell]; rfl) ?_
          refine WL.qq (by simp only [EN, Nat.reduceEqDiff, reduceIte, qv_move, FB, not_true, not_false_iff, ne_eq, hB1.cell]; rfl) ?_
          refine WL.cq (gd_at (t := 67) rfl (by simp only [EN, Nat.reduceEqDiff, reduceIte, k0_c2, FB, not_true, not_false_iff, ne_eq, hB1.cell] <;> rfl)) (fun hg11_27 => by simp only [EN, Nat.reduceEqDiff, reduceIte, qv_move, k0_c2, FB, not_true, not_false_iff, ne_eq, hB1.cell, hg11_27, GR]; rfl) ?_
          refine WL.cq (gd_at (t := 67) rfl (by simp only [EN, Nat.reduceEqDiff, reduceIte, k9_c2, FB, not_true, not_false_iff, ne_eq, hB1.cell] <;> rfl)) (fun hg11_28 => by simp only [EN, Nat.reduceEqDiff, reduceIte, k0_c2, k1_c2, k3_c2, k8_c2, k9_c2, i10_c2, FB, not_true, not_false_iff, ne_eq, hB1.cell, GR, hg11_28, qv_load, ld29, readN, hB11.cell, AR, Nat.zero_add, Nat.reduceAdd]; rfl) ?_
          refine WL.ccg (gd_at (t := 67) rfl (by simp only [EN, Nat.reduceEqDiff, reduceIte, FB, not_true, not_false_iff, ne_eq, hB1.cell] <;> rfl)) Try.call25 (fun hg11_29 => by simp only [EN, Nat.reduceEqDiff, reduceIte, AR, FB, not_true, not_false_iff, ne_eq, hB1.cell, hg11_29, GR]; exact c_same (hg2.up (by omega)) hbk hrk2) ?_
          intro h3 hx3
          replace hE := hE.ext hx3
          replace hbk := hbk.ext hx3
          replace hrk2 := hrk2.ext hx3
          replace hB11 := hB11.ext hx3
          refine WL.qq (by simp only [EN, Nat.reduceEqDiff, reduceIte, qv_pick, pk_and, pk_or, GR, FB, not_true, not_false_iff, ne_eq, hB1.cell]; rfl) ?_
          refine WL.qq (by simp only [EN, Nat.reduceEqDiff, reduceIte, qv_assign, FB, not_true, not_false_iff, ne_eq, hB1.cell]; rfl) ?_
          refine WL.nil ?_
          refine th_norm ?_
          refine hx_ret ?_
          refine fin_ret [.tmp 8] rfl rfl (by simp only [EN, Nat.reduceEqDiff, reduceIte, resv, k0_c2, k1_c2, k3_c2, k8_c2, k9_c2, i10_c2, FB, not_true, not_false_iff, ne_eq, hB1.cell]; rfl) ?_  -- ret 0 r11
          exact ⟨by simp [retOf], hE⟩
      ·
        try simp only [BD] at hct32
        have h50 : q = 0 := (by omega)
        have hb4 := hb3; rw [if_pos h50, if_pos h50] at hb4
        refine hx_skip ?_
        refine th_norm ?_
        refine hx_seq ?_
        refine hx_region ?_
        refine WL.qq (by refine qv_bld (by simp only [EN, Nat.reduceEqDiff, reduceIte, AR, FB, not_true, not_false_iff, ne_eq, hB1.cell] <;> rfl) (by rw [bl89]; simp [Instr.fill, Value.cells]; rfl)) ?_
        have hb4 := hb4
        refine WL.allocSt zr89 sz89 (fun u => by simp only [EN, Nat.reduceEqDiff, reduceIte, k0_c2, k1_c2, k3_c2, k8_c2, k9_c2, i10_c2, FB, not_true, not_false_iff, ne_eq, hB1.cell, Value.cells] <;> rfl) ⟨rfl, rfl⟩ (by simp [Value.oneCell']) ?_
        intro h30 B30 hx30 hlt30 hB30
        replace hE := hE.ext hx30
        replace hbk := hbk.ext hx30
        replace hrk2 := hrk2.ext hx30
        replace hB11 := hB11.ext hx30
        replace hb4 := hb4.ext hx30
        skip
        refine WL.nil ?_
        refine th_norm ?_
        refine hx_seq ?_
        refine hx_region ?_
        refine WL.qq (by simp only [EN, Nat.reduceEqDiff, reduceIte, qv_move, k1_c2, FB, not_true, not_false_iff, ne_eq, hB1.cell]; rfl) ?_
        have hgl2 := hg2.lk_; have hgs2 := hg2.sq_; have hgg2 := hg2.lg
        have hS31 : ∀ (T : TypeId), T ≠ bdT → T ≠ 83 → T ≠ 34 → ∀ x ∈ t :: foot p bm vo3, ∀ cur, ¬ Has h30 x (.cells cur T) := (fun T q1 q2 q3 x hx cur hc => by rcases List.mem_cons.1 hx with rfl | hx; exact hb4.blk.noty (Ne.symm q1) hc; exact foot_noty hbk q2 q3 x hx cur hc)
        refine WL.ce Try.call31 (by simp only [EN, Nat.reduceEqDiff, reduceIte, AR, FB, not_true, not_false_iff, ne_eq, hB1.cell]; exact c_commit (r := 21) (by simp) (by omega) (by omega) hg2.val (fun _ hh => by simp at hh) hbk hb4 rfl hE hfr3 htf) ?_
        rintro _ h31 ⟨rfl, hE31, hg31, ⟨ve6, hb6⟩, vo6, hbk6, hfr6, _⟩
        simp only [put_some]
        replace hrk2 := hrk2.gsT hg31 (fun x hx cur => ⟨hS31 _ (by decide) (by decide) (by decide) x hx cur, hS31 _ (by decide) (by decide) (by decide) x hx cur⟩)
        replace hB11 := hB11.gs hg31 (fun hh => hS31 _ (by decide) (by decide) (by decide) _ hh _ hB11)
        replace hB30 := hB30.gs hg31 (fun hh => hS31 _ (by decide) (by decide) (by decide) _ hh _ hB30)
        replace hE := hE31
        replace hb6 : Bd h31 N t p ve6 [] false := hb6
        replace hbk : IsBk h31 p bm fm vo6 (if r = 0 then putL s.ks es else s.ks) s.fs (if r = 0 then s.sq + 1 else s.sq) := hbk6
        refine WL.qq (by simp only [EN, Nat.reduceEqDiff, reduceIte, qv_binOp, binv_eql, eq45, Option.map_some, FB, not_true, not_false_iff, ne_eq, hB1.cell]; rfl) ?_
        refine WL.qq (by simp only [EN, Nat.reduceEqDiff, reduceIte, qv_move, FB, not_true, not_false_iff, ne_eq, hB1.cell]; rfl) ?_
        refine WL.cq (gd_at (t := 44) rfl (by simp only [EN, Nat.reduceEqDiff, reduceIte, k1_c2, FB, not_true, not_false_iff, ne_eq, hB1.cell] <;> rfl)) (fun hg11_4 => by simp only [EN, Nat.reduceEqDiff, reduceIte, qv_move, k1_c2, FB, not_true, not_false_iff, ne_eq, hB1.cell, hg11_4, GR]; rfl) ?_
        refine WL.cq (gd_at (t := 44) rfl (by simp only [EN, Nat.reduceEqDiff, reduceIte, FB, not_true, not_false_iff, ne_eq, hB1.cell] <;> rfl)) (fun hg11_5 => by simp only [EN, Nat.reduceEqDiff, reduceIte, k0_c2, k1_c2, k3_c2, k8_c2, k9_c2, i10_c2, FB, not_true, not_false_iff, ne_eq, hB1.cell, GR, hg11_5, qv_load, ld89, readN, hB30.cell, AR, Nat.zero_add, Nat.reduceAdd]; rfl) ?_
        refine WL.gy _ (gd_at (t := 44) rfl (by simp only [EN, Nat.reduceEqDiff, reduceIte, k0_c2, k1_c2, k3_c2, k8_c2, k9_c2, i10_c2, FB, not_true, not_false_iff, ne_eq, hB1.cell] <;> rfl)) (e_lit1 (N := 0) (Nat.zero_le _) Try.underlying47 sz89 zr89 (by decide) (by simp only [EN, Nat.reduceEqDiff, reduceIte, k0_c2, k1_c2, k3_c2, k8_c2, k9_c2, i10_c2, FB, not_true, not_false_iff, ne_eq, hB1.cell, Value.cells]; rfl) rfl) ?_
        rintro _ h32 ⟨hx32, ⟨B32, _, rfl⟩, hm32⟩
        simp only [put_some]
        have hB32 := hm32 B32 rfl
        replace hx32 : Ext _ _ := hx32
        replace hE := hE.ext hx32
        replace hbk := hbk.ext hx32
        replace hrk2 := hrk2.ext hx32
        replace hB11 := hB11.ext hx32
        replace hb6 := hb6.ext hx32
        have hs32 := one_sl (x := (⟨0, 0⟩, 0)) hB32
        refine WL.gy _ (gd_at (t := 44) rfl (by simp only [EN, Nat.reduceEqDiff, reduceIte, FB, not_true, not_false_iff, ne_eq, hB1.cell] <;> rfl)) (e_call Try.call30 (by simp only [EN, Nat.reduceEqDiff, reduceIte, AR, FB, not_true, not_false_iff, ne_eq, hB1.cell]; exact c_add (some ⟨B32, 0, none⟩) [(⟨0, 0⟩, 0)] 1 (r := 21) (by simp) (by simp) (Nat.le_trans hNt (Nat.le_of_lt (Array.getElem?_eq_some_iff.1 hb6.blk).1)) hb6 hs32 rfl)) ?_
        rintro _ h33 ⟨rfl, hno, _⟩
        simp only [put_some]
        have hx33 := hno (by decide)
        replace hE := hE.ext hx33
        replace hbk := hbk.ext hx33
        replace hrk2 := hrk2.ext hx33
        replace hB11 := hB11.ext hx33
        replace hb6 := hb6.ext hx33
        refine WL.cq (gd_at (t := 44) rfl (by simp only [EN, Nat.reduceEqDiff, reduceIte, FB, not_true, not_false_iff, ne_eq, hB1.cell] <;> rfl)) (fun hg11_8 => by simp only [EN, Nat.reduceEqDiff, reduceIte, qv_binOp, binv_eql, eq45, Option.map_some, FB, not_true, not_false_iff, ne_eq, hB1.cell, hg11_8, GR]; rfl) ?_
        refine WL.qq (by simp only [EN, Nat.reduceEqDiff, reduceIte, qv_pick, pk_and, pk_or, GR, FB, not_true, not_false_iff, ne_eq, hB1.cell]; rfl) ?_
        refine WL.qq (by simp only [EN, Nat.reduceEqDiff, reduceIte, qv_move, FB, not_true, not_false_iff, ne_eq, hB1.cell]; rfl) ?_
        refine WL.cq (gd_at (t := 51) rfl (by simp only [EN, Nat.reduceEqDiff, reduceIte, k1_c2, FB, not_true, not_false_iff, ne_eq, hB1.cell] <;> rfl)) (fun hg11_11 => by simp only [EN, Nat.reduceEqDiff, reduceIte, qv_move, k1_c2, FB, not_true, not_false_iff, ne_eq, hB1.cell, hg11_11, GR]; rfl) ?_
        refine WL.gy _ (gd_at (t := 51) rfl (by simp only [EN, Nat.reduceEqDiff, reduceIte, FB, not_true, not_false_iff, ne_eq, hB1.cell] <;> rfl)) (e_call Try.call32 (by simp only [EN, Nat.reduceEqDiff, reduceIte, AR, FB, not_true, not_false_iff, ne_eq, hB1.cell]; exact c_rollTo 0 hb6 (r := 21) rfl)) ?_
        rintro _ h34 ⟨rfl, hno4, _⟩
        simp only [put_some]
        have hh4 := hno4 (by decide)
        subst hh4
        refine WL.cq (gd_at (t := 51) rfl (by simp only [EN, Nat.reduceEqDiff, reduceIte, FB, not_true, not_false_iff, ne_eq, hB1.cell] <;> rfl)) (fun hg11_13 => by simp only [EN, Nat.reduceEqDiff, reduceIte, qv_binOp, binv_eql, eq45, Option.map_some, FB, not_true, not_false_iff, ne_eq, hB1.cell, hg11_13, GR]; rfl) ?_
        refine WL.qq (by simp only [EN, Nat.reduceEqDiff, reduceIte, qv_pick, pk_and, pk_or, GR, FB, not_true, not_false_iff, ne_eq, hB1.cell]; rfl) ?_
        refine WL.qq (by simp only [EN, Nat.reduceEqDiff, reduceIte, qv_move, FB, not_true, not_false_iff, ne_eq, hB1.cell]; rfl) ?_
        refine WL.cq (gd_at (t := 56) rfl (by simp only [EN, Nat.reduceEqDiff, reduceIte, k1_c2, FB, not_true, not_false_iff, ne_eq, hB1.cell] <;> rfl)) (fun hg11_16 => by simp only [EN, Nat.reduceEqDiff, reduceIte, qv_move, k1_c2, FB, not_true, not_false_iff, ne_eq, hB1.cell, hg11_16, GR]; rfl) ?_
        refine WL.gy _ (gd_at (t := 56) rfl (by simp only [EN, Nat.reduceEqDiff, reduceIte, FB, not_true, not_false_iff, ne_eq, hB1.cell] <;> rfl)) (e_call Try.call35 (by simp only [EN, Nat.reduceEqDiff, reduceIte, AR, FB, not_true, not_false_iff, ne_eq, hB1.cell]; exact c_ents (by simp) hb6)) ?_
        rintro v8 h35 ⟨hx35, hon8⟩
        simp only [put_some]
        obtain ⟨a8, c8, hv8, _⟩ := Own.slG (f := entL) (sz := 3) (fun _ => rfl) hon8 rfl
        have hv8' : v8 = .slice a8 0 c8 := hv8
        subst hv8'
        replace hE := hE.ext hx35
        replace hbk := hbk.ext hx35
        replace hrk2 := hrk2.ext hx35
        replace hB11 := hB11.ext hx35
        replace hb6 := hb6.ext hx35
        refine WL.cq (gd_at (t := 56) rfl (by simp only [EN, Nat.reduceEqDiff, reduceIte, FB, not_true, not_false_iff, ne_eq, hB1.cell] <;> rfl)) (fun hg11_18 => by simp only [EN, Nat.reduceEqDiff, reduceIte, qv_len, ln47, AR, FB, not_true, not_false_iff, ne_eq, hB1.cell, hg11_18, GR]; rfl) ?_
        refine WL.cq (gd_at (t := 56) rfl (by simp only [EN, Nat.reduceEqDiff, reduceIte, FB, not_true, not_false_iff, ne_eq, hB1.cell] <;> rfl)) (fun hg11_19 => by simp only [EN, Nat.reduceEqDiff, reduceIte, qv_binOp, binv_eql, eq3, Option.map_some, FB, not_true, not_false_iff, ne_eq, hB1.cell, hg11_19, GR]; rfl) ?_
        refine WL.qq (by simp only [EN, Nat.reduceEqDiff, reduceIte, qv_pick, pk_and, pk_or, GR, FB, not_true, not_false_iff, ne_eq, hB1.cell]; rfl) ?_
        refine WL.qq (by simp only [EN, Nat.reduceEqDiff, reduceIte, qv_move, FB, not_true, not_false_iff, ne_eq, hB1.cell]; rfl) ?_
        refine WL.cq (gd_at (t := 62) rfl (by simp only [EN, Nat.reduceEqDiff, reduceIte, k1_c2, FB, not_true, not_false_iff, ne_eq, hB1.cell] <;> rfl)) (fun hg11_22 => by simp only [EN, Nat.reduceEqDiff, reduceIte, qv_move, k1_c2, FB, not_true, not_false_iff, ne_eq, hB1.cell, hg11_22, GR]; rfl) ?_
        refine WL.cck (gd_at (t := 62) rfl (by simp only [EN, Nat.reduceEqDiff, reduceIte, FB, not_true, not_false_iff, ne_eq, hB1.cell] <;> rfl)) Try.call33 (fun hg11_23 => by simp only [EN, Nat.reduceEqDiff, reduceIte, AR, FB, not_true, not_false_iff, ne_eq, hB1.cell, hg11_23, GR]; exact c_save0 hb6) ?_
        refine WL.cq (gd_at (t := 62) rfl (by simp only [EN, Nat.reduceEqDiff, reduceIte, FB, not_true, not_false_iff, ne_eq, hB1.cell] <;> rfl)) (fun hg11_24 => by simp only [EN, Nat.reduceEqDiff, reduceIte, qv_binOp, binv_eql, eq3, Option.map_some, FB, not_true, not_false_iff, ne_eq, hB1.cell, hg11_24, GR]; rfl) ?_
        refine WL.qq (by simp only [EN, Nat.reduceEqDiff, reduceIte, qv_pick, pk_and, pk_or, GR, FB, not_true, not_false_iff, ne_eq, hB1.cell]; rfl) ?_
        refine WL.qq (by simp only [EN, Nat.reduceEqDiff, reduceIte, qv_move, FB, not_true, not_false_iff, ne_eq, hB1.cell]; rfl) ?_
        refine WL.cq (gd_at (t := 67) rfl (by simp only [EN, Nat.reduceEqDiff, reduceIte, k0_c2, FB, not_true, not_false_iff, ne_eq, hB1.cell] <;> rfl)) (fun hg11_27 => by simp only [EN, Nat.reduceEqDiff, reduceIte, qv_move, k0_c2, FB, not_true, not_false_iff, ne_eq, hB1.cell, hg11_27, GR]; rfl) ?_
        refine WL.cq (gd_at (t := 67) rfl (by simp only [EN, Nat.reduceEqDiff, reduceIte, k9_c2, FB, not_true, not_false_iff, ne_eq, hB1.cell] <;> rfl)) (fun hg11_28 => by simp only [EN, Nat.reduceEqDiff, reduceIte, k0_c2, k1_c2, k3_c2, k8_c2, k9_c2, i10_c2, FB, not_true, not_false_iff, ne_eq, hB1.cell, GR, hg11_28, qv_load, ld29, readN, hB11.cell, AR, Nat.zero_add, Nat.reduceAdd]; rfl) ?_
        refine WL.ccg (gd_at (t := 67) rfl (by simp only [EN, Nat.reduceEqDiff, reduceIte, FB, not_true, not_false_iff, ne_eq, hB1.cell] <;> rfl)) Try.call25 (fun hg11_29 => by simp only [EN, Nat.reduceEqDiff, reduceIte, AR, FB, not_true, not_false_iff, ne_eq, hB1.cell, hg11_29, GR]; exact c_same (hg2.up (by omega)) hbk hrk2) ?_
        intro h4 hx4
        replace hE := hE.ext hx4
        replace hbk := hbk.ext hx4
        replace hrk2 := hrk2.ext hx4
        replace hB11 := hB11.ext hx4
        refine WL.qq (by simp only [EN, Nat.reduceEqDiff, reduceIte, qv_pick, pk_and, pk_or, GR, FB, not_true, not_false_iff, ne_eq, hB1.cell]; rfl) ?_
        refine WL.qq (by simp only [EN, Nat.reduceEqDiff, reduceIte, qv_assign, FB, not_true, not_false_iff, ne_eq, hB1.cell]; rfl) ?_
        refine WL.nil ?_
        refine th_norm ?_
        refine hx_ret ?_
        refine fin_ret [.tmp 8] rfl rfl (by simp only [EN, Nat.reduceEqDiff, reduceIte, resv, k0_c2, k1_c2, k3_c2, k8_c2, k9_c2, i10_c2, FB, not_true, not_false_iff, ne_eq, hB1.cell]; rfl) ?_  -- ret 1 r11
        exact ⟨by simp [retOf], hE⟩
end GL


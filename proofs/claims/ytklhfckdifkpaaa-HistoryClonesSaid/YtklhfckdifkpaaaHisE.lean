/- History: the check of a bundle that is to be appended. -/
import Derived.Test.YtklhfckdifkpaaaHisC
set_option linter.unusedSimpArgs false
set_option linter.unusedVariables false
set_option linter.unnecessarySimpa false
namespace GL
open Go Go.Proofs
set_option maxRecDepth 8000
theorem acV_inj {a b : AC} (h : acV a = acV b) : a = b := by
  simp [acV] at h
  cases a; cases b; simp_all
theorem ktA : KT Try.prog 35 acV := by
  refine kt_struct Try.underlying35 acV_inj (fun a => ⟨_, rfl, ?_⟩) (fun a b => ?_) (fun a => by simp [acV, Instr.sameBits, strEq])
  · intro f hf hn
    simp only [List.mem_cons, List.not_mem_nil, or_false] at hf
    rcases hf with rfl | rfl | rfl
    · exact ⟨_, _, (pt9 _ _).trans rfl, Try.underlying9, trivial⟩
    · exact ⟨_, _, (pt3 _ _).trans rfl, Try.underlying3, rfl⟩
    · exact ⟨_, _, (pt9 _ _).trans rfl, Try.underlying9, trivial⟩
  · refine ((eqv_struct Try.underlying35 (by kernel_rfl)).trans (eqFs_c (by decide) ((pt9 _ _).trans rfl) ((pt9 _ _).trans rfl) (eqv_string Try.underlying9) (eqFs_c (by decide) ((pt3 _ _).trans rfl) ((pt3 _ _).trans rfl) (eqv_int Try.underlying3) (eqFs_c (by decide) ((pt9 _ _).trans rfl) ((pt9 _ _).trans rfl) (eqv_string Try.underlying9) rfl)))).trans ?_
    congr 1
    rw [Bool.eq_iff_iff]
    simp [strEq, ac_eq]
theorem lkB {h : Heap} {b : Nat} {l : List (AC × Int)} (hm : MapT acV wV h b l) (q : AC) : GL.lookv Try.prog 131 (.map (some b)) (acV q) false h = some (wV (lk l q)) := by
  rw [hm.lookv (z := 0) ktA Try.underlying131 zr95 q false]; rfl
theorem lkBt {h : Heap} {b : Nat} {l : List (AC × Int)} (hm : MapT acV wV h b l) (q : AC) : GL.lookv Try.prog 131 (.map (some b)) (acV q) true h = some (.tuple #[wV (lk l q), .bool (l.lookup q).isSome]) := by
  rw [hm.lookv (z := 0) ktA Try.underlying131 zr95 q true]; rfl
/-- The balances after the first postings. -/
structure KB (l : List HB) (ps : List PO) (L : List (AC × Int)) : Prop where
  keys : ∀ q, q ∈ L.map Prod.fst ↔ ∃ x ∈ ps, x.c = q
  val : ∀ q, q ∈ L.map Prod.fst → lk L q = dS q (allP l) + dS q ps
theorem KB.nil (l : List HB) : KB l [] [] := ⟨fun q => by simp, fun q h => by cases h⟩
theorem dS_none {q : AC} {ps : List PO} (h : ¬ ∃ x ∈ ps, x.c = q) : dS q ps = 0 := sumF_zero fun x hx => if_neg fun hh => h ⟨x, hx, hh⟩
/-- With the balance ahead. -/
theorem KB.pre {l : List HB} {ps : List PO} {L : List (AC × Int)} (h : KB l ps L) (q : AC) : ∃ L', L' = (if (L.lookup q).isSome = true then L else mset L q (dS q (allP l))) ∧ lk L' q = dS q (allP l) + dS q ps := by
  refine ⟨_, rfl, ?_⟩
  by_cases hq : (L.lookup q).isSome = true
  · rw [if_pos hq]
    exact h.val q (isSome_iff.1 hq)
  · rw [if_neg hq, lk_mset, if_pos rfl, dS_none (fun hh => hq (isSome_iff.2 ((h.keys q).2 hh))), Int.add_zero]
theorem KB.step {l : List HB} {ps : List PO} {L L' : List (AC × Int)} {x : PO} (h : KB l ps L) (hL : L' = (if (L.lookup x.c).isSome = true then L else mset L x.c (dS x.c (allP l)))) : KB l (ps ++ [x]) (mset L' x.c (lk L' x.c + x.d)) := by
  obtain ⟨L2, h1, h2⟩ := h.pre x.c
  rw [← hL] at h1
  subst h1
  have hk : ∀ q, q ∈ L2.map Prod.fst → q = x.c ∨ q ∈ L.map Prod.fst := by
    intro q hq
    rw [hL] at hq
    split at hq
    · exact .inr hq
    · exact (mset_keys _ _ _ _).1 hq
  have hk2 : ∀ q, q ∈ L.map Prod.fst → q ∈ L2.map Prod.fst := by
    intro q hq
    rw [hL]
    split
    · exact hq
    · exact (mset_keys _ _ _ _).2 (.inr hq)
  have hlk : ∀ q, q ≠ x.c → lk L2 q = lk L q := by
    intro q hq
    rw [hL]
    split
    · rfl
    · rw [lk_mset, if_neg (fun hh => hq hh.symm)]
  refine ⟨fun q => ?_, fun q hq => ?_⟩
  · rw [mset_keys]
    constructor
    · rintro (rfl | hq)
      · exact ⟨x, by simp, rfl⟩
      · rcases hk q hq with rfl | hq
        · exact ⟨x, by simp, rfl⟩
        · obtain ⟨y, hy, hyq⟩ := (h.keys q).1 hq
          exact ⟨y, by simp [hy], hyq⟩
    · rintro ⟨y, hy, rfl⟩
      rcases List.mem_append.1 hy with hy | hy
      · exact .inr (hk2 _ ((h.keys _).2 ⟨y, hy, rfl⟩))
      · simp at hy; subst hy; exact .inl rfl
  · rw [lk_mset, dS_app, dS_one]
    by_cases hqx : x.c = q
    · subst hqx
      rw [if_pos rfl, if_pos rfl, h2]; omega
    · rw [if_neg hqx, if_neg hqx, hlk q (fun hh => hqx hh.symm), Int.add_zero]
      rcases (mset_keys _ _ _ _).1 hq with rfl | hq
      · exact absurd rfl hqx
      · rcases hk q hq with rfl | hq
        · exact absurd rfl hqx
        · exact h.val q hq
theorem KB.ovf {l : List HB} {b : HB} {L : List (AC × Int)} (h : KB l (pos b) L) (hn : (L.map Prod.fst).Nodup) : GL.ovf l b ↔ ¬ ∀ y ∈ L, inR y.2 := by
  have key : ∀ q, dS q (allP (l ++ [b])) = dS q (allP l) + dS q (pos b) := fun q => by rw [allP_app, allP_one, dS_app]
  unfold GL.ovf
  refine not_congr ⟨fun hh y hy => ?_, fun hh x hx => ?_⟩
  · have hy1 : y.1 ∈ L.map Prod.fst := List.mem_map.2 ⟨y, hy, rfl⟩
    obtain ⟨x, hx, hxq⟩ := (h.keys y.1).1 hy1
    have h1 := hh x hx
    rw [hxq, key, ← h.val y.1 hy1, lk_mem hn (show (y.1, y.2) ∈ L from hy)] at h1
    exact h1
  · have hq : x.c ∈ L.map Prod.fst := (h.keys x.c).2 ⟨x, hx, rfl⟩
    obtain ⟨y, hy, hyx⟩ := List.mem_map.1 hq
    rw [key, ← h.val x.c hq, ← hyx, lk_mem hn (show (y.1, y.2) ∈ L from hy)]
    exact hh y hy
section
variable {l : List HB} {b : HB}
theorem bdE_seq (h : b.s ≠ l.length + 1) : bdE l b = 23 := if_pos h
theorem bdE_rng (h1 : b.s = l.length + 1) (h : b.day < 0 ∨ 73048 < b.day ∨ b.mn < 0 ∨ 1439 < b.mn) : bdE l b = 2 := (if_neg (fun hh => hh h1)).trans (if_pos h)
theorem bdE_stale (h1 : b.s = l.length + 1) (h2 : ¬ (b.day < 0 ∨ 73048 < b.day ∨ b.mn < 0 ∨ 1439 < b.mn)) (h : lateB l b = true) : bdE l b = 20 := (if_neg (fun hh => hh h1)).trans ((if_neg h2).trans (if_pos h))
theorem bdE_arg (h1 : b.s = l.length + 1) (h2 : ¬ (b.day < 0 ∨ 73048 < b.day ∨ b.mn < 0 ∨ 1439 < b.mn)) (h3 : ¬ lateB l b = true) (h : b.pts = []) : bdE l b = 1 := (if_neg (fun hh => hh h1)).trans ((if_neg h2).trans ((if_neg h3).trans (if_pos h)))
theorem bdE_pt (h1 : b.s = l.length + 1) (h2 : ¬ (b.day < 0 ∨ 73048 < b.day ∨ b.mn < 0 ∨ 1439 < b.mn)) (h3 : ¬ lateB l b = true) (h4 : b.pts ≠ []) (h : fstE (b.pts.map ptE) ≠ 0) : bdE l b = fstE (b.pts.map ptE) :=
  (if_neg (fun hh => hh h1)).trans ((if_neg h2).trans ((if_neg h3).trans ((if_neg h4).trans (if_pos h))))
theorem bdE_ovf (h1 : b.s = l.length + 1) (h2 : ¬ (b.day < 0 ∨ 73048 < b.day ∨ b.mn < 0 ∨ 1439 < b.mn)) (h3 : ¬ lateB l b = true) (h4 : b.pts ≠ []) (h5 : fstE (b.pts.map ptE) = 0) (h : GL.ovf l b) : bdE l b = 12 :=
  (if_neg (fun hh => hh h1)).trans ((if_neg h2).trans ((if_neg h3).trans ((if_neg h4).trans ((if_neg (fun hh => hh h5)).trans (if_pos h)))))
theorem bdE_ok (h1 : b.s = l.length + 1) (h2 : ¬ (b.day < 0 ∨ 73048 < b.day ∨ b.mn < 0 ∨ 1439 < b.mn)) (h3 : ¬ lateB l b = true) (h4 : b.pts ≠ []) (h5 : fstE (b.pts.map ptE) = 0) (h : ¬ GL.ovf l b) : bdE l b = 0 :=
  (if_neg (fun hh => hh h1)).trans ((if_neg h2).trans ((if_neg h3).trans ((if_neg h4).trans ((if_neg (fun hh => hh h5)).trans (if_neg h)))))
end
theorem fstE_at {l : List Int} {i : Nat} {e : Int} (h0 : fstE (l.take i) = 0) (h : l[i]? = some e) (he : e ≠ 0) : fstE l = e := by
  have h1 : l = l.take i ++ e :: l.drop (i + 1) := by
    rw [← drop_atG h, List.take_append_drop]
  rw [h1, fstE_app, if_pos h0]
  simp only [fstE]
  rw [if_neg he]
theorem fstE_step {l : List Int} {i : Nat} (h0 : fstE (l.take i) = 0) (h : l[i]? = some 0) : fstE (l.take (i + 1)) = 0 := by
  rw [List.take_add_one, h, fstE_app, if_pos h0]
  simp [fstE]
theorem late_of {xs : List BX} {b : HB} {y : BX} (h : xs[xs.length - 1]? = some y) : lateB (xs.map BX.bd) b = decide (ltr b.day b.mn y.day y.mn) := by
  have h1 : (xs.map BX.bd).getLast? = some y.bd := by
    rw [List.getLast?_eq_getElem?, List.getElem?_map, List.length_map, h]; rfl
  simp only [lateB, h1]
  rfl
/-- The last bundle, if there is one. -/
theorem last_ex (av : Option Addr) (xs : List BX) {h : Heap} (hs : SlG 4 bdL h av xs) : ∃ (lb lo : Nat) (y : BX), xs ≠ [] → av = some ⟨lb, lo, none⟩ ∧ xs[xs.length - 1]? = some y := by
  by_cases hx : xs = []
  · exact ⟨0, 0, ⟨0, 0, 0, none, [], 0⟩, fun hh => absurd hx hh⟩
  · have hp := List.length_pos_iff.2 hx
    obtain ⟨y, hy⟩ := atG (l := xs) (i := xs.length - 1) (by omega)
    obtain ⟨b, o, ha, _⟩ := hs _ _ hy
    exact ⟨b, o, y, fun _ => ⟨ha, hy⟩⟩
structure CB (h0 h7 : Heap) (B : Nat) (rec : Loop) (l : List HB) (ps : List PO) (hx : Heap) : Prop where
  rx : RX h0 h7 [B] rec hx
  ex : ∃ L, MapT acV wV hx B L ∧ KB l ps L
set_option maxHeartbeats 4000000 in
theorem c_check {h : Heap} {p : Nat} {l : List HB} (x : BX) (hg : GS l) (hr : HR h p l) (hin : BXin h x) (hf : FB x.bd) :
    HCalls Try.prog 58 #[ptr p, .agg (bdL x).toArray] h (Grow (iV (bdE l x.bd)) h) := by
  have hr0 := hr
  obtain ⟨av, cap, xs, hp, hsx, hxl, hbx, hcap, hsp⟩ := hr.ex
  have kin := hin
  have hbi := hin
  have kp := hp
  have hlens := hf.lens
  have hx12 : xs.length ≤ 12 := by have := hg.n; rw [← hxl] at this; simpa using this
  have hs1 : (l.length : Int) = xs.length := by rw [← hxl, List.length_map]
  have htk : l.take xs.length = l := by rw [← hxl]; exact List.take_of_length_le (by rw [List.length_map]; exact Nat.le_refl _)
  have hll : xs.length ≤ l.length := by omega
  obtain ⟨lb, lo, ly, hlast⟩ := last_ex av xs hsx
  have h8 : x.ps.length ≤ 8 := by have := hf.1; simpa [BX.bd] using this
  have hp12 : ∀ q ∈ x.ps, q.ps.length ≤ 12 := fun q hq => (hf.2 q.pt (List.mem_map.2 ⟨q, hq, rfl⟩)).1
  have ksx := hsx
  refine hcalls2 Try.func58 rfl (by decide +kernel) (by simp only [Try.ntmps58]; exact of_decide_eq_true rfl) ?_
  intro e hin
  have e0 := hin 0 _ rfl
  have e1 := hin 1 _ rfl
  refine hx_seq ?_
  refine hx_region ?_
  refine WL.box2 (by simp only [EN, Nat.reduceEqDiff, reduceIte, Value.cells, e0, hp.cell]; rfl) ?_
  intro h1 B1 hx1 hlt1 hB1
  replace hp := hp.ext hx1
  replace hr0 := hr0.ext hx1
  replace hsx := hsx.ext hx1
  replace hbi := hbi.ext hx1
  refine WL.box2 (by simp only [EN, Nat.reduceEqDiff, reduceIte, Value.cells, e1, hp.cell, hB1.cell]; rfl) ?_
  intro h2 B2 hx2 hlt2 hB2
  replace hp := hp.ext hx2
  replace hr0 := hr0.ext hx2
  replace hsx := hsx.ext hx2
  replace hbi := hbi.ext hx2
  replace hB1 := hB1.ext hx2
  refine WL.qq (by simp only [EN, Nat.reduceEqDiff, reduceIte, qv_assign, hp.cell, hB1.cell, hB2.cell]; rfl) ?_
  refine WL.nil ?_
  refine th_norm ?_
  refine hx_seq ?_
  refine hx_block ?_
  refine hx_seq ?_
  refine hx_region ?_
  refine WL.qq (by simp only [EN, Nat.reduceEqDiff, reduceIte, qv_load, ld27, readN, AR, Nat.zero_add, Nat.reduceAdd, hp.cell, hB1.cell, hB2.cell]; rfl) ?_
  refine WL.qq (by simp only [EN, Nat.reduceEqDiff, reduceIte, qv_binOp, binv_eql, eqz27, eqn27, eqm27, Option.map_some, hp.cell, hB1.cell, hB2.cell]; rfl) ?_
  refine WL.qq (by simp only [EN, Nat.reduceEqDiff, reduceIte, qv_assign, hp.cell, hB1.cell, hB2.cell]; rfl) ?_
  refine WL.nil ?_
  refine th_norm ?_
  refine hx_cond (by simp only [EN, Nat.reduceEqDiff, reduceIte, hp.cell, hB1.cell, hB2.cell]; rfl) (fun hct15 => ?_) (fun hct15 => ?_)
  ·
    simp at hct15
  ·
    try simp only [BD] at hct15
    refine hx_seq ?_
    apply hx_draw2 Rel.same [] [] [] rfl (by decide +kernel) rfl
    refine LD.qq rfl rfl (by simp only [EN, Nat.reduceEqDiff, reduceIte, qv_fieldAddr, fa55_0, Nat.zero_add, Nat.reduceAdd, hp.cell, hB1.cell, hB2.cell]; rfl) ?_
    refine LD.qq rfl rfl (by simp only [EN, Nat.reduceEqDiff, reduceIte, qv_load, ld3, readN, AR, Nat.zero_add, Nat.reduceAdd, hp.cell, hB1.cell, hB2.cell]; rfl) ?_
    refine LD.qq rfl rfl (by simp only [EN, Nat.reduceEqDiff, reduceIte, qv_load, ld27, readN, AR, Nat.zero_add, Nat.reduceAdd, hp.cell, hB1.cell, hB2.cell]; rfl) ?_
    refine LD.qq rfl rfl (by simp only [EN, Nat.reduceEqDiff, reduceIte, qv_nilCheck, hp.cell, hB1.cell, hB2.cell]; rfl) ?_
    refine LD.qq rfl rfl (by simp only [EN, Nat.reduceEqDiff, reduceIte, qv_fieldAddr, fa93_0, Nat.zero_add, Nat.reduceAdd, hp.cell, hB1.cell, hB2.cell]; rfl) ?_
    refine LD.qq rfl rfl (by simp only [EN, Nat.reduceEqDiff, reduceIte, qv_load, ld91, readN, AR, Nat.zero_add, Nat.reduceAdd, hp.cell, hB1.cell, hB2.cell]; rfl) ?_
    refine LD.qq rfl rfl (by simp only [EN, Nat.reduceEqDiff, reduceIte, qv_len, ln91, AR, hp.cell, hB1.cell, hB2.cell]; rfl) ?_
    refine LD.qq rfl rfl (by simp only [EN, Nat.reduceEqDiff, reduceIte, qv_binOp, binv_add, hp.cell, hB1.cell, hB2.cell]; (try simp (disch := omega) only [w64, w8, wu64]); rfl) ?_
    refine LD.qq rfl rfl (by simp only [EN, Nat.reduceEqDiff, reduceIte, qv_binOp, binv_neq, eq3, Option.map_some, hp.cell, hB1.cell, hB2.cell]; rfl) ?_
    refine LD.qq rfl rfl (by simp only [EN, Nat.reduceEqDiff, reduceIte, qv_assign, hp.cell, hB1.cell, hB2.cell]; rfl) ?_
    refine LD.nil ?_
    rintro _ rfl -
    refine WL.nil ?_
    refine th_norm ?_
    refine hx_cond (by simp only [EN, Nat.reduceEqDiff, reduceIte, hp.cell, hB1.cell, hB2.cell]; rfl) (fun hct18 => ?_) (fun hct18 => ?_)
    ·
      try simp only [BD] at hct18
      refine hx_seq ?_
      refine hx_region ?_
      refine WL.qq (by simp only [EN, Nat.reduceEqDiff, reduceIte, qv_assign, hp.cell, hB1.cell, hB2.cell]; rfl) ?_
      refine WL.nil ?_
      refine th_norm ?_
      refine hx_ret ?_
      refine bl_ret ?_
      refine th_ret ?_
      refine fin_ret [.tmp 4] rfl rfl (by simp only [EN, Nat.reduceEqDiff, reduceIte, resv, e0, e1, hp.cell, hB1.cell, hB2.cell]; rfl) ?_  -- ret 0 r4
      exact ⟨(congrArg iV (bdE_seq (b := x.bd) (by rw [hs1]; exact hct18))).symm, ((hx1).trans (hx2))⟩
    ·
      try simp only [BD] at hct18
      have hq1 : x.bd.s = (l.length : Int) + 1 := (by rw [hs1]; show x.s = _; simpa using hct18)
      refine hx_seq ?_
      refine hx_region ?_
      refine WL.qq (by simp only [EN, Nat.reduceEqDiff, reduceIte, qv_fieldAddr, fa55_1, Nat.zero_add, Nat.reduceAdd, hp.cell, hB1.cell, hB2.cell]; rfl) ?_
      refine WL.qq (by simp only [EN, Nat.reduceEqDiff, reduceIte, qv_fieldAddr, fa41_0, Nat.zero_add, Nat.reduceAdd, hp.cell, hB1.cell, hB2.cell]; rfl) ?_
      refine WL.qq (by simp only [EN, Nat.reduceEqDiff, reduceIte, qv_load, ld3, readN, AR, Nat.zero_add, Nat.reduceAdd, hp.cell, hB1.cell, hB2.cell]; rfl) ?_
      refine WL.qq (by simp only [EN, Nat.reduceEqDiff, reduceIte, qv_binOp, binv_lss, hp.cell, hB1.cell, hB2.cell]; rfl) ?_
      refine WL.qq (by simp only [EN, Nat.reduceEqDiff, reduceIte, qv_move, hp.cell, hB1.cell, hB2.cell]; rfl) ?_
      refine WL.cq (gd_at (t := 33) rfl (by simp only [EN, Nat.reduceEqDiff, reduceIte, hp.cell, hB1.cell, hB2.cell] <;> rfl)) (fun hg5_5 => by simp only [EN, Nat.reduceEqDiff, reduceIte, qv_fieldAddr, fa55_1, Nat.zero_add, Nat.reduceAdd, hp.cell, hB1.cell, hB2.cell, hg5_5, GR]; rfl) ?_
      refine WL.cq (gd_at (t := 33) rfl (by simp only [EN, Nat.reduceEqDiff, reduceIte, hp.cell, hB1.cell, hB2.cell] <;> rfl)) (fun hg5_6 => by simp only [EN, Nat.reduceEqDiff, reduceIte, qv_fieldAddr, fa41_0, Nat.zero_add, Nat.reduceAdd, hp.cell, hB1.cell, hB2.cell, hg5_6, GR]; rfl) ?_
      refine WL.cq (gd_at (t := 33) rfl (by simp only [EN, Nat.reduceEqDiff, reduceIte, hp.cell, hB1.cell, hB2.cell] <;> rfl)) (fun hg5_7 => by simp only [EN, Nat.reduceEqDiff, reduceIte, qv_load, ld3, readN, AR, Nat.zero_add, Nat.reduceAdd, hp.cell, hB1.cell, hB2.cell, hg5_7, GR]; rfl) ?_
      refine WL.cq (gd_at (t := 33) rfl (by simp only [EN, Nat.reduceEqDiff, reduceIte, hp.cell, hB1.cell, hB2.cell] <;> rfl)) (fun hg5_8 => by simp only [EN, Nat.reduceEqDiff, reduceIte, qv_binOp, binv_gtr, hp.cell, hB1.cell, hB2.cell, hg5_8, GR]; rfl) ?_
      refine WL.qq (by simp only [EN, Nat.reduceEqDiff, reduceIte, qv_pick, pk_and, pk_or, GR, hp.cell, hB1.cell, hB2.cell]; rfl) ?_
      refine WL.qq (by simp only [EN, Nat.reduceEqDiff, reduceIte, qv_move, hp.cell, hB1.cell, hB2.cell]; rfl) ?_
      refine WL.cq (gd_at (t := 39) rfl (by simp only [EN, Nat.reduceEqDiff, reduceIte, hp.cell, hB1.cell, hB2.cell] <;> rfl)) (fun hg5_11 => by simp only [EN, Nat.reduceEqDiff, reduceIte, qv_fieldAddr, fa55_1, Nat.zero_add, Nat.reduceAdd, hp.cell, hB1.cell, hB2.cell, hg5_11, GR]; rfl) ?_
      refine WL.cq (gd_at (t := 39) rfl (by simp only [EN, Nat.reduceEqDiff, reduceIte, hp.cell, hB1.cell, hB2.cell] <;> rfl)) (fun hg5_12 => by simp only [EN, Nat.reduceEqDiff, reduceIte, qv_fieldAddr, fa41_1, Nat.zero_add, Nat.reduceAdd, hp.cell, hB1.cell, hB2.cell, hg5_12, GR]; rfl) ?_
      refine WL.cq (gd_at (t := 39) rfl (by simp only [EN, Nat.reduceEqDiff, reduceIte, hp.cell, hB1.cell, hB2.cell] <;> rfl)) (fun hg5_13 => by simp only [EN, Nat.reduceEqDiff, reduceIte, qv_load, ld3, readN, AR, Nat.zero_add, Nat.reduceAdd, hp.cell, hB1.cell, hB2.cell, hg5_13, GR]; rfl) ?_
      refine WL.cq (gd_at (t := 39) rfl (by simp only [EN, Nat.reduceEqDiff, reduceIte, hp.cell, hB1.cell, hB2.cell] <;> rfl)) (fun hg5_14 => by simp only [EN, Nat.reduceEqDiff, reduceIte, qv_binOp, binv_lss, hp.cell, hB1.cell, hB2.cell, hg5_14, GR]; rfl) ?_
      refine WL.qq (by simp only [EN, Nat.reduceEqDiff, reduceIte, qv_pick, pk_and, pk_or, GR, hp.cell, hB1.cell, hB2.cell]; rfl) ?_
      refine WL.qq (by simp only [EN, Nat.reduceEqDiff, reduceIte, qv_move, hp.cell, hB1.cell, hB2.cell]; rfl) ?_
      refine WL.cq (gd_at (t := 45) rfl (by simp only [EN, Nat.reduceEqDiff, reduceIte, hp.cell, hB1.cell, hB2.cell] <;> rfl)) (fun hg5_17 => by simp only [EN, Nat.reduceEqDiff, reduceIte, qv_fieldAddr, fa55_1, Nat.zero_add, Nat.reduceAdd, hp.cell, hB1.cell, hB2.cell, hg5_17, GR]; rfl) ?_
      refine WL.cq (gd_at (t := 45) rfl (by simp only [EN, Nat.reduceEqDiff, reduceIte, hp.cell, hB1.cell, hB2.cell] <;> rfl)) (fun hg5_18 => by simp only [EN, Nat.reduceEqDiff, reduceIte, qv_fieldAddr, fa41_1, Nat.zero_add, Nat.reduceAdd, hp.cell, hB1.cell, hB2.cell, hg5_18, GR]; rfl) ?_
      refine WL.cq (gd_at (t := 45) rfl (by simp only [EN, Nat.reduceEqDiff, reduceIte, hp.cell, hB1.cell, hB2.cell] <;> rfl)) (fun hg5_19 => by simp only [EN, Nat.reduceEqDiff, reduceIte, qv_load, ld3, readN, AR, Nat.zero_add, Nat.reduceAdd, hp.cell, hB1.cell, hB2.cell, hg5_19, GR]; rfl) ?_
      refine WL.cq (gd_at (t := 45) rfl (by simp only [EN, Nat.reduceEqDiff, reduceIte, hp.cell, hB1.cell, hB2.cell] <;> rfl)) (fun hg5_20 => by simp only [EN, Nat.reduceEqDiff, reduceIte, qv_binOp, binv_gtr, hp.cell, hB1.cell, hB2.cell, hg5_20, GR]; rfl) ?_
      refine WL.qq (by simp only [EN, Nat.reduceEqDiff, reduceIte, qv_pick, pk_and, pk_or, GR, hp.cell, hB1.cell, hB2.cell]; rfl) ?_
      refine WL.qq (by simp only [EN, Nat.reduceEqDiff, reduceIte, qv_assign, hp.cell, hB1.cell, hB2.cell]; rfl) ?_
      refine WL.nil ?_
      refine th_norm ?_
      refine hx_cond (by simp only [EN, Nat.reduceEqDiff, reduceIte, hp.cell, hB1.cell, hB2.cell]; rfl) (fun hct28 => ?_) (fun hct28 => ?_)
      ·
        try simp only [BD] at hct28
        refine hx_seq ?_
        refine hx_region ?_
        refine WL.qq (by simp only [EN, Nat.reduceEqDiff, reduceIte, qv_assign, hp.cell, hB1.cell, hB2.cell]; rfl) ?_
        refine WL.nil ?_
        refine th_norm ?_
        refine hx_ret ?_
        refine bl_ret ?_
        refine th_ret ?_
        refine fin_ret [.tmp 4] rfl rfl (by simp only [EN, Nat.reduceEqDiff, reduceIte, resv, e0, e1, hp.cell, hB1.cell, hB2.cell]; rfl) ?_  -- ret 1 r6
        exact ⟨(congrArg iV (bdE_rng (b := x.bd) hq1 (show x.day < 0 ∨ 73048 < x.day ∨ x.mn < 0 ∨ 1439 < x.mn by omega))).symm, ((hx1).trans (hx2))⟩
      ·
        try simp only [BD] at hct28
        have hq2 : ¬ (x.bd.day < 0 ∨ 73048 < x.bd.day ∨ x.bd.mn < 0 ∨ 1439 < x.bd.mn) := (show ¬ (x.day < 0 ∨ 73048 < x.day ∨ x.mn < 0 ∨ 1439 < x.mn) by omega)
        refine hx_seq ?_
        apply hx_draw2 Rel.grows [] [22] [(22, Spec.is _)] rfl (by decide +kernel) rfl
        refine LD.qq rfl rfl (by simp only [EN, Nat.reduceEqDiff, reduceIte, qv_load, ld27, readN, AR, Nat.zero_add, Nat.reduceAdd, hp.cell, hB1.cell, hB2.cell]; rfl) ?_
        refine LD.qq rfl rfl (by simp only [EN, Nat.reduceEqDiff, reduceIte, qv_nilCheck, hp.cell, hB1.cell, hB2.cell]; rfl) ?_
        refine LD.qq rfl rfl (by simp only [EN, Nat.reduceEqDiff, reduceIte, qv_fieldAddr, fa93_0, Nat.zero_add, Nat.reduceAdd, hp.cell, hB1.cell, hB2.cell]; rfl) ?_
        refine LD.qq rfl rfl (by simp only [EN, Nat.reduceEqDiff, reduceIte, qv_load, ld91, readN, AR, Nat.zero_add, Nat.reduceAdd, hp.cell, hB1.cell, hB2.cell]; rfl) ?_
        refine LD.qq rfl rfl (by simp only [EN, Nat.reduceEqDiff, reduceIte, qv_len, ln91, AR, hp.cell, hB1.cell, hB2.cell]; rfl) ?_
        refine LD.qq rfl rfl (by simp only [EN, Nat.reduceEqDiff, reduceIte, qv_binOp, binv_gtr, hp.cell, hB1.cell, hB2.cell]; rfl) ?_
        refine LD.qq rfl rfl (by simp only [EN, Nat.reduceEqDiff, reduceIte, qv_move, hp.cell, hB1.cell, hB2.cell]; rfl) ?_
        refine LD.cq rfl rfl (gd_at (t := 58) rfl (by simp only [EN, Nat.reduceEqDiff, reduceIte, hp.cell, hB1.cell, hB2.cell] <;> rfl)) (fun hg7_7 => by simp only [EN, Nat.reduceEqDiff, reduceIte, qv_fieldAddr, fa55_1, Nat.zero_add, Nat.reduceAdd, hp.cell, hB1.cell, hB2.cell, hg7_7, GR]; rfl) ?_
        refine LD.cq rfl rfl (gd_at (t := 58) rfl (by simp only [EN, Nat.reduceEqDiff, reduceIte, hp.cell, hB1.cell, hB2.cell] <;> rfl)) (fun hg7_8 => by simp only [EN, Nat.reduceEqDiff, reduceIte, qv_load, ld41, readN, AR, Nat.zero_add, Nat.reduceAdd, hp.cell, hB1.cell, hB2.cell, hg7_8, GR]; rfl) ?_
        refine LD.cq rfl rfl (gd_at (t := 58) rfl (by simp only [EN, Nat.reduceEqDiff, reduceIte, hp.cell, hB1.cell, hB2.cell] <;> rfl)) (fun hg7_9 => by simp only [EN, Nat.reduceEqDiff, reduceIte, qv_load, ld27, readN, AR, Nat.zero_add, Nat.reduceAdd, hp.cell, hB1.cell, hB2.cell, hg7_9, GR]; rfl) ?_
        refine LD.cq rfl rfl (gd_at (t := 58) rfl (by simp only [EN, Nat.reduceEqDiff, reduceIte, hp.cell, hB1.cell, hB2.cell] <;> rfl)) (fun hg7_10 => by simp only [EN, Nat.reduceEqDiff, reduceIte, qv_nilCheck, hp.cell, hB1.cell, hB2.cell, hg7_10, GR]; rfl) ?_
        refine LD.cq rfl rfl (gd_at (t := 58) rfl (by simp only [EN, Nat.reduceEqDiff, reduceIte, hp.cell, hB1.cell, hB2.cell] <;> rfl)) (fun hg7_11 => by simp only [EN, Nat.reduceEqDiff, reduceIte, qv_fieldAddr, fa93_0, Nat.zero_add, Nat.reduceAdd, hp.cell, hB1.cell, hB2.cell, hg7_11, GR]; rfl) ?_
        refine LD.cq rfl rfl (gd_at (t := 58) rfl (by simp only [EN, Nat.reduceEqDiff, reduceIte, hp.cell, hB1.cell, hB2.cell] <;> rfl)) (fun hg7_12 => by simp only [EN, Nat.reduceEqDiff, reduceIte, qv_load, ld91, readN, AR, Nat.zero_add, Nat.reduceAdd, hp.cell, hB1.cell, hB2.cell, hg7_12, GR]; rfl) ?_
        refine LD.cq rfl rfl (gd_at (t := 58) rfl (by simp only [EN, Nat.reduceEqDiff, reduceIte, hp.cell, hB1.cell, hB2.cell] <;> rfl)) (fun hg7_13 => by simp only [EN, Nat.reduceEqDiff, reduceIte, qv_load, ld27, readN, AR, Nat.zero_add, Nat.reduceAdd, hp.cell, hB1.cell, hB2.cell, hg7_13, GR]; rfl) ?_
        refine LD.cq rfl rfl (gd_at (t := 58) rfl (by simp only [EN, Nat.reduceEqDiff, reduceIte, hp.cell, hB1.cell, hB2.cell] <;> rfl)) (fun hg7_14 => by simp only [EN, Nat.reduceEqDiff, reduceIte, qv_nilCheck, hp.cell, hB1.cell, hB2.cell, hg7_14, GR]; rfl) ?_
        refine LD.cq rfl rfl (gd_at (t := 58) rfl (by simp only [EN, Nat.reduceEqDiff, reduceIte, hp.cell, hB1.cell, hB2.cell] <;> rfl)) (fun hg7_15 => by simp only [EN, Nat.reduceEqDiff, reduceIte, qv_fieldAddr, fa93_0, Nat.zero_add, Nat.reduceAdd, hp.cell, hB1.cell, hB2.cell, hg7_15, GR]; rfl) ?_
        refine LD.cq rfl rfl (gd_at (t := 58) rfl (by simp only [EN, Nat.reduceEqDiff, reduceIte, hp.cell, hB1.cell, hB2.cell] <;> rfl)) (fun hg7_16 => by simp only [EN, Nat.reduceEqDiff, reduceIte, qv_load, ld91, readN, AR, Nat.zero_add, Nat.reduceAdd, hp.cell, hB1.cell, hB2.cell, hg7_16, GR]; rfl) ?_
        refine LD.cq rfl rfl (gd_at (t := 58) rfl (by simp only [EN, Nat.reduceEqDiff, reduceIte, hp.cell, hB1.cell, hB2.cell] <;> rfl)) (fun hg7_17 => by simp only [EN, Nat.reduceEqDiff, reduceIte, qv_len, ln91, AR, hp.cell, hB1.cell, hB2.cell, hg7_17, GR]; rfl) ?_
        refine LD.cq rfl rfl (gd_at (t := 58) rfl (by simp only [EN, Nat.reduceEqDiff, reduceIte, hp.cell, hB1.cell, hB2.cell] <;> rfl)) (fun hg7_18 => by have hq0 := hg7_18; (try simp only [BD] at hq0); simp only [EN, Nat.reduceEqDiff, reduceIte, qv_binOp, binv_sub, hp.cell, hB1.cell, hB2.cell, hg7_18, GR]; (try simp (disch := omega) only [w64, w8, wu64]); rfl) ?_
        refine LD.cq rfl rfl (gd_at (t := 58) rfl (by simp only [EN, Nat.reduceEqDiff, reduceIte, hp.cell, hB1.cell, hB2.cell] <;> rfl)) (fun hg7_19 => by have hne : xs ≠ [] := (fun hh => by rw [hh] at hg7_19; simp at hg7_19); obtain ⟨ha, hl⟩ := hlast hne; have hpos := List.length_pos_iff.2 hne; simp only [EN, Nat.reduceEqDiff, reduceIte, e0, e1, hp.cell, hB1.cell, hB2.cell, GR, hg7_19, qv_indexAddr, ha]; exact ix91 _ _ _ _ _ _ (by omega) (by omega)) ?_
        refine LD.cq rfl rfl (gd_at (t := 58) rfl (by simp only [EN, Nat.reduceEqDiff, reduceIte, hp.cell, hB1.cell, hB2.cell] <;> rfl)) (fun hg7_20 => by simp only [EN, Nat.reduceEqDiff, reduceIte, qv_fieldAddr, fa55_1, Nat.zero_add, Nat.reduceAdd, hp.cell, hB1.cell, hB2.cell, hg7_20, GR]; rfl) ?_
        refine LD.cq rfl rfl (gd_at (t := 58) rfl (by simp only [EN, Nat.reduceEqDiff, reduceIte, hp.cell, hB1.cell, hB2.cell] <;> rfl)) (fun hg7_21 => by have hne : xs ≠ [] := (fun hh => by rw [hh] at hg7_21; simp at hg7_21); obtain ⟨ha, hl⟩ := hlast hne; have hpos := List.length_pos_iff.2 hne; obtain ⟨b1, o1, ha1, _, _, _, _, _, hr2⟩ := bd_rd hsx hl; rw [ha] at ha1; cases ha1; have ht9 : ((xs.length : Int) - 1).toNat = xs.length - 1 := (by omega); rw [← ht9] at hr2; simp only [EN, Nat.reduceEqDiff, reduceIte, e0, e1, hp.cell, hB1.cell, hB2.cell, GR, hg7_21, qv_load, ld41, hr2]; rfl) ?_
        refine LD.cck rfl rfl (gd_at (t := 58) rfl (by simp only [EN, Nat.reduceEqDiff, reduceIte, hp.cell, hB1.cell, hB2.cell] <;> rfl)) Try.call46 (fun hg7_22 => by intro hD hr; have hx : Ext _ _ := hr; have hp := hp.ext hx; have hr0 := hr0.ext hx; have hsx := hsx.ext hx; have hbi := hbi.ext hx; have hB1 := hB1.ext hx; have hB2 := hB2.ext hx; simp only [EN, Nat.reduceEqDiff, reduceIte, AR, hp.cell, hB1.cell, hB2.cell, hg7_22, GR]; exact c_cmpC x.day x.mn ly.day ly.mn _) ?_
        refine LD.cq rfl rfl (gd_at (t := 58) rfl (by simp only [EN, Nat.reduceEqDiff, reduceIte, hp.cell, hB1.cell, hB2.cell] <;> rfl)) (fun hg7_23 => by simp only [EN, Nat.reduceEqDiff, reduceIte, qv_binOp, binv_lss, hp.cell, hB1.cell, hB2.cell, hg7_23, GR]; rfl) ?_
        refine LD.qq rfl rfl (by simp only [EN, Nat.reduceEqDiff, reduceIte, qv_pick, pk_and, pk_or, GR, hp.cell, hB1.cell, hB2.cell]; rfl) ?_
        refine LD.qq rfl rfl (by simp only [EN, Nat.reduceEqDiff, reduceIte, qv_assign, hp.cell, hB1.cell, hB2.cell]; rfl) ?_
        refine LD.nil ?_
        rintro h3 hx3 hF7
        replace hx3 : Ext _ _ := hx3
        replace hp := hp.ext hx3
        replace hr0 := hr0.ext hx3
        replace hsx := hsx.ext hx3
        replace hbi := hbi.ext hx3
        replace hB1 := hB1.ext hx3
        replace hB2 := hB2.ext hx3
        refine WL.nil ?_
        refine th_norm ?_
        refine hx_cond (by simp only [EN, Nat.reduceEqDiff, reduceIte, hp.cell, hB1.cell, hB2.cell]; rfl) (fun hct51 => ?_) (fun hct51 => ?_)
        ·
          try simp only [BD] at hct51
          refine hx_seq ?_
          refine hx_region ?_
          refine WL.qq (by simp only [EN, Nat.reduceEqDiff, reduceIte, qv_assign, hp.cell, hB1.cell, hB2.cell]; rfl) ?_
          refine WL.nil ?_
          refine th_norm ?_
          refine hx_ret ?_
          refine bl_ret ?_
          refine th_ret ?_
          refine fin_ret [.tmp 4] rfl rfl (by simp only [EN, Nat.reduceEqDiff, reduceIte, resv, e0, e1, hp.cell, hB1.cell, hB2.cell]; rfl) ?_  -- ret 2 r8
          have hne : xs ≠ [] := (fun hh => by rw [hh] at hct51; simp at hct51)
          have hlt : lateB l x.bd = true := (by rw [← hxl, late_of (hlast hne).2]; exact decide_eq_true (cmpC_lt.1 hct51.2))
          exact ⟨(congrArg iV (bdE_stale (b := x.bd) hq1 hq2 hlt)).symm, ((hx1).trans ((hx2).trans (hx3)))⟩
        ·
          try simp only [BD] at hct51
          have hq3 : ¬ lateB l x.bd = true := (fun hh => by by_cases hne : xs = []; (rw [← hxl, hne] at hh; cases hh); (rw [← hxl, late_of (hlast hne).2] at hh; have h9 := cmpC_lt.2 (of_decide_eq_true hh); have := List.length_pos_iff.2 hne; rcases hct51 with h1 | h1; omega; exact h1 h9))
          obtain ⟨e9, he9⟩ : ∃ e9 : Int, (if x.ps = [] then (1 : Int) else 0) = e9 := ⟨_, rfl⟩
          refine hx_skip ?_
          refine bl_norm ?_
          refine th_norm ?_
          refine hx_seq ?_
          refine hx_seq ?_
          refine hx_region ?_
          refine WL.qq (by simp only [EN, Nat.reduceEqDiff, reduceIte, qv_load, ld55, readN, AR, Nat.zero_add, Nat.reduceAdd, hp.cell, hB1.cell, hB2.cell]; rfl) ?_
          refine WL.cg Try.call74 (by simp only [EN, Nat.reduceEqDiff, reduceIte, AR, hp.cell, hB1.cell, hB2.cell]; exact c_size x h8 hp12 hbi he9) ?_
          intro h4 hx4
          replace hp := hp.ext hx4
          replace hr0 := hr0.ext hx4
          replace hsx := hsx.ext hx4
          replace hbi := hbi.ext hx4
          replace hB1 := hB1.ext hx4
          replace hB2 := hB2.ext hx4
          refine WL.qq (by simp only [EN, Nat.reduceEqDiff, reduceIte, qv_assign, hp.cell, hB1.cell, hB2.cell]; rfl) ?_
          refine WL.nil ?_
          refine th_norm ?_
          refine hx_seq ?_
          refine hx_region ?_
          refine WL.qq (by simp only [EN, Nat.reduceEqDiff, reduceIte, qv_move, hp.cell, hB1.cell, hB2.cell]; rfl) ?_
          refine WL.qq (by simp only [EN, Nat.reduceEqDiff, reduceIte, qv_binOp, binv_neq, eq32, Option.map_some, hp.cell, hB1.cell, hB2.cell]; rfl) ?_
          refine WL.nil ?_
          refine th_norm ?_
          refine hx_cond (by simp only [EN, Nat.reduceEqDiff, reduceIte, hp.cell, hB1.cell, hB2.cell]; rfl) (fun hct80 => ?_) (fun hct80 => ?_)
          ·
            try simp only [BD] at hct80
            refine hx_seq ?_
            refine hx_region ?_
            refine WL.qq (by simp only [EN, Nat.reduceEqDiff, reduceIte, qv_move, hp.cell, hB1.cell, hB2.cell]; rfl) ?_
            refine WL.qq (by simp only [EN, Nat.reduceEqDiff, reduceIte, qv_assign, hp.cell, hB1.cell, hB2.cell]; rfl) ?_
            refine WL.nil ?_
            refine th_norm ?_
            refine hx_ret ?_
            refine th_ret ?_
            refine fin_ret [.tmp 4] rfl rfl (by simp only [EN, Nat.reduceEqDiff, reduceIte, resv, e0, e1, hp.cell, hB1.cell, hB2.cell]; rfl) ?_  -- ret 3 r11
            have hq4 : x.ps = [] := (by by_cases h9 : x.ps = []; exact h9; (rw [if_neg h9] at he9; exact absurd he9.symm hct80))
            rw [if_pos hq4] at he9
            subst he9
            exact ⟨(congrArg iV (bdE_arg (b := x.bd) hq1 hq2 hq3 (by show x.ps.map PX.pt = []; rw [hq4]; rfl))).symm, ((hx1).trans ((hx2).trans ((hx3).trans (hx4))))⟩
          ·
            try simp only [BD] at hct80
            have hq4 : x.bd.pts ≠ [] := (fun hh => by have h9 : x.ps = [] := List.map_eq_nil_iff.1 hh; rw [if_pos h9] at he9; simp [← he9] at hct80)
            refine hx_skip ?_
            refine th_norm ?_
            refine hx_seq ?_
            refine hx_seq ?_
            refine hx_region ?_
            refine WL.qq (by simp only [EN, Nat.reduceEqDiff, reduceIte, qv_fieldAddr, fa55_2, Nat.zero_add, Nat.reduceAdd, hp.cell, hB1.cell, hB2.cell]; rfl) ?_
            refine WL.qq (by simp only [EN, Nat.reduceEqDiff, reduceIte, qv_load, ld53, readN, AR, Nat.zero_add, Nat.reduceAdd, hp.cell, hB1.cell, hB2.cell]; rfl) ?_
            refine WL.qq (by simp only [EN, Nat.reduceEqDiff, reduceIte, qv_len, ln53, AR, hp.cell, hB1.cell, hB2.cell]; rfl) ?_
            refine WL.qq (by simp only [EN, Nat.reduceEqDiff, reduceIte, qv_move, hp.cell, hB1.cell, hB2.cell]; rfl) ?_
            refine WL.nil ?_
            refine th_norm ?_
            refine hx_block ?_
            refine hx_loopX [4, 7, 8, 85, 86, 87, 88, 89, 90, 91, 92, 93, 94] (fun k e => ∃ (i : Nat), x.ps.length - i = k ∧ (i ≤ x.ps.length) ∧ (fstE ((x.bd.pts.map ptE).take i) = 0) ∧ e 85 = .int .i64 i) _ ⟨0, rfl, ?_, ?_, ?_⟩ ?_
            · omega
            · rfl
            · simp only [EN, Nat.reduceEqDiff, reduceIte, e0, e1, hp.cell, hB1.cell, hB2.cell] <;> rfl
            ·
              rintro k e0L hL0 hX0 hfr0 ⟨i, rfl, hi, hz, i85_0⟩
              replace hp := hp.ext hX0
              replace hr0 := hr0.ext hX0
              replace hsx := hsx.ext hX0
              replace hbi := hbi.ext hX0
              replace hB1 := hB1.ext hX0
              replace hB2 := hB2.ext hX0
              have k2_0 := hfr0 2 rfl; try simp only [EN, Nat.reduceEqDiff, reduceIte, hp.cell, hB1.cell, hB2.cell] at k2_0
              have k3_0 := hfr0 3 rfl; try simp only [EN, Nat.reduceEqDiff, reduceIte, hp.cell, hB1.cell, hB2.cell] at k3_0
              have k83_0 := hfr0 83 rfl; try simp only [EN, Nat.reduceEqDiff, reduceIte, hp.cell, hB1.cell, hB2.cell] at k83_0
              have k84_0 := hfr0 84 rfl; try simp only [EN, Nat.reduceEqDiff, reduceIte, hp.cell, hB1.cell, hB2.cell] at k84_0
              refine hx_seq ?_
              refine hx_region ?_
              refine WL.qq (by simp only [EN, Nat.reduceEqDiff, reduceIte, qv_binOp, binv_lss, k84_0, i85_0, hp.cell, hB1.cell, hB2.cell]; rfl) ?_
              refine WL.nil ?_
              refine th_norm ?_
              refine hx_seq ?_
              refine hx_cond (by simp only [EN, Nat.reduceEqDiff, reduceIte, hp.cell, hB1.cell, hB2.cell]; rfl) (fun hct86 => ?_) (fun hct86 => ?_)
              ·
                try simp only [BD] at hct86
                obtain ⟨q, hqi⟩ := atG (l := x.ps) (i := i) (by omega)
                obtain ⟨b1, o1, ha1, hr2, _⟩ := pt_rd hbi.1 hqi
                have hqe : (x.bd.pts.map ptE)[i]? = some (ptE q.pt) := (by show ((x.ps.map PX.pt).map ptE)[i]? = _; rw [List.getElem?_map, List.getElem?_map, hqi]; rfl)
                refine hx_skip ?_
                refine th_norm ?_
                refine hx_seq ?_
                refine hx_block ?_
                refine hx_seq ?_
                refine hx_region ?_
                refine WL.qq (by simp only [EN, Nat.reduceEqDiff, reduceIte, qv_indexAddr, k83_0, i85_0, hp.cell, hB1.cell, hB2.cell, ha1]; (try simp (disch := omega) only [ix53, Int.toNat_natCast]); rfl) ?_
                refine WL.qq (by simp only [EN, Nat.reduceEqDiff, reduceIte, k2_0, k3_0, k83_0, k84_0, i85_0, hp.cell, hB1.cell, hB2.cell, qv_load, ld72, Int.toNat_natCast, hr2]; rfl) ?_
                refine WL.allocSt zr72 sz72 (fun u => by simp only [EN, Nat.reduceEqDiff, reduceIte, Value.cells, hp.cell, hB1.cell, hB2.cell]; rfl) ⟨rfl, rfl⟩ (by simp [Value.oneCell']) ?_
                intro h5 B5 hx5 hlt5 hB5
                replace hp := hp.ext hx5
                replace hr0 := hr0.ext hx5
                replace hsx := hsx.ext hx5
                replace hbi := hbi.ext hx5
                replace hB1 := hB1.ext hx5
                replace hB2 := hB2.ext hx5
                refine WL.nil ?_
                refine th_norm ?_
                refine hx_seq ?_
                refine hx_region ?_
                refine WL.qq (by simp only [EN, Nat.reduceEqDiff, reduceIte, qv_load, ld72, readN, AR, Nat.zero_add, Nat.reduceAdd, hp.cell, hB1.cell, hB2.cell, hB5.cell]; rfl) ?_
                refine WL.cg Try.call75 (by simp only [EN, Nat.reduceEqDiff, reduceIte, AR, hp.cell, hB1.cell, hB2.cell, hB5.cell]; exact c_ptck q (hp12 q (List.mem_of_getElem? hqi)) (hbi.2 q (List.mem_of_getElem? hqi))) ?_
                intro h6 hx6
                replace hp := hp.ext hx6
                replace hr0 := hr0.ext hx6
                replace hsx := hsx.ext hx6
                replace hbi := hbi.ext hx6
                replace hB1 := hB1.ext hx6
                replace hB2 := hB2.ext hx6
                replace hB5 := hB5.ext hx6
                refine WL.qq (by simp only [EN, Nat.reduceEqDiff, reduceIte, qv_assign, hp.cell, hB1.cell, hB2.cell, hB5.cell]; rfl) ?_
                refine WL.nil ?_
                refine th_norm ?_
                refine hx_seq ?_
                refine hx_region ?_
                refine WL.qq (by simp only [EN, Nat.reduceEqDiff, reduceIte, qv_move, hp.cell, hB1.cell, hB2.cell, hB5.cell]; rfl) ?_
                refine WL.qq (by simp only [EN, Nat.reduceEqDiff, reduceIte, qv_binOp, binv_neq, eq32, Option.map_some, hp.cell, hB1.cell, hB2.cell, hB5.cell]; rfl) ?_
                refine WL.nil ?_
                refine th_norm ?_
                refine hx_cond (by simp only [EN, Nat.reduceEqDiff, reduceIte, hp.cell, hB1.cell, hB2.cell, hB5.cell]; rfl) (fun hct92 => ?_) (fun hct92 => ?_)
                ·
                  try simp only [BD] at hct92
                  refine hx_seq ?_
                  refine hx_region ?_
                  refine WL.qq (by simp only [EN, Nat.reduceEqDiff, reduceIte, qv_move, hp.cell, hB1.cell, hB2.cell, hB5.cell]; rfl) ?_
                  refine WL.qq (by simp only [EN, Nat.reduceEqDiff, reduceIte, qv_assign, hp.cell, hB1.cell, hB2.cell, hB5.cell]; rfl) ?_
                  refine WL.nil ?_
                  refine th_norm ?_
                  refine hx_ret ?_
                  refine bl_ret ?_
                  refine th_ret ?_
                  refine th_ret ?_
                  refine bl_ret ?_
                  refine th_ret ?_
                  refine fin_ret [.tmp 4] rfl rfl (by simp only [EN, Nat.reduceEqDiff, reduceIte, resv, k2_0, k3_0, k83_0, k84_0, i85_0, hp.cell, hB1.cell, hB2.cell, hB5.cell]; rfl) ?_  -- ret 4 r17
                  have h9 := fstE_at hz hqe hct92
                  exact ⟨(congrArg iV ((bdE_pt hq1 hq2 hq3 hq4 (by rw [h9]; exact hct92)).trans h9)).symm, ((hx1).trans ((hx2).trans ((hx3).trans ((hx4).trans ((hX0).trans ((hx5).trans (hx6)))))))⟩
                ·
                  try simp only [BD] at hct92
                  refine hx_skip ?_
                  refine bl_norm ?_
                  refine th_norm ?_
                  refine hx_region ?_
                  refine WL.qq (by simp only [EN, Nat.reduceEqDiff, reduceIte, qv_binOp, binv_add, i85_0, hp.cell, hB1.cell, hB2.cell, hB5.cell]; (try simp (disch := omega) only [w64, w8, wu64]); rfl) ?_
                  refine WL.qq (by simp only [EN, Nat.reduceEqDiff, reduceIte, qv_move, hp.cell, hB1.cell, hB2.cell, hB5.cell]; rfl) ?_
                  refine WL.nil ?_
                  refine th_norm ?_
                  refine ⟨rfl, ?_, ?_, _, ?_, i + 1, rfl, ?_, ?_, ?_⟩  -- again 0 of loop 0
                  · exact (hx5).trans (hx6)
                  · (repeat (first | exact Fr.refl _ _ | refine Fr.set rfl ?_ | refine Fr.put rfl ?_ | with_reducible refine Fr.put0 ?_))
                  · omega
                  · omega
                  · exact fstE_step hz (by rw [hqe]; exact congrArg some (by simpa using hct92))
                  · simp only [EN, Nat.reduceEqDiff, reduceIte, k2_0, k3_0, k83_0, k84_0, i85_0, hp.cell, hB1.cell, hB2.cell, hB5.cell] <;> first | rfl | (congr 1; omega)
              ·
                try simp only [BD] at hct86
                have hq5 : fstE (x.bd.pts.map ptE) = 0 := (by rw [List.take_of_length_le (by show ((x.ps.map PX.pt).map ptE).length ≤ i; rw [List.length_map, List.length_map]; omega)] at hz; exact hz)
                have hpok : ∀ z ∈ x.bd.pts, ptE z = 0 := fun z hz2 => fstE_zero.1 hq5 _ (List.mem_map.2 ⟨z, hz2, rfl⟩)
                refine hx_exit ?_
                refine th_exit ?_
                refine th_exit ?_
                refine bl_hit ?_
                refine th_norm ?_
                refine hx_seq ?_
                refine hx_region ?_
                have kz7 := Ext.size ((hx1).trans ((hx2).trans ((hx3).trans ((hx4).trans (hX0)))))
                refine WL.makeMap2 ?_
                intro h7 B7 hx7 hlt7 hB7
                replace hp := hp.ext hx7
                replace hr0 := hr0.ext hx7
                replace hsx := hsx.ext hx7
                replace hbi := hbi.ext hx7
                replace hB1 := hB1.ext hx7
                replace hB2 := hB2.ext hx7
                refine WL.allocSt zr131 sz131 (fun u => by simp only [EN, Nat.reduceEqDiff, reduceIte, Value.cells, hp.cell, hB1.cell, hB2.cell]; rfl) ⟨rfl, rfl⟩ (by simp [Value.oneCell']) ?_
                intro h8 B8 hx8 hlt8 hB8
                replace hp := hp.ext hx8
                replace hr0 := hr0.ext hx8
                replace hsx := hsx.ext hx8
                replace hbi := hbi.ext hx8
                replace hB1 := hB1.ext hx8
                replace hB2 := hB2.ext hx8
                replace hB7 := hB7.ext hx8
                refine WL.nil ?_
                refine th_norm ?_
                refine hx_seq ?_
                refine hx_seq ?_
                refine hx_region ?_
                refine WL.qq (by simp only [EN, Nat.reduceEqDiff, reduceIte, qv_load, ld55, readN, AR, Nat.zero_add, Nat.reduceAdd, k3_0, hp.cell, hB1.cell, hB2.cell, hB8.cell]; rfl) ?_
                refine WL.ce Try.call48 (by simp only [EN, Nat.reduceEqDiff, reduceIte, AR, hp.cell, hB1.cell, hB2.cell, hB8.cell]; exact c_post x _) ?_
                rintro _ h9 ⟨hx9, B9, rfl, hlt9, hB9⟩
                replace hp := hp.ext hx9
                replace hr0 := hr0.ext hx9
                replace hsx := hsx.ext hx9
                replace hbi := hbi.ext hx9
                replace hB1 := hB1.ext hx9
                replace hB2 := hB2.ext hx9
                replace hB7 := hB7.ext hx9
                replace hB8 := hB8.ext hx9
                simp only [put_some]
                refine WL.nil ?_
                refine th_norm ?_
                refine hx_block ?_
                refine hx_range (by simp only [EN, Nat.reduceEqDiff, reduceIte, k2_0, k3_0, k83_0, k84_0, i85_0, hp.cell, hB1.cell, hB2.cell, hB8.cell]; rfl) Try.call67 ?_
                intro fnR0 hR0 hxR0 hsR0 hdR0 hrR0
                have hXL := ((hx1).trans ((hx2).trans ((hx3).trans ((hx4).trans ((hX0).trans ((hx7).trans ((hx8).trans (hx9))))))))
                have hz0 := hXL.size
                have hq7 := (Array.getElem?_eq_some_iff.1 hB7).1
                have hq8 := (Array.getElem?_eq_some_iff.1 hB8).1
                have hq9 := (Array.getElem?_eq_some_iff.1 hB9).1
                have hqB1 := (Array.getElem?_eq_some_iff.1 hB1).1
                have hn78 : B8 ≠ B7 := (fun hh => by rw [hh] at hB8; have := hB8.un hB7; cases this)
                have hn79 : B9 ≠ B7 := (fun hh => by rw [hh] at hB9; have := hB9.un hB7; cases this)
                have hn71 : B1 ≠ B7 := (fun hh => by rw [hh] at hB1; have := hB1.un hB7; cases this)
                obtain ⟨n7, hn7⟩ : ∃ n7, Array.size h9 = n7 := ⟨_, rfl⟩
                generalize hrec : recOf _ _ _ _ _ _ _ = rec at hrR0
                refine (c_postYield x B9 (h9.size + 1) (fun j hy => CB h h9 B7 rec l ((pos x.bd).take j) hy) (fun _ => False) hlens ?_ ?_ ?_ ?_).mono ?_
                · rintro j h1 h2 ⟨q1, L, q2, q3⟩ he; exact ⟨q1.ext he, L, q2.ext he, q3⟩
                · rintro j hy ⟨q1, q2⟩; exact ⟨hB9.gs q1.gs (by simpa using hn79), kin.ext q1.ex⟩
                rotate_left
                · exact ⟨RX.start hxR0 hsR0 hdR0 hrR0 hXL (by simp; omega) (by simp; omega), [], (MapT.new hB7).ext hxR0, KB.nil l⟩
                rotate_left
                ·
                  rintro j y hy hyj ⟨hC, L, hm, hkb⟩
                  have hsz := hC.size
                  subst hrec
                  have hyd : inR y.d := pos_in hpok y (List.mem_of_getElem? hyj)
                  obtain ⟨L2, hL2, hlk2⟩ := hkb.pre y.c
                  have hb1 := hg.all y.c l.length; rw [List.take_length] at hb1
                  have hb2 := dS_bd y.c (l := (pos x.bd).take j) (fun z hz2 => pos_in hpok z (List.mem_of_mem_take hz2))
                  have hb3 := hf.pos
                  rw [List.length_take] at hb2; simp only [MA] at hb2
                  refine hy_body (vs := [.agg (poL y).toArray]) (ps := [98]) hC.rc rfl rfl rfl (by decide) rfl rfl ?_
                  simp only [pars, List.zip_cons_cons, List.zip_nil_left, List.foldl_cons, List.foldl_nil]
                  have hD1 := hB1.gs hC.gs (by simpa using hn71)
                  have hD8 := hB8.gs hC.gs (by simpa using hn78)
                  have hr1 := hr.ext hC.ex
                  have hp1 := kp.ext hC.ex
                  refine hx_region ?_
                  refine WL.allocSt zr74 sz74 (fun u => by simp only [EN, Nat.reduceEqDiff, reduceIte, Value.cells, hp.cell, hB1.cell, hB2.cell, hB8.cell, hD1.cell, hD8.cell, hp1.cell]; rfl) ⟨rfl, rfl⟩ (by simp [Value.oneCell']) ?_
                  intro h10 B10 hx10 hlt10 hB10
                  replace hC := hC.ext hx10
                  replace hm := hm.ext hx10
                  replace hD1 := hD1.ext hx10
                  replace hD8 := hD8.ext hx10
                  replace hr1 := hr1.ext hx10
                  replace hp1 := hp1.ext hx10
                  refine WL.nil ?_
                  refine th_norm ?_
                  refine ⟨_, hC.rc, rfl, ?_⟩
                  intro h20 hw20
                  replace hC := hC.turn hw20
                  replace hm := hm.wr hw20 (by omega)
                  replace hD1 := hD1.wr hw20 (by omega)
                  replace hD8 := hD8.wr hw20 (by omega)
                  replace hB10 := hB10.wr hw20 (by omega)
                  replace hr1 := hr.ext hC.ex
                  replace hp1 := kp.ext hC.ex
                  refine hx_block ?_
                  refine hx_seq ?_
                  refine hx_seq ?_
                  refine hx_region ?_
                  refine WL.qq (by simp only [EN, Nat.reduceEqDiff, reduceIte, qv_load, ld131, readN, AR, Nat.zero_add, Nat.reduceAdd, hp.cell, hB1.cell, hB2.cell, hB8.cell, hD1.cell, hD8.cell, hp1.cell, hB10.cell]; rfl) ?_
                  refine WL.qq (by simp only [EN, Nat.reduceEqDiff, reduceIte, qv_fieldAddr, fa74_0, Nat.zero_add, Nat.reduceAdd, hp.cell, hB1.cell, hB2.cell, hB8.cell, hD1.cell, hD8.cell, hp1.cell, hB10.cell]; rfl) ?_
                  refine WL.qq (by simp only [EN, Nat.reduceEqDiff, reduceIte, qv_load, ld35, readN, AR, Nat.zero_add, Nat.reduceAdd, hp.cell, hB1.cell, hB2.cell, hB8.cell, hD1.cell, hD8.cell, hp1.cell, hB10.cell]; rfl) ?_
                  refine WL.qq (by simp only [EN, Nat.reduceEqDiff, reduceIte, k2_0, k3_0, k83_0, k84_0, i85_0, hp.cell, hB1.cell, hB2.cell, hB8.cell, hD1.cell, hD8.cell, hp1.cell, hB10.cell, qv_lookup, lkBt hm]; rfl) ?_
                  refine WL.qq (by simp only [EN, Nat.reduceEqDiff, reduceIte, qv_move, hp.cell, hB1.cell, hB2.cell, hB8.cell, hD1.cell, hD8.cell, hp1.cell, hB10.cell]; rfl) ?_
                  refine WL.qq (by simp only [EN, Nat.reduceEqDiff, reduceIte, qv_extract, AR, hp.cell, hB1.cell, hB2.cell, hB8.cell, hD1.cell, hD8.cell, hp1.cell, hB10.cell]; rfl) ?_
                  refine WL.qq (by simp only [EN, Nat.reduceEqDiff, reduceIte, qv_extract, AR, hp.cell, hB1.cell, hB2.cell, hB8.cell, hD1.cell, hD8.cell, hp1.cell, hB10.cell]; rfl) ?_
                  refine WL.allocSt zr95 sz95 (fun u => by simp only [EN, Nat.reduceEqDiff, reduceIte, Value.cells, hp.cell, hB1.cell, hB2.cell, hB8.cell, hD1.cell, hD8.cell, hp1.cell, hB10.cell]; rfl) ⟨rfl, rfl⟩ (by simp [Value.oneCell']) ?_
                  intro h11 B11 hx11 hlt11 hB11
                  replace hC := hC.ext hx11
                  replace hm := hm.ext hx11
                  replace hD1 := hD1.ext hx11
                  replace hD8 := hD8.ext hx11
                  replace hr1 := hr1.ext hx11
                  replace hp1 := hp1.ext hx11
                  replace hB10 := hB10.ext hx11
                  refine WL.qq (by simp only [EN, Nat.reduceEqDiff, reduceIte, qv_assign, hp.cell, hB1.cell, hB2.cell, hB8.cell, hD1.cell, hD8.cell, hp1.cell, hB10.cell, hB11.cell]; rfl) ?_
                  refine WL.nil ?_
                  refine th_norm ?_
                  refine hx_seq ?_
                  refine hx_region ?_
                  refine WL.qq (by simp only [EN, Nat.reduceEqDiff, reduceIte, qv_move, hp.cell, hB1.cell, hB2.cell, hB8.cell, hD1.cell, hD8.cell, hp1.cell, hB10.cell, hB11.cell]; rfl) ?_
                  refine WL.qq (by simp only [EN, Nat.reduceEqDiff, reduceIte, qv_unOp, unv_not, hp.cell, hB1.cell, hB2.cell, hB8.cell, hD1.cell, hD8.cell, hp1.cell, hB10.cell, hB11.cell]; rfl) ?_
                  refine WL.nil ?_
                  refine th_norm ?_
                  refine hx_cond (by simp only [EN, Nat.reduceEqDiff, reduceIte, hp.cell, hB1.cell, hB2.cell, hB8.cell, hD1.cell, hD8.cell, hp1.cell, hB10.cell, hB11.cell]; rfl) (fun hct107 => ?_) (fun hct107 => ?_)
                  ·
                    try simp only [BD] at hct107
                    have hns : ¬ (L.lookup y.c).isSome = true := (by rw [hct107]; simp)
                    apply hx_draw2 Rel.grows [12] [11] [(11, Spec.is _)] rfl (by decide +kernel) rfl
                    refine LD.qq rfl rfl (by simp only [EN, Nat.reduceEqDiff, reduceIte, qv_load, ld131, readN, AR, Nat.zero_add, Nat.reduceAdd, hp.cell, hB1.cell, hB2.cell, hB8.cell, hD1.cell, hD8.cell, hp1.cell, hB10.cell, hB11.cell]; rfl) ?_
                    refine LD.qq rfl rfl (by simp only [EN, Nat.reduceEqDiff, reduceIte, qv_fieldAddr, fa74_0, Nat.zero_add, Nat.reduceAdd, hp.cell, hB1.cell, hB2.cell, hB8.cell, hD1.cell, hD8.cell, hp1.cell, hB10.cell, hB11.cell]; rfl) ?_
                    refine LD.qq rfl rfl (by simp only [EN, Nat.reduceEqDiff, reduceIte, qv_load, ld35, readN, AR, Nat.zero_add, Nat.reduceAdd, hp.cell, hB1.cell, hB2.cell, hB8.cell, hD1.cell, hD8.cell, hp1.cell, hB10.cell, hB11.cell]; rfl) ?_
                    refine LD.qq rfl rfl (by simp only [EN, Nat.reduceEqDiff, reduceIte, qv_load, ld27, readN, AR, Nat.zero_add, Nat.reduceAdd, k2_0, hp.cell, hB1.cell, hB2.cell, hB8.cell, hD1.cell, hD8.cell, hp1.cell, hB10.cell, hB11.cell]; rfl) ?_
                    refine LD.qq rfl rfl (by simp only [EN, Nat.reduceEqDiff, reduceIte, qv_fieldAddr, fa74_0, Nat.zero_add, Nat.reduceAdd, hp.cell, hB1.cell, hB2.cell, hB8.cell, hD1.cell, hD8.cell, hp1.cell, hB10.cell, hB11.cell]; rfl) ?_
                    refine LD.qq rfl rfl (by simp only [EN, Nat.reduceEqDiff, reduceIte, qv_load, ld35, readN, AR, Nat.zero_add, Nat.reduceAdd, hp.cell, hB1.cell, hB2.cell, hB8.cell, hD1.cell, hD8.cell, hp1.cell, hB10.cell, hB11.cell]; rfl) ?_
                    refine LD.qq rfl rfl (by simp only [EN, Nat.reduceEqDiff, reduceIte, qv_load, ld27, readN, AR, Nat.zero_add, Nat.reduceAdd, k2_0, hp.cell, hB1.cell, hB2.cell, hB8.cell, hD1.cell, hD8.cell, hp1.cell, hB10.cell, hB11.cell]; rfl) ?_
                    refine LD.qq rfl rfl (by simp only [EN, Nat.reduceEqDiff, reduceIte, qv_nilCheck, hp.cell, hB1.cell, hB2.cell, hB8.cell, hD1.cell, hD8.cell, hp1.cell, hB10.cell, hB11.cell]; rfl) ?_
                    refine LD.qq rfl rfl (by simp only [EN, Nat.reduceEqDiff, reduceIte, qv_fieldAddr, fa93_0, Nat.zero_add, Nat.reduceAdd, hp.cell, hB1.cell, hB2.cell, hB8.cell, hD1.cell, hD8.cell, hp1.cell, hB10.cell, hB11.cell]; rfl) ?_
                    refine LD.qq rfl rfl (by simp only [EN, Nat.reduceEqDiff, reduceIte, qv_load, ld91, readN, AR, Nat.zero_add, Nat.reduceAdd, hp.cell, hB1.cell, hB2.cell, hB8.cell, hD1.cell, hD8.cell, hp1.cell, hB10.cell, hB11.cell]; rfl) ?_
                    refine LD.qq rfl rfl (by simp only [EN, Nat.reduceEqDiff, reduceIte, qv_len, ln91, AR, hp.cell, hB1.cell, hB2.cell, hB8.cell, hD1.cell, hD8.cell, hp1.cell, hB10.cell, hB11.cell]; rfl) ?_
                    refine LD.ck rfl rfl Try.call42 (by intro hD hr; have hx : Ext _ _ := hr; have hC := hC.ext hx; have hm := hm.ext hx; have hD1 := hD1.ext hx; have hD8 := hD8.ext hx; have hr1 := hr1.ext hx; have hp1 := hp1.ext hx; have hB10 := hB10.ext hx; have hB11 := hB11.ext hx; simp only [EN, Nat.reduceEqDiff, reduceIte, AR, hp.cell, hB1.cell, hB2.cell, hB8.cell, hD1.cell, hD8.cell, hp1.cell, hB10.cell, hB11.cell]; exact c_sum y.c xs.length hll hg hr1) ?_
                    refine LD.skip rfl ?_
                    refine LD.nil ?_
                    rintro h12 hx12 hF24
                    replace hx12 : Ext _ _ := hx12
                    replace hC := hC.ext hx12
                    replace hm := hm.ext hx12
                    replace hD1 := hD1.ext hx12
                    replace hD8 := hD8.ext hx12
                    replace hr1 := hr1.ext hx12
                    replace hp1 := hp1.ext hx12
                    replace hB10 := hB10.ext hx12
                    replace hB11 := hB11.ext hx12
                    refine WL.ef _ (e_mapUpdate (x := y.c) (v := dS y.c (allP l)) ktA Try.underlying131 hm (by simp only [EN, Nat.reduceEqDiff, reduceIte, k2_0, k3_0, k83_0, k84_0, i85_0, hp.cell, hB1.cell, hB2.cell, hB8.cell, hD1.cell, hD8.cell, hp1.cell, hB10.cell, hB11.cell]) (by simp only [EN, Nat.reduceEqDiff, reduceIte, k2_0, k3_0, k83_0, k84_0, i85_0, hp.cell, hB1.cell, hB2.cell, hB8.cell, hD1.cell, hD8.cell, hp1.cell, hB10.cell, hB11.cell] <;> rfl) (by simp only [EN, Nat.reduceEqDiff, reduceIte, k2_0, k3_0, k83_0, k84_0, i85_0, hp.cell, hB1.cell, hB2.cell, hB8.cell, hD1.cell, hD8.cell, hp1.cell, hB10.cell, hB11.cell, htk] <;> rfl)) ?_
                    rintro _ h40 ⟨⟨o40, hw40⟩, hm40⟩
                    simp only [put_none]
                    replace hC := hC.put hw40 (.inl (by simp))
                    replace hD8 := hD8.wr hw40 hn78
                    replace hD1 := hD1.wr hw40 hn71
                    replace hB10 := hB10.wr hw40 (by omega)
                    replace hr1 := hr.ext hC.ex
                    replace hp1 := kp.ext hC.ex
                    rw [← (show L2 = mset L y.c (dS y.c (allP l)) by rw [hL2, if_neg hns])] at hm40
                    replace hm := hm40
                    refine WL.nil ?_
                    refine th_norm ?_
                    apply hx_draw2 Rel.grows [10] [9] [(9, Spec.is _)] rfl (by decide +kernel) rfl
                    refine LD.qq rfl rfl (by simp only [EN, Nat.reduceEqDiff, reduceIte, qv_load, ld131, readN, AR, Nat.zero_add, Nat.reduceAdd, hp.cell, hB1.cell, hB2.cell, hB8.cell, hD1.cell, hD8.cell, hp1.cell, hB10.cell, hB11.cell]; rfl) ?_
                    refine LD.qq rfl rfl (by simp only [EN, Nat.reduceEqDiff, reduceIte, qv_fieldAddr, fa74_0, Nat.zero_add, Nat.reduceAdd, hp.cell, hB1.cell, hB2.cell, hB8.cell, hD1.cell, hD8.cell, hp1.cell, hB10.cell, hB11.cell]; rfl) ?_
                    refine LD.qq rfl rfl (by simp only [EN, Nat.reduceEqDiff, reduceIte, qv_load, ld35, readN, AR, Nat.zero_add, Nat.reduceAdd, hp.cell, hB1.cell, hB2.cell, hB8.cell, hD1.cell, hD8.cell, hp1.cell, hB10.cell, hB11.cell]; rfl) ?_
                    refine LD.qq rfl rfl (by simp only [EN, Nat.reduceEqDiff, reduceIte, qv_load, ld131, readN, AR, Nat.zero_add, Nat.reduceAdd, hp.cell, hB1.cell, hB2.cell, hB8.cell, hD1.cell, hD8.cell, hp1.cell, hB10.cell, hB11.cell]; rfl) ?_
                    refine LD.qq rfl rfl (by simp only [EN, Nat.reduceEqDiff, reduceIte, qv_fieldAddr, fa74_0, Nat.zero_add, Nat.reduceAdd, hp.cell, hB1.cell, hB2.cell, hB8.cell, hD1.cell, hD8.cell, hp1.cell, hB10.cell, hB11.cell]; rfl) ?_
                    refine LD.qq rfl rfl (by simp only [EN, Nat.reduceEqDiff, reduceIte, qv_load, ld35, readN, AR, Nat.zero_add, Nat.reduceAdd, hp.cell, hB1.cell, hB2.cell, hB8.cell, hD1.cell, hD8.cell, hp1.cell, hB10.cell, hB11.cell]; rfl) ?_
                    refine LD.qq rfl rfl (by simp only [EN, Nat.reduceEqDiff, reduceIte, k2_0, k3_0, k83_0, k84_0, i85_0, hp.cell, hB1.cell, hB2.cell, hB8.cell, hD1.cell, hD8.cell, hp1.cell, hB10.cell, hB11.cell, qv_lookup, lkB hm]; rfl) ?_
                    refine LD.qq rfl rfl (by simp only [EN, Nat.reduceEqDiff, reduceIte, qv_fieldAddr, fa74_1, Nat.zero_add, Nat.reduceAdd, hp.cell, hB1.cell, hB2.cell, hB8.cell, hD1.cell, hD8.cell, hp1.cell, hB10.cell, hB11.cell]; rfl) ?_
                    refine LD.qq rfl rfl (by simp only [EN, Nat.reduceEqDiff, reduceIte, qv_load, ld2, readN, AR, Nat.zero_add, Nat.reduceAdd, hp.cell, hB1.cell, hB2.cell, hB8.cell, hD1.cell, hD8.cell, hp1.cell, hB10.cell, hB11.cell]; rfl) ?_
                    refine LD.ck rfl rfl Try.call66 (by intro hD hr; have hx : Ext _ _ := hr; have hC := hC.ext hx; have hm := hm.ext hx; have hD1 := hD1.ext hx; have hD8 := hD8.ext hx; have hB10 := hB10.ext hx; have hr1 := hr1.ext hx; have hp1 := hp1.ext hx; simp only [EN, Nat.reduceEqDiff, reduceIte, AR, hp.cell, hB1.cell, hB2.cell, hB8.cell, hD1.cell, hD8.cell, hp1.cell, hB10.cell, hB11.cell]; exact c_plus _ y.d (by rw [hlk2]; omega) hyd _) ?_
                    refine LD.skip rfl ?_
                    refine LD.nil ?_
                    rintro h13 hx13 hF25
                    replace hx13 : Ext _ _ := hx13
                    replace hC := hC.ext hx13
                    replace hm := hm.ext hx13
                    replace hD1 := hD1.ext hx13
                    replace hD8 := hD8.ext hx13
                    replace hB10 := hB10.ext hx13
                    replace hr1 := hr1.ext hx13
                    replace hp1 := hp1.ext hx13
                    refine WL.ef _ (e_mapUpdate (x := y.c) (v := lk L2 y.c + y.d) ktA Try.underlying131 hm (by simp only [EN, Nat.reduceEqDiff, reduceIte, k2_0, k3_0, k83_0, k84_0, i85_0, hp.cell, hB1.cell, hB2.cell, hB8.cell, hD1.cell, hD8.cell, hp1.cell, hB10.cell, hB11.cell]) (by simp only [EN, Nat.reduceEqDiff, reduceIte, k2_0, k3_0, k83_0, k84_0, i85_0, hp.cell, hB1.cell, hB2.cell, hB8.cell, hD1.cell, hD8.cell, hp1.cell, hB10.cell, hB11.cell] <;> rfl) (by simp only [EN, Nat.reduceEqDiff, reduceIte, k2_0, k3_0, k83_0, k84_0, i85_0, hp.cell, hB1.cell, hB2.cell, hB8.cell, hD1.cell, hD8.cell, hp1.cell, hB10.cell, hB11.cell] <;> rfl)) ?_
                    rintro _ h41 ⟨⟨o41, hw41⟩, hm41⟩
                    simp only [put_none]
                    replace hC := hC.put hw41 (.inl (by simp))
                    refine WL.nil ?_
                    refine bl_norm ?_
                    refine ⟨_, hC.rc, ?_⟩
                    intro h30 hw30
                    exact ⟨true, rfl, fun _ => ⟨hC.turn hw30, _, hm41.wr hw30 (by omega), by rw [List.take_add_one, hyj]; exact hkb.step hL2⟩, fun hh => by cases hh⟩
                  ·
                    try simp only [BD] at hct107
                    have hns : (L.lookup y.c).isSome = true := hct107
                    rw [← (show L2 = L by rw [hL2, if_pos hns])] at hm
                    refine hx_skip ?_
                    refine th_norm ?_
                    apply hx_draw2 Rel.grows [10] [9] [(9, Spec.is _)] rfl (by decide +kernel) rfl
                    refine LD.qq rfl rfl (by simp only [EN, Nat.reduceEqDiff, reduceIte, qv_load, ld131, readN, AR, Nat.zero_add, Nat.reduceAdd, hp.cell, hB1.cell, hB2.cell, hB8.cell, hD1.cell, hD8.cell, hp1.cell, hB10.cell, hB11.cell]; rfl) ?_
                    refine LD.qq rfl rfl (by simp only [EN, Nat.reduceEqDiff, reduceIte, qv_fieldAddr, fa74_0, Nat.zero_add, Nat.reduceAdd, hp.cell, hB1.cell, hB2.cell, hB8.cell, hD1.cell, hD8.cell, hp1.cell, hB10.cell, hB11.cell]; rfl) ?_
                    refine LD.qq rfl rfl (by simp only [EN, Nat.reduceEqDiff, reduceIte, qv_load, ld35, readN, AR, Nat.zero_add, Nat.reduceAdd, hp.cell, hB1.cell, hB2.cell, hB8.cell, hD1.cell, hD8.cell, hp1.cell, hB10.cell, hB11.cell]; rfl) ?_
                    refine LD.qq rfl rfl (by simp only [EN, Nat.reduceEqDiff, reduceIte, qv_load, ld131, readN, AR, Nat.zero_add, Nat.reduceAdd, hp.cell, hB1.cell, hB2.cell, hB8.cell, hD1.cell, hD8.cell, hp1.cell, hB10.cell, hB11.cell]; rfl) ?_
                    refine LD.qq rfl rfl (by simp only [EN, Nat.reduceEqDiff, reduceIte, qv_fieldAddr, fa74_0, Nat.zero_add, Nat.reduceAdd, hp.cell, hB1.cell, hB2.cell, hB8.cell, hD1.cell, hD8.cell, hp1.cell, hB10.cell, hB11.cell]; rfl) ?_
                    refine LD.qq rfl rfl (by simp only [EN, Nat.reduceEqDiff, reduceIte, qv_load, ld35, readN, AR, Nat.zero_add, Nat.reduceAdd, hp.cell, hB1.cell, hB2.cell, hB8.cell, hD1.cell, hD8.cell, hp1.cell, hB10.cell, hB11.cell]; rfl) ?_
                    refine LD.qq rfl rfl (by simp only [EN, Nat.reduceEqDiff, reduceIte, k2_0, k3_0, k83_0, k84_0, i85_0, hp.cell, hB1.cell, hB2.cell, hB8.cell, hD1.cell, hD8.cell, hp1.cell, hB10.cell, hB11.cell, qv_lookup, lkB hm]; rfl) ?_
                    refine LD.qq rfl rfl (by simp only [EN, Nat.reduceEqDiff, reduceIte, qv_fieldAddr, fa74_1, Nat.zero_add, Nat.reduceAdd, hp.cell, hB1.cell, hB2.cell, hB8.cell, hD1.cell, hD8.cell, hp1.cell, hB10.cell, hB11.cell]; rfl) ?_
                    refine LD.qq rfl rfl (by simp only [EN, Nat.reduceEqDiff, reduceIte, qv_load, ld2, readN, AR, Nat.zero_add, Nat.reduceAdd, hp.cell, hB1.cell, hB2.cell, hB8.cell, hD1.cell, hD8.cell, hp1.cell, hB10.cell, hB11.cell]; rfl) ?_
                    refine LD.ck rfl rfl Try.call66 (by intro hD hr; have hx : Ext _ _ := hr; have hC := hC.ext hx; have hm := hm.ext hx; have hD1 := hD1.ext hx; have hD8 := hD8.ext hx; have hr1 := hr1.ext hx; have hp1 := hp1.ext hx; have hB10 := hB10.ext hx; have hB11 := hB11.ext hx; simp only [EN, Nat.reduceEqDiff, reduceIte, AR, hp.cell, hB1.cell, hB2.cell, hB8.cell, hD1.cell, hD8.cell, hp1.cell, hB10.cell, hB11.cell]; exact c_plus _ y.d (by rw [hlk2]; omega) hyd _) ?_
                    refine LD.skip rfl ?_
                    refine LD.nil ?_
                    rintro h14 hx14 hF25
                    replace hx14 : Ext _ _ := hx14
                    replace hC := hC.ext hx14
                    replace hm := hm.ext hx14
                    replace hD1 := hD1.ext hx14
                    replace hD8 := hD8.ext hx14
                    replace hr1 := hr1.ext hx14
                    replace hp1 := hp1.ext hx14
                    replace hB10 := hB10.ext hx14
                    replace hB11 := hB11.ext hx14
                    refine WL.ef _ (e_mapUpdate (x := y.c) (v := lk L2 y.c + y.d) ktA Try.underlying131 hm (by simp only [EN, Nat.reduceEqDiff, reduceIte, k2_0, k3_0, k83_0, k84_0, i85_0, hp.cell, hB1.cell, hB2.cell, hB8.cell, hD1.cell, hD8.cell, hp1.cell, hB10.cell, hB11.cell]) (by simp only [EN, Nat.reduceEqDiff, reduceIte, k2_0, k3_0, k83_0, k84_0, i85_0, hp.cell, hB1.cell, hB2.cell, hB8.cell, hD1.cell, hD8.cell, hp1.cell, hB10.cell, hB11.cell] <;> rfl) (by simp only [EN, Nat.reduceEqDiff, reduceIte, k2_0, k3_0, k83_0, k84_0, i85_0, hp.cell, hB1.cell, hB2.cell, hB8.cell, hD1.cell, hD8.cell, hp1.cell, hB10.cell, hB11.cell] <;> rfl)) ?_
                    rintro _ h41 ⟨⟨o41, hw41⟩, hm41⟩
                    simp only [put_none]
                    replace hC := hC.put hw41 (.inl (by simp))
                    refine WL.nil ?_
                    refine bl_norm ?_
                    refine ⟨_, hC.rc, ?_⟩
                    intro h30 hw30
                    exact ⟨true, rfl, fun _ => ⟨hC.turn hw30, _, hm41.wr hw30 (by omega), by rw [List.take_add_one, hyj]; exact hkb.step hL2⟩, fun hh => by cases hh⟩
                ·
                  rintro v0 h3 (⟨hC, L, hm, hkb⟩ | hf2)
                  rotate_left
                  · exact hf2.elim
                  refine after_any hC.rc (by subst hrec; rfl) (.inl ⟨by subst hrec; rfl, ?_⟩)
                  intro h31 o hw31
                  rw [List.take_length] at hkb
                  replace hm := hm.wr hw31 (by omega)
                  have hE31 := (hC.end_ hw31 (by omega)).2
                  have hd31 : Has h31 n7 (.deferred (some [])) := (by rw [Has, hw31.same _ (by omega), ← hn7]; exact hC.df)
                  have hD31 := (hB8.gs hC.gs (by simpa using hn78)).wr hw31 (by omega)
                  have hovf := hkb.ovf hm.nodup
                  refine bl_norm ?_
                  refine th_norm ?_
                  refine hx_seq ?_
                  refine hx_seq ?_
                  refine hx_region ?_
                  refine WL.qq (by simp only [EN, Nat.reduceEqDiff, reduceIte, qv_load, ld131, readN, AR, Nat.zero_add, Nat.reduceAdd, hp.cell, hB1.cell, hB2.cell, hB8.cell, hD31.cell]; rfl) ?_
                  refine WL.ef _ (e_range Try.underlying131 hm (by simp only [EN, Nat.reduceEqDiff, reduceIte, k2_0, k3_0, k83_0, k84_0, i85_0, hp.cell, hB1.cell, hB2.cell, hB8.cell, hD31.cell])) ?_
                  rintro _ h50 ⟨it, rfl, hit, hx50, hsz50, hI⟩
                  simp only [put_some]
                  have hd50 := hd31.ext hx50
                  have hX50 := hE31.trans hx50
                  have hzz := hE31.size
                  have hdl := (Array.getElem?_eq_some_iff.1 hd31).1
                  refine WL.nil ?_
                  refine th_norm ?_
                  refine hx_block ?_
                  refine hx_loopG [4, 14, 132, 133, 134, 135, 136, 137, 138] (fun k e hL1 => ∃ (left : List (AC × Int)), left.length = k ∧ (Ext h hL1) ∧ (Has hL1 n7 (.deferred (some []))) ∧ (IterT acV wV hL1 it B7 L left) ∧ ((∀ y ∈ left, y ∈ L)) ∧ ((∀ y ∈ L, y ∈ left ∨ inR y.2))) _ ⟨L, rfl, ?_, ?_, ?_, ?_, ?_⟩ ?_
                  · exact hX50
                  · exact hd50
                  · exact hI
                  · exact fun y hy => hy
                  · exact fun y hy => .inl hy
                  ·
                    rintro k e1L hL1 hfr1 ⟨left, rfl, hX, hd, hI, hsub, hz2⟩
                    have k131_1 := hfr1 131 rfl; try simp only [EN, Nat.reduceEqDiff, reduceIte, hp.cell, hB1.cell, hB2.cell, hB8.cell, hD31.cell] at k131_1
                    refine hx_seq ?_
                    refine hx_region ?_
                    refine WL.ef _ (e_next2 ktA hI (by simp only [EN, Nat.reduceEqDiff, reduceIte, k131_1, hp.cell, hB1.cell, hB2.cell, hB8.cell, hD31.cell])) ?_
                    rintro _ h51 ⟨bb1, vs1, rfl, hv1, hst1, hT1, hF1⟩
                    simp only [put_some]
                    have hx51 : Ext h h51 := (by rcases hst1 with rfl | ⟨o, hw⟩; exact hX; exact hw.ext hX (by omega))
                    replace hd : Has h51 n7 (.deferred (some [])) := (by rcases hst1 with rfl | ⟨o, hw⟩; exact hd; exact hd.wr hw (by omega))
                    refine WL.qq (by simp only [EN, Nat.reduceEqDiff, reduceIte, k131_1, hp.cell, hB1.cell, hB2.cell, hB8.cell, hD31.cell, qv_extract, hv1]; rfl) ?_
                    refine WL.nil ?_
                    refine th_norm ?_
                    refine hx_seq ?_
                    refine hx_cond (by simp only [EN, Nat.reduceEqDiff, reduceIte, hp.cell, hB1.cell, hB2.cell, hB8.cell, hD31.cell]; rfl) (fun hct133 => ?_) (fun hct133 => ?_)
                    ·
                      try simp only [BD] at hct133
                      obtain ⟨q1, left', hp1, hS⟩ := hT1 hct133; have hlen1 := hp1.length_eq; rw [List.length_cons] at hlen1; have hql := hsub q1 (hp1.mem_iff.2 (by simp))
                      refine hx_skip ?_
                      refine th_norm ?_
                      refine hx_block ?_
                      refine hx_seq ?_
                      refine hx_region ?_
                      refine WL.ef _ (e_entry hS (by simp only [EN, Nat.reduceEqDiff, reduceIte, k131_1, hp.cell, hB1.cell, hB2.cell, hB8.cell, hD31.cell])) ?_
                      rintro _ hX2 ⟨rfl, hq1x⟩
                      obtain rfl : h51 = hX2 := hq1x.symm
                      simp only [put_some]
                      refine WL.qq (by simp only [EN, Nat.reduceEqDiff, reduceIte, qv_extract, AR, hp.cell, hB1.cell, hB2.cell, hB8.cell, hD31.cell]; rfl) ?_
                      refine WL.allocSt zr95 sz95 (fun u => by simp only [EN, Nat.reduceEqDiff, reduceIte, Value.cells, hp.cell, hB1.cell, hB2.cell, hB8.cell, hD31.cell]; rfl) ⟨rfl, rfl⟩ (by simp [Value.oneCell']) ?_
                      intro h15 B15 hx15 hlt15 hB15
                      replace hd := hd.ext hx15
                      replace hS := hS.ext hx15
                      refine WL.nil ?_
                      refine th_norm ?_
                      refine hx_seq ?_
                      refine hx_region ?_
                      refine WL.qq (by simp only [EN, Nat.reduceEqDiff, reduceIte, qv_load, ld95, readN, AR, Nat.zero_add, Nat.reduceAdd, hp.cell, hB1.cell, hB2.cell, hB8.cell, hD31.cell, hB15.cell]; rfl) ?_
                      refine WL.cg Try.call76 (by simp only [EN, Nat.reduceEqDiff, reduceIte, AR, hp.cell, hB1.cell, hB2.cell, hB8.cell, hD31.cell, hB15.cell]; exact c_isAm q1.2 _) ?_
                      intro h16 hx16
                      replace hd := hd.ext hx16
                      replace hS := hS.ext hx16
                      replace hB15 := hB15.ext hx16
                      refine WL.qq (by simp only [EN, Nat.reduceEqDiff, reduceIte, qv_unOp, unv_not, hp.cell, hB1.cell, hB2.cell, hB8.cell, hD31.cell, hB15.cell]; rfl) ?_
                      refine WL.nil ?_
                      refine th_norm ?_
                      refine hx_cond (by simp only [EN, Nat.reduceEqDiff, reduceIte, hp.cell, hB1.cell, hB2.cell, hB8.cell, hD31.cell, hB15.cell]; rfl) (fun hct138 => ?_) (fun hct138 => ?_)
                      ·
                        try simp only [BD] at hct138
                        refine hx_seq ?_
                        refine hx_region ?_
                        refine WL.qq (by simp only [EN, Nat.reduceEqDiff, reduceIte, qv_assign, hp.cell, hB1.cell, hB2.cell, hB8.cell, hD31.cell, hB15.cell]; rfl) ?_
                        refine WL.nil ?_
                        refine th_norm ?_
                        refine hx_ret ?_
                        refine bl_ret ?_
                        refine th_ret ?_
                        refine bl_ret ?_
                        refine th_ret ?_
                        refine fin_mark (.inr rfl) [.tmp 4] rfl rfl (by rw [hn7]; exact hd) ?_
                        intro h5 hw5
                        have h9 : ¬ inR q1.2 := of_decide_eq_false hct138
                        exact ⟨[iV 12], by simp only [resv, EN, Nat.reduceEqDiff, reduceIte, k131_1, hp.cell, hB1.cell, hB2.cell, hB8.cell, hD31.cell, hB15.cell], (congrArg iV (bdE_ovf (b := x.bd) hq1 hq2 hq3 hq4 hq5 (hovf.2 (fun hh => h9 (hh q1 hql))))).symm, hw5.ext (hx51.trans ((hx15).trans (hx16))) (by omega)⟩
                      ·
                        try simp only [BD] at hct138
                        refine hx_skip ?_
                        refine bl_norm ?_
                        refine th_norm ?_
                        refine ⟨rfl, ?_, _, ?_, left', rfl, ?_, ?_, ?_, ?_, ?_⟩  -- again 0 of loop 1
                        · (repeat (first | exact Fr.refl _ _ | refine Fr.set rfl ?_ | refine Fr.put rfl ?_ | with_reducible refine Fr.put0 ?_))
                        · omega
                        · exact hx51.trans ((hx15).trans (hx16))
                        · exact hd
                        · exact hS.iter
                        · exact fun y hy => hsub y (hp1.mem_iff.2 (by simp [hy]))
                        · exact perm_sub (P := fun y => inR y.2) hp1 hz2 (show inR q1.2 from of_decide_eq_true hct138)
                    ·
                      try simp only [BD] at hct133
                      obtain ⟨hl0, hmm⟩ := hF1 hct133; subst hl0
                      refine hx_exit ?_
                      refine th_exit ?_
                      refine th_exit ?_
                      refine bl_hit ?_
                      refine th_norm ?_
                      refine hx_seq ?_
                      refine hx_region ?_
                      refine WL.qq (by simp only [EN, Nat.reduceEqDiff, reduceIte, qv_assign, hp.cell, hB1.cell, hB2.cell, hB8.cell, hD31.cell]; rfl) ?_
                      refine WL.nil ?_
                      refine th_norm ?_
                      refine hx_ret ?_
                      refine fin_mark (.inr rfl) [.tmp 4] rfl rfl (by rw [hn7]; exact hd) ?_
                      intro h5 hw5
                      exact ⟨[iV 0], by simp only [resv, EN, Nat.reduceEqDiff, reduceIte, k131_1, hp.cell, hB1.cell, hB2.cell, hB8.cell, hD31.cell], (congrArg iV (bdE_ok (b := x.bd) hq1 hq2 hq3 hq4 hq5 (fun hh => hovf.1 hh (fun y hy => (hz2 y hy).resolve_left (by simp))))).symm, hw5.ext hx51 (by omega)⟩
end GL


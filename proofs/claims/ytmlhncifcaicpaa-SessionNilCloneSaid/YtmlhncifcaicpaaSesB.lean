/- Session: Accept. -/
import Derived.Test.YtmlhncifcaicpaaSesA
import Derived.Test.YtmlhncifcaicpaaGl33
set_option linter.unusedSimpArgs false
set_option linter.unusedVariables false
set_option linter.unnecessarySimpa false
namespace GL
open Go Go.Proofs
set_option maxRecDepth 8000
/-! What is delivered (plain). -/
def drain : Nat → Int → List M2 → Int × List M2 × List ByteArray
  | 0, n, bf => (n, bf, [])
  | k + 1, n, bf => match bf.lookup n with
    | none => (n, bf, [])
    | some p => ((drain k (n + 1) (mdel bf n)).1, (drain k (n + 1) (mdel bf n)).2.1, p :: (drain k (n + 1) (mdel bf n)).2.2)
def dr (n : Int) (bf : List M2) : Int × List M2 × List ByteArray := drain bf.length n bf
theorem mdel_len {bf : List M2} (hn : (bf.map Prod.fst).Nodup) {n : Int} {p : ByteArray} (h : bf.lookup n = some p) : (mdel bf n).length + 1 = bf.length := by
  induction bf with
  | nil => simp at h
  | cons x bf ih =>
    rw [List.map_cons, List.nodup_cons] at hn
    by_cases hx : x.1 = n
    · have h1 : mdel (x :: bf) n = bf := by
        unfold mdel
        rw [List.filter_cons_of_neg (by simp [hx])]
        rw [List.filter_eq_self]
        intro y hy
        simp only [decide_eq_true_eq]
        intro hh
        exact hn.1 (by rw [hx, ← hh]; exact List.mem_map_of_mem hy)
      rw [h1, List.length_cons]
    · have h1 : mdel (x :: bf) n = x :: mdel bf n := by
        unfold mdel
        rw [List.filter_cons_of_pos (by simp [hx])]
      have h2 : bf.lookup n = some p := by
        have h9 : (n == x.1) = false := by simpa using fun hh => hx hh.symm
        rw [List.lookup_cons, h9] at h
        exact h
      have := ih hn.2 h2
      rw [h1, List.length_cons, List.length_cons]; omega
theorem dr_none {n : Int} {bf : List M2} (h : bf.lookup n = none) : dr n bf = (n, bf, []) := by
  unfold dr
  cases hk : bf.length with
  | zero => rfl
  | succ k => simp only [drain, h]
theorem dr_some {n : Int} {bf : List M2} (hn : (bf.map Prod.fst).Nodup) {p : ByteArray} (h : bf.lookup n = some p) :
    dr n bf = ((dr (n + 1) (mdel bf n)).1, (dr (n + 1) (mdel bf n)).2.1, p :: (dr (n + 1) (mdel bf n)).2.2) := by
  have hl := mdel_len hn h
  unfold dr
  rw [← hl]
  simp only [drain, h]
/-- A receiver that has taken messages. -/
structure RG (w n : Int) (bf : List M2) : Prop where
  w1 : 1 ≤ w
  w2 : w ≤ 256
  n1 : 1 ≤ n
  n2 : n ≤ 1000000001
  nd : (bf.map Prod.fst).Nodup
  ge : ∀ x ∈ bf, n ≤ x.1
  hi : ∀ x ∈ bf, x.1 ≤ n + w - 1
  mx : ∀ x ∈ bf, x.1 ≤ 1000000000
theorem RG.len {w n : Int} {bf : List M2} (h : RG w n bf) : (bf.length : Int) ≤ w := by
  have h1 : (bf.map fun x => (x.1 - n).toNat).Nodup := by
    have h2 := h.nd
    rw [List.nodup_iff_pairwise_ne, List.pairwise_map] at h2 ⊢
    refine h2.imp_of_mem ?_
    intro a b ha hb hne hh
    have := h.ge a ha
    have := h.ge b hb
    exact hne (by omega)
  have h2 := List.Nodup.length_le_of_subset h1 (l₂ := List.range w.toNat) (fun k hk => by
    obtain ⟨x, hx, rfl⟩ := List.mem_map.1 hk
    have := h.ge x hx
    have := h.hi x hx
    have := h.w1
    rw [List.mem_range]; omega)
  rw [List.length_map, List.length_range] at h2
  have := h.w1
  omega
theorem RG.mdel_ {w n : Int} {bf : List M2} {p : ByteArray} (h : RG w n bf) (hl : bf.lookup n = some p) : RG w (n + 1) (mdel bf n) := by
  have hm := mem_lookup hl
  have h1 := h.mx _ hm
  simp only at h1
  have sub : ∀ x ∈ mdel bf n, x ∈ bf ∧ x.1 ≠ n := fun x hx => by
    obtain ⟨q1, q2⟩ := List.mem_filter.1 hx
    exact ⟨q1, by simpa using q2⟩
  refine ⟨h.w1, h.w2, by have := h.n1; omega, by omega, mdel_nd h.nd, fun x hx => ?_, fun x hx => ?_, fun x hx => h.mx x (sub x hx).1⟩
  · have := h.ge x (sub x hx).1
    have := (sub x hx).2
    omega
  · have := h.hi x (sub x hx).1
    omega
theorem RG.dr {w : Int} : ∀ (k : Nat) {n : Int} {bf : List M2}, RG w n bf → bf.length = k → RG w (GL.dr n bf).1 (GL.dr n bf).2.1 ∧ (GL.dr n bf).2.1.lookup (GL.dr n bf).1 = none
  | 0, n, bf, h, hk => by
    have : bf = [] := List.length_eq_zero_iff.1 hk
    subst this
    exact ⟨h, rfl⟩
  | k + 1, n, bf, h, hk => by
    cases hl : bf.lookup n with
    | none => rw [dr_none hl]; exact ⟨h, hl⟩
    | some p =>
      rw [dr_some h.nd hl]
      have h1 := mdel_len h.nd hl
      exact RG.dr k (h.mdel_ hl) (by omega)
/-- The error with which a message is rejected. -/
def accE (w n : Int) (bf : List M2) (m : M2) : Int :=
  if m.1 < 1 ∨ 1000000000 < m.1 then 2 else if 4096 < m.2.size then 5 else if m.1 < n ∨ (bf.lookup m.1).isSome = true then 7 else if n + w - 1 < m.1 then 8 else 0
def accN (w n : Int) (bf : List M2) (m : M2) : Int := if accE w n bf m = 0 then (dr n (bf ++ [m])).1 else n
def accB (w n : Int) (bf : List M2) (m : M2) : List M2 := if accE w n bf m = 0 then (dr n (bf ++ [m])).2.1 else bf
def accO (w n : Int) (bf : List M2) (m : M2) : List ByteArray := if accE w n bf m = 0 then (dr n (bf ++ [m])).2.2 else []
theorem accE_ok {w n : Int} {bf : List M2} {m : M2} (h : accE w n bf m = 0) : 1 ≤ m.1 ∧ m.1 ≤ 1000000000 ∧ m.2.size ≤ 4096 ∧ n ≤ m.1 ∧ bf.lookup m.1 = none ∧ m.1 ≤ n + w - 1 := by
  unfold accE at h
  by_cases h1 : m.1 < 1 ∨ 1000000000 < m.1
  · rw [if_pos h1] at h; cases h
  rw [if_neg h1] at h
  by_cases h2 : 4096 < m.2.size
  · rw [if_pos h2] at h; cases h
  rw [if_neg h2] at h
  by_cases h3 : m.1 < n ∨ (bf.lookup m.1).isSome = true
  · rw [if_pos h3] at h; cases h
  rw [if_neg h3] at h
  by_cases h4 : n + w - 1 < m.1
  · rw [if_pos h4] at h; cases h
  have h5 : bf.lookup m.1 = none := by
    cases hl : bf.lookup m.1 with
    | none => rfl
    | some p => exact absurd (.inr (by rw [hl]; rfl)) h3
  exact ⟨by omega, by omega, by omega, by omega, h5, by omega⟩
theorem RG.add {w n : Int} {bf : List M2} {m : M2} (h : RG w n bf) (he : accE w n bf m = 0) : RG w n (bf ++ [m]) := by
  obtain ⟨h1, h2, h3, h4, h5, h6⟩ := accE_ok he
  refine ⟨h.w1, h.w2, h.n1, h.n2, ?_, ?_, ?_, ?_⟩
  · rw [List.map_append, List.nodup_append]
    refine ⟨h.nd, by simp, fun a ha b hb hab => ?_⟩
    simp at hb
    obtain ⟨x, hx, rfl⟩ := List.mem_map.1 ha
    exact lookup_none_iff.1 h5 x hx (hab.trans hb)
  all_goals
    intro x hx
    rcases List.mem_append.1 hx with hx | hx
  · exact h.ge x hx
  · simp at hx; subst hx; omega
  · exact h.hi x hx
  · simp at hx; subst hx; omega
  · exact h.mx x hx
  · simp at hx; subst hx; omega
theorem RG.acc {w n : Int} {bf : List M2} (m : M2) (h : RG w n bf) (h0 : bf.lookup n = none) : RG w (accN w n bf m) (accB w n bf m) ∧ (accB w n bf m).lookup (accN w n bf m) = none := by
  unfold accN accB
  by_cases he : accE w n bf m = 0
  · rw [if_pos he, if_pos he]
    exact RG.dr _ (h.add he) rfl
  · rw [if_neg he, if_neg he]
    exact ⟨h, h0⟩
section
variable {h : Heap} {p b : Nat} {w n : Int} {bf : List M2}
theorem IsRc.step {h' : Heap} {n' : Int} {c : Array Value} (hb : IsRc h p b w n bf) (hw : Wr h h' p (.cells c 83)) (hc : c = #[iV w, iV n', .map (some b)]) : IsRc h' p b w n' bf := by
  subst hc
  exact ⟨hw.at_, hb.buf.wr hw (Ne.symm hb.ne)⟩
set_option maxHeartbeats 2000000 in
theorem c_Accept (m : M2) (hG : RG w n bf) (hb : IsRc h p b w n bf) :
    HCalls Try.prog 16 #[.pointer (some ⟨p, 0, none⟩), .agg (msgL m).toArray] h fun v h' => ∃ a cap, v = .tuple #[.slice a (accO w n bf m).length cap, iV (accE w n bf m)] ∧ SlR 9 1 strL h' a (accO w n bf m) ∧ IsRc h' p b w (accN w n bf m) (accB w n bf m) ∧ Gs h h' [p, b] ∧ (accE w n bf m ≠ 0 → Ext h h') := by
  have hnd := hG.nd; have hn1 := hG.n1; have hn2 := hG.n2; have hw1 := hG.w1; have hw2 := hG.w2
  refine hcalls2 Try.func16 rfl (by decide +kernel) (by simp only [Try.ntmps16]; exact of_decide_eq_true rfl) ?_
  intro e hin
  have e0 := hin 0 _ rfl
  have e1 := hin 1 _ rfl
  refine hx_seq ?_
  refine hx_region ?_
  refine WL.box2 (by simp only [EN, Nat.reduceEqDiff, reduceIte, Value.cells, e1, hb.blk.cell]; rfl) ?_
  intro h1 B1 hx1 hlt1 hB1
  replace hb := hb.ext hx1
  refine WL.qq (by simp only [EN, Nat.reduceEqDiff, reduceIte, qv_assign, hb.blk.cell, hB1.cell]; rfl) ?_
  refine WL.qq (by simp only [EN, Nat.reduceEqDiff, reduceIte, qv_assign, hb.blk.cell, hB1.cell]; rfl) ?_
  refine WL.nil ?_
  refine th_norm ?_
  refine hx_seq ?_
  refine hx_seq ?_
  refine hx_region ?_
  refine WL.qq (by simp only [EN, Nat.reduceEqDiff, reduceIte, qv_move, e0, hb.blk.cell, hB1.cell]; rfl) ?_
  refine WL.qq (by simp only [EN, Nat.reduceEqDiff, reduceIte, qv_binOp, binv_eql, eqz25, eqn25, eqm25, Option.map_some, hb.blk.cell, hB1.cell]; rfl) ?_
  refine WL.nil ?_
  refine th_norm ?_
  refine hx_cond (by simp only [EN, Nat.reduceEqDiff, reduceIte, hb.blk.cell, hB1.cell]; rfl) (fun hct12 => ?_) (fun hct12 => ?_)
  ·
    simp at hct12
  ·
    try simp only [BD] at hct12
    refine hx_skip ?_
    refine th_norm ?_
    refine hx_seq ?_
    apply hx_draw2 Rel.same [] [] [] rfl (by decide +kernel) rfl
    refine LD.qq rfl rfl (by simp only [EN, Nat.reduceEqDiff, reduceIte, qv_move, e0, hb.blk.cell, hB1.cell]; rfl) ?_
    refine LD.qq rfl rfl (by simp only [EN, Nat.reduceEqDiff, reduceIte, qv_nilCheck, hb.blk.cell, hB1.cell]; rfl) ?_
    refine LD.qq rfl rfl (by simp only [EN, Nat.reduceEqDiff, reduceIte, qv_fieldAddr, fa83_2, Nat.zero_add, Nat.reduceAdd, hb.blk.cell, hB1.cell]; rfl) ?_
    refine LD.qq rfl rfl (by simp only [EN, Nat.reduceEqDiff, reduceIte, qv_load, ld81, readN, AR, Nat.zero_add, Nat.reduceAdd, hb.blk.cell, hB1.cell]; rfl) ?_
    refine LD.qq rfl rfl (by simp only [EN, Nat.reduceEqDiff, reduceIte, qv_fieldAddr, fa43_0, Nat.zero_add, Nat.reduceAdd, hb.blk.cell, hB1.cell]; rfl) ?_
    refine LD.qq rfl rfl (by simp only [EN, Nat.reduceEqDiff, reduceIte, qv_load, ld3, readN, AR, Nat.zero_add, Nat.reduceAdd, hb.blk.cell, hB1.cell]; rfl) ?_
    refine LD.qq rfl rfl (by simp only [EN, Nat.reduceEqDiff, reduceIte, e0, e1, hb.blk.cell, hB1.cell, qv_lookup, hb.buf.lookv (z := em) ktI Try.underlying81 zr9 _ true]; rfl) ?_
    refine LD.qq rfl rfl (by simp only [EN, Nat.reduceEqDiff, reduceIte, qv_move, hb.blk.cell, hB1.cell]; rfl) ?_
    refine LD.qq rfl rfl (by simp only [EN, Nat.reduceEqDiff, reduceIte, qv_extract, AR, hb.blk.cell, hB1.cell]; rfl) ?_
    refine LD.qq rfl rfl (by simp only [EN, Nat.reduceEqDiff, reduceIte, qv_extract, AR, hb.blk.cell, hB1.cell]; rfl) ?_
    refine LD.qq rfl rfl (by simp only [EN, Nat.reduceEqDiff, reduceIte, qv_assign, hb.blk.cell, hB1.cell]; rfl) ?_
    refine LD.qq rfl rfl (by simp only [EN, Nat.reduceEqDiff, reduceIte, qv_assign, hb.blk.cell, hB1.cell]; rfl) ?_
    refine LD.nil ?_
    rintro _ rfl -
    refine WL.nil ?_
    refine th_norm ?_
    refine hx_seq ?_
    refine hx_block ?_
    refine hx_seq ?_
    refine hx_region ?_
    refine WL.qq (by simp only [EN, Nat.reduceEqDiff, reduceIte, qv_fieldAddr, fa43_0, Nat.zero_add, Nat.reduceAdd, hb.blk.cell, hB1.cell]; rfl) ?_
    refine WL.qq (by simp only [EN, Nat.reduceEqDiff, reduceIte, qv_load, ld3, readN, AR, Nat.zero_add, Nat.reduceAdd, hb.blk.cell, hB1.cell]; rfl) ?_
    refine WL.qq (by simp only [EN, Nat.reduceEqDiff, reduceIte, qv_binOp, binv_lss, hb.blk.cell, hB1.cell]; rfl) ?_
    refine WL.qq (by simp only [EN, Nat.reduceEqDiff, reduceIte, qv_move, hb.blk.cell, hB1.cell]; rfl) ?_
    refine WL.cq (gd_at (t := 27) rfl (by simp only [EN, Nat.reduceEqDiff, reduceIte, hb.blk.cell, hB1.cell] <;> rfl)) (fun hg4_4 => by simp only [EN, Nat.reduceEqDiff, reduceIte, qv_fieldAddr, fa43_0, Nat.zero_add, Nat.reduceAdd, hb.blk.cell, hB1.cell, hg4_4, GR]; rfl) ?_
    refine WL.cq (gd_at (t := 27) rfl (by simp only [EN, Nat.reduceEqDiff, reduceIte, hb.blk.cell, hB1.cell] <;> rfl)) (fun hg4_5 => by simp only [EN, Nat.reduceEqDiff, reduceIte, qv_load, ld3, readN, AR, Nat.zero_add, Nat.reduceAdd, hb.blk.cell, hB1.cell, hg4_5, GR]; rfl) ?_
    refine WL.cq (gd_at (t := 27) rfl (by simp only [EN, Nat.reduceEqDiff, reduceIte, hb.blk.cell, hB1.cell] <;> rfl)) (fun hg4_6 => by simp only [EN, Nat.reduceEqDiff, reduceIte, qv_binOp, binv_gtr, hb.blk.cell, hB1.cell, hg4_6, GR]; rfl) ?_
    refine WL.qq (by simp only [EN, Nat.reduceEqDiff, reduceIte, qv_pick, pk_and, pk_or, GR, hb.blk.cell, hB1.cell]; rfl) ?_
    refine WL.qq (by simp only [EN, Nat.reduceEqDiff, reduceIte, qv_assign, hb.blk.cell, hB1.cell]; rfl) ?_
    refine WL.nil ?_
    refine th_norm ?_
    refine hx_cond (by simp only [EN, Nat.reduceEqDiff, reduceIte, hb.blk.cell, hB1.cell]; rfl) (fun hct23 => ?_) (fun hct23 => ?_)
    ·
      try simp only [BD] at hct23
      refine hx_seq ?_
      refine hx_region ?_
      refine WL.qq (by simp only [EN, Nat.reduceEqDiff, reduceIte, qv_assign, hb.blk.cell, hB1.cell]; rfl) ?_
      refine WL.qq (by simp only [EN, Nat.reduceEqDiff, reduceIte, qv_assign, hb.blk.cell, hB1.cell]; rfl) ?_
      refine WL.nil ?_
      refine th_norm ?_
      refine hx_ret ?_
      refine bl_ret ?_
      refine th_ret ?_
      refine fin_ret [.tmp 4, .tmp 5] rfl rfl (by simp only [EN, Nat.reduceEqDiff, reduceIte, resv, e0, e1, hb.blk.cell, hB1.cell]; rfl) ?_  -- ret 0 r5
      have he : accE w n bf m = 2 := (if_pos (by omega))
      have hne : ¬ accE w n bf m = 0 := (by rw [he]; decide)
      rw [accO, accN, accB, if_neg hne, if_neg hne, if_neg hne, he]
      exact ⟨none, 0, rfl, slR_nil, hb, Gs.ofExt (hx1), fun _ => (hx1)⟩
    ·
      try simp only [BD] at hct23
      have e1 : ¬ (m.1 < 1 ∨ 1000000000 < m.1) := (by omega)
      refine hx_seq ?_
      refine hx_region ?_
      refine WL.qq (by simp only [EN, Nat.reduceEqDiff, reduceIte, qv_fieldAddr, fa43_1, Nat.zero_add, Nat.reduceAdd, hb.blk.cell, hB1.cell]; rfl) ?_
      refine WL.qq (by simp only [EN, Nat.reduceEqDiff, reduceIte, qv_load, ld9, readN, AR, Nat.zero_add, Nat.reduceAdd, hb.blk.cell, hB1.cell]; rfl) ?_
      refine WL.qq (by simp only [EN, Nat.reduceEqDiff, reduceIte, qv_len, ln9, AR, hb.blk.cell, hB1.cell]; rfl) ?_
      refine WL.qq (by simp only [EN, Nat.reduceEqDiff, reduceIte, qv_binOp, binv_gtr, hb.blk.cell, hB1.cell]; rfl) ?_
      refine WL.qq (by simp only [EN, Nat.reduceEqDiff, reduceIte, qv_assign, hb.blk.cell, hB1.cell]; rfl) ?_
      refine WL.nil ?_
      refine th_norm ?_
      refine hx_cond (by simp only [EN, Nat.reduceEqDiff, reduceIte, hb.blk.cell, hB1.cell]; rfl) (fun hct32 => ?_) (fun hct32 => ?_)
      ·
        try simp only [BD] at hct32
        refine hx_seq ?_
        refine hx_region ?_
        refine WL.qq (by simp only [EN, Nat.reduceEqDiff, reduceIte, qv_assign, hb.blk.cell, hB1.cell]; rfl) ?_
        refine WL.qq (by simp only [EN, Nat.reduceEqDiff, reduceIte, qv_assign, hb.blk.cell, hB1.cell]; rfl) ?_
        refine WL.nil ?_
        refine th_norm ?_
        refine hx_ret ?_
        refine bl_ret ?_
        refine th_ret ?_
        refine fin_ret [.tmp 4, .tmp 5] rfl rfl (by simp only [EN, Nat.reduceEqDiff, reduceIte, resv, e0, e1, hb.blk.cell, hB1.cell]; rfl) ?_  -- ret 1 r7
        have he : accE w n bf m = 5 := ((if_neg e1).trans (if_pos (by omega)))
        have hne : ¬ accE w n bf m = 0 := (by rw [he]; decide)
        rw [accO, accN, accB, if_neg hne, if_neg hne, if_neg hne, he]
        exact ⟨none, 0, rfl, slR_nil, hb, Gs.ofExt (hx1), fun _ => (hx1)⟩
      ·
        try simp only [BD] at hct32
        have e2 : ¬ 4096 < m.2.size := (by omega)
        refine hx_seq ?_
        apply hx_draw2 Rel.same [] [] [] rfl (by decide +kernel) rfl
        refine LD.qq rfl rfl (by simp only [EN, Nat.reduceEqDiff, reduceIte, qv_fieldAddr, fa43_0, Nat.zero_add, Nat.reduceAdd, hb.blk.cell, hB1.cell]; rfl) ?_
        refine LD.qq rfl rfl (by simp only [EN, Nat.reduceEqDiff, reduceIte, qv_load, ld3, readN, AR, Nat.zero_add, Nat.reduceAdd, hb.blk.cell, hB1.cell]; rfl) ?_
        refine LD.qq rfl rfl (by simp only [EN, Nat.reduceEqDiff, reduceIte, qv_move, e0, hb.blk.cell, hB1.cell]; rfl) ?_
        refine LD.qq rfl rfl (by simp only [EN, Nat.reduceEqDiff, reduceIte, qv_nilCheck, hb.blk.cell, hB1.cell]; rfl) ?_
        refine LD.qq rfl rfl (by simp only [EN, Nat.reduceEqDiff, reduceIte, qv_fieldAddr, fa83_1, Nat.zero_add, Nat.reduceAdd, hb.blk.cell, hB1.cell]; rfl) ?_
        refine LD.qq rfl rfl (by simp only [EN, Nat.reduceEqDiff, reduceIte, qv_load, ld3, readN, AR, Nat.zero_add, Nat.reduceAdd, hb.blk.cell, hB1.cell]; rfl) ?_
        refine LD.qq rfl rfl (by simp only [EN, Nat.reduceEqDiff, reduceIte, qv_binOp, binv_lss, hb.blk.cell, hB1.cell]; rfl) ?_
        refine LD.qq rfl rfl (by simp only [EN, Nat.reduceEqDiff, reduceIte, qv_move, hb.blk.cell, hB1.cell]; rfl) ?_
        refine LD.cq rfl rfl (gd_at (t := 45) rfl (by simp only [EN, Nat.reduceEqDiff, reduceIte, hb.blk.cell, hB1.cell] <;> rfl)) (fun hg8_8 => by simp only [EN, Nat.reduceEqDiff, reduceIte, qv_move, hb.blk.cell, hB1.cell, hg8_8, GR]; rfl) ?_
        refine LD.qq rfl rfl (by simp only [EN, Nat.reduceEqDiff, reduceIte, qv_pick, pk_and, pk_or, GR, hb.blk.cell, hB1.cell]; rfl) ?_
        refine LD.qq rfl rfl (by simp only [EN, Nat.reduceEqDiff, reduceIte, qv_assign, hb.blk.cell, hB1.cell]; rfl) ?_
        refine LD.nil ?_
        rintro _ rfl -
        refine WL.nil ?_
        refine th_norm ?_
        refine hx_cond (by simp only [EN, Nat.reduceEqDiff, reduceIte, hb.blk.cell, hB1.cell]; rfl) (fun hct37 => ?_) (fun hct37 => ?_)
        ·
          try simp only [BD] at hct37
          refine hx_seq ?_
          refine hx_region ?_
          refine WL.qq (by simp only [EN, Nat.reduceEqDiff, reduceIte, qv_assign, hb.blk.cell, hB1.cell]; rfl) ?_
          refine WL.qq (by simp only [EN, Nat.reduceEqDiff, reduceIte, qv_assign, hb.blk.cell, hB1.cell]; rfl) ?_
          refine WL.nil ?_
          refine th_norm ?_
          refine hx_ret ?_
          refine bl_ret ?_
          refine th_ret ?_
          refine fin_ret [.tmp 4, .tmp 5] rfl rfl (by simp only [EN, Nat.reduceEqDiff, reduceIte, resv, e0, e1, hb.blk.cell, hB1.cell]; rfl) ?_  -- ret 2 r9
          have he : accE w n bf m = 7 := ((if_neg e1).trans ((if_neg e2).trans (if_pos (by simpa using hct37))))
          have hne : ¬ accE w n bf m = 0 := (by rw [he]; decide)
          rw [accO, accN, accB, if_neg hne, if_neg hne, if_neg hne, he]
          exact ⟨none, 0, rfl, slR_nil, hb, Gs.ofExt (hx1), fun _ => (hx1)⟩
        ·
          try simp only [BD] at hct37
          have e3 : ¬ (m.1 < n ∨ (bf.lookup m.1).isSome = true) := (fun hh => hh.elim hct37.1 (fun h2 => by rw [hct37.2] at h2; cases h2))
          refine hx_seq ?_
          apply hx_draw2 Rel.same [] [] [] rfl (by decide +kernel) rfl
          refine LD.qq rfl rfl (by simp only [EN, Nat.reduceEqDiff, reduceIte, qv_fieldAddr, fa43_0, Nat.zero_add, Nat.reduceAdd, hb.blk.cell, hB1.cell]; rfl) ?_
          refine LD.qq rfl rfl (by simp only [EN, Nat.reduceEqDiff, reduceIte, qv_load, ld3, readN, AR, Nat.zero_add, Nat.reduceAdd, hb.blk.cell, hB1.cell]; rfl) ?_
          refine LD.qq rfl rfl (by simp only [EN, Nat.reduceEqDiff, reduceIte, qv_move, e0, hb.blk.cell, hB1.cell]; rfl) ?_
          refine LD.qq rfl rfl (by simp only [EN, Nat.reduceEqDiff, reduceIte, qv_nilCheck, hb.blk.cell, hB1.cell]; rfl) ?_
          refine LD.qq rfl rfl (by simp only [EN, Nat.reduceEqDiff, reduceIte, qv_fieldAddr, fa83_1, Nat.zero_add, Nat.reduceAdd, hb.blk.cell, hB1.cell]; rfl) ?_
          refine LD.qq rfl rfl (by simp only [EN, Nat.reduceEqDiff, reduceIte, qv_load, ld3, readN, AR, Nat.zero_add, Nat.reduceAdd, hb.blk.cell, hB1.cell]; rfl) ?_
          refine LD.qq rfl rfl (by simp only [EN, Nat.reduceEqDiff, reduceIte, qv_move, e0, hb.blk.cell, hB1.cell]; rfl) ?_
          refine LD.qq rfl rfl (by simp only [EN, Nat.reduceEqDiff, reduceIte, qv_nilCheck, hb.blk.cell, hB1.cell]; rfl) ?_
          refine LD.qq rfl rfl (by simp only [EN, Nat.reduceEqDiff, reduceIte, qv_fieldAddr, fa83_0, Nat.zero_add, Nat.reduceAdd, hb.blk.cell, hB1.cell]; rfl) ?_
          refine LD.qq rfl rfl (by simp only [EN, Nat.reduceEqDiff, reduceIte, qv_load, ld3, readN, AR, Nat.zero_add, Nat.reduceAdd, hb.blk.cell, hB1.cell]; rfl) ?_
          refine LD.qq rfl rfl (by simp only [EN, Nat.reduceEqDiff, reduceIte, qv_binOp, binv_add, hb.blk.cell, hB1.cell]; (try simp (disch := omega) only [w64, w8, wu64]); rfl) ?_
          refine LD.qq rfl rfl (by simp only [EN, Nat.reduceEqDiff, reduceIte, qv_binOp, binv_sub, hb.blk.cell, hB1.cell]; (try simp (disch := omega) only [w64, w8, wu64]); rfl) ?_
          refine LD.qq rfl rfl (by simp only [EN, Nat.reduceEqDiff, reduceIte, qv_binOp, binv_gtr, hb.blk.cell, hB1.cell]; rfl) ?_
          refine LD.qq rfl rfl (by simp only [EN, Nat.reduceEqDiff, reduceIte, qv_assign, hb.blk.cell, hB1.cell]; rfl) ?_
          refine LD.nil ?_
          rintro _ rfl -
          refine WL.nil ?_
          refine th_norm ?_
          refine hx_cond (by simp only [EN, Nat.reduceEqDiff, reduceIte, hb.blk.cell, hB1.cell]; rfl) (fun hct48 => ?_) (fun hct48 => ?_)
          ·
            try simp only [BD] at hct48
            refine hx_seq ?_
            refine hx_region ?_
            refine WL.qq (by simp only [EN, Nat.reduceEqDiff, reduceIte, qv_assign, hb.blk.cell, hB1.cell]; rfl) ?_
            refine WL.qq (by simp only [EN, Nat.reduceEqDiff, reduceIte, qv_assign, hb.blk.cell, hB1.cell]; rfl) ?_
            refine WL.nil ?_
            refine th_norm ?_
            refine hx_ret ?_
            refine bl_ret ?_
            refine th_ret ?_
            refine fin_ret [.tmp 4, .tmp 5] rfl rfl (by simp only [EN, Nat.reduceEqDiff, reduceIte, resv, e0, e1, hb.blk.cell, hB1.cell]; rfl) ?_  -- ret 3 r11
            have he : accE w n bf m = 8 := ((if_neg e1).trans ((if_neg e2).trans ((if_neg e3).trans (if_pos (by omega)))))
            have hne : ¬ accE w n bf m = 0 := (by rw [he]; decide)
            rw [accO, accN, accB, if_neg hne, if_neg hne, if_neg hne, he]
            exact ⟨none, 0, rfl, slR_nil, hb, Gs.ofExt (hx1), fun _ => (hx1)⟩
          ·
            try simp only [BD] at hct48
            have he : accE w n bf m = 0 := ((if_neg e1).trans ((if_neg e2).trans ((if_neg e3).trans (if_neg (by omega)))))
            have hln := (accE_ok he).2.2.2.2.1
            have hGa := hG.add he
            rw [accO, accN, accB, if_pos he, if_pos he, if_pos he]
            refine hx_skip ?_
            refine bl_norm ?_
            refine th_norm ?_
            refine hx_seq ?_
            apply hx_draw2 Rel.same [8] [] [] rfl (by decide +kernel) rfl
            refine LD.qq rfl rfl (by simp only [EN, Nat.reduceEqDiff, reduceIte, qv_move, e0, hb.blk.cell, hB1.cell]; rfl) ?_
            refine LD.qq rfl rfl (by simp only [EN, Nat.reduceEqDiff, reduceIte, qv_nilCheck, hb.blk.cell, hB1.cell]; rfl) ?_
            refine LD.qq rfl rfl (by simp only [EN, Nat.reduceEqDiff, reduceIte, qv_fieldAddr, fa83_2, Nat.zero_add, Nat.reduceAdd, hb.blk.cell, hB1.cell]; rfl) ?_
            refine LD.qq rfl rfl (by simp only [EN, Nat.reduceEqDiff, reduceIte, qv_load, ld81, readN, AR, Nat.zero_add, Nat.reduceAdd, hb.blk.cell, hB1.cell]; rfl) ?_
            refine LD.qq rfl rfl (by simp only [EN, Nat.reduceEqDiff, reduceIte, qv_fieldAddr, fa43_0, Nat.zero_add, Nat.reduceAdd, hb.blk.cell, hB1.cell]; rfl) ?_
            refine LD.qq rfl rfl (by simp only [EN, Nat.reduceEqDiff, reduceIte, qv_load, ld3, readN, AR, Nat.zero_add, Nat.reduceAdd, hb.blk.cell, hB1.cell]; rfl) ?_
            refine LD.qq rfl rfl (by simp only [EN, Nat.reduceEqDiff, reduceIte, qv_fieldAddr, fa43_1, Nat.zero_add, Nat.reduceAdd, hb.blk.cell, hB1.cell]; rfl) ?_
            refine LD.qq rfl rfl (by simp only [EN, Nat.reduceEqDiff, reduceIte, qv_load, ld9, readN, AR, Nat.zero_add, Nat.reduceAdd, hb.blk.cell, hB1.cell]; rfl) ?_
            refine LD.skip rfl ?_
            refine LD.nil ?_
            rintro _ rfl -
            refine WL.ef _ (e_mapUpdate (x := m.1) (v := m.2) ktI Try.underlying81 hb.buf (by simp only [EN, Nat.reduceEqDiff, reduceIte, e0, e1, hb.blk.cell, hB1.cell]) (by simp only [EN, Nat.reduceEqDiff, reduceIte, e0, e1, hb.blk.cell, hB1.cell] <;> rfl) (by simp only [EN, Nat.reduceEqDiff, reduceIte, e0, e1, hb.blk.cell, hB1.cell] <;> rfl)) ?_
            rintro _ h3 ⟨⟨o3, hw3⟩, hm3⟩
            simp only [put_none]
            rw [mset_no (lookup_none_iff.1 hln)] at hm3
            have hb3 : IsRc h3 p b w n (bf ++ [m]) := ⟨hb.blk.wr hw3 hb.ne, hm3⟩
            have hg3 : Gs h h3 [p, b] := (Gs.ofExt (hx1)).stp (.inr ⟨_, hw3⟩) (.inl (by simp))
            have hz0 := Ext.size (hx1)
            refine WL.nil ?_
            refine th_norm ?_
            refine hx_seq ?_
            refine hx_region ?_
            refine WL.qq (by simp only [EN, Nat.reduceEqDiff, reduceIte, qv_assign, hb.blk.cell, hB1.cell]; rfl) ?_
            refine WL.nil ?_
            refine th_norm ?_
            refine hx_block ?_
            refine hx_loopG [4, 5, 8, 9, 10, 70, 71, 72, 73, 74, 75, 76, 77, 78, 79, 80, 81, 82, 83, 84, 85, 86, 87, 88, 89, 90, 91, 92, 93, 94, 95, 96, 97, 98, 99, 100, 101, 102, 103] (fun k e hL0 => ∃ (n2 : Int) (b2 : List M2) (out : List ByteArray) (v : Value), b2.length = k ∧ (IsRc hL0 p b w n2 b2) ∧ (Gs h hL0 [p, b]) ∧ (RG w n2 b2) ∧ (Own hL0 h.size 9 1 v out.length (out.flatMap strL)) ∧ (GL.dr n (bf ++ [m]) = ((GL.dr n2 b2).1, (GL.dr n2 b2).2.1, out ++ (GL.dr n2 b2).2.2)) ∧ ((out.length : Int) + b2.length ≤ 300) ∧ e 8 = v) _ ⟨n, bf ++ [m], [], .slice none 0 0, rfl, ?_, ?_, ?_, ?_, ?_, ?_, ?_⟩ ?_
            · exact hb3
            · exact hg3
            · exact hGa
            · exact Own.nil
            · rfl
            · have := hGa.len; simp at this ⊢; omega
            · simp only [EN, Nat.reduceEqDiff, reduceIte, e0, e1, hb.blk.cell, hB1.cell] <;> rfl
            ·
              rintro k e0L hL0 hfr0 ⟨n2, b2, out, v, rfl, hb, hg, hG2, ho, hd, hol, i8_0⟩
              have k0_0 := hfr0 0 rfl; try simp only [EN, Nat.reduceEqDiff, reduceIte, e0, hb.blk.cell, hB1.cell] at k0_0
              refine hx_block ?_
              refine hx_seq ?_
              apply hx_draw2 Rel.same [] [] [] rfl (by decide +kernel) rfl
              refine LD.qq rfl rfl (by simp only [EN, Nat.reduceEqDiff, reduceIte, qv_move, k0_0, hb.blk.cell, hB1.cell, hb.blk.cell]; rfl) ?_
              refine LD.qq rfl rfl (by simp only [EN, Nat.reduceEqDiff, reduceIte, qv_nilCheck, hb.blk.cell, hB1.cell, hb.blk.cell]; rfl) ?_
              refine LD.qq rfl rfl (by simp only [EN, Nat.reduceEqDiff, reduceIte, qv_fieldAddr, fa83_2, Nat.zero_add, Nat.reduceAdd, hb.blk.cell, hB1.cell, hb.blk.cell]; rfl) ?_
              refine LD.qq rfl rfl (by simp only [EN, Nat.reduceEqDiff, reduceIte, qv_load, ld81, readN, AR, Nat.zero_add, Nat.reduceAdd, hb.blk.cell, hB1.cell, hb.blk.cell]; rfl) ?_
              refine LD.qq rfl rfl (by simp only [EN, Nat.reduceEqDiff, reduceIte, qv_move, k0_0, hb.blk.cell, hB1.cell, hb.blk.cell]; rfl) ?_
              refine LD.qq rfl rfl (by simp only [EN, Nat.reduceEqDiff, reduceIte, qv_nilCheck, hb.blk.cell, hB1.cell, hb.blk.cell]; rfl) ?_
              refine LD.qq rfl rfl (by simp only [EN, Nat.reduceEqDiff, reduceIte, qv_fieldAddr, fa83_1, Nat.zero_add, Nat.reduceAdd, hb.blk.cell, hB1.cell, hb.blk.cell]; rfl) ?_
              refine LD.qq rfl rfl (by simp only [EN, Nat.reduceEqDiff, reduceIte, qv_load, ld3, readN, AR, Nat.zero_add, Nat.reduceAdd, hb.blk.cell, hB1.cell, hb.blk.cell]; rfl) ?_
              refine LD.qq rfl rfl (by simp only [EN, Nat.reduceEqDiff, reduceIte, k0_0, i8_0, hb.blk.cell, hB1.cell, hb.blk.cell, qv_lookup, hb.buf.lookv (z := em) ktI Try.underlying81 zr9 _ true]; rfl) ?_
              refine LD.qq rfl rfl (by simp only [EN, Nat.reduceEqDiff, reduceIte, qv_move, hb.blk.cell, hB1.cell, hb.blk.cell]; rfl) ?_
              refine LD.qq rfl rfl (by simp only [EN, Nat.reduceEqDiff, reduceIte, qv_extract, AR, hb.blk.cell, hB1.cell, hb.blk.cell]; rfl) ?_
              refine LD.qq rfl rfl (by simp only [EN, Nat.reduceEqDiff, reduceIte, qv_extract, AR, hb.blk.cell, hB1.cell, hb.blk.cell]; rfl) ?_
              refine LD.qq rfl rfl (by simp only [EN, Nat.reduceEqDiff, reduceIte, qv_assign, hb.blk.cell, hB1.cell, hb.blk.cell]; rfl) ?_
              refine LD.qq rfl rfl (by simp only [EN, Nat.reduceEqDiff, reduceIte, qv_assign, hb.blk.cell, hB1.cell, hb.blk.cell]; rfl) ?_
              refine LD.nil ?_
              rintro _ rfl -
              refine WL.nil ?_
              refine th_norm ?_
              refine hx_seq ?_
              refine hx_seq ?_
              refine hx_region ?_
              refine WL.qq (by simp only [EN, Nat.reduceEqDiff, reduceIte, qv_move, hb.blk.cell, hB1.cell, hb.blk.cell]; rfl) ?_
              refine WL.qq (by simp only [EN, Nat.reduceEqDiff, reduceIte, qv_unOp, unv_not, hb.blk.cell, hB1.cell, hb.blk.cell]; rfl) ?_
              refine WL.nil ?_
              refine th_norm ?_
              refine hx_cond (by simp only [EN, Nat.reduceEqDiff, reduceIte, hb.blk.cell, hB1.cell, hb.blk.cell]; rfl) (fun hct83 => ?_) (fun hct83 => ?_)
              ·
                try simp only [BD] at hct83
                have hl0 : b2.lookup n2 = none := (by cases hq : b2.lookup n2; rfl; (rw [hq] at hct83; simp at hct83))
                rw [dr_none hl0] at hd; rw [hd]; simp only [List.append_nil]
                refine hx_seq ?_
                refine hx_region ?_
                refine WL.qq (by simp only [EN, Nat.reduceEqDiff, reduceIte, qv_move, i8_0, hb.blk.cell, hB1.cell, hb.blk.cell]; rfl) ?_
                refine WL.qq (by simp only [EN, Nat.reduceEqDiff, reduceIte, qv_assign, hb.blk.cell, hB1.cell, hb.blk.cell]; rfl) ?_
                refine WL.qq (by simp only [EN, Nat.reduceEqDiff, reduceIte, qv_assign, hb.blk.cell, hB1.cell, hb.blk.cell]; rfl) ?_
                refine WL.nil ?_
                refine th_norm ?_
                refine hx_ret ?_
                refine th_ret ?_
                refine bl_ret ?_
                refine th_ret ?_
                refine bl_ret ?_
                refine fin_ret [.tmp 4, .tmp 5] rfl rfl (by simp only [EN, Nat.reduceEqDiff, reduceIte, resv, k0_0, i8_0, hb.blk.cell, hB1.cell, hb.blk.cell]; rfl) ?_  -- ret 4 r16
                obtain ⟨a, cap, hv, _, _, _⟩ := Own.slG (f := strL) (sz := 1) (fun _ => rfl) ho rfl
                subst hv
                have hs := SlR.own (f := strL) (sz := 1) (fun _ => rfl) ho rfl
                exact ⟨a, cap, by rw [he]; rfl, hs, hb, hg, fun hh => absurd he hh⟩
              ·
                try simp only [BD] at hct83
                obtain ⟨q, hl⟩ : ∃ q, b2.lookup n2 = some q := (by cases hq : b2.lookup n2; (rw [hq] at hct83; simp at hct83); exact ⟨_, rfl⟩)
                rw [dr_some hG2.nd hl] at hd
                have hml := mdel_len hG2.nd hl; have hG3 := hG2.mdel_ hl; have hn2b := hG3.n2; have hn2c := hG2.n1
                refine hx_skip ?_
                refine th_norm ?_
                refine hx_seq ?_
                apply hx_draw2 Rel.same [8] [] [] rfl (by decide +kernel) rfl
                refine LD.qq rfl rfl (by simp only [EN, Nat.reduceEqDiff, reduceIte, qv_move, k0_0, hb.blk.cell, hB1.cell, hb.blk.cell]; rfl) ?_
                refine LD.qq rfl rfl (by simp only [EN, Nat.reduceEqDiff, reduceIte, qv_nilCheck, hb.blk.cell, hB1.cell, hb.blk.cell]; rfl) ?_
                refine LD.qq rfl rfl (by simp only [EN, Nat.reduceEqDiff, reduceIte, qv_fieldAddr, fa83_2, Nat.zero_add, Nat.reduceAdd, hb.blk.cell, hB1.cell, hb.blk.cell]; rfl) ?_
                refine LD.qq rfl rfl (by simp only [EN, Nat.reduceEqDiff, reduceIte, qv_load, ld81, readN, AR, Nat.zero_add, Nat.reduceAdd, hb.blk.cell, hB1.cell, hb.blk.cell]; rfl) ?_
                refine LD.qq rfl rfl (by simp only [EN, Nat.reduceEqDiff, reduceIte, qv_move, k0_0, hb.blk.cell, hB1.cell, hb.blk.cell]; rfl) ?_
                refine LD.qq rfl rfl (by simp only [EN, Nat.reduceEqDiff, reduceIte, qv_nilCheck, hb.blk.cell, hB1.cell, hb.blk.cell]; rfl) ?_
                refine LD.qq rfl rfl (by simp only [EN, Nat.reduceEqDiff, reduceIte, qv_fieldAddr, fa83_1, Nat.zero_add, Nat.reduceAdd, hb.blk.cell, hB1.cell, hb.blk.cell]; rfl) ?_
                refine LD.qq rfl rfl (by simp only [EN, Nat.reduceEqDiff, reduceIte, qv_load, ld3, readN, AR, Nat.zero_add, Nat.reduceAdd, hb.blk.cell, hB1.cell, hb.blk.cell]; rfl) ?_
                refine LD.skip rfl ?_
                refine LD.nil ?_
                rintro _ rfl -
                have hnm := ho.nmap hb.buf
                refine WL.ef _ (e_delete (t := 81) (x := n2) ktI Try.underlying81 rfl hb.buf (by simp only [EN, Nat.reduceEqDiff, reduceIte, k0_0, i8_0, hb.blk.cell, hB1.cell, hb.blk.cell]) (by simp only [EN, Nat.reduceEqDiff, reduceIte, k0_0, i8_0, hb.blk.cell, hB1.cell, hb.blk.cell] <;> rfl)) ?_
                rintro _ h4 ⟨⟨o4, hw4⟩, hm4⟩
                simp only [put_none]
                replace hb : IsRc h4 p b w n2 (mdel b2 n2) := ⟨hb.blk.wr hw4 hb.ne, hm4⟩
                replace ho := ho.keep (h' := h4) (fun c hc => hw4.same c (fun hh => by subst hh; exact hnm hc))
                replace hg := hg.stp (.inr ⟨_, hw4⟩) (.inl (by simp))
                refine WL.nil ?_
                refine th_norm ?_
                refine hx_seq ?_
                refine hx_region ?_
                refine WL.qq (by simp only [EN, Nat.reduceEqDiff, reduceIte, qv_move, i8_0, hb.blk.cell, hB1.cell, hb.blk.cell]; rfl) ?_
                refine WL.qq (by simp only [EN, Nat.reduceEqDiff, reduceIte, qv_move, hb.blk.cell, hB1.cell, hb.blk.cell]; rfl) ?_
                have hcells : (iV 0).cells = #[iV 0] := rfl
                refine WL.push (bytes := 16) Try.underlying31 (inf_of Try.type9) rfl rfl rfl rfl (by decide) (by decide) sz9 zr9 (fun u => by simp only [EN, Nat.reduceEqDiff, reduceIte, k0_0, i8_0, hb.blk.cell, hB1.cell, hb.blk.cell]) ho (by simp only [EN, Nat.reduceEqDiff, reduceIte, k0_0, i8_0, hb.blk.cell, hB1.cell, hb.blk.cell, hl, Option.getD_some, Value.cells]; rfl) rfl (by simp [Value.oneCell']) (by simp only [maxLen]; omega) (by omega) hg.size ?_
                intro h40 v40 B40 ho40 hg40 hp40 hn40
                have hbk := ho.block
                replace hb : IsRc h40 p b w n2 (mdel b2 n2) := ⟨hb.blk.gr hg40 (ho.ncell hb.blk (by decide)), hb.buf.gr hg40 (ho.nmap hb.buf)⟩
                replace hg := hg.grb hg40 (fun x hx => .inr (hbk x hx).1)
                skip
                refine WL.qq (by simp only [EN, Nat.reduceEqDiff, reduceIte, qv_assign, hb.blk.cell, hB1.cell, hb.blk.cell]; rfl) ?_
                refine WL.nil ?_
                refine th_norm ?_
                refine hx_region ?_
                refine WL.qq (by simp only [EN, Nat.reduceEqDiff, reduceIte, qv_move, k0_0, hb.blk.cell, hB1.cell, hb.blk.cell]; rfl) ?_
                refine WL.qq (by simp only [EN, Nat.reduceEqDiff, reduceIte, qv_nilCheck, hb.blk.cell, hB1.cell, hb.blk.cell]; rfl) ?_
                refine WL.qq (by simp only [EN, Nat.reduceEqDiff, reduceIte, qv_fieldAddr, fa83_1, Nat.zero_add, Nat.reduceAdd, hb.blk.cell, hB1.cell, hb.blk.cell]; rfl) ?_
                refine WL.qq (by simp only [EN, Nat.reduceEqDiff, reduceIte, qv_load, ld3, readN, AR, Nat.zero_add, Nat.reduceAdd, hb.blk.cell, hB1.cell, hb.blk.cell]; rfl) ?_
                refine WL.qq (by simp only [EN, Nat.reduceEqDiff, reduceIte, qv_binOp, binv_add, hb.blk.cell, hB1.cell, hb.blk.cell]; (try simp (disch := omega) only [w64, w8, wu64]); rfl) ?_
                refine WL.qq (by simp only [EN, Nat.reduceEqDiff, reduceIte, qv_nilCheck, hb.blk.cell, hB1.cell, hb.blk.cell]; rfl) ?_
                refine WL.qq (by simp only [EN, Nat.reduceEqDiff, reduceIte, qv_fieldAddr, fa83_1, Nat.zero_add, Nat.reduceAdd, hb.blk.cell, hB1.cell, hb.blk.cell]; rfl) ?_
                have hnp := ho40.ncell hb.blk (by decide)
                refine WL.store (by simp only [EN, Nat.reduceEqDiff, reduceIte, hb.blk.cell, hB1.cell, hb.blk.cell] <;> rfl) sz3 (by simp only [EN, Nat.reduceEqDiff, reduceIte, Value.cells, hb.blk.cell, hB1.cell, hb.blk.cell] <;> rfl) rfl hb.blk (by first | (simp [true_and]; done) | (simp [true_and]; omega) | omega) (by simp [Value.oneCell']) ?_
                intro h2 hw2
                replace hb : IsRc _ p b w (n2 + 1) (mdel b2 n2) := hb.step hw2 rfl
                replace hg := hg.stp (.inr ⟨_, hw2⟩) (.inl (by simp))
                replace ho40 := ho40.keep (fun c hc => hw2.same c (fun hh => by subst hh; exact hnp hc))
                refine WL.nil ?_
                refine bl_norm ?_
                refine th_norm ?_
                refine ⟨rfl, ?_, _, ?_, n2 + 1, mdel b2 n2, out ++ [q], v40, rfl, ?_, ?_, ?_, ?_, ?_, ?_, ?_⟩  -- again 0 of loop 0
                · (repeat (first | exact Fr.refl _ _ | refine Fr.set rfl ?_ | refine Fr.put rfl ?_ | with_reducible refine Fr.put0 ?_))
                · omega
                · exact hb
                · exact hg
                · exact hG3
                · rw [List.length_append, List.flatMap_append]; exact ho40
                · rw [hd, List.append_assoc]; rfl
                · rw [List.length_append, List.length_singleton]; omega
                · simp only [EN, Nat.reduceEqDiff, reduceIte, k0_0, i8_0, hb.blk.cell, hB1.cell, hb.blk.cell] <;> first | rfl | (congr 1; omega)
end
end GL


/- History: the reference's list of accounts. -/
import Derived.Test.YtklhfckdifkpaaaHisQ
import Derived.Test.YtklhfckdifkpaaaHisN
set_option linter.unusedSimpArgs false
set_option linter.unusedVariables false
set_option linter.unnecessarySimpa false
namespace GL
open Go Go.Proofs
set_option maxRecDepth 8000
def rAcc (l : List PO) : List AC := l.foldl (fun s y => insA s y.c) []
theorem rAcc_step {l : List PO} {i : Nat} {y : PO} (h : l[i]? = some y) : rAcc (l.take (i + 1)) = insA (rAcc (l.take i)) y.c := by
  rw [List.take_add_one, h, rAcc, List.foldl_append]; rfl
theorem rAcc_app (l m : List PO) : rAcc (l ++ m) = m.foldl (fun s y => insA s y.c) (rAcc l) := by rw [rAcc, List.foldl_append]; rfl
theorem rAcc_snoc (l m : List PO) {j : Nat} {y : PO} (h : m[j]? = some y) : rAcc (l ++ m.take (j + 1)) = insA (rAcc (l ++ m.take j)) y.c := by
  rw [List.take_add_one, h, ← List.append_assoc, rAcc_app (l ++ m.take j)]; rfl
theorem rAcc_len (l : List PO) : (rAcc l).length ≤ l.length := by
  refine snoc_ind (p := fun l => (rAcc l).length ≤ l.length) (by simp [rAcc]) ?_ l
  intro l x ih
  have h1 : rAcc (l ++ [x]) = insA (rAcc l) x.c := by rw [rAcc_app]; rfl
  have h2 := insA_len (rAcc l) x.c
  rw [h1, List.length_append, List.length_singleton]
  omega
theorem insA_ne (l : List AC) (x : AC) : insA l x ≠ [] := by
  unfold insA
  split
  · rename_i h
    rintro rfl
    simp at h
  · simp
theorem insA_mem {l : List AC} {x z : AC} (h : z ∈ insA l x) : z = x ∨ z ∈ l := by
  unfold insA at h
  split at h
  · exact .inr h
  · rcases List.mem_append.1 h with h | h
    · exact .inr (List.mem_of_mem_take h)
    · rcases List.mem_cons.1 h with h | h
      · exact .inl h
      · exact .inr (List.mem_of_mem_drop h)
theorem rAcc_mem (l : List PO) : ∀ z ∈ rAcc l, ∃ y ∈ l, y.c = z := by
  refine snoc_ind (p := fun l => ∀ z ∈ rAcc l, ∃ y ∈ l, y.c = z) (fun z h => by cases h) ?_ l
  intro l x ih z hz
  have h1 : rAcc (l ++ [x]) = insA (rAcc l) x.c := by rw [rAcc_app]; rfl
  rw [h1] at hz
  rcases insA_mem hz with rfl | hz
  · exact ⟨x, by simp, rfl⟩
  · obtain ⟨y, hy, h2⟩ := ih z hz
    exact ⟨y, List.mem_append_left _ hy, h2⟩
set_option maxHeartbeats 2000000 in
theorem c_rAccs (a : Option Addr) (xs : List BX) (c : Nat) {l : List HB} (hxl : xs.map BX.bd = l) (hg : GS l) (has : ∀ y ∈ allP l, AS y.c) {h : Heap} (hs : SlG 4 bdL h a xs) (hb : BXs h xs) :
    HCalls Try.prog 15 #[.slice a xs.length c] h fun v h' => Ext h h' ∧ Own h' h.size tyA 3 v (rAcc (allP l)).length ((rAcc (allP l)).flatMap acL) ∧ (rAcc (allP l) = [] → v = .slice none 0 0) := by
  have hl : xs.length ≤ 12 := by have := hg.n; rw [← hxl, List.length_map] at this; exact this
  have ks := hs
  have kb := hb
  have hP12 := all_len hg.f hg.n
  refine hcalls2 Try.func15 rfl (by decide +kernel) (by simp only [Try.ntmps15]; exact of_decide_eq_true rfl) ?_
  intro e hin
  have e0 := hin 0 _ rfl
  refine hx_seq ?_
  refine hx_region ?_
  refine WL.qq (by simp only [EN, Nat.reduceEqDiff, reduceIte, qv_assign]; rfl) ?_
  refine WL.nil ?_
  refine th_norm ?_
  refine hx_seq ?_
  refine hx_region ?_
  refine WL.qq (by simp only [EN, Nat.reduceEqDiff, reduceIte, qv_assign]; rfl) ?_
  refine WL.nil ?_
  refine th_norm ?_
  refine hx_seq ?_
  refine hx_seq ?_
  refine hx_region ?_
  refine WL.qq (by simp only [EN, Nat.reduceEqDiff, reduceIte, qv_assign]; rfl) ?_
  refine WL.nil ?_
  refine th_norm ?_
  refine hx_block ?_
  refine hx_loopG [3, 4, 5, 6, 7, 8, 9, 10, 11, 12, 13, 14, 15, 16, 17, 18, 19, 20, 21, 22, 23, 24, 25, 26, 27, 28, 29, 30, 31, 32, 33, 34, 35, 36, 37, 38, 39, 40, 41, 42, 43, 44, 45] (fun k e hL0 => ∃ (i : Nat) (v : Value), xs.length - i = k ∧ (i ≤ xs.length) ∧ (Ext h hL0) ∧ (Own hL0 h.size tyA 3 v (rAcc (allP (l.take i))).length ((rAcc (allP (l.take i))).flatMap acL)) ∧ ((rAcc (allP (l.take i)) = [] → v = .slice none 0 0)) ∧ e 3 = v ∧ e 4 = .int .i64 i) _ ⟨0, .slice none 0 0, rfl, ?_, ?_, ?_, ?_, ?_, ?_⟩ ?_
  · omega
  · exact Ext.refl _
  · exact Own.nil
  · intro _; rfl
  · simp only [EN, Nat.reduceEqDiff, reduceIte, e0] <;> rfl
  · simp only [EN, Nat.reduceEqDiff, reduceIte, e0] <;> rfl
  ·
    rintro k e0L hL0 hfr0 ⟨i, v, rfl, hi, hX, ho, hn0, i3_0, i4_0⟩
    have k0_0 := hfr0 0 rfl; try simp only [EN, Nat.reduceEqDiff, reduceIte, e0] at k0_0
    refine hx_seq ?_
    refine hx_seq ?_
    refine hx_region ?_
    refine WL.qq (by simp only [EN, Nat.reduceEqDiff, reduceIte, qv_move, i4_0]; rfl) ?_
    refine WL.qq (by simp only [EN, Nat.reduceEqDiff, reduceIte, qv_move, k0_0]; rfl) ?_
    refine WL.qq (by simp only [EN, Nat.reduceEqDiff, reduceIte, qv_len, ln22, AR]; rfl) ?_
    refine WL.qq (by simp only [EN, Nat.reduceEqDiff, reduceIte, qv_binOp, binv_lss]; rfl) ?_
    refine WL.nil ?_
    refine th_norm ?_
    refine hx_cond (by simp only [EN, Nat.reduceEqDiff, reduceIte]; rfl) (fun hct11 => ?_) (fun hct11 => ?_)
    ·
      try simp only [BD] at hct11
      obtain ⟨x, hx⟩ := atG (l := xs) (i := i) (by omega)
      have hxb : l[i]? = some x.bd := (by rw [← hxl]; exact bd_at hx)
      have hxm : x.bd ∈ l := List.mem_of_getElem? hxb
      have hxl2 := (hg.f _ hxm).lens
      have hal := allP_step hxb
      refine hx_skip ?_
      refine th_norm ?_
      refine hx_seq ?_
      refine hx_block ?_
      refine hx_seq ?_
      refine hx_region ?_
      refine WL.qq (by simp only [EN, Nat.reduceEqDiff, reduceIte, qv_assign]; rfl) ?_
      refine WL.nil ?_
      refine th_norm ?_
      refine hx_block ?_
      refine hx_loopG [3, 5, 6, 7, 14, 15, 16, 17, 18, 19, 20, 21, 22, 23, 24, 25, 26, 27, 28, 29, 30, 31, 32, 33, 34, 35, 36, 37, 38, 39, 40, 41, 42, 43, 44, 45] (fun k e hL1 => ∃ (k2 : Nat) (v1 : Value), x.ps.length - k2 = k ∧ (k2 ≤ x.ps.length) ∧ (Ext h hL1) ∧ (Own hL1 h.size tyA 3 v1 (rAcc (allP (l.take i) ++ (pos x.bd).take (fl x k2))).length ((rAcc (allP (l.take i) ++ (pos x.bd).take (fl x k2))).flatMap acL)) ∧ ((rAcc (allP (l.take i) ++ (pos x.bd).take (fl x k2)) = [] → v1 = .slice none 0 0)) ∧ e 3 = v1 ∧ e 5 = .int .i64 k2) _ ⟨0, v, rfl, ?_, ?_, ?_, ?_, ?_, ?_⟩ ?_
      · omega
      · exact hX
      · rw [show fl x 0 = 0 from rfl, List.take_zero, List.append_nil]; exact ho
      · rw [show fl x 0 = 0 from rfl, List.take_zero, List.append_nil]; exact hn0
      · simp only [EN, Nat.reduceEqDiff, reduceIte, k0_0, i3_0, i4_0] <;> rfl
      · simp only [EN, Nat.reduceEqDiff, reduceIte, k0_0, i3_0, i4_0] <;> rfl
      ·
        rintro k e1L hL1 hfr1 ⟨k2, v1, rfl, hk2, hX1, ho1, hn1, i3_1, i5_1⟩
        have k0_1 := hfr1 0 rfl; try simp only [EN, Nat.reduceEqDiff, reduceIte, k0_0] at k0_1
        have k4_1 := hfr1 4 rfl; try simp only [EN, Nat.reduceEqDiff, reduceIte, i4_0] at k4_1
        obtain ⟨b, off, hae, _, _, _, _, hc3, _⟩ := bd_rd (ks.ext hX1) hx
        refine hx_seq ?_
        refine hx_seq ?_
        refine hx_region ?_
        refine WL.qq (by simp only [EN, Nat.reduceEqDiff, reduceIte, qv_move, i5_1]; rfl) ?_
        refine WL.qq (by simp only [EN, Nat.reduceEqDiff, reduceIte, qv_move, k0_1]; rfl) ?_
        refine WL.qq (by simp only [EN, Nat.reduceEqDiff, reduceIte, qv_move, k4_1]; rfl) ?_
        refine WL.qq (by simp only [EN, Nat.reduceEqDiff, reduceIte, qv_indexAddr, hae]; (try simp (disch := omega) only [ix22, Int.toNat_natCast]); rfl) ?_
        refine WL.qq (by simp only [EN, Nat.reduceEqDiff, reduceIte, qv_fieldAddr, fa45_3, Nat.zero_add, Nat.reduceAdd]; rfl) ?_
        refine WL.qq (by simp only [EN, Nat.reduceEqDiff, reduceIte, k0_1, k4_1, i3_1, i5_1, qv_load, ld43, Int.toNat_natCast, hc3]; rfl) ?_
        refine WL.qq (by simp only [EN, Nat.reduceEqDiff, reduceIte, qv_len, ln43, AR]; rfl) ?_
        refine WL.qq (by simp only [EN, Nat.reduceEqDiff, reduceIte, qv_binOp, binv_lss]; rfl) ?_
        refine WL.nil ?_
        refine th_norm ?_
        refine hx_cond (by simp only [EN, Nat.reduceEqDiff, reduceIte]; rfl) (fun hct21 => ?_) (fun hct21 => ?_)
        ·
          try simp only [BD] at hct21
          obtain ⟨y, hy⟩ := atG (l := x.ps) (i := k2) (by omega)
          have hxi := (kb x (List.mem_of_getElem? hx)).ext hX1
          obtain ⟨b2, off2, ha2, _, _, hp1⟩ := pt_rd hxi.1 hy
          have hyl := hxl2.2 y (List.mem_of_getElem? hy)
          refine hx_skip ?_
          refine th_norm ?_
          refine hx_seq ?_
          refine hx_block ?_
          refine hx_seq ?_
          refine hx_region ?_
          refine WL.qq (by simp only [EN, Nat.reduceEqDiff, reduceIte, qv_move, k0_1]; rfl) ?_
          refine WL.qq (by simp only [EN, Nat.reduceEqDiff, reduceIte, qv_move, k4_1]; rfl) ?_
          refine WL.qq (by simp only [EN, Nat.reduceEqDiff, reduceIte, qv_indexAddr, hae]; (try simp (disch := omega) only [ix22, Int.toNat_natCast]); rfl) ?_
          refine WL.qq (by simp only [EN, Nat.reduceEqDiff, reduceIte, qv_fieldAddr, fa45_3, Nat.zero_add, Nat.reduceAdd]; rfl) ?_
          refine WL.qq (by simp only [EN, Nat.reduceEqDiff, reduceIte, k0_1, k4_1, i3_1, i5_1, qv_load, ld43, Int.toNat_natCast, hc3]; rfl) ?_
          refine WL.qq (by simp only [EN, Nat.reduceEqDiff, reduceIte, qv_move, i5_1]; rfl) ?_
          refine WL.qq (by simp only [EN, Nat.reduceEqDiff, reduceIte, qv_indexAddr, ha2]; (try simp (disch := omega) only [ix43, Int.toNat_natCast]); rfl) ?_
          refine WL.qq (by simp only [EN, Nat.reduceEqDiff, reduceIte, qv_fieldAddr, fa79_1, Nat.zero_add, Nat.reduceAdd]; rfl) ?_
          refine WL.qq (by simp only [EN, Nat.reduceEqDiff, reduceIte, k0_1, k4_1, i3_1, i5_1, qv_load, ld77, Int.toNat_natCast, hp1]; rfl) ?_
          refine WL.qq (by simp only [EN, Nat.reduceEqDiff, reduceIte, qv_assign]; rfl) ?_
          refine WL.nil ?_
          refine th_norm ?_
          refine hx_seq ?_
          refine hx_region ?_
          refine WL.qq (by simp only [EN, Nat.reduceEqDiff, reduceIte, qv_assign]; rfl) ?_
          refine WL.nil ?_
          refine th_norm ?_
          refine hx_block ?_
          refine hx_loopG [3, 7, 33, 34, 35, 36, 37, 38, 39, 40, 41, 42, 43, 44, 45] (fun k e hL2 => ∃ (m2 : Nat) (v2 : Value), y.ps.length - m2 = k ∧ (m2 ≤ y.ps.length) ∧ (Ext h hL2) ∧ (Own hL2 h.size tyA 3 v2 (rAcc (allP (l.take i) ++ (pos x.bd).take (fl x k2 + m2))).length ((rAcc (allP (l.take i) ++ (pos x.bd).take (fl x k2 + m2))).flatMap acL)) ∧ ((rAcc (allP (l.take i) ++ (pos x.bd).take (fl x k2 + m2)) = [] → v2 = .slice none 0 0)) ∧ e 3 = v2 ∧ e 7 = .int .i64 m2) _ ⟨0, v1, rfl, ?_, ?_, ?_, ?_, ?_, ?_⟩ ?_
          · omega
          · exact hX1
          · exact ho1
          · exact hn1
          · simp only [EN, Nat.reduceEqDiff, reduceIte, k0_1, k4_1, i3_1, i5_1] <;> rfl
          · simp only [EN, Nat.reduceEqDiff, reduceIte, k0_1, k4_1, i3_1, i5_1] <;> rfl
          ·
            rintro k e2L hL2 hfr2 ⟨m2, v2, rfl, hm2, hX2, ho2, hn2, i3_2, i7_2⟩
            have k0_2 := hfr2 0 rfl; try simp only [EN, Nat.reduceEqDiff, reduceIte, k0_1] at k0_2
            have k4_2 := hfr2 4 rfl; try simp only [EN, Nat.reduceEqDiff, reduceIte, k4_1] at k4_2
            have k5_2 := hfr2 5 rfl; try simp only [EN, Nat.reduceEqDiff, reduceIte, i5_1] at k5_2
            have k6_2 := hfr2 6 rfl; try simp only [EN, Nat.reduceEqDiff, reduceIte] at k6_2
            refine hx_seq ?_
            refine hx_seq ?_
            refine hx_region ?_
            refine WL.qq (by simp only [EN, Nat.reduceEqDiff, reduceIte, qv_move, i7_2]; rfl) ?_
            refine WL.qq (by simp only [EN, Nat.reduceEqDiff, reduceIte, qv_move, k6_2]; rfl) ?_
            refine WL.qq (by simp only [EN, Nat.reduceEqDiff, reduceIte, qv_len, ln77, AR]; rfl) ?_
            refine WL.qq (by simp only [EN, Nat.reduceEqDiff, reduceIte, qv_binOp, binv_lss]; rfl) ?_
            refine WL.nil ?_
            refine th_norm ?_
            refine hx_cond (by simp only [EN, Nat.reduceEqDiff, reduceIte]; rfl) (fun hct36 => ?_) (fun hct36 => ?_)
            ·
              try simp only [BD] at hct36
              obtain ⟨z, hz⟩ := atG (l := y.ps) (i := m2) (by omega)
              have hyi : SlG 4 poL _ y.a y.ps := ((kb x (List.mem_of_getElem? hx)).ext hX2).2 y (List.mem_of_getElem? hy)
              obtain ⟨b3, off3, ha3, _, hr3, _⟩ := po_rd hyi hz
              have hzat := fl_at hy hz
              have hst := rAcc_snoc (allP (l.take i)) (pos x.bd) hzat
              have hzm : z ∈ allP l := mem_allP hxm (List.mem_of_getElem? hzat)
              have hsub : ∀ u ∈ rAcc (allP (l.take i) ++ (pos x.bd).take (fl x k2 + m2)), AS u := (fun u hu => by obtain ⟨w, hw, rfl⟩ := rAcc_mem _ u hu; rcases List.mem_append.1 hw with hw | hw; (obtain ⟨q, hq, hq2⟩ := List.mem_flatMap.1 hw; exact has w (mem_allP (List.mem_of_mem_take hq) hq2)); exact has w (mem_allP hxm (List.mem_of_mem_take hw)))
              have hlen : (rAcc (allP (l.take i) ++ (pos x.bd).take (fl x k2 + m2))).length ≤ 100000 := (by have h1 := rAcc_len (allP (l.take i) ++ (pos x.bd).take (fl x k2 + m2)); have h2 := all_len (l := l.take i) (fun b hb => hg.f b (List.mem_of_mem_take hb)) (by rw [List.length_take]; omega); have h3 := (hg.f _ hxm).pos; rw [List.length_append, List.length_take] at h1; omega)
              refine hx_skip ?_
              refine th_norm ?_
              refine hx_seq ?_
              refine hx_block ?_
              refine hx_region ?_
              refine WL.qq (by simp only [EN, Nat.reduceEqDiff, reduceIte, qv_move, i3_2]; rfl) ?_
              refine WL.qq (by simp only [EN, Nat.reduceEqDiff, reduceIte, qv_move, k6_2]; rfl) ?_
              refine WL.qq (by simp only [EN, Nat.reduceEqDiff, reduceIte, qv_move, i7_2]; rfl) ?_
              refine WL.qq (by simp only [EN, Nat.reduceEqDiff, reduceIte, qv_indexAddr, ha3]; (try simp (disch := omega) only [ix77, Int.toNat_natCast]); rfl) ?_
              refine WL.qq (by simp only [EN, Nat.reduceEqDiff, reduceIte, qv_fieldAddr, fa76_0, Nat.zero_add, Nat.reduceAdd]; rfl) ?_
              refine WL.qq (by simp only [EN, Nat.reduceEqDiff, reduceIte, k0_2, k4_2, k5_2, k6_2, i3_2, i7_2, qv_load, ld24, Int.toNat_natCast, hr3]; rfl) ?_
              refine WL.ce Try.call41 (by simp only [EN, Nat.reduceEqDiff, reduceIte, AR]; exact c_insert h.size v2 _ z.c hlen hsub (has z hzm) ho2 hX2.size) ?_
              rintro v40 h40 ⟨hx40, ho40⟩
              simp only [put_some]
              refine WL.qq (by simp only [EN, Nat.reduceEqDiff, reduceIte, qv_assign]; rfl) ?_
              refine WL.nil ?_
              refine bl_norm ?_
              refine th_norm ?_
              refine hx_region ?_
              refine WL.qq (by simp only [EN, Nat.reduceEqDiff, reduceIte, qv_move, i7_2]; rfl) ?_
              refine WL.qq (by simp only [EN, Nat.reduceEqDiff, reduceIte, qv_binOp, binv_add]; (try simp (disch := omega) only [w64, w8, wu64]); rfl) ?_
              refine WL.qq (by simp only [EN, Nat.reduceEqDiff, reduceIte, qv_assign]; rfl) ?_
              refine WL.nil ?_
              refine th_norm ?_
              refine ⟨rfl, ?_, _, ?_, m2 + 1, v40, rfl, ?_, ?_, ?_, ?_, ?_, ?_⟩  -- again 0 of loop 2
              · (repeat (first | exact Fr.refl _ _ | refine Fr.set rfl ?_ | refine Fr.put rfl ?_ | with_reducible refine Fr.put0 ?_))
              · omega
              · omega
              · exact hX2.trans hx40
              · rw [← Nat.add_assoc, hst]; exact ho40
              · rw [← Nat.add_assoc, hst]; intro hh; exact absurd hh (insA_ne _ _)
              · simp only [EN, Nat.reduceEqDiff, reduceIte, k0_2, k4_2, k5_2, k6_2, i3_2, i7_2] <;> first | rfl | (congr 1; omega)
              · simp only [EN, Nat.reduceEqDiff, reduceIte, k0_2, k4_2, k5_2, k6_2, i3_2, i7_2] <;> first | rfl | (congr 1; omega)
            ·
              try simp only [BD] at hct36
              have hfe : fl x (k2 + 1) = fl x k2 + m2 := (by rw [fl_step hy]; omega)
              refine hx_exit ?_
              refine th_exit ?_
              refine th_exit ?_
              refine bl_hit ?_
              refine bl_norm ?_
              refine th_norm ?_
              refine hx_region ?_
              refine WL.qq (by simp only [EN, Nat.reduceEqDiff, reduceIte, qv_move, k5_2]; rfl) ?_
              refine WL.qq (by simp only [EN, Nat.reduceEqDiff, reduceIte, qv_binOp, binv_add]; (try simp (disch := omega) only [w64, w8, wu64]); rfl) ?_
              refine WL.qq (by simp only [EN, Nat.reduceEqDiff, reduceIte, qv_assign]; rfl) ?_
              refine WL.nil ?_
              refine th_norm ?_
              refine ⟨rfl, ?_, _, ?_, k2 + 1, v2, rfl, ?_, ?_, ?_, ?_, ?_, ?_⟩  -- again 0 of loop 1
              · (repeat (first | exact Fr.refl _ _ | refine Fr.set rfl ?_ | refine Fr.put rfl ?_ | with_reducible refine Fr.put0 ?_ | refine Fr.trans ?_ (Fr.of hfr2 rfl)))
              · omega
              · omega
              · exact hX2
              · rw [hfe]; exact ho2
              · rw [hfe]; exact hn2
              · simp only [EN, Nat.reduceEqDiff, reduceIte, k0_2, k4_2, k5_2, k6_2, i3_2, i7_2] <;> first | rfl | (congr 1; omega)
              · simp only [EN, Nat.reduceEqDiff, reduceIte, k0_2, k4_2, k5_2, k6_2, i3_2, i7_2] <;> first | rfl | (congr 1; omega)
        ·
          try simp only [BD] at hct21
          have hfe : fl x k2 = (pos x.bd).length := fl_end (by omega)
          rw [hfe, List.take_length, ← hal] at ho1 hn1
          refine hx_exit ?_
          refine th_exit ?_
          refine th_exit ?_
          refine bl_hit ?_
          refine bl_norm ?_
          refine th_norm ?_
          refine hx_region ?_
          refine WL.qq (by simp only [EN, Nat.reduceEqDiff, reduceIte, qv_move, k4_1]; rfl) ?_
          refine WL.qq (by simp only [EN, Nat.reduceEqDiff, reduceIte, qv_binOp, binv_add]; (try simp (disch := omega) only [w64, w8, wu64]); rfl) ?_
          refine WL.qq (by simp only [EN, Nat.reduceEqDiff, reduceIte, qv_assign]; rfl) ?_
          refine WL.nil ?_
          refine th_norm ?_
          refine ⟨rfl, ?_, _, ?_, i + 1, v1, rfl, ?_, ?_, ?_, ?_, ?_, ?_⟩  -- again 0 of loop 0
          · (repeat (first | exact Fr.refl _ _ | refine Fr.set rfl ?_ | refine Fr.put rfl ?_ | with_reducible refine Fr.put0 ?_ | refine Fr.trans ?_ (Fr.of hfr1 rfl)))
          · omega
          · omega
          · exact hX1
          · exact ho1
          · exact hn1
          · simp only [EN, Nat.reduceEqDiff, reduceIte, k0_1, k4_1, i3_1, i5_1] <;> first | rfl | (congr 1; omega)
          · simp only [EN, Nat.reduceEqDiff, reduceIte, k0_1, k4_1, i3_1, i5_1] <;> first | rfl | (congr 1; omega)
    ·
      try simp only [BD] at hct11
      have hie : l.take i = l := List.take_of_length_le (by rw [← hxl, List.length_map]; omega)
      rw [hie] at ho hn0
      refine hx_exit ?_
      refine th_exit ?_
      refine th_exit ?_
      refine bl_hit ?_
      refine th_norm ?_
      refine hx_seq ?_
      refine hx_region ?_
      refine WL.qq (by simp only [EN, Nat.reduceEqDiff, reduceIte, qv_move, i3_0]; rfl) ?_
      refine WL.qq (by simp only [EN, Nat.reduceEqDiff, reduceIte, qv_assign]; rfl) ?_
      refine WL.nil ?_
      refine th_norm ?_
      refine hx_ret ?_
      refine fin_ret [.tmp 2] rfl rfl (by simp only [EN, Nat.reduceEqDiff, reduceIte, resv, k0_0, i3_0, i4_0]; rfl) ?_  -- ret 0 r13
      exact ⟨hX, ho, hn0⟩
end GL


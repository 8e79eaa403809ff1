/- The law LimitAntisymmetry returns true: net amounts are antisymmetric and add up to the outflows, which add up to 0. No condition beyond the row's own. -/
import Derived.Test.YtenjmnpefmjdfaaRows
import Derived.Test.YtenjmnpefmjdfaaLimT
set_option linter.unusedSimpArgs false
set_option linter.unusedVariables false
set_option linter.unnecessarySimpa false
namespace GL
open Go Go.Proofs
set_option maxRecDepth 8000
def adx (l : List ByteArray) (s : ByteArray) : List ByteArray := if s ∈ l then [] else [s]
theorem addL_adx (l : List ByteArray) (s : ByteArray) : addL l s = l ++ adx l s := by
  unfold addL adx; split <;> simp
section
variable {h0 h h' : Heap} {p : Nat} {ls ns : List L2}
theorem TB.app {el sz n m : Nat} {xs ys : List Value} (ht : TB h0 h p ls ns) (hel : el ≠ 73) (hr : (Rel.app h0.size el sz n m xs ys).r h h') : TB h0 h' p ls ns := by
  have hx := app_ext2 ht.E hr
  obtain ⟨⟨bl, bn, h1, h2, h3⟩, hE, hp⟩ := ht
  have mp : ∀ {b : Nat} {l : List L2}, MapT pV iV h b l → MapT pV iV h' b l := fun {b l} hm => by
    obtain ⟨es, s, q1, q2, q3⟩ := hm
    exact ⟨es, s, hr.2.2.1 b _ (fun _ _ hh => by cases hh) q1, q2, q3⟩
  exact ⟨⟨bl, bn, ⟨hr.2.2.1 p _ (fun _ _ hh => by cases hh; exact hel rfl) h1.blk, mp h1.lim, mp h1.net, h1.ne⟩, h2, h3⟩, hx, hp⟩
theorem Own.turn {el sz n : Nat} {v : Value} {xs : List Value} {q N : Nat} (ho : Own h N el sz v n xs) (ht : TB h0 h q ls ns) (hel : el ≠ 73) (hT : Turn q h h') : Own h' N el sz v n xs := by
  refine ho.keep fun c hc => ?_
  obtain ⟨cur, hb⟩ := ho.typ c hc
  have hne : c ≠ q := ht.ne hb hel
  rw [hT.2 c cur el (0, 0) hne hb]; exact hb.symm
theorem c_withA {N n : Nat} {v : Value} (l : List ByteArray) (s : ByteArray) (hlen : l.length ≤ 1000000) (hn : n = l.length) (hbs : N ≤ h.size) (ho : Own h N 9 1 v n (l.flatMap strL)) :
    HCalls Try.prog 19 #[v, .string s] h fun v' h' => (Rel.app N 9 1 l.length (adx l s).length (l.flatMap strL) ((adx l s).flatMap strL)).r h h' ∧ (∃ a cap, v' = .slice a (l.length + (adx l s).length) cap) ∧ Own h' N 9 1 v' (l.length + (adx l s).length) (l.flatMap strL ++ (adx l s).flatMap strL) := by
  subst hn
  obtain ⟨a, cap, rfl, _, hs, _⟩ := Own.slG (f := strL) (sz := 1) (fun _ => rfl) ho rfl
  refine hcalls2 Try.func19 rfl (by decide +kernel) (by simp only [Try.ntmps19]; exact of_decide_eq_true rfl) ?_
  intro e hin
  have e0 := hin 0 _ rfl
  have e1 := hin 1 _ rfl
  refine hx_seq ?_
  refine hx_region ?_
  refine WL.qq (by simp only [EN, Nat.reduceEqDiff, reduceIte, qv_assign, strEq]; rfl) ?_
  refine WL.nil ?_
  refine th_norm ?_
  refine hx_seq ?_
  refine hx_seq ?_
  refine hx_region ?_
  refine WL.qq (by simp only [EN, Nat.reduceEqDiff, reduceIte, qv_assign, strEq]; rfl) ?_
  refine WL.nil ?_
  refine th_norm ?_
  refine hx_block ?_
  refine hx_loopS [4, 5, 6, 7, 8, 9, 10, 11, 12, 13, 14, 15, 16, 17, 18] (fun k e => ∃ (i : Nat), l.length - i = k ∧ (i ≤ l.length) ∧ (∀ y ∈ l.take i, y ≠ s) ∧ e 5 = .int .i64 i) _ ⟨0, rfl, ?_, ?_, ?_⟩ ?_
  · omega
  · simp
  · simp only [EN, Nat.reduceEqDiff, reduceIte, e0, e1, strEq] <;> rfl
  ·
    rintro k e0L hfr0 ⟨i, rfl, hi, hno, i5_0⟩
    have k0_0 := hfr0 0 rfl; try simp only [EN, Nat.reduceEqDiff, reduceIte, e0, strEq] at k0_0
    have k1_0 := hfr0 1 rfl; try simp only [EN, Nat.reduceEqDiff, reduceIte, e1, strEq] at k1_0
    refine hx_seq ?_
    refine hx_seq ?_
    refine hx_region ?_
    refine WL.qq (by simp only [EN, Nat.reduceEqDiff, reduceIte, qv_move, i5_0, strEq]; rfl) ?_
    refine WL.qq (by simp only [EN, Nat.reduceEqDiff, reduceIte, qv_move, k0_0, strEq]; rfl) ?_
    refine WL.qq (by simp only [EN, Nat.reduceEqDiff, reduceIte, qv_len, ln37, AR, strEq]; rfl) ?_
    refine WL.qq (by simp only [EN, Nat.reduceEqDiff, reduceIte, qv_binOp, binv_lss, strEq]; rfl) ?_
    refine WL.nil ?_
    refine th_norm ?_
    refine hx_cond (by simp only [EN, Nat.reduceEqDiff, reduceIte, strEq]; rfl) (fun hct9 => ?_) (fun hct9 => ?_)
    ·
      try simp only [BD] at hct9
      obtain ⟨x, hx⟩ := atG (l := l) (i := i) (by omega)
      obtain ⟨bb, off, rfl, hr0⟩ := hs i x hx
      have hc0 := readN_cell hr0 0 _ rfl
      rw [Nat.add_zero, Nat.mul_one] at hc0
      refine hx_skip ?_
      refine th_norm ?_
      refine hx_seq ?_
      refine hx_block ?_
      refine hx_seq ?_
      refine hx_region ?_
      refine WL.qq (by simp only [EN, Nat.reduceEqDiff, reduceIte, qv_move, k0_0, strEq]; rfl) ?_
      refine WL.qq (by simp only [EN, Nat.reduceEqDiff, reduceIte, qv_move, i5_0, strEq]; rfl) ?_
      refine WL.qq (by simp only [EN, Nat.reduceEqDiff, reduceIte, qv_indexAddr, strEq]; (try simp (disch := omega) only [ix37, Int.toNat_natCast]); rfl) ?_
      refine WL.qq (by simp only [EN, Nat.reduceEqDiff, reduceIte, k0_0, k1_0, i5_0, strEq, qv_load, ld9, Int.toNat_natCast, hc0]; rfl) ?_
      refine WL.qq (by simp only [EN, Nat.reduceEqDiff, reduceIte, qv_move, k1_0, strEq]; rfl) ?_
      refine WL.qq (by simp only [EN, Nat.reduceEqDiff, reduceIte, qv_binOp, binv_eql, eq9, Option.map_some, strEq]; rfl) ?_
      refine WL.nil ?_
      refine th_norm ?_
      refine hx_cond (by simp only [EN, Nat.reduceEqDiff, reduceIte, strEq]; rfl) (fun hct17 => ?_) (fun hct17 => ?_)
      ·
        try simp only [BD] at hct17
        refine hx_seq ?_
        refine hx_region ?_
        refine WL.qq (by simp only [EN, Nat.reduceEqDiff, reduceIte, qv_move, k0_0, strEq]; rfl) ?_
        refine WL.qq (by simp only [EN, Nat.reduceEqDiff, reduceIte, qv_assign, strEq]; rfl) ?_
        refine WL.nil ?_
        refine th_norm ?_
        refine hx_ret ?_
        refine bl_ret ?_
        refine th_ret ?_
        refine th_ret ?_
        refine bl_ret ?_
        refine th_ret ?_
        refine fin_ret [.tmp 4] rfl rfl (by simp only [EN, Nat.reduceEqDiff, reduceIte, resv, k0_0, k1_0, i5_0, strEq]; rfl) ?_  -- ret 0 r5
        have hk : s ∈ l := (by have h9 : x = s := (by simpa using hct17); rw [← h9]; exact List.mem_of_getElem? hx)
        have hz : adx l s = [] := if_pos hk
        rw [hz]
        exact ⟨Rel.refl _ _, ⟨_, _, rfl⟩, by simpa [retOf] using ho⟩
      ·
        try simp only [BD] at hct17
        refine hx_skip ?_
        refine bl_norm ?_
        refine th_norm ?_
        refine hx_region ?_
        refine WL.qq (by simp only [EN, Nat.reduceEqDiff, reduceIte, qv_move, i5_0, strEq]; rfl) ?_
        refine WL.qq (by simp only [EN, Nat.reduceEqDiff, reduceIte, qv_binOp, binv_add, strEq]; (try simp (disch := omega) only [w64, w8, wu64]); rfl) ?_
        refine WL.qq (by simp only [EN, Nat.reduceEqDiff, reduceIte, qv_assign, strEq]; rfl) ?_
        refine WL.nil ?_
        refine th_norm ?_
        refine ⟨rfl, rfl, ?_, _, ?_, i + 1, rfl, ?_, ?_, ?_⟩  -- again 0 of loop 0
        · (repeat (first | exact Fr.refl _ _ | refine Fr.set rfl ?_ | refine Fr.put rfl ?_ | with_reducible refine Fr.put0 ?_))
        · omega
        · omega
        · exact all_take (p := fun y => y ≠ s) hno hx (by simpa using hct17)
        · simp only [EN, Nat.reduceEqDiff, reduceIte, k0_0, k1_0, i5_0, strEq] <;> first | rfl | (congr 1; omega)
    ·
      try simp only [BD] at hct9
      have hk : s ∉ l := fun hh => all_end (p := fun y => y ≠ s) hno (by omega) s hh rfl
      have hz : adx l s = [s] := if_neg hk
      refine hx_exit ?_
      refine th_exit ?_
      refine th_exit ?_
      refine bl_hit ?_
      refine th_norm ?_
      refine hx_seq ?_
      refine hx_region ?_
      refine WL.qq (by simp only [EN, Nat.reduceEqDiff, reduceIte, qv_move, k0_0, strEq]; rfl) ?_
      refine WL.qq (by simp only [EN, Nat.reduceEqDiff, reduceIte, qv_move, k1_0, strEq]; rfl) ?_
      refine WL.lit2 #[(.string ⟨#[]⟩)] Try.underlying37 sz9 zr9 (by decide) (by kernel_rfl) ⟨_, (by simp only [EN, Nat.reduceEqDiff, reduceIte, AR, strEq]; simp [Instr.fill, Value.cells]; rfl), rfl⟩ ?_
      intro h1 B1 hx1 hlt1 hB1
      replace ho := ho.ext hx1
      refine WL.ef _ (e_appIn (f := strL) (L := l) (M := [s]) (bytes := 16) Try.underlying37 (inf_of Try.type9) rfl rfl rfl rfl (by decide) (fun _ => rfl) (fun x u hu => by simp at hu; subst hu; rfl) (by simp only [EN, Nat.reduceEqDiff, reduceIte, k0_0, k1_0, i5_0, strEq, hB1.cell]) ho (by simp only [EN, Nat.reduceEqDiff, reduceIte, k0_0, k1_0, i5_0, strEq, hB1.cell]; rfl) rfl (slG_has (f := strL) (sz := 1) (L := [s]) (fun _ => rfl) hB1 rfl) (by simp only [maxLen, List.length_singleton]; omega) (by simp only [List.length_singleton]; omega) (Nat.le_trans hbs hx1.size)) ?_
      rintro v40 h40 ⟨hr40, hv40, ho40⟩
      simp only [put_some]
      refine WL.qq (by simp only [EN, Nat.reduceEqDiff, reduceIte, qv_assign, strEq, hB1.cell]; rfl) ?_
      refine WL.nil ?_
      refine th_norm ?_
      refine hx_ret ?_
      refine fin_ret [.tmp 4] rfl rfl (by simp only [EN, Nat.reduceEqDiff, reduceIte, resv, k0_0, k1_0, i5_0, strEq, hB1.cell]; rfl) ?_  -- ret 1 r6
      rw [hz]
      exact ⟨(Rel.app N 9 1 l.length ([s] : List ByteArray).length (l.flatMap strL) (([s] : List ByteArray).flatMap strL)).trans (app_of_ext hx1) hr40, hv40, ho40⟩
end
set_option maxHeartbeats 8000000 in
theorem l_anti (al : Option Addr) (l : List LOp) (cl : Nat) {h : Heap} (hl : SlG 5 opL h al l) (ll : l.length ≤ 9223372036854775807) (hok : ∀ o ∈ l, LOk h o) :
    HCalls Try.prog 4 #[.slice al l.length cl] h (Grow (.bool true) h) := by
  refine hcalls2 Try.func4 rfl (by decide +kernel) (by simp only [Try.ntmps4]; exact of_decide_eq_true rfl) ?_
  intro e hin
  have e0 := hin 0 _ rfl
  have kl := hl
  refine hx_seq ?_
  refine hx_region ?_
  refine WL.qq (by simp only [EN, Nat.reduceEqDiff, reduceIte, qv_assign, Bool.not_true, Bool.not_false, decide_eq_true_eq]; rfl) ?_
  refine WL.nil ?_
  refine th_norm ?_
  refine hx_seq ?_
  refine hx_seq ?_
  refine hx_region ?_
  refine WL.cg Try.call11 (by simp only [EN, Nat.reduceEqDiff, reduceIte, AR, Bool.not_true, Bool.not_false, decide_eq_true_eq]; exact c_known16 _) ?_
  intro h1 hx1
  replace hl := hl.ext hx1
  refine WL.qq (by simp only [EN, Nat.reduceEqDiff, reduceIte, qv_unOp, unv_not, Bool.not_true, Bool.not_false, decide_eq_true_eq]; rfl) ?_
  refine WL.qq (by simp only [EN, Nat.reduceEqDiff, reduceIte, qv_move, Bool.not_true, Bool.not_false, decide_eq_true_eq]; rfl) ?_
  refine WL.cq (gd_at (t := 13) rfl (by simp only [EN, Nat.reduceEqDiff, reduceIte, e0, Bool.not_true, Bool.not_false, decide_eq_true_eq] <;> rfl)) (fun hg1_3 => by simp only [EN, Nat.reduceEqDiff, reduceIte, qv_move, e0, Bool.not_true, Bool.not_false, decide_eq_true_eq, hg1_3, GR]; rfl) ?_
  refine WL.cck (gd_at (t := 13) rfl (by simp only [EN, Nat.reduceEqDiff, reduceIte, Bool.not_true, Bool.not_false, decide_eq_true_eq] <;> rfl)) Try.call17 (fun hg1_4 => by simp only [EN, Nat.reduceEqDiff, reduceIte, AR, Bool.not_true, Bool.not_false, decide_eq_true_eq, hg1_4, GR]; exact c_small al l cl ll hl) ?_
  refine WL.cq (gd_at (t := 13) rfl (by simp only [EN, Nat.reduceEqDiff, reduceIte, Bool.not_true, Bool.not_false, decide_eq_true_eq] <;> rfl)) (fun hg1_5 => by simp only [EN, Nat.reduceEqDiff, reduceIte, qv_unOp, unv_not, Bool.not_true, Bool.not_false, decide_eq_true_eq, hg1_5, GR]; rfl) ?_
  refine WL.qq (by simp only [EN, Nat.reduceEqDiff, reduceIte, qv_pick, pk_and, pk_or, GR, Bool.not_true, Bool.not_false, decide_eq_true_eq]; rfl) ?_
  refine WL.nil ?_
  refine th_norm ?_
  refine hx_cond (by simp only [EN, Nat.reduceEqDiff, reduceIte, Bool.not_true, Bool.not_false, decide_eq_true_eq]; rfl) (fun hct17 => ?_) (fun hct17 => ?_)
  ·
    try simp only [BD] at hct17
    refine hx_seq ?_
    refine hx_region ?_
    refine WL.cg Try.call11 (by simp only [EN, Nat.reduceEqDiff, reduceIte, AR, Bool.not_true, Bool.not_false, decide_eq_true_eq]; exact c_known16 _) ?_
    intro h2 hx2
    replace hl := hl.ext hx2
    refine WL.qq (by simp only [EN, Nat.reduceEqDiff, reduceIte, qv_assign, Bool.not_true, Bool.not_false, decide_eq_true_eq]; rfl) ?_
    refine WL.nil ?_
    refine th_norm ?_
    refine hx_ret ?_
    refine th_ret ?_
    refine fin_ret [.tmp 2] rfl rfl (by simp only [EN, Nat.reduceEqDiff, reduceIte, resv, e0, Bool.not_true, Bool.not_false, decide_eq_true_eq]; rfl) ?_  -- ret 0 r2
    exact ⟨by simp [retOf], ((hx1).trans (hx2))⟩
  ·
    try simp only [BD] at hct17
    have hsm : smallB l = true := (by cases h8 : smallB l; (rw [h8] at hct17; simp at hct17); rfl)
    obtain ⟨hl40, hl12⟩ := small_ok hsm
    refine hx_skip ?_
    refine th_norm ?_
    refine hx_seq ?_
    refine hx_region ?_
    have hE3 := (hx1)
    refine WL.ce Try.call12 (by simp only [EN, Nat.reduceEqDiff, reduceIte, AR, Bool.not_true, Bool.not_false, decide_eq_true_eq]; exact tb_new _) ?_
    rintro _ h20 ⟨p, rfl, hT0⟩
    simp only [put_some]
    have hT := hT0.base hE3
    refine WL.qq (by simp only [EN, Nat.reduceEqDiff, reduceIte, qv_assign, Bool.not_true, Bool.not_false, decide_eq_true_eq]; rfl) ?_
    refine WL.nil ?_
    refine th_norm ?_
    refine hx_seq ?_
    refine hx_region ?_
    refine WL.qq (by simp only [EN, Nat.reduceEqDiff, reduceIte, qv_assign, Bool.not_true, Bool.not_false, decide_eq_true_eq]; rfl) ?_
    refine WL.nil ?_
    refine th_norm ?_
    refine hx_seq ?_
    refine hx_seq ?_
    refine hx_region ?_
    refine WL.qq (by simp only [EN, Nat.reduceEqDiff, reduceIte, qv_assign, Bool.not_true, Bool.not_false, decide_eq_true_eq]; rfl) ?_
    refine WL.nil ?_
    refine th_norm ?_
    refine hx_block ?_
    refine hx_loopG [4, 5, 6, 20, 21, 22, 23, 24, 25, 26, 27, 28, 29, 30, 31, 32, 33, 34, 35, 36, 37, 38, 39, 40, 41, 42, 43, 44, 45, 46, 47, 48, 49, 50, 51, 52, 53, 54, 55, 56, 57, 58, 59, 60, 61, 62, 63] (fun k e hL0 => ∃ (i : Nat) (v : Value), l.length - i = k ∧ (i ≤ l.length) ∧ (TB h hL0 p (rS (l.take i)).1 (rS (l.take i)).2) ∧ (Own hL0 h.size 9 1 v (mbO (l.take i)).length ((mbO (l.take i)).flatMap strL)) ∧ e 5 = .int .i64 i ∧ e 4 = v) _ ⟨0, .slice none 0 0, rfl, ?_, ?_, ?_, ?_, ?_⟩ ?_
    · omega
    · exact hT
    · exact Own.nil
    · simp only [EN, Nat.reduceEqDiff, reduceIte, e0, Bool.not_true, Bool.not_false, decide_eq_true_eq] <;> rfl
    · simp only [EN, Nat.reduceEqDiff, reduceIte, e0, Bool.not_true, Bool.not_false, decide_eq_true_eq] <;> rfl
    ·
      rintro k e0L hL0 hfr0 ⟨i, v, rfl, hi, hT, ho, i5_0, i4_0⟩
      have k0_0 := hfr0 0 rfl; try simp only [EN, Nat.reduceEqDiff, reduceIte, e0, Bool.not_true, Bool.not_false, decide_eq_true_eq] at k0_0
      have k3_0 := hfr0 3 rfl; try simp only [EN, Nat.reduceEqDiff, reduceIte, Bool.not_true, Bool.not_false, decide_eq_true_eq] at k3_0
      have hl := kl.ext hT.E
      refine hx_seq ?_
      refine hx_seq ?_
      refine hx_region ?_
      refine WL.qq (by simp only [EN, Nat.reduceEqDiff, reduceIte, qv_move, i5_0, Bool.not_true, Bool.not_false, decide_eq_true_eq]; rfl) ?_
      refine WL.qq (by simp only [EN, Nat.reduceEqDiff, reduceIte, qv_move, k0_0, Bool.not_true, Bool.not_false, decide_eq_true_eq]; rfl) ?_
      refine WL.qq (by simp only [EN, Nat.reduceEqDiff, reduceIte, qv_len, ln35, AR, Bool.not_true, Bool.not_false, decide_eq_true_eq]; rfl) ?_
      refine WL.qq (by simp only [EN, Nat.reduceEqDiff, reduceIte, qv_binOp, binv_lss, Bool.not_true, Bool.not_false, decide_eq_true_eq]; rfl) ?_
      refine WL.nil ?_
      refine th_norm ?_
      refine hx_cond (by simp only [EN, Nat.reduceEqDiff, reduceIte, Bool.not_true, Bool.not_false, decide_eq_true_eq]; rfl) (fun hct23 => ?_) (fun hct23 => ?_)
      ·
        try simp only [BD] at hct23
        obtain ⟨o, hoi⟩ := atG (l := l) (i := i) (by omega)
        have hom := List.mem_of_getElem? hoi; have h12 := hl12 o hom; have hoo := hok o hom
        obtain ⟨b, off, rfl, kr5, kc4⟩ := op_rd kl hoi
        have hr5 := hT.E.readN kr5
        have hl12' : ∀ o ∈ l.take i, o.x.L.length ≤ 12 := fun o ho => hl12 o (List.mem_of_mem_take ho)
        have hQ := run_EQ (l.take i) hl12'; have q1 := hQ.ll; have q2 := hQ.ln; have q0 : (l.take i).length ≤ 40 := (by rw [List.length_take]; omega)
        refine hx_skip ?_
        refine th_norm ?_
        refine hx_seq ?_
        refine hx_block ?_
        refine hx_seq ?_
        refine hx_region ?_
        refine WL.qq (by simp only [EN, Nat.reduceEqDiff, reduceIte, qv_move, k3_0, Bool.not_true, Bool.not_false, decide_eq_true_eq]; rfl) ?_
        refine WL.qq (by refine qv_bld (by simp only [EN, Nat.reduceEqDiff, reduceIte, AR, Bool.not_true, Bool.not_false, decide_eq_true_eq] <;> rfl) (by rw [bl41]; simp [Instr.fill, Value.cells]; rfl)) ?_
        refine WL.qq (by simp only [EN, Nat.reduceEqDiff, reduceIte, qv_move, k0_0, Bool.not_true, Bool.not_false, decide_eq_true_eq]; rfl) ?_
        refine WL.qq (by simp only [EN, Nat.reduceEqDiff, reduceIte, qv_move, i5_0, Bool.not_true, Bool.not_false, decide_eq_true_eq]; rfl) ?_
        refine WL.qq (by simp only [EN, Nat.reduceEqDiff, reduceIte, qv_indexAddr, Bool.not_true, Bool.not_false, decide_eq_true_eq]; (try simp (disch := omega) only [ix35, Int.toNat_natCast]); rfl) ?_
        refine WL.qq (by simp only [EN, Nat.reduceEqDiff, reduceIte, k0_0, k3_0, i5_0, i4_0, Bool.not_true, Bool.not_false, decide_eq_true_eq, qv_load, ld45, Int.toNat_natCast, hr5]; rfl) ?_
        refine WL.ce Try.call18 (by simp only [EN, Nat.reduceEqDiff, reduceIte, AR, Bool.not_true, Bool.not_false, decide_eq_true_eq]; exact c_do o hoo.k hT (w := rfV none ([] : List L2).length 0 none ([] : List L2).length 0) ⟨none, 0, none, 0, rfl, (fun i x hx => by simp at hx), (fun i x hx => by simp at hx)⟩ (hoo.x.rd.ext hT.E) h12 (by omega) (by omega) (by simp) (by simp)) ?_
        rintro _ h40 ⟨w2, rfl, hT2, _, hTu⟩
        simp only [put_some]
        replace ho := ho.turn hT (by decide) hTu
        have hst : rS (l.take (i + 1)) = _ := rS_step hoi
        replace hT : TB h h40 p (rS (l.take (i + 1))).1 (rS (l.take (i + 1))).2 := (by rw [hst]; exact hT2)
        refine WL.nil ?_
        refine th_norm ?_
        refine hx_seq ?_
        refine hx_region ?_
        refine WL.qq (by simp only [EN, Nat.reduceEqDiff, reduceIte, qv_assign, Bool.not_true, Bool.not_false, decide_eq_true_eq]; rfl) ?_
        refine WL.nil ?_
        refine th_norm ?_
        refine hx_block ?_
        refine hx_loopG [4, 6, 33, 34, 35, 36, 37, 38, 39, 40, 41, 42, 43, 44, 45, 46, 47, 48, 49, 50, 51, 52, 53, 54, 55, 56, 57, 58, 59, 60, 61, 62, 63] (fun k e hL1 => ∃ (j : Nat) (v2 : Value), o.x.L.length - j = k ∧ (j ≤ o.x.L.length) ∧ (TB h hL1 p (rS (l.take (i + 1))).1 (rS (l.take (i + 1))).2) ∧ (Own hL1 h.size 9 1 v2 (mbF (mbO (l.take i)) (o.x.L.take j)).length ((mbF (mbO (l.take i)) (o.x.L.take j)).flatMap strL)) ∧ e 6 = .int .i64 j ∧ e 4 = v2) _ ⟨0, v, rfl, ?_, ?_, ?_, ?_, ?_⟩ ?_
        · omega
        · exact hT
        · exact ho
        · simp only [EN, Nat.reduceEqDiff, reduceIte, k0_0, k3_0, i5_0, i4_0, Bool.not_true, Bool.not_false, decide_eq_true_eq] <;> rfl
        · simp only [EN, Nat.reduceEqDiff, reduceIte, k0_0, k3_0, i5_0, i4_0, Bool.not_true, Bool.not_false, decide_eq_true_eq] <;> rfl
        ·
          rintro k e1L hL1 hfr1 ⟨j, v2, rfl, hj, hT, ho, i6_1, i4_1⟩
          have k0_1 := hfr1 0 rfl; try simp only [EN, Nat.reduceEqDiff, reduceIte, k0_0, Bool.not_true, Bool.not_false, decide_eq_true_eq] at k0_1
          have k3_1 := hfr1 3 rfl; try simp only [EN, Nat.reduceEqDiff, reduceIte, k3_0, Bool.not_true, Bool.not_false, decide_eq_true_eq] at k3_1
          have k5_1 := hfr1 5 rfl; try simp only [EN, Nat.reduceEqDiff, reduceIte, i5_0, Bool.not_true, Bool.not_false, decide_eq_true_eq] at k5_1
          have hc4 := hT.E.cell kc4
          refine hx_seq ?_
          refine hx_seq ?_
          refine hx_region ?_
          refine WL.qq (by simp only [EN, Nat.reduceEqDiff, reduceIte, qv_move, i6_1, Bool.not_true, Bool.not_false, decide_eq_true_eq]; rfl) ?_
          refine WL.qq (by simp only [EN, Nat.reduceEqDiff, reduceIte, qv_move, k0_1, Bool.not_true, Bool.not_false, decide_eq_true_eq]; rfl) ?_
          refine WL.qq (by simp only [EN, Nat.reduceEqDiff, reduceIte, qv_move, k5_1, Bool.not_true, Bool.not_false, decide_eq_true_eq]; rfl) ?_
          refine WL.qq (by simp only [EN, Nat.reduceEqDiff, reduceIte, qv_indexAddr, Bool.not_true, Bool.not_false, decide_eq_true_eq]; (try simp (disch := omega) only [ix35, Int.toNat_natCast]); rfl) ?_
          refine WL.qq (by simp only [EN, Nat.reduceEqDiff, reduceIte, qv_fieldAddr, fa45_4, Nat.zero_add, Nat.reduceAdd, Bool.not_true, Bool.not_false, decide_eq_true_eq]; rfl) ?_
          refine WL.qq (by simp only [EN, Nat.reduceEqDiff, reduceIte, k0_1, k3_1, k5_1, i6_1, i4_1, Bool.not_true, Bool.not_false, decide_eq_true_eq, qv_load, ld39, Int.toNat_natCast, hc4]; rfl) ?_
          refine WL.qq (by simp only [EN, Nat.reduceEqDiff, reduceIte, qv_len, ln39, AR, Bool.not_true, Bool.not_false, decide_eq_true_eq]; rfl) ?_
          refine WL.qq (by simp only [EN, Nat.reduceEqDiff, reduceIte, qv_binOp, binv_lss, Bool.not_true, Bool.not_false, decide_eq_true_eq]; rfl) ?_
          refine WL.nil ?_
          refine th_norm ?_
          refine hx_cond (by simp only [EN, Nat.reduceEqDiff, reduceIte, Bool.not_true, Bool.not_false, decide_eq_true_eq]; rfl) (fun hct40 => ?_) (fun hct40 => ?_)
          ·
            try simp only [BD] at hct40
            obtain ⟨x, hx⟩ := atG (l := o.x.L) (i := j) (by omega)
            obtain ⟨bf, offf, hfa, _, kf0, kf1, _⟩ := lim_rd hoo.x.rd hx
            rw [hfa] at kc4
            have hml : (mbF (mbO (l.take i)) (o.x.L.take j)).length ≤ 1000 := (by have e1 := mbF_len (o.x.L.take j) (mbO (l.take i)); have e2 := mbO_len hl12'; rw [List.length_take] at e1; omega)
            have hz := hT.E.size
            obtain ⟨m0, hm0⟩ : ∃ m0, mbF (mbO (l.take i)) (o.x.L.take j) = m0 := ⟨_, rfl⟩
            rw [hm0] at ho hml
            refine hx_skip ?_
            refine th_norm ?_
            refine hx_seq ?_
            refine hx_block ?_
            apply hx_draw2R (Rel.app h.size 9 1 m0.length (adx m0 x.1.f).length (m0.flatMap strL) ((adx m0 x.1.f).flatMap strL)) [20, 21] [10] [(10, Spec.own h.size 9 1 (m0.length + (adx m0 x.1.f).length) (m0.flatMap strL ++ (adx m0 x.1.f).flatMap strL))] rfl (by decide +kernel) rfl app_stable1
            refine LD.qr rfl rfl (fun hD hr => by have hX := app_ext2 hT.E hr; have d4 := hX.cell kc4; have d0 := hX.cell kf0; have d1 := hX.cell kf1; have dz := hX.size; simp only [EN, Nat.reduceEqDiff, reduceIte, qv_move, i4_1, Bool.not_true, Bool.not_false, decide_eq_true_eq]; rfl) ?_
            refine LD.qr rfl rfl (fun hD hr => by have hX := app_ext2 hT.E hr; have d4 := hX.cell kc4; have d0 := hX.cell kf0; have d1 := hX.cell kf1; have dz := hX.size; simp only [EN, Nat.reduceEqDiff, reduceIte, qv_move, k0_1, Bool.not_true, Bool.not_false, decide_eq_true_eq]; rfl) ?_
            refine LD.qr rfl rfl (fun hD hr => by have hX := app_ext2 hT.E hr; have d4 := hX.cell kc4; have d0 := hX.cell kf0; have d1 := hX.cell kf1; have dz := hX.size; simp only [EN, Nat.reduceEqDiff, reduceIte, qv_move, k5_1, Bool.not_true, Bool.not_false, decide_eq_true_eq]; rfl) ?_
            refine LD.qr rfl rfl (fun hD hr => by have hX := app_ext2 hT.E hr; have d4 := hX.cell kc4; have d0 := hX.cell kf0; have d1 := hX.cell kf1; have dz := hX.size; simp only [EN, Nat.reduceEqDiff, reduceIte, qv_indexAddr, Bool.not_true, Bool.not_false, decide_eq_true_eq]; (try simp (disch := omega) only [ix35, Int.toNat_natCast]); rfl) ?_
            refine LD.qr rfl rfl (fun hD hr => by have hX := app_ext2 hT.E hr; have d4 := hX.cell kc4; have d0 := hX.cell kf0; have d1 := hX.cell kf1; have dz := hX.size; simp only [EN, Nat.reduceEqDiff, reduceIte, qv_fieldAddr, fa45_4, Nat.zero_add, Nat.reduceAdd, Bool.not_true, Bool.not_false, decide_eq_true_eq]; rfl) ?_
            refine LD.qr rfl rfl (fun hD hr => by have hX := app_ext2 hT.E hr; have d4 := hX.cell kc4; have d0 := hX.cell kf0; have d1 := hX.cell kf1; have dz := hX.size; simp only [EN, Nat.reduceEqDiff, reduceIte, k0_1, k3_1, k5_1, i6_1, i4_1, Bool.not_true, Bool.not_false, decide_eq_true_eq, qv_load, ld39, Int.toNat_natCast, d4]; rfl) ?_
            refine LD.qr rfl rfl (fun hD hr => by have hX := app_ext2 hT.E hr; have d4 := hX.cell kc4; have d0 := hX.cell kf0; have d1 := hX.cell kf1; have dz := hX.size; simp only [EN, Nat.reduceEqDiff, reduceIte, qv_move, i6_1, Bool.not_true, Bool.not_false, decide_eq_true_eq]; rfl) ?_
            refine LD.qr rfl rfl (fun hD hr => by have hX := app_ext2 hT.E hr; have d4 := hX.cell kc4; have d0 := hX.cell kf0; have d1 := hX.cell kf1; have dz := hX.size; simp only [EN, Nat.reduceEqDiff, reduceIte, qv_indexAddr, Bool.not_true, Bool.not_false, decide_eq_true_eq]; (try simp (disch := omega) only [ix39, Int.toNat_natCast]); rfl) ?_
            refine LD.qr rfl rfl (fun hD hr => by have hX := app_ext2 hT.E hr; have d4 := hX.cell kc4; have d0 := hX.cell kf0; have d1 := hX.cell kf1; have dz := hX.size; simp only [EN, Nat.reduceEqDiff, reduceIte, qv_fieldAddr, fa47_0, Nat.zero_add, Nat.reduceAdd, Bool.not_true, Bool.not_false, decide_eq_true_eq]; rfl) ?_
            refine LD.qr rfl rfl (fun hD hr => by have hX := app_ext2 hT.E hr; have d4 := hX.cell kc4; have d0 := hX.cell kf0; have d1 := hX.cell kf1; have dz := hX.size; simp only [EN, Nat.reduceEqDiff, reduceIte, k0_1, k3_1, k5_1, i6_1, i4_1, Bool.not_true, Bool.not_false, decide_eq_true_eq, qv_load, ld9, Int.toNat_natCast, Nat.add_zero, d0]; rfl) ?_
            refine LD.es rfl rfl (by intro hD hr hf; have hX := app_ext2 hT.E hr; have d4 := hX.cell kc4; have d0 := hX.cell kf0; have d1 := hX.cell kf1; have dz := hX.size; exact e_call Try.call19 (by simp only [EN, Nat.reduceEqDiff, reduceIte, k0_1, k3_1, k5_1, i6_1, i4_1, Bool.not_true, Bool.not_false, decide_eq_true_eq, List.map_toArray, List.map_cons, List.map_nil]; exact c_withA m0 x.1.f (by omega) rfl dz (hr.2.2.2.2.1 _ ho))) ?_
            intro u12_10 w12_10
            refine LD.qr rfl rfl (fun hD hr => by have hX := app_ext2 hT.E hr; have d4 := hX.cell kc4; have d0 := hX.cell kf0; have d1 := hX.cell kf1; have dz := hX.size; simp only [EN, Nat.reduceEqDiff, reduceIte, qv_move, k0_1, Bool.not_true, Bool.not_false, decide_eq_true_eq]; rfl) ?_
            refine LD.qr rfl rfl (fun hD hr => by have hX := app_ext2 hT.E hr; have d4 := hX.cell kc4; have d0 := hX.cell kf0; have d1 := hX.cell kf1; have dz := hX.size; simp only [EN, Nat.reduceEqDiff, reduceIte, qv_move, k5_1, Bool.not_true, Bool.not_false, decide_eq_true_eq]; rfl) ?_
            refine LD.qr rfl rfl (fun hD hr => by have hX := app_ext2 hT.E hr; have d4 := hX.cell kc4; have d0 := hX.cell kf0; have d1 := hX.cell kf1; have dz := hX.size; simp only [EN, Nat.reduceEqDiff, reduceIte, qv_indexAddr, Bool.not_true, Bool.not_false, decide_eq_true_eq]; (try simp (disch := omega) only [ix35, Int.toNat_natCast]); rfl) ?_
            refine LD.qr rfl rfl (fun hD hr => by have hX := app_ext2 hT.E hr; have d4 := hX.cell kc4; have d0 := hX.cell kf0; have d1 := hX.cell kf1; have dz := hX.size; simp only [EN, Nat.reduceEqDiff, reduceIte, qv_fieldAddr, fa45_4, Nat.zero_add, Nat.reduceAdd, Bool.not_true, Bool.not_false, decide_eq_true_eq]; rfl) ?_
            refine LD.qr rfl rfl (fun hD hr => by have hX := app_ext2 hT.E hr; have d4 := hX.cell kc4; have d0 := hX.cell kf0; have d1 := hX.cell kf1; have dz := hX.size; simp only [EN, Nat.reduceEqDiff, reduceIte, k0_1, k3_1, k5_1, i6_1, i4_1, Bool.not_true, Bool.not_false, decide_eq_true_eq, qv_load, ld39, Int.toNat_natCast, d4]; rfl) ?_
            refine LD.qr rfl rfl (fun hD hr => by have hX := app_ext2 hT.E hr; have d4 := hX.cell kc4; have d0 := hX.cell kf0; have d1 := hX.cell kf1; have dz := hX.size; simp only [EN, Nat.reduceEqDiff, reduceIte, qv_move, i6_1, Bool.not_true, Bool.not_false, decide_eq_true_eq]; rfl) ?_
            refine LD.qr rfl rfl (fun hD hr => by have hX := app_ext2 hT.E hr; have d4 := hX.cell kc4; have d0 := hX.cell kf0; have d1 := hX.cell kf1; have dz := hX.size; simp only [EN, Nat.reduceEqDiff, reduceIte, qv_indexAddr, Bool.not_true, Bool.not_false, decide_eq_true_eq]; (try simp (disch := omega) only [ix39, Int.toNat_natCast]); rfl) ?_
            refine LD.qr rfl rfl (fun hD hr => by have hX := app_ext2 hT.E hr; have d4 := hX.cell kc4; have d0 := hX.cell kf0; have d1 := hX.cell kf1; have dz := hX.size; simp only [EN, Nat.reduceEqDiff, reduceIte, qv_fieldAddr, fa47_1, Nat.zero_add, Nat.reduceAdd, Bool.not_true, Bool.not_false, decide_eq_true_eq]; rfl) ?_
            refine LD.qr rfl rfl (fun hD hr => by have hX := app_ext2 hT.E hr; have d4 := hX.cell kc4; have d0 := hX.cell kf0; have d1 := hX.cell kf1; have dz := hX.size; simp only [EN, Nat.reduceEqDiff, reduceIte, k0_1, k3_1, k5_1, i6_1, i4_1, Bool.not_true, Bool.not_false, decide_eq_true_eq, qv_load, ld9, Int.toNat_natCast, d1]; rfl) ?_
            refine LD.skip rfl ?_
            refine LD.skip rfl ?_
            refine LD.nil ?_
            rintro h3 hr12 hF12
            replace hT := hT.app (by decide) hr12
            have ho2 : Own h3 h.size 9 1 u12_10 (m0.length + (adx m0 x.1.f).length) (m0.flatMap strL ++ (adx m0 x.1.f).flatMap strL) := hF12 (10, u12_10) (by simp) _ rfl
            obtain ⟨m1, hm1⟩ : ∃ m1, addL m0 x.1.f = m1 := ⟨_, rfl⟩
            have hm1a := addL_adx m0 x.1.f; have hm1l := addL_len (l := m0) (s := x.1.f)
            rw [← List.flatMap_append, ← List.length_append, ← hm1a, hm1] at ho2; rw [hm1] at hm1l
            refine WL.ce Try.call19 (by simp only [EN, Nat.reduceEqDiff, reduceIte, AR, Bool.not_true, Bool.not_false, decide_eq_true_eq]; exact c_withA m1 x.1.t (by omega) rfl hT.E.size ho2) ?_
            rintro v50 h50 ⟨hr50, _, ho50⟩
            simp only [put_some]
            replace hT := hT.app (by decide) hr50
            have hm2 := mbF_step (m := mbO (l.take i)) hx
            rw [← List.flatMap_append, ← List.length_append, ← addL_adx, ← hm1, ← hm0, ← hm2] at ho50
            refine WL.qq (by simp only [EN, Nat.reduceEqDiff, reduceIte, qv_assign, Bool.not_true, Bool.not_false, decide_eq_true_eq]; rfl) ?_
            refine WL.nil ?_
            refine bl_norm ?_
            refine th_norm ?_
            refine hx_region ?_
            refine WL.qq (by simp only [EN, Nat.reduceEqDiff, reduceIte, qv_move, i6_1, Bool.not_true, Bool.not_false, decide_eq_true_eq]; rfl) ?_
            refine WL.qq (by simp only [EN, Nat.reduceEqDiff, reduceIte, qv_binOp, binv_add, Bool.not_true, Bool.not_false, decide_eq_true_eq]; (try simp (disch := omega) only [w64, w8, wu64]); rfl) ?_
            refine WL.qq (by simp only [EN, Nat.reduceEqDiff, reduceIte, qv_assign, Bool.not_true, Bool.not_false, decide_eq_true_eq]; rfl) ?_
            refine WL.nil ?_
            refine th_norm ?_
            refine ⟨rfl, ?_, _, ?_, j + 1, v50, rfl, ?_, ?_, ?_, ?_, ?_⟩  -- again 0 of loop 1
            · (repeat (first | exact Fr.refl _ _ | refine Fr.set rfl ?_ | refine Fr.put rfl ?_ | with_reducible refine Fr.put0 ?_))
            · omega
            · omega
            · exact hT
            · exact ho50
            · simp only [EN, Nat.reduceEqDiff, reduceIte, k0_1, k3_1, k5_1, i6_1, i4_1, Bool.not_true, Bool.not_false, decide_eq_true_eq] <;> first | rfl | (congr 1; omega)
            · simp only [EN, Nat.reduceEqDiff, reduceIte, k0_1, k3_1, k5_1, i6_1, i4_1, Bool.not_true, Bool.not_false, decide_eq_true_eq] <;> first | rfl | (congr 1; omega)
          ·
            try simp only [BD] at hct40
            have hjl : j = o.x.L.length := (by omega)
            rw [hjl, List.take_length, ← mbO_step hoi] at ho
            refine hx_exit ?_
            refine th_exit ?_
            refine th_exit ?_
            refine bl_hit ?_
            refine bl_norm ?_
            refine th_norm ?_
            refine hx_region ?_
            refine WL.qq (by simp only [EN, Nat.reduceEqDiff, reduceIte, qv_move, k5_1, Bool.not_true, Bool.not_false, decide_eq_true_eq]; rfl) ?_
            refine WL.qq (by simp only [EN, Nat.reduceEqDiff, reduceIte, qv_binOp, binv_add, Bool.not_true, Bool.not_false, decide_eq_true_eq]; (try simp (disch := omega) only [w64, w8, wu64]); rfl) ?_
            refine WL.qq (by simp only [EN, Nat.reduceEqDiff, reduceIte, qv_assign, Bool.not_true, Bool.not_false, decide_eq_true_eq]; rfl) ?_
            refine WL.nil ?_
            refine th_norm ?_
            refine ⟨rfl, ?_, _, ?_, i + 1, v2, rfl, ?_, ?_, ?_, ?_, ?_⟩  -- again 0 of loop 0
            · (repeat (first | exact Fr.refl _ _ | refine Fr.set rfl ?_ | refine Fr.put rfl ?_ | with_reducible refine Fr.put0 ?_ | refine Fr.trans ?_ (Fr.of hfr1 rfl)))
            · omega
            · omega
            · exact hT
            · exact ho
            · simp only [EN, Nat.reduceEqDiff, reduceIte, k0_1, k3_1, k5_1, i6_1, i4_1, Bool.not_true, Bool.not_false, decide_eq_true_eq] <;> first | rfl | (congr 1; omega)
            · simp only [EN, Nat.reduceEqDiff, reduceIte, k0_1, k3_1, k5_1, i6_1, i4_1, Bool.not_true, Bool.not_false, decide_eq_true_eq] <;> first | rfl | (congr 1; omega)
      ·
        try simp only [BD] at hct23
        have hil : i = l.length := (by omega)
        subst hil
        rw [List.take_length] at hT ho
        have hout := run_out l hl12; have hzr := run_zero l hl12; have hQ := run_EQ l hl12
        obtain ⟨M, hM⟩ : ∃ M, mbO l = M := ⟨_, rfl⟩
        obtain ⟨ns, hns⟩ : ∃ ns, (rS l).2 = ns := ⟨_, rfl⟩
        rw [hM] at ho hout hzr; rw [hns] at hT hout hzr hQ
        obtain ⟨am, cm, rfl, _, hm, _⟩ := Own.slG (f := strL) (sz := 1) (fun _ => rfl) ho rfl
        have hMl : M.length ≤ 1000 := (by have := mbO_len hl12; rw [hM] at this; omega)
        have kT := hT
        refine hx_exit ?_
        refine th_exit ?_
        refine th_exit ?_
        refine bl_hit ?_
        refine th_norm ?_
        refine hx_seq ?_
        refine hx_region ?_
        refine WL.qq (by simp only [EN, Nat.reduceEqDiff, reduceIte, qv_assign, Bool.not_true, Bool.not_false, decide_eq_true_eq]; rfl) ?_
        refine WL.nil ?_
        refine th_norm ?_
        refine hx_seq ?_
        refine hx_seq ?_
        refine hx_region ?_
        refine WL.qq (by simp only [EN, Nat.reduceEqDiff, reduceIte, qv_assign, Bool.not_true, Bool.not_false, decide_eq_true_eq]; rfl) ?_
        refine WL.nil ?_
        refine th_norm ?_
        refine hx_block ?_
        refine hx_loopX [2, 7, 8, 9, 10, 64, 65, 66, 67, 68, 69, 70, 71, 72, 73, 74, 75, 76, 77, 78, 79, 80, 81, 82, 83, 84, 85, 86, 87, 88, 89, 90, 91, 92, 93, 94, 95, 96, 97, 98, 99, 100, 101, 102, 103, 104, 105, 106, 107, 108, 109, 110, 111, 112, 113, 114, 115, 116, 117, 118, 119, 120] (fun k e => ∃ (i : Nat), M.length - i = k ∧ (i ≤ M.length) ∧ e 8 = .int .i64 i ∧ e 7 = iV (IntKind.i64.wrap (sumF (fun a => sumF (fun b => lk ns ⟨a, b⟩) M) (M.take i)))) _ ⟨0, rfl, ?_, ?_, ?_⟩ ?_
        · omega
        · simp only [EN, Nat.reduceEqDiff, reduceIte, k0_0, k3_0, i5_0, i4_0, Bool.not_true, Bool.not_false, decide_eq_true_eq] <;> rfl
        · simp only [EN, Nat.reduceEqDiff, reduceIte, k0_0, k3_0, i5_0, i4_0, Bool.not_true, Bool.not_false, decide_eq_true_eq] <;> rfl
        ·
          rintro k e2L hL2 hX2 hfr2 ⟨i, rfl, hi, i8_2, i7_2⟩
          have k3_2 := hfr2 3 rfl; try simp only [EN, Nat.reduceEqDiff, reduceIte, k3_0, Bool.not_true, Bool.not_false, decide_eq_true_eq] at k3_2
          have k4_2 := hfr2 4 rfl; try simp only [EN, Nat.reduceEqDiff, reduceIte, i4_0, Bool.not_true, Bool.not_false, decide_eq_true_eq] at k4_2
          have hT := hT.ext hX2; have hm := hm.ext hX2
          refine hx_seq ?_
          refine hx_seq ?_
          refine hx_region ?_
          refine WL.qq (by simp only [EN, Nat.reduceEqDiff, reduceIte, qv_move, i8_2, Bool.not_true, Bool.not_false, decide_eq_true_eq]; rfl) ?_
          refine WL.qq (by simp only [EN, Nat.reduceEqDiff, reduceIte, qv_move, k4_2, Bool.not_true, Bool.not_false, decide_eq_true_eq]; rfl) ?_
          refine WL.qq (by simp only [EN, Nat.reduceEqDiff, reduceIte, qv_len, ln37, AR, Bool.not_true, Bool.not_false, decide_eq_true_eq]; rfl) ?_
          refine WL.qq (by simp only [EN, Nat.reduceEqDiff, reduceIte, qv_binOp, binv_lss, Bool.not_true, Bool.not_false, decide_eq_true_eq]; rfl) ?_
          refine WL.nil ?_
          refine th_norm ?_
          refine hx_cond (by simp only [EN, Nat.reduceEqDiff, reduceIte, Bool.not_true, Bool.not_false, decide_eq_true_eq]; rfl) (fun hct67 => ?_) (fun hct67 => ?_)
          ·
            try simp only [BD] at hct67
            obtain ⟨a, ha⟩ := atG (l := M) (i := i) (by omega)
            obtain ⟨ba, oa, rfl, hra⟩ := hm i a ha
            have hca := readN_cell hra 0 _ rfl; rw [Nat.add_zero, Nat.mul_one] at hca
            refine hx_skip ?_
            refine th_norm ?_
            refine hx_seq ?_
            refine hx_block ?_
            refine hx_seq ?_
            refine hx_region ?_
            refine WL.qq (by simp only [EN, Nat.reduceEqDiff, reduceIte, qv_assign, Bool.not_true, Bool.not_false, decide_eq_true_eq]; rfl) ?_
            refine WL.nil ?_
            refine th_norm ?_
            refine hx_seq ?_
            refine hx_seq ?_
            refine hx_region ?_
            refine WL.qq (by simp only [EN, Nat.reduceEqDiff, reduceIte, qv_assign, Bool.not_true, Bool.not_false, decide_eq_true_eq]; rfl) ?_
            refine WL.nil ?_
            refine th_norm ?_
            refine hx_block ?_
            refine hx_loopS [2, 9, 10, 70, 71, 72, 73, 74, 75, 76, 77, 78, 79, 80, 81, 82, 83, 84, 85, 86, 87, 88, 89, 90, 91, 92, 93, 94, 95, 96, 97, 98, 99, 100, 101, 102, 103, 104, 105, 106, 107, 108, 109] (fun k e => ∃ (j : Nat), M.length - j = k ∧ (j ≤ M.length) ∧ e 10 = .int .i64 j ∧ e 9 = iV (IntKind.i64.wrap (sumF (fun b => lk ns ⟨a, b⟩) (M.take j)))) _ ⟨0, rfl, ?_, ?_, ?_⟩ ?_
            · omega
            · simp only [EN, Nat.reduceEqDiff, reduceIte, k3_2, k4_2, i8_2, i7_2, Bool.not_true, Bool.not_false, decide_eq_true_eq] <;> rfl
            · simp only [EN, Nat.reduceEqDiff, reduceIte, k3_2, k4_2, i8_2, i7_2, Bool.not_true, Bool.not_false, decide_eq_true_eq] <;> rfl
            ·
              rintro k e3L hfr3 ⟨j, rfl, hj, i10_3, i9_3⟩
              have k3_3 := hfr3 3 rfl; try simp only [EN, Nat.reduceEqDiff, reduceIte, k3_2, Bool.not_true, Bool.not_false, decide_eq_true_eq] at k3_3
              have k4_3 := hfr3 4 rfl; try simp only [EN, Nat.reduceEqDiff, reduceIte, k4_2, Bool.not_true, Bool.not_false, decide_eq_true_eq] at k4_3
              have k7_3 := hfr3 7 rfl; try simp only [EN, Nat.reduceEqDiff, reduceIte, i7_2, Bool.not_true, Bool.not_false, decide_eq_true_eq] at k7_3
              have k8_3 := hfr3 8 rfl; try simp only [EN, Nat.reduceEqDiff, reduceIte, i8_2, Bool.not_true, Bool.not_false, decide_eq_true_eq] at k8_3
              refine hx_seq ?_
              refine hx_seq ?_
              refine hx_region ?_
              refine WL.qq (by simp only [EN, Nat.reduceEqDiff, reduceIte, qv_move, i10_3, Bool.not_true, Bool.not_false, decide_eq_true_eq]; rfl) ?_
              refine WL.qq (by simp only [EN, Nat.reduceEqDiff, reduceIte, qv_move, k4_3, Bool.not_true, Bool.not_false, decide_eq_true_eq]; rfl) ?_
              refine WL.qq (by simp only [EN, Nat.reduceEqDiff, reduceIte, qv_len, ln37, AR, Bool.not_true, Bool.not_false, decide_eq_true_eq]; rfl) ?_
              refine WL.qq (by simp only [EN, Nat.reduceEqDiff, reduceIte, qv_binOp, binv_lss, Bool.not_true, Bool.not_false, decide_eq_true_eq]; rfl) ?_
              refine WL.nil ?_
              refine th_norm ?_
              refine hx_cond (by simp only [EN, Nat.reduceEqDiff, reduceIte, Bool.not_true, Bool.not_false, decide_eq_true_eq]; rfl) (fun hct73 => ?_) (fun hct73 => ?_)
              ·
                try simp only [BD] at hct73
                obtain ⟨b, hb⟩ := atG (l := M) (i := j) (by omega)
                obtain ⟨bb, ob, hbq, hrb⟩ := hm j b hb; cases hbq
                have hcb := readN_cell hrb 0 _ rfl; rw [Nat.add_zero, Nat.mul_one] at hcb
                have hw := wthn_iff.1 (hQ.wn ⟨b, a⟩); have hab := hQ.anti a b
                refine hx_skip ?_
                refine th_norm ?_
                refine hx_seq ?_
                refine hx_block ?_
                refine hx_seq ?_
                refine hx_seq ?_
                apply hx_draw2 Rel.same [] [9, 19] [(9, Spec.is _), (19, Spec.is _)] rfl (by decide +kernel) rfl
                refine LD.qq rfl rfl (by simp only [EN, Nat.reduceEqDiff, reduceIte, qv_move, k3_3, Bool.not_true, Bool.not_false, decide_eq_true_eq]; rfl) ?_
                refine LD.qq rfl rfl (by simp only [EN, Nat.reduceEqDiff, reduceIte, qv_move, k4_3, Bool.not_true, Bool.not_false, decide_eq_true_eq]; rfl) ?_
                refine LD.qq rfl rfl (by simp only [EN, Nat.reduceEqDiff, reduceIte, qv_move, k8_3, Bool.not_true, Bool.not_false, decide_eq_true_eq]; rfl) ?_
                refine LD.qq rfl rfl (by simp only [EN, Nat.reduceEqDiff, reduceIte, qv_indexAddr, Bool.not_true, Bool.not_false, decide_eq_true_eq]; (try simp (disch := omega) only [ix37, Int.toNat_natCast]); rfl) ?_
                refine LD.qq rfl rfl (by simp only [EN, Nat.reduceEqDiff, reduceIte, k3_3, k4_3, k7_3, k8_3, i10_3, i9_3, Bool.not_true, Bool.not_false, decide_eq_true_eq, qv_load, ld9, Int.toNat_natCast, hca]; rfl) ?_
                refine LD.qq rfl rfl (by simp only [EN, Nat.reduceEqDiff, reduceIte, qv_move, k4_3, Bool.not_true, Bool.not_false, decide_eq_true_eq]; rfl) ?_
                refine LD.qq rfl rfl (by simp only [EN, Nat.reduceEqDiff, reduceIte, qv_move, i10_3, Bool.not_true, Bool.not_false, decide_eq_true_eq]; rfl) ?_
                refine LD.qq rfl rfl (by simp only [EN, Nat.reduceEqDiff, reduceIte, qv_indexAddr, Bool.not_true, Bool.not_false, decide_eq_true_eq]; (try simp (disch := omega) only [ix37, Int.toNat_natCast]); rfl) ?_
                refine LD.qq rfl rfl (by simp only [EN, Nat.reduceEqDiff, reduceIte, k3_3, k4_3, k7_3, k8_3, i10_3, i9_3, Bool.not_true, Bool.not_false, decide_eq_true_eq, qv_load, ld9, Int.toNat_natCast, hcb]; rfl) ?_
                refine LD.ck rfl rfl Try.call20 (by intro hD hr; obtain rfl : hD = _ := hr; simp only [EN, Nat.reduceEqDiff, reduceIte, AR, Bool.not_true, Bool.not_false, decide_eq_true_eq]; exact tb_Net a b hT) ?_
                refine LD.qq rfl rfl (by simp only [EN, Nat.reduceEqDiff, reduceIte, qv_move, k3_3, Bool.not_true, Bool.not_false, decide_eq_true_eq]; rfl) ?_
                refine LD.qq rfl rfl (by simp only [EN, Nat.reduceEqDiff, reduceIte, qv_move, k4_3, Bool.not_true, Bool.not_false, decide_eq_true_eq]; rfl) ?_
                refine LD.qq rfl rfl (by simp only [EN, Nat.reduceEqDiff, reduceIte, qv_move, i10_3, Bool.not_true, Bool.not_false, decide_eq_true_eq]; rfl) ?_
                refine LD.qq rfl rfl (by simp only [EN, Nat.reduceEqDiff, reduceIte, qv_indexAddr, Bool.not_true, Bool.not_false, decide_eq_true_eq]; (try simp (disch := omega) only [ix37, Int.toNat_natCast]); rfl) ?_
                refine LD.qq rfl rfl (by simp only [EN, Nat.reduceEqDiff, reduceIte, k3_3, k4_3, k7_3, k8_3, i10_3, i9_3, Bool.not_true, Bool.not_false, decide_eq_true_eq, qv_load, ld9, Int.toNat_natCast, hcb]; rfl) ?_
                refine LD.qq rfl rfl (by simp only [EN, Nat.reduceEqDiff, reduceIte, qv_move, k4_3, Bool.not_true, Bool.not_false, decide_eq_true_eq]; rfl) ?_
                refine LD.qq rfl rfl (by simp only [EN, Nat.reduceEqDiff, reduceIte, qv_move, k8_3, Bool.not_true, Bool.not_false, decide_eq_true_eq]; rfl) ?_
                refine LD.qq rfl rfl (by simp only [EN, Nat.reduceEqDiff, reduceIte, qv_indexAddr, Bool.not_true, Bool.not_false, decide_eq_true_eq]; (try simp (disch := omega) only [ix37, Int.toNat_natCast]); rfl) ?_
                refine LD.qq rfl rfl (by simp only [EN, Nat.reduceEqDiff, reduceIte, k3_3, k4_3, k7_3, k8_3, i10_3, i9_3, Bool.not_true, Bool.not_false, decide_eq_true_eq, qv_load, ld9, Int.toNat_natCast, hca]; rfl) ?_
                refine LD.ck rfl rfl Try.call20 (by intro hD hr; obtain rfl : hD = _ := hr; simp only [EN, Nat.reduceEqDiff, reduceIte, AR, Bool.not_true, Bool.not_false, decide_eq_true_eq]; exact tb_Net b a hT) ?_
                refine LD.qq rfl rfl (by simp only [EN, Nat.reduceEqDiff, reduceIte, qv_unOp, unv_neg, Bool.not_true, Bool.not_false, decide_eq_true_eq]; (try simp (disch := omega) only [w64]); rfl) ?_
                refine LD.qq rfl rfl (by simp only [EN, Nat.reduceEqDiff, reduceIte, qv_binOp, binv_neq, eq2, Option.map_some, Bool.not_true, Bool.not_false, decide_eq_true_eq]; rfl) ?_
                refine LD.nil ?_
                rintro _ rfl -
                refine WL.nil ?_
                refine th_norm ?_
                refine hx_cond (by simp only [EN, Nat.reduceEqDiff, reduceIte, Bool.not_true, Bool.not_false, decide_eq_true_eq]; rfl) (fun hct97 => ?_) (fun hct97 => ?_)
                ·
                  exfalso; simp at hct97; omega
                ·
                  try simp only [BD] at hct97
                  refine hx_skip ?_
                  refine th_norm ?_
                  apply hx_draw2 Rel.same [] [10] [(10, Spec.is _)] rfl (by decide +kernel) rfl
                  refine LD.qq rfl rfl (by simp only [EN, Nat.reduceEqDiff, reduceIte, qv_move, i9_3, Bool.not_true, Bool.not_false, decide_eq_true_eq]; rfl) ?_
                  refine LD.qq rfl rfl (by simp only [EN, Nat.reduceEqDiff, reduceIte, qv_move, k3_3, Bool.not_true, Bool.not_false, decide_eq_true_eq]; rfl) ?_
                  refine LD.qq rfl rfl (by simp only [EN, Nat.reduceEqDiff, reduceIte, qv_move, k4_3, Bool.not_true, Bool.not_false, decide_eq_true_eq]; rfl) ?_
                  refine LD.qq rfl rfl (by simp only [EN, Nat.reduceEqDiff, reduceIte, qv_move, k8_3, Bool.not_true, Bool.not_false, decide_eq_true_eq]; rfl) ?_
                  refine LD.qq rfl rfl (by simp only [EN, Nat.reduceEqDiff, reduceIte, qv_indexAddr, Bool.not_true, Bool.not_false, decide_eq_true_eq]; (try simp (disch := omega) only [ix37, Int.toNat_natCast]); rfl) ?_
                  refine LD.qq rfl rfl (by simp only [EN, Nat.reduceEqDiff, reduceIte, k3_3, k4_3, k7_3, k8_3, i10_3, i9_3, Bool.not_true, Bool.not_false, decide_eq_true_eq, qv_load, ld9, Int.toNat_natCast, hca]; rfl) ?_
                  refine LD.qq rfl rfl (by simp only [EN, Nat.reduceEqDiff, reduceIte, qv_move, k4_3, Bool.not_true, Bool.not_false, decide_eq_true_eq]; rfl) ?_
                  refine LD.qq rfl rfl (by simp only [EN, Nat.reduceEqDiff, reduceIte, qv_move, i10_3, Bool.not_true, Bool.not_false, decide_eq_true_eq]; rfl) ?_
                  refine LD.qq rfl rfl (by simp only [EN, Nat.reduceEqDiff, reduceIte, qv_indexAddr, Bool.not_true, Bool.not_false, decide_eq_true_eq]; (try simp (disch := omega) only [ix37, Int.toNat_natCast]); rfl) ?_
                  refine LD.qq rfl rfl (by simp only [EN, Nat.reduceEqDiff, reduceIte, k3_3, k4_3, k7_3, k8_3, i10_3, i9_3, Bool.not_true, Bool.not_false, decide_eq_true_eq, qv_load, ld9, Int.toNat_natCast, hcb]; rfl) ?_
                  refine LD.ck rfl rfl Try.call20 (by intro hD hr; obtain rfl : hD = _ := hr; simp only [EN, Nat.reduceEqDiff, reduceIte, AR, Bool.not_true, Bool.not_false, decide_eq_true_eq]; exact tb_Net a b hT) ?_
                  refine LD.qq rfl rfl (by simp only [EN, Nat.reduceEqDiff, reduceIte, k3_3, k4_3, k7_3, k8_3, i10_3, i9_3, Bool.not_true, Bool.not_false, decide_eq_true_eq, qv_binOp, binv_add]; rfl) ?_
                  refine LD.qq rfl rfl (by simp only [EN, Nat.reduceEqDiff, reduceIte, qv_assign, Bool.not_true, Bool.not_false, decide_eq_true_eq]; rfl) ?_
                  refine LD.nil ?_
                  rintro _ rfl -
                  refine WL.nil ?_
                  refine bl_norm ?_
                  refine th_norm ?_
                  refine hx_region ?_
                  refine WL.qq (by simp only [EN, Nat.reduceEqDiff, reduceIte, qv_move, i10_3, Bool.not_true, Bool.not_false, decide_eq_true_eq]; rfl) ?_
                  refine WL.qq (by simp only [EN, Nat.reduceEqDiff, reduceIte, qv_binOp, binv_add, Bool.not_true, Bool.not_false, decide_eq_true_eq]; (try simp (disch := omega) only [w64, w8, wu64]); rfl) ?_
                  refine WL.qq (by simp only [EN, Nat.reduceEqDiff, reduceIte, qv_assign, Bool.not_true, Bool.not_false, decide_eq_true_eq]; rfl) ?_
                  refine WL.nil ?_
                  refine th_norm ?_
                  refine ⟨rfl, rfl, ?_, _, ?_, j + 1, rfl, ?_, ?_, ?_⟩  -- again 0 of loop 3
                  · (repeat (first | exact Fr.refl _ _ | refine Fr.set rfl ?_ | refine Fr.put rfl ?_ | with_reducible refine Fr.put0 ?_))
                  · omega
                  · omega
                  · simp only [EN, Nat.reduceEqDiff, reduceIte, k3_3, k4_3, k7_3, k8_3, i10_3, i9_3, Bool.not_true, Bool.not_false, decide_eq_true_eq] <;> first | rfl | (congr 1; omega)
                  · simp only [EN, Nat.reduceEqDiff, reduceIte, k3_3, k4_3, k7_3, k8_3, i10_3, i9_3, Bool.not_true, Bool.not_false, decide_eq_true_eq] <;> rw [sumF_step hb, wrap_add_l]
              ·
                try simp only [BD] at hct73
                have hjl : j = M.length := (by omega)
                subst hjl
                refine hx_exit ?_
                refine th_exit ?_
                refine th_exit ?_
                refine bl_hit ?_
                refine th_norm ?_
                refine hx_seq ?_
                refine hx_seq ?_
                refine hx_region ?_
                refine WL.qq (by simp only [EN, Nat.reduceEqDiff, reduceIte, qv_move, i9_3, Bool.not_true, Bool.not_false, decide_eq_true_eq]; rfl) ?_
                refine WL.qq (by simp only [EN, Nat.reduceEqDiff, reduceIte, qv_move, k3_3, Bool.not_true, Bool.not_false, decide_eq_true_eq]; rfl) ?_
                refine WL.qq (by simp only [EN, Nat.reduceEqDiff, reduceIte, qv_move, k4_3, Bool.not_true, Bool.not_false, decide_eq_true_eq]; rfl) ?_
                refine WL.qq (by simp only [EN, Nat.reduceEqDiff, reduceIte, qv_move, k8_3, Bool.not_true, Bool.not_false, decide_eq_true_eq]; rfl) ?_
                refine WL.qq (by simp only [EN, Nat.reduceEqDiff, reduceIte, qv_indexAddr, Bool.not_true, Bool.not_false, decide_eq_true_eq]; (try simp (disch := omega) only [ix37, Int.toNat_natCast]); rfl) ?_
                refine WL.qq (by simp only [EN, Nat.reduceEqDiff, reduceIte, k3_3, k4_3, k7_3, k8_3, i10_3, i9_3, Bool.not_true, Bool.not_false, decide_eq_true_eq, qv_load, ld9, Int.toNat_natCast, hca]; rfl) ?_
                refine WL.cg Try.call21 (by simp only [EN, Nat.reduceEqDiff, reduceIte, AR, Bool.not_true, Bool.not_false, decide_eq_true_eq]; exact tb_Out a hT) ?_
                intro h4 hx4
                refine WL.qq (by simp only [EN, Nat.reduceEqDiff, reduceIte, qv_binOp, binv_neq, eq2, Option.map_some, Bool.not_true, Bool.not_false, decide_eq_true_eq]; rfl) ?_
                refine WL.nil ?_
                refine th_norm ?_
                refine hx_cond (by simp only [EN, Nat.reduceEqDiff, reduceIte, Bool.not_true, Bool.not_false, decide_eq_true_eq]; rfl) (fun hct117 => ?_) (fun hct117 => ?_)
                ·
                  exfalso; simp [hout] at hct117
                ·
                  try simp only [BD] at hct117
                  refine hx_skip ?_
                  refine th_norm ?_
                  refine hx_region ?_
                  refine WL.qq (by simp only [EN, Nat.reduceEqDiff, reduceIte, qv_move, k7_3, Bool.not_true, Bool.not_false, decide_eq_true_eq]; rfl) ?_
                  refine WL.qq (by simp only [EN, Nat.reduceEqDiff, reduceIte, qv_move, i9_3, Bool.not_true, Bool.not_false, decide_eq_true_eq]; rfl) ?_
                  refine WL.qq (by simp only [EN, Nat.reduceEqDiff, reduceIte, k3_3, k4_3, k7_3, k8_3, i10_3, i9_3, Bool.not_true, Bool.not_false, decide_eq_true_eq, qv_binOp, binv_add]; rfl) ?_
                  refine WL.qq (by simp only [EN, Nat.reduceEqDiff, reduceIte, qv_assign, Bool.not_true, Bool.not_false, decide_eq_true_eq]; rfl) ?_
                  refine WL.nil ?_
                  refine bl_norm ?_
                  refine th_norm ?_
                  refine hx_region ?_
                  refine WL.qq (by simp only [EN, Nat.reduceEqDiff, reduceIte, qv_move, k8_3, Bool.not_true, Bool.not_false, decide_eq_true_eq]; rfl) ?_
                  refine WL.qq (by simp only [EN, Nat.reduceEqDiff, reduceIte, qv_binOp, binv_add, Bool.not_true, Bool.not_false, decide_eq_true_eq]; (try simp (disch := omega) only [w64, w8, wu64]); rfl) ?_
                  refine WL.qq (by simp only [EN, Nat.reduceEqDiff, reduceIte, qv_assign, Bool.not_true, Bool.not_false, decide_eq_true_eq]; rfl) ?_
                  refine WL.nil ?_
                  refine th_norm ?_
                  refine ⟨rfl, ?_, ?_, _, ?_, i + 1, rfl, ?_, ?_, ?_⟩  -- again 0 of loop 2
                  · exact hx4
                  · (repeat (first | exact Fr.refl _ _ | refine Fr.set rfl ?_ | refine Fr.put rfl ?_ | with_reducible refine Fr.put0 ?_ | refine Fr.trans ?_ (Fr.of hfr3 rfl)))
                  · omega
                  · omega
                  · simp only [EN, Nat.reduceEqDiff, reduceIte, k3_3, k4_3, k7_3, k8_3, i10_3, i9_3, Bool.not_true, Bool.not_false, decide_eq_true_eq] <;> first | rfl | (congr 1; omega)
                  · simp only [EN, Nat.reduceEqDiff, reduceIte, k3_3, k4_3, k7_3, k8_3, i10_3, i9_3, Bool.not_true, Bool.not_false, decide_eq_true_eq] <;> rw [sumF_step ha, wrap_add_l, wrap_add_r, List.take_length]
          ·
            try simp only [BD] at hct67
            have hil : i = M.length := (by omega)
            subst hil
            refine hx_exit ?_
            refine th_exit ?_
            refine th_exit ?_
            refine bl_hit ?_
            refine th_norm ?_
            refine hx_seq ?_
            refine hx_region ?_
            refine WL.qq (by simp only [EN, Nat.reduceEqDiff, reduceIte, qv_move, i7_2, Bool.not_true, Bool.not_false, decide_eq_true_eq]; rfl) ?_
            refine WL.qq (by simp only [EN, Nat.reduceEqDiff, reduceIte, qv_binOp, binv_eql, eq2, Option.map_some, Bool.not_true, Bool.not_false, decide_eq_true_eq]; rfl) ?_
            refine WL.qq (by simp only [EN, Nat.reduceEqDiff, reduceIte, qv_assign, Bool.not_true, Bool.not_false, decide_eq_true_eq]; rfl) ?_
            refine WL.nil ?_
            refine th_norm ?_
            refine hx_ret ?_
            refine fin_ret [.tmp 2] rfl rfl (by simp only [EN, Nat.reduceEqDiff, reduceIte, resv, k3_2, k4_2, i8_2, i7_2, Bool.not_true, Bool.not_false, decide_eq_true_eq]; rfl) ?_  -- ret 1 r27
            exact ⟨by simp [retOf, hzr, List.take_length]; decide, kT.E.trans hX2⟩
end GL
namespace Go.Proofs.Ytenjmnpefmjdfaa.limitAntisymmetry
open Go.ChangeShapes Go.WideShapes Go.ChangeAt Go.RowKit
theorem own : ownKnob Try.prog.godebug = none := by kernel_rfl
theorem laid : laidOutB Try.prog = true := by kernel_rfl
set_option maxRecDepth 100000 in
theorem lifted (os : Os) (started : os.Started) (H : Type) (enc : TypeId × Value → H) :
    ReturnsInHanded {} Try.checked os 4 .any (Rows.limitAntisymmetrySpec.pre6 enc Try.prog Try.f4 Rows.limitAntisymmetryRow.domain false) (Rows.limitAntisymmetrySpec.post enc Try.prog Try.f4 false true false false) := by
  refine returnsInHanded_of_change (C := Try.checked) own started (by kernel_rfl) Try.func4
    (ChangeSpec.witness6 (enc := enc) (C := Try.checked) false ⟨#[], #[(.slice none 0 0)], []⟩ 8 (by kernel_rfl) (by kernel_rfl) (by kernel_rfl) (by kernel_rfl)) ?_
  intro W base args ds gs before hval0 hW hcnd _
  have hval : ∀ (j : Nat) t v, Try.f4.params[j]? = some t → args[j]? = some v → Value.okWide Try.prog W .any base t v := hval0
  have hW' := hW
  obtain ⟨p, q, hA0, hV, rfl, hfz, hnd⟩ := hW
  have hA : DataW.TrodAll enc Try.prog W 0 (fun _ => true) true Try.f4.params.toList args.toList ds p := hA0
  rw [Try.params4] at hA hval
  obtain ⟨v0, vs0, d0, ds0, p0, q0, hargs, rfl, rfl, h0, r0⟩ := trodAll_cons hA
  obtain ⟨rfl, rfl, rfl⟩ := trodAll_nil r0
  obtain rfl : args = #[v0] := by cases args; simp_all
  obtain ⟨rfl, rfl⟩ := trodVars_none hV
  obtain ⟨al, l, cl, rfl, hl, hlc, hcl, _, hok⟩ := GL.view_ops (hval 0 35 v0 rfl rfl) h0
  exact GL.law_done (tb := 4) laid (by kernel_rfl) rfl (by kernel_rfl) Try.underlying4 hW' rfl (GL.l_anti al l cl hl (Nat.le_trans hlc hcl) hok)
theorem over : Rows.limitAntisymmetryRow.holds Try.pinned (OpenSpec.ofChange Rows.limitAntisymmetrySpec) :=
  OpenClaim.holds_of_wide 4 Try.f4 rfl rfl rfl rfl rfl rfl rfl ⟨rfl, rfl, rfl, rfl, rfl⟩ rfl rfl rfl rfl rfl (by kernel_rfl) Try.func4 (by kernel_rfl)
    (of_decide_eq_true (by kernel_rfl)) (by unfold Func.isWrapper; first | (rw [if_pos (by decide +kernel)]; kernel_rfl) | (rw [if_neg (by decide +kernel)]; exact ⟨rfl, rfl⟩))
    (fun os started H enc _ => lifted os started H enc)
theorem proved : Rows.LimitAntisymmetrySaid := over
end Go.Proofs.Ytenjmnpefmjdfaa.limitAntisymmetry


/- Session: a receiver and the reference after messages. -/
import Derived.Test.YtmlhncifcaicpaaSesJ
set_option linter.unusedSimpArgs false
set_option linter.unusedVariables false
set_option linter.unnecessarySimpa false
namespace GL
open Go Go.Proofs
set_option maxRecDepth 8000
/-- The state after messages. -/
def rcF (w : Int) (l : List M2) : Int × List M2 := l.foldl (fun s m => (accN w s.1 s.2 m, accB w s.1 s.2 m)) (1, [])
theorem rcF_step {w : Int} {l : List M2} {i : Nat} {m : M2} (hm : l[i]? = some m) : rcF w (l.take (i + 1)) = (accN w (rcF w (l.take i)).1 (rcF w (l.take i)).2 m, accB w (rcF w (l.take i)).1 (rcF w (l.take i)).2 m) := by
  unfold rcF
  rw [List.take_add_one, hm, List.foldl_append]; rfl
theorem rcF_ok (w : Int) (hw : 1 ≤ w ∧ w ≤ 256) (l : List M2) : RG w (rcF w l).1 (rcF w l).2 ∧ (rcF w l).2.lookup (rcF w l).1 = none := by
  have : ∀ (l : List M2) (s : Int × List M2), (RG w s.1 s.2 ∧ s.2.lookup s.1 = none) → (RG w (l.foldl (fun s m => (accN w s.1 s.2 m, accB w s.1 s.2 m)) s).1 (l.foldl (fun s m => (accN w s.1 s.2 m, accB w s.1 s.2 m)) s).2 ∧ (l.foldl (fun s m => (accN w s.1 s.2 m, accB w s.1 s.2 m)) s).2.lookup (l.foldl (fun s m => (accN w s.1 s.2 m, accB w s.1 s.2 m)) s).1 = none) := by
    intro l
    induction l with
    | nil => exact fun s h => h
    | cons m l ih => exact fun s h => ih _ (h.1.acc m h.2)
  exact this l (1, []) ⟨rg_new w hw, rfl⟩
theorem drain_len : ∀ (k : Nat) (n : Int) (bf : List M2), (drain k n bf).2.2.length ≤ k
  | 0, _, _ => Nat.le_refl _
  | k + 1, n, bf => by
    unfold drain
    split
    · exact Nat.zero_le _
    · have := drain_len k (n + 1) (mdel bf n)
      simp only [List.length_cons]; omega
theorem accO_len (w n : Int) (bf : List M2) (m : M2) : (accO w n bf m).length ≤ bf.length + 1 := by
  unfold accO
  split
  · have h1 := drain_len (bf ++ [m]).length n (bf ++ [m])
    have h2 : (bf ++ [m]).length = bf.length + 1 := by simp
    show (drain (bf ++ [m]).length n (bf ++ [m])).2.2.length ≤ _
    omega
  · exact Nat.zero_le _
def Spec.acc (O : List ByteArray) (e w n : Int) (bf : List M2) : Spec := ⟨fun v => ∃ u a c, v = .tuple #[u, .slice a O.length c, iV e], fun v h => ∀ u a k c, v = .tuple #[u, .slice a k c, iV e] → RT h u w n bf ∧ SlR 9 1 strL h a O,
  ⟨_, undef, none, 0, rfl⟩, fun v h h' hx hm u a k c hv => ⟨(hm u a k c hv).1.ext hx, (hm u a k c hv).2.ext hx⟩⟩
section
variable {h : Heap}
theorem c_receiverN (w : Int) (hw : ¬ (1 ≤ w ∧ w ≤ 256)) (al : Option Addr) (l : List M2) (cl : Nat) : HCalls Try.prog 13 #[iV w, .slice al l.length cl] h (Grow (.tuple #[.pointer none, rrV 0 0 none 0 0, .bool true]) h) := by
  refine hcalls2 Try.func13 rfl (by decide +kernel) (by simp only [Try.ntmps13]; exact of_decide_eq_true rfl) ?_
  intro e hin
  have e0 := hin 0 _ rfl
  have e1 := hin 1 _ rfl
  refine hx_seq ?_
  refine hx_region ?_
  refine WL.qq (by simp only [EN, Nat.reduceEqDiff, reduceIte, qv_assign, decide_true, Bool.not_true, Bool.not_false, decide_false, eq_self]; rfl) ?_
  refine WL.alloc2 zr27 ?_
  intro h1 B1 hx1 hlt1 hB1
  simp only [Value.cells] at hB1
  refine WL.qq (by simp only [EN, Nat.reduceEqDiff, reduceIte, qv_assign, decide_true, Bool.not_true, Bool.not_false, decide_false, eq_self, hB1.cell]; rfl) ?_
  refine WL.nil ?_
  refine th_norm ?_
  refine hx_seq ?_
  refine hx_region ?_
  refine WL.qq (by simp only [EN, Nat.reduceEqDiff, reduceIte, qv_move, e0, decide_true, Bool.not_true, Bool.not_false, decide_false, eq_self, hB1.cell]; rfl) ?_
  refine WL.ck Try.call15 (by simp only [EN, Nat.reduceEqDiff, reduceIte, AR, decide_true, Bool.not_true, Bool.not_false, decide_false, eq_self, hB1.cell]; exact n_newR w hw _) ?_
  refine WL.qq (by simp only [EN, Nat.reduceEqDiff, reduceIte, qv_move, decide_true, Bool.not_true, Bool.not_false, decide_false, eq_self, hB1.cell]; rfl) ?_
  refine WL.qq (by simp only [EN, Nat.reduceEqDiff, reduceIte, qv_extract, AR, decide_true, Bool.not_true, Bool.not_false, decide_false, eq_self, hB1.cell]; rfl) ?_
  refine WL.qq (by simp only [EN, Nat.reduceEqDiff, reduceIte, qv_extract, AR, decide_true, Bool.not_true, Bool.not_false, decide_false, eq_self, hB1.cell]; rfl) ?_
  refine WL.qq (by simp only [EN, Nat.reduceEqDiff, reduceIte, qv_assign, decide_true, Bool.not_true, Bool.not_false, decide_false, eq_self, hB1.cell]; rfl) ?_
  refine WL.qq (by simp only [EN, Nat.reduceEqDiff, reduceIte, qv_assign, decide_true, Bool.not_true, Bool.not_false, decide_false, eq_self, hB1.cell]; rfl) ?_
  refine WL.nil ?_
  refine th_norm ?_
  refine hx_seq ?_
  refine hx_seq ?_
  refine hx_region ?_
  refine WL.qq (by simp only [EN, Nat.reduceEqDiff, reduceIte, qv_move, e0, decide_true, Bool.not_true, Bool.not_false, decide_false, eq_self, hB1.cell]; rfl) ?_
  refine WL.ck Try.call24 (by simp only [EN, Nat.reduceEqDiff, reduceIte, AR, decide_true, Bool.not_true, Bool.not_false, decide_false, eq_self, hB1.cell]; exact c_rnew w _) ?_
  refine WL.qq (by simp only [EN, Nat.reduceEqDiff, reduceIte, qv_unOp, unv_not, decide_true, Bool.not_true, Bool.not_false, decide_false, eq_self, hB1.cell]; rfl) ?_
  refine WL.nil ?_
  refine th_norm ?_
  refine hx_cond (by simp only [EN, Nat.reduceEqDiff, reduceIte, decide_true, Bool.not_true, Bool.not_false, decide_false, eq_self, hB1.cell]; rfl) (fun hct21 => ?_) (fun hct21 => ?_)
  ·
    try simp only [BD] at hct21
    refine hx_seq ?_
    apply hx_draw2 Rel.same [8, 9] [] [] rfl (by decide +kernel) rfl
    refine LD.qq rfl rfl (by simp only [EN, Nat.reduceEqDiff, reduceIte, qv_load, ld27, readN, AR, Nat.zero_add, Nat.reduceAdd, decide_true, Bool.not_true, Bool.not_false, decide_false, eq_self, hB1.cell]; rfl) ?_
    refine LD.qq rfl rfl (by simp only [EN, Nat.reduceEqDiff, reduceIte, qv_move, decide_true, Bool.not_true, Bool.not_false, decide_false, eq_self, hB1.cell]; rfl) ?_
    refine LD.qq rfl rfl (by simp only [EN, Nat.reduceEqDiff, reduceIte, qv_binOp, binv_eql, eqz25, eqn25, eqm25, Option.map_some, decide_true, Bool.not_true, Bool.not_false, decide_false, eq_self, hB1.cell]; rfl) ?_
    refine LD.qq rfl rfl (by simp only [EN, Nat.reduceEqDiff, reduceIte, qv_move, decide_true, Bool.not_true, Bool.not_false, decide_false, eq_self, hB1.cell]; rfl) ?_
    refine LD.cq rfl rfl (gd_at (t := 25) rfl (by simp only [EN, Nat.reduceEqDiff, reduceIte, decide_true, Bool.not_true, Bool.not_false, decide_false, eq_self, hB1.cell] <;> rfl)) (fun hg3_4 => by simp only [EN, Nat.reduceEqDiff, reduceIte, qv_move, decide_true, Bool.not_true, Bool.not_false, decide_false, eq_self, hB1.cell, hg3_4, GR]; rfl) ?_
    refine LD.cq rfl rfl (gd_at (t := 25) rfl (by simp only [EN, Nat.reduceEqDiff, reduceIte, decide_true, Bool.not_true, Bool.not_false, decide_false, eq_self, hB1.cell] <;> rfl)) (fun hg3_5 => by simp only [EN, Nat.reduceEqDiff, reduceIte, qv_binOp, binv_eql, eq37, Option.map_some, decide_true, Bool.not_true, Bool.not_false, decide_false, eq_self, hB1.cell, hg3_5, GR]; rfl) ?_
    refine LD.qq rfl rfl (by simp only [EN, Nat.reduceEqDiff, reduceIte, qv_pick, pk_and, pk_or, GR, decide_true, Bool.not_true, Bool.not_false, decide_false, eq_self, hB1.cell]; rfl) ?_
    refine LD.qq rfl rfl (by simp only [EN, Nat.reduceEqDiff, reduceIte, qv_assign, decide_true, Bool.not_true, Bool.not_false, decide_false, eq_self, hB1.cell]; rfl) ?_
    refine LD.skip rfl ?_
    refine LD.skip rfl ?_
    refine LD.nil ?_
    rintro _ rfl -
    refine WL.store (by simp only [EN, Nat.reduceEqDiff, reduceIte, e0, e1, decide_true, Bool.not_true, Bool.not_false, decide_false, eq_self, hB1.cell] <;> rfl) sz27 (by simp only [EN, Nat.reduceEqDiff, reduceIte, e0, e1, decide_true, Bool.not_true, Bool.not_false, decide_false, eq_self, hB1.cell, Value.cells]; rfl) rfl hB1 (by simp) (by intro u hu; simp at hu; rcases hu with rfl | rfl | rfl <;> rfl) ?_
    intro h20 hw20
    have hE9 := hw20.ext (hx1) hlt1
    replace hB1 := hw20.at_
    refine WL.qq (by simp only [EN, Nat.reduceEqDiff, reduceIte, qv_assign, decide_true, Bool.not_true, Bool.not_false, decide_false, eq_self, hB1.cell]; rfl) ?_
    refine WL.nil ?_
    refine th_norm ?_
    refine hx_ret ?_
    refine th_ret ?_
    refine fin_ret [.tmp 4, .cell 5 27, .tmp 6] rfl rfl (by simp only [EN, Nat.reduceEqDiff, reduceIte, resv, ld27, readN, AR, Nat.zero_add, Nat.reduceAdd, e0, e1, decide_true, Bool.not_true, Bool.not_false, decide_false, eq_self, hB1.cell]; rfl) ?_  -- ret 0 r3
    exact ⟨rfl, hE9⟩
  ·
    simp at hct21; omega
set_option maxHeartbeats 4000000 in
theorem c_receiver (w : Int) (hw : 1 ≤ w ∧ w ≤ 256) (al : Option Addr) (l : List M2) (cl : Nat) (ll : l.length ≤ 1000) (hl : SlG 2 msgL h al l) :
    HCalls Try.prog 13 #[iV w, .slice al l.length cl] h fun v h' => ∃ p u, v = .tuple #[.pointer (some ⟨p, 0, none⟩), u, .bool true] ∧ TR h h' p w (rcF w l).1 (rcF w l).2 ∧ RT h' u w (rcF w l).1 (rcF w l).2 := by
  refine hcalls2 Try.func13 rfl (by decide +kernel) (by simp only [Try.ntmps13]; exact of_decide_eq_true rfl) ?_
  intro e hin
  have e0 := hin 0 _ rfl
  have e1 := hin 1 _ rfl
  have kl := hl
  refine hx_seq ?_
  refine hx_region ?_
  refine WL.qq (by simp only [EN, Nat.reduceEqDiff, reduceIte, qv_assign, decide_true, Bool.not_true, Bool.not_false, decide_false, eq_self]; rfl) ?_
  refine WL.alloc2 zr27 ?_
  intro h1 B1 hx1 hlt1 hB1
  simp only [Value.cells] at hB1
  refine WL.qq (by simp only [EN, Nat.reduceEqDiff, reduceIte, qv_assign, decide_true, Bool.not_true, Bool.not_false, decide_false, eq_self, hB1.cell]; rfl) ?_
  refine WL.nil ?_
  refine th_norm ?_
  refine hx_seq ?_
  refine hx_region ?_
  refine WL.qq (by simp only [EN, Nat.reduceEqDiff, reduceIte, qv_move, e0, decide_true, Bool.not_true, Bool.not_false, decide_false, eq_self, hB1.cell]; rfl) ?_
  refine WL.ce Try.call15 (by simp only [EN, Nat.reduceEqDiff, reduceIte, AR, decide_true, Bool.not_true, Bool.not_false, decide_false, eq_self, hB1.cell]; exact tr_new w hw _) ?_
  rintro _ h2 ⟨hx2, p, rfl, hT0⟩
  replace hB1 := hB1.ext hx2
  simp only [put_some]
  have hT := hT0.base hx1
  refine WL.qq (by simp only [EN, Nat.reduceEqDiff, reduceIte, qv_move, decide_true, Bool.not_true, Bool.not_false, decide_false, eq_self, hB1.cell]; rfl) ?_
  refine WL.qq (by simp only [EN, Nat.reduceEqDiff, reduceIte, qv_extract, AR, decide_true, Bool.not_true, Bool.not_false, decide_false, eq_self, hB1.cell]; rfl) ?_
  refine WL.qq (by simp only [EN, Nat.reduceEqDiff, reduceIte, qv_extract, AR, decide_true, Bool.not_true, Bool.not_false, decide_false, eq_self, hB1.cell]; rfl) ?_
  refine WL.qq (by simp only [EN, Nat.reduceEqDiff, reduceIte, qv_assign, decide_true, Bool.not_true, Bool.not_false, decide_false, eq_self, hB1.cell]; rfl) ?_
  refine WL.qq (by simp only [EN, Nat.reduceEqDiff, reduceIte, qv_assign, decide_true, Bool.not_true, Bool.not_false, decide_false, eq_self, hB1.cell]; rfl) ?_
  refine WL.nil ?_
  refine th_norm ?_
  refine hx_seq ?_
  refine hx_seq ?_
  refine hx_region ?_
  refine WL.qq (by simp only [EN, Nat.reduceEqDiff, reduceIte, qv_move, e0, decide_true, Bool.not_true, Bool.not_false, decide_false, eq_self, hB1.cell]; rfl) ?_
  refine WL.ck Try.call24 (by simp only [EN, Nat.reduceEqDiff, reduceIte, AR, decide_true, Bool.not_true, Bool.not_false, decide_false, eq_self, hB1.cell]; exact c_rnew w _) ?_
  refine WL.qq (by simp only [EN, Nat.reduceEqDiff, reduceIte, qv_unOp, unv_not, decide_true, Bool.not_true, Bool.not_false, decide_false, eq_self, hB1.cell]; rfl) ?_
  refine WL.nil ?_
  refine th_norm ?_
  refine hx_cond (by simp only [EN, Nat.reduceEqDiff, reduceIte, decide_true, Bool.not_true, Bool.not_false, decide_false, eq_self, hB1.cell]; rfl) (fun hct21 => ?_) (fun hct21 => ?_)
  ·
    simp at hct21; omega
  ·
    try simp only [BD] at hct21
    refine hx_skip ?_
    refine th_norm ?_
    refine hx_seq ?_
    refine hx_seq ?_
    refine hx_region ?_
    refine WL.qq (by simp only [EN, Nat.reduceEqDiff, reduceIte, qv_move, decide_true, Bool.not_true, Bool.not_false, decide_false, eq_self, hB1.cell]; rfl) ?_
    refine WL.qq (by simp only [EN, Nat.reduceEqDiff, reduceIte, qv_binOp, binv_eql, eqz25, eqn25, eqm25, Option.map_some, decide_true, Bool.not_true, Bool.not_false, decide_false, eq_self, hB1.cell]; rfl) ?_
    refine WL.qq (by simp only [EN, Nat.reduceEqDiff, reduceIte, qv_move, decide_true, Bool.not_true, Bool.not_false, decide_false, eq_self, hB1.cell]; rfl) ?_
    refine WL.cq (gd_at (t := 31) rfl (by simp only [EN, Nat.reduceEqDiff, reduceIte, decide_true, Bool.not_true, Bool.not_false, decide_false, eq_self, hB1.cell] <;> rfl)) (fun hg4_3 => by simp only [EN, Nat.reduceEqDiff, reduceIte, qv_move, decide_true, Bool.not_true, Bool.not_false, decide_false, eq_self, hB1.cell, hg4_3, GR]; rfl) ?_
    refine WL.cq (gd_at (t := 31) rfl (by simp only [EN, Nat.reduceEqDiff, reduceIte, decide_true, Bool.not_true, Bool.not_false, decide_false, eq_self, hB1.cell] <;> rfl)) (fun hg4_4 => by simp only [EN, Nat.reduceEqDiff, reduceIte, qv_binOp, binv_neq, eq37, Option.map_some, decide_true, Bool.not_true, Bool.not_false, decide_false, eq_self, hB1.cell, hg4_4, GR]; rfl) ?_
    refine WL.qq (by simp only [EN, Nat.reduceEqDiff, reduceIte, qv_pick, pk_and, pk_or, GR, decide_true, Bool.not_true, Bool.not_false, decide_false, eq_self, hB1.cell]; rfl) ?_
    refine WL.nil ?_
    refine th_norm ?_
    refine hx_cond (by simp only [EN, Nat.reduceEqDiff, reduceIte, decide_true, Bool.not_true, Bool.not_false, decide_false, eq_self, hB1.cell]; rfl) (fun hct34 => ?_) (fun hct34 => ?_)
    ·
      simp at hct34
    ·
      try simp only [BD] at hct34
      refine hx_skip ?_
      refine th_norm ?_
      refine hx_seq ?_
      refine hx_region ?_
      refine WL.qq (by simp only [EN, Nat.reduceEqDiff, reduceIte, qv_move, e0, decide_true, Bool.not_true, Bool.not_false, decide_false, eq_self, hB1.cell]; rfl) ?_
      refine WL.qq (by refine qv_bld (by simp only [EN, Nat.reduceEqDiff, reduceIte, e0, e1, decide_true, Bool.not_true, Bool.not_false, decide_false, eq_self, hB1.cell, AR] <;> rfl) (by rw [bl27]; simp [Instr.fill, Value.cells]; rfl)) ?_
      refine WL.store (by simp only [EN, Nat.reduceEqDiff, reduceIte, e0, e1, decide_true, Bool.not_true, Bool.not_false, decide_false, eq_self, hB1.cell] <;> rfl) sz27 (by simp only [EN, Nat.reduceEqDiff, reduceIte, e0, e1, decide_true, Bool.not_true, Bool.not_false, decide_false, eq_self, hB1.cell, Value.cells]; rfl) rfl hB1 (by simp) (by intro u hu; simp at hu; rcases hu with rfl | rfl | rfl <;> rfl) ?_
      intro h20 hw20
      replace hT := hT.wr hB1 (by decide) hw20 hlt1
      replace hB1 := hw20.at_
      simp only [splc, List.take_zero, List.nil_append, List.drop_succ_cons, List.drop_zero, List.length_cons, List.length_nil, List.drop_nil, List.append_nil, Nat.zero_add, Nat.reduceAdd] at hB1
      refine WL.nil ?_
      refine th_norm ?_
      refine hx_seq ?_
      refine hx_seq ?_
      refine hx_region ?_
      refine WL.qq (by simp only [EN, Nat.reduceEqDiff, reduceIte, qv_assign, decide_true, Bool.not_true, Bool.not_false, decide_false, eq_self, hB1.cell]; rfl) ?_
      refine WL.nil ?_
      refine th_norm ?_
      refine hx_block ?_
      refine hx_loopG [4, 6, 8, 9, 10, 11, 12, 13, 38, 39, 40, 41, 42, 43, 44, 45, 46, 47, 48, 49, 50, 51, 52, 53, 54, 55, 56, 57, 58, 59, 60, 61, 62, 63, 64, 65, 66, 67, 68, 69, 70, 71, 72, 73, 74, 75, 76, 77, 78] (fun k e hL0 => ∃ (i : Nat) (n : Int) (bf : List M2) (a : Option Addr) (c : Nat), l.length - i = k ∧ (i ≤ l.length) ∧ (rcF w (l.take i) = (n, bf)) ∧ (TR h hL0 p w n bf) ∧ (Has hL0 B1 (.cells #[iV w, iV n, .slice a bf.length c] 27)) ∧ (SlR 46 2 msgL hL0 a bf) ∧ (bf.length ≤ c) ∧ e 8 = .int .i64 i ∧ e 4 = .pointer (some ⟨p, 0, none⟩)) _ ⟨0, 1, [], none, 0, rfl, ?_, ?_, ?_, ?_, ?_, ?_, ?_, ?_⟩ ?_
      · omega
      · rfl
      · exact hT
      · exact hB1
      · exact slR_nil
      · exact Nat.le_refl _
      · simp only [EN, Nat.reduceEqDiff, reduceIte, e0, e1, decide_true, Bool.not_true, Bool.not_false, decide_false, eq_self, hB1.cell] <;> rfl
      · simp only [EN, Nat.reduceEqDiff, reduceIte, e0, e1, decide_true, Bool.not_true, Bool.not_false, decide_false, eq_self, hB1.cell] <;> rfl
      ·
        rintro k e0L hL0 hfr0 ⟨i, n, bf, a, c, rfl, hi, hS, hT, hB1, hs, hc, i8_0, i4_0⟩
        have k1_0 := hfr0 1 rfl; try simp only [EN, Nat.reduceEqDiff, reduceIte, e1, decide_true, Bool.not_true, Bool.not_false, decide_false, eq_self, hB1.cell] at k1_0
        have k5_0 := hfr0 5 rfl; try simp only [EN, Nat.reduceEqDiff, reduceIte, decide_true, Bool.not_true, Bool.not_false, decide_false, eq_self, hB1.cell] at k5_0
        have hok := rcF_ok w hw (l.take i)
        rw [hS] at hok
        have hG : RG w n bf := hok.1
        refine hx_seq ?_
        refine hx_seq ?_
        refine hx_region ?_
        refine WL.qq (by simp only [EN, Nat.reduceEqDiff, reduceIte, qv_move, i8_0, decide_true, Bool.not_true, Bool.not_false, decide_false, eq_self, hB1.cell, hB1.cell]; rfl) ?_
        refine WL.qq (by simp only [EN, Nat.reduceEqDiff, reduceIte, qv_move, k1_0, decide_true, Bool.not_true, Bool.not_false, decide_false, eq_self, hB1.cell, hB1.cell]; rfl) ?_
        refine WL.qq (by simp only [EN, Nat.reduceEqDiff, reduceIte, qv_len, ln22, AR, decide_true, Bool.not_true, Bool.not_false, decide_false, eq_self, hB1.cell, hB1.cell]; rfl) ?_
        refine WL.qq (by simp only [EN, Nat.reduceEqDiff, reduceIte, qv_binOp, binv_lss, decide_true, Bool.not_true, Bool.not_false, decide_false, eq_self, hB1.cell, hB1.cell]; rfl) ?_
        refine WL.nil ?_
        refine th_norm ?_
        refine hx_cond (by simp only [EN, Nat.reduceEqDiff, reduceIte, decide_true, Bool.not_true, Bool.not_false, decide_false, eq_self, hB1.cell, hB1.cell]; rfl) (fun hct41 => ?_) (fun hct41 => ?_)
        ·
          try simp only [BD] at hct41
          obtain ⟨m, hm⟩ := atG (l := l) (i := i) (by omega)
          obtain ⟨bm, om, rfl, kr2, _, _⟩ := msg_rd kl hm
          have hr2 := hT.E.readN kr2
          have kB1lt := (Array.getElem?_eq_some_iff.1 hB1).1
          have hst := rcF_step (w := w) hm
          rw [hS] at hst
          refine hx_skip ?_
          refine th_norm ?_
          refine hx_seq ?_
          refine hx_block ?_
          refine hx_seq ?_
          refine hx_region ?_
          refine WL.qq (by simp only [EN, Nat.reduceEqDiff, reduceIte, qv_move, i4_0, decide_true, Bool.not_true, Bool.not_false, decide_false, eq_self, hB1.cell, hB1.cell]; rfl) ?_
          refine WL.qq (by simp only [EN, Nat.reduceEqDiff, reduceIte, qv_move, k1_0, decide_true, Bool.not_true, Bool.not_false, decide_false, eq_self, hB1.cell, hB1.cell]; rfl) ?_
          refine WL.qq (by simp only [EN, Nat.reduceEqDiff, reduceIte, qv_move, i8_0, decide_true, Bool.not_true, Bool.not_false, decide_false, eq_self, hB1.cell, hB1.cell]; rfl) ?_
          refine WL.qq (by simp only [EN, Nat.reduceEqDiff, reduceIte, qv_indexAddr, decide_true, Bool.not_true, Bool.not_false, decide_false, eq_self, hB1.cell, hB1.cell]; (try simp (disch := omega) only [ix22, Int.toNat_natCast]); rfl) ?_
          refine WL.qq (by simp only [EN, Nat.reduceEqDiff, reduceIte, k1_0, k5_0, i8_0, i4_0, decide_true, Bool.not_true, Bool.not_false, decide_false, eq_self, hB1.cell, hB1.cell, qv_load, ld46, Int.toNat_natCast, hr2]; rfl) ?_
          refine WL.ce Try.call16 (by simp only [EN, Nat.reduceEqDiff, reduceIte, AR, decide_true, Bool.not_true, Bool.not_false, decide_false, eq_self, hB1.cell, hB1.cell]; exact tr_Accept m hG hT) ?_
          rintro _ h30 ⟨a3, c3, rfl, hs3, hT3, hu3⟩
          simp only [put_some]
          replace hB1 := hB1.turn hu3 (hT.ne hB1 (by decide))
          replace hs := hT.slR hs (fun _ => by simp) (by decide) hu3
          replace hT := hT3
          have kB1lt := (Array.getElem?_eq_some_iff.1 hB1).1
          replace hr2 := hT.E.readN kr2
          refine WL.qq (by simp only [EN, Nat.reduceEqDiff, reduceIte, qv_move, decide_true, Bool.not_true, Bool.not_false, decide_false, eq_self, hB1.cell, hB1.cell]; rfl) ?_
          refine WL.qq (by simp only [EN, Nat.reduceEqDiff, reduceIte, qv_extract, AR, decide_true, Bool.not_true, Bool.not_false, decide_false, eq_self, hB1.cell, hB1.cell]; rfl) ?_
          refine WL.qq (by simp only [EN, Nat.reduceEqDiff, reduceIte, qv_extract, AR, decide_true, Bool.not_true, Bool.not_false, decide_false, eq_self, hB1.cell, hB1.cell]; rfl) ?_
          refine WL.qq (by simp only [EN, Nat.reduceEqDiff, reduceIte, qv_assign, decide_true, Bool.not_true, Bool.not_false, decide_false, eq_self, hB1.cell, hB1.cell]; rfl) ?_
          refine WL.qq (by simp only [EN, Nat.reduceEqDiff, reduceIte, qv_assign, decide_true, Bool.not_true, Bool.not_false, decide_false, eq_self, hB1.cell, hB1.cell]; rfl) ?_
          refine WL.nil ?_
          refine th_norm ?_
          refine hx_seq ?_
          apply hx_draw2 Rel.grows [11, 12, 13] [5, 10] [(5, Spec.acc (accO w n bf m) (accE w n bf m) w (accN w n bf m) (accB w n bf m)), (10, Spec.blk _ _ 27)] rfl (by decide +kernel) rfl
          have hG4 := (hG.acc m hok.2).1
          refine LD.qq rfl rfl (by simp only [EN, Nat.reduceEqDiff, reduceIte, qv_load, ld27, readN, AR, Nat.zero_add, Nat.reduceAdd, k5_0, decide_true, Bool.not_true, Bool.not_false, decide_false, eq_self, hB1.cell, hB1.cell]; rfl) ?_
          refine LD.qq rfl rfl (by simp only [EN, Nat.reduceEqDiff, reduceIte, qv_move, k1_0, decide_true, Bool.not_true, Bool.not_false, decide_false, eq_self, hB1.cell, hB1.cell]; rfl) ?_
          refine LD.qq rfl rfl (by simp only [EN, Nat.reduceEqDiff, reduceIte, qv_move, i8_0, decide_true, Bool.not_true, Bool.not_false, decide_false, eq_self, hB1.cell, hB1.cell]; rfl) ?_
          refine LD.qq rfl rfl (by simp only [EN, Nat.reduceEqDiff, reduceIte, qv_indexAddr, decide_true, Bool.not_true, Bool.not_false, decide_false, eq_self, hB1.cell, hB1.cell]; (try simp (disch := omega) only [ix22, Int.toNat_natCast]); rfl) ?_
          refine LD.qf rfl rfl (by intro hD hr hf; have hx : Ext _ _ := hr; have hT := hT.ext hx; have hB1 := hB1.ext hx; have hs := hs.ext hx; have hs3 := hs3.ext hx; simp only [EN, Nat.reduceEqDiff, reduceIte, k1_0, k5_0, i8_0, i4_0, decide_true, Bool.not_true, Bool.not_false, decide_false, eq_self, hB1.cell, hB1.cell, qv_load, ld46, Int.toNat_natCast, hx.readN hr2]; rfl) ?_
          refine LD.es rfl rfl (by intro hD hr hf; have hx : Ext _ _ := hr; have hT := hT.ext hx; have hB1 := hB1.ext hx; have hs := hs.ext hx; have hs3 := hs3.ext hx; exact EOp.mono (e_call Try.call35 (by simp only [EN, Nat.reduceEqDiff, reduceIte, k1_0, k5_0, i8_0, i4_0, decide_true, Bool.not_true, Bool.not_false, decide_false, eq_self, hB1.cell, hB1.cell, List.map_toArray, List.map_cons, List.map_nil]; exact c_rAccept a c m hG hs hc)) (fun v h' hh => by obtain ⟨h1, u, ao, co, rfl, h2, h3⟩ := hh; exact ⟨h1, ⟨u, ao, co, rfl⟩, fun u' ao' n' co' hv => by cases hv; exact ⟨h2, h3⟩⟩)) ?_
          intro u11_5 w11_5
          obtain ⟨u5, a5, c5, rfl⟩ := w11_5
          refine LD.qq rfl rfl (by simp only [EN, Nat.reduceEqDiff, reduceIte, qv_move, decide_true, Bool.not_true, Bool.not_false, decide_false, eq_self, hB1.cell, hB1.cell]; rfl) ?_
          refine LD.qq rfl rfl (by simp only [EN, Nat.reduceEqDiff, reduceIte, qv_extract, AR, decide_true, Bool.not_true, Bool.not_false, decide_false, eq_self, hB1.cell, hB1.cell]; rfl) ?_
          refine LD.qq rfl rfl (by simp only [EN, Nat.reduceEqDiff, reduceIte, qv_extract, AR, decide_true, Bool.not_true, Bool.not_false, decide_false, eq_self, hB1.cell, hB1.cell]; rfl) ?_
          refine LD.qq rfl rfl (by simp only [EN, Nat.reduceEqDiff, reduceIte, qv_extract, AR, decide_true, Bool.not_true, Bool.not_false, decide_false, eq_self, hB1.cell, hB1.cell]; rfl) ?_
          refine LD.al rfl rfl zr27 (Nat.le_refl _) ?_
          intro B3 hlt3
          refine LD.skip rfl ?_
          refine LD.skip rfl ?_
          refine LD.skip rfl ?_
          refine LD.nil ?_
          rintro h4 hx4 hF11
          replace hx4 : Ext _ _ := hx4
          replace hT := hT.ext hx4
          replace hB1 := hB1.ext hx4
          replace hs := hs.ext hx4
          replace hs3 := hs3.ext hx4
          have hB3 := hF11 (10, .pointer (some ⟨B3, 0, none⟩)) (by simp) _ rfl B3 rfl
          simp only [Value.cells] at hB3
          obtain ⟨hR5, hs5⟩ := hF11 (5, .tuple #[u5, .slice a5 (accO w n bf m).length c5, iV (accE w n bf m)]) (by simp) _ rfl u5 a5 _ c5 rfl
          obtain ⟨a6, c6, rfl, hs6, hc6⟩ := hR5.ex
          have hz3 := hT.E.size; have hB1lt := hlt1
          have hne13 : B1 ≠ B3 := (by have := kB1lt; omega)
          refine WL.store (by simp only [EN, Nat.reduceEqDiff, reduceIte, k1_0, k5_0, i8_0, i4_0, decide_true, Bool.not_true, Bool.not_false, decide_false, eq_self, hB1.cell, hB1.cell, hB3.cell] <;> rfl) sz27 (by simp only [EN, Nat.reduceEqDiff, reduceIte, k1_0, k5_0, i8_0, i4_0, decide_true, Bool.not_true, Bool.not_false, decide_false, eq_self, hB1.cell, hB1.cell, hB3.cell, Value.cells]; rfl) rfl hB3 (by simp) (by intro u hu; simp at hu; rcases hu with rfl | rfl | rfl <;> rfl) ?_
          intro h40 hw40
          replace hT := hT.wr hB3 (by decide) hw40 (by omega)
          replace hs3 := hs3.wr hw40 hB3 (by decide)
          replace hs5 := hs5.wr hw40 hB3 (by decide)
          replace hs6 := hs6.wr hw40 hB3 (by decide)
          replace hB1 := hB1.wr hw40 hne13
          replace hB3 := hw40.at_
          simp only [splc, List.take_zero, List.nil_append, List.drop_succ_cons, List.drop_zero, List.length_cons, List.length_nil, List.drop_nil, List.append_nil, Nat.zero_add, Nat.reduceAdd] at hB3
          refine WL.qq (by simp only [EN, Nat.reduceEqDiff, reduceIte, qv_assign, decide_true, Bool.not_true, Bool.not_false, decide_false, eq_self, hB1.cell, hB1.cell, hB3.cell]; rfl) ?_
          refine WL.qq (by simp only [EN, Nat.reduceEqDiff, reduceIte, qv_assign, decide_true, Bool.not_true, Bool.not_false, decide_false, eq_self, hB1.cell, hB1.cell, hB3.cell]; rfl) ?_
          refine WL.nil ?_
          refine th_norm ?_
          refine hx_seq ?_
          refine hx_seq ?_
          refine hx_region ?_
          have hal := accO_len w n bf m; have hgl := hG.len; have hw2 := hG.w2
          refine WL.qq (by simp only [EN, Nat.reduceEqDiff, reduceIte, qv_move, decide_true, Bool.not_true, Bool.not_false, decide_false, eq_self, hB1.cell, hB1.cell, hB3.cell]; rfl) ?_
          refine WL.qq (by simp only [EN, Nat.reduceEqDiff, reduceIte, qv_move, decide_true, Bool.not_true, Bool.not_false, decide_false, eq_self, hB1.cell, hB1.cell, hB3.cell]; rfl) ?_
          refine WL.qq (by simp only [EN, Nat.reduceEqDiff, reduceIte, qv_binOp, binv_neq, eq3, Option.map_some, decide_true, Bool.not_true, Bool.not_false, decide_false, eq_self, hB1.cell, hB1.cell, hB3.cell]; rfl) ?_
          refine WL.qq (by simp only [EN, Nat.reduceEqDiff, reduceIte, qv_move, decide_true, Bool.not_true, Bool.not_false, decide_false, eq_self, hB1.cell, hB1.cell, hB3.cell]; rfl) ?_
          refine WL.cq (gd_at (t := 66) rfl (by simp only [EN, Nat.reduceEqDiff, reduceIte, decide_true, Bool.not_true, Bool.not_false, decide_false, eq_self, hB1.cell, hB1.cell, hB3.cell] <;> rfl)) (fun hg12_4 => by simp only [EN, Nat.reduceEqDiff, reduceIte, qv_move, decide_true, Bool.not_true, Bool.not_false, decide_false, eq_self, hB1.cell, hB1.cell, hB3.cell, hg12_4, GR]; rfl) ?_
          refine WL.cq (gd_at (t := 66) rfl (by simp only [EN, Nat.reduceEqDiff, reduceIte, decide_true, Bool.not_true, Bool.not_false, decide_false, eq_self, hB1.cell, hB1.cell, hB3.cell] <;> rfl)) (fun hg12_5 => by simp only [EN, Nat.reduceEqDiff, reduceIte, qv_move, decide_true, Bool.not_true, Bool.not_false, decide_false, eq_self, hB1.cell, hB1.cell, hB3.cell, hg12_5, GR]; rfl) ?_
          refine WL.cck (gd_at (t := 66) rfl (by simp only [EN, Nat.reduceEqDiff, reduceIte, decide_true, Bool.not_true, Bool.not_false, decide_false, eq_self, hB1.cell, hB1.cell, hB3.cell] <;> rfl)) Try.call34 (fun hg12_6 => by simp only [EN, Nat.reduceEqDiff, reduceIte, AR, decide_true, Bool.not_true, Bool.not_false, decide_false, eq_self, hB1.cell, hB1.cell, hB3.cell, hg12_6, GR]; exact c_equalS a3 (accO w n bf m) c3 a5 (accO w n bf m) c5 (by omega) hs3.rd hs5.rd) ?_
          refine WL.cq (gd_at (t := 66) rfl (by simp only [EN, Nat.reduceEqDiff, reduceIte, decide_true, Bool.not_true, Bool.not_false, decide_false, eq_self, hB1.cell, hB1.cell, hB3.cell] <;> rfl)) (fun hg12_7 => by simp only [EN, Nat.reduceEqDiff, reduceIte, qv_unOp, unv_not, decide_true, Bool.not_true, Bool.not_false, decide_false, eq_self, hB1.cell, hB1.cell, hB3.cell, hg12_7, GR]; rfl) ?_
          refine WL.qq (by simp only [EN, Nat.reduceEqDiff, reduceIte, qv_pick, pk_and, pk_or, GR, decide_true, Bool.not_true, Bool.not_false, decide_false, eq_self, hB1.cell, hB1.cell, hB3.cell]; rfl) ?_
          refine WL.nil ?_
          refine th_norm ?_
          refine hx_cond (by simp only [EN, Nat.reduceEqDiff, reduceIte, decide_true, Bool.not_true, Bool.not_false, decide_false, eq_self, hB1.cell, hB1.cell, hB3.cell]; rfl) (fun hct71 => ?_) (fun hct71 => ?_)
          ·
            simp at hct71
          ·
            try simp only [BD] at hct71
            refine hx_skip ?_
            refine th_norm ?_
            refine hx_seq ?_
            refine hx_region ?_
            refine WL.qq (by simp only [EN, Nat.reduceEqDiff, reduceIte, k1_0, k5_0, i8_0, i4_0, decide_true, Bool.not_true, Bool.not_false, decide_false, eq_self, hB1.cell, hB1.cell, hB3.cell, qv_load, ld27, readN, hB3.cell, AR, Nat.zero_add, Nat.reduceAdd]; rfl) ?_
            refine WL.store (by simp only [EN, Nat.reduceEqDiff, reduceIte, k1_0, k5_0, i8_0, i4_0, decide_true, Bool.not_true, Bool.not_false, decide_false, eq_self, hB1.cell, hB1.cell, hB3.cell] <;> rfl) sz27 (by simp only [EN, Nat.reduceEqDiff, reduceIte, k1_0, k5_0, i8_0, i4_0, decide_true, Bool.not_true, Bool.not_false, decide_false, eq_self, hB1.cell, hB1.cell, hB3.cell, Value.cells]; rfl) rfl hB1 (by simp) (by intro u hu; simp at hu; rcases hu with rfl | rfl | rfl <;> rfl) ?_
            intro h41 hw41
            replace hT := hT.wr hB1 (by decide) hw41 hlt1
            replace hs6 := hs6.wr hw41 hB1 (by decide)
            replace hB1 := hw41.at_
            simp only [splc, List.take_zero, List.nil_append, List.drop_succ_cons, List.drop_zero, List.length_cons, List.length_nil, List.drop_nil, List.append_nil, Nat.zero_add, Nat.reduceAdd] at hB1
            refine WL.nil ?_
            refine th_norm ?_
            refine hx_seq ?_
            refine hx_region ?_
            refine WL.qq (by simp only [EN, Nat.reduceEqDiff, reduceIte, qv_move, i4_0, decide_true, Bool.not_true, Bool.not_false, decide_false, eq_self, hB1.cell, hB1.cell, hB3.cell]; rfl) ?_
            refine WL.qq (by simp only [EN, Nat.reduceEqDiff, reduceIte, k1_0, k5_0, i8_0, i4_0, decide_true, Bool.not_true, Bool.not_false, decide_false, eq_self, hB1.cell, hB1.cell, hB3.cell, qv_load, ld27, readN, hB1.cell, AR, Nat.zero_add, Nat.reduceAdd]; rfl) ?_
            refine WL.cg Try.call33 (by simp only [EN, Nat.reduceEqDiff, reduceIte, AR, decide_true, Bool.not_true, Bool.not_false, decide_false, eq_self, hB1.cell, hB1.cell, hB3.cell]; exact c_received hG4 hT ⟨a6, c6, rfl, hs6, hc6⟩) ?_
            intro h5 hx5
            replace hT := hT.ext hx5
            replace hB1 := hB1.ext hx5
            replace hs6 := hs6.ext hx5
            refine WL.qq (by simp only [EN, Nat.reduceEqDiff, reduceIte, qv_unOp, unv_not, decide_true, Bool.not_true, Bool.not_false, decide_false, eq_self, hB1.cell, hB1.cell, hB3.cell]; rfl) ?_
            refine WL.nil ?_
            refine th_norm ?_
            refine hx_cond (by simp only [EN, Nat.reduceEqDiff, reduceIte, decide_true, Bool.not_true, Bool.not_false, decide_false, eq_self, hB1.cell, hB1.cell, hB3.cell]; rfl) (fun hct77 => ?_) (fun hct77 => ?_)
            ·
              simp at hct77
            ·
              try simp only [BD] at hct77
              refine hx_skip ?_
              refine bl_norm ?_
              refine th_norm ?_
              refine hx_region ?_
              refine WL.qq (by simp only [EN, Nat.reduceEqDiff, reduceIte, qv_move, i8_0, decide_true, Bool.not_true, Bool.not_false, decide_false, eq_self, hB1.cell, hB1.cell, hB3.cell]; rfl) ?_
              refine WL.qq (by simp only [EN, Nat.reduceEqDiff, reduceIte, qv_binOp, binv_add, decide_true, Bool.not_true, Bool.not_false, decide_false, eq_self, hB1.cell, hB1.cell, hB3.cell]; (try simp (disch := omega) only [w64, w8, wu64]); rfl) ?_
              refine WL.qq (by simp only [EN, Nat.reduceEqDiff, reduceIte, qv_assign, decide_true, Bool.not_true, Bool.not_false, decide_false, eq_self, hB1.cell, hB1.cell, hB3.cell]; rfl) ?_
              refine WL.nil ?_
              refine th_norm ?_
              refine ⟨rfl, ?_, _, ?_, i + 1, accN w n bf m, accB w n bf m, a6, c6, rfl, ?_, ?_, ?_, ?_, ?_, ?_, ?_, ?_⟩  -- again 0 of loop 0
              · (repeat (first | exact Fr.refl _ _ | refine Fr.set rfl ?_ | refine Fr.put rfl ?_ | with_reducible refine Fr.put0 ?_))
              · omega
              · omega
              · exact hst
              · exact hT
              · exact hB1
              · exact hs6
              · exact hc6
              · simp only [EN, Nat.reduceEqDiff, reduceIte, k1_0, k5_0, i8_0, i4_0, decide_true, Bool.not_true, Bool.not_false, decide_false, eq_self, hB1.cell, hB1.cell, hB3.cell] <;> first | rfl | (congr 1; omega)
              · simp only [EN, Nat.reduceEqDiff, reduceIte, k1_0, k5_0, i8_0, i4_0, decide_true, Bool.not_true, Bool.not_false, decide_false, eq_self, hB1.cell, hB1.cell, hB3.cell] <;> first | rfl | (congr 1; omega)
        ·
          try simp only [BD] at hct41
          have hil : i = l.length := (by omega)
          subst hil
          rw [List.take_length] at hS
          refine hx_exit ?_
          refine th_exit ?_
          refine th_exit ?_
          refine bl_hit ?_
          refine th_norm ?_
          refine hx_seq ?_
          apply hx_draw2 Rel.same [3, 4] [] [] rfl (by decide +kernel) rfl
          refine LD.qq rfl rfl (by simp only [EN, Nat.reduceEqDiff, reduceIte, qv_move, i4_0, decide_true, Bool.not_true, Bool.not_false, decide_false, eq_self, hB1.cell, hB1.cell]; rfl) ?_
          refine LD.qq rfl rfl (by simp only [EN, Nat.reduceEqDiff, reduceIte, qv_load, ld27, readN, AR, Nat.zero_add, Nat.reduceAdd, k5_0, decide_true, Bool.not_true, Bool.not_false, decide_false, eq_self, hB1.cell, hB1.cell]; rfl) ?_
          refine LD.qq rfl rfl (by simp only [EN, Nat.reduceEqDiff, reduceIte, qv_assign, decide_true, Bool.not_true, Bool.not_false, decide_false, eq_self, hB1.cell, hB1.cell]; rfl) ?_
          refine LD.skip rfl ?_
          refine LD.skip rfl ?_
          refine LD.nil ?_
          rintro _ rfl -
          refine WL.store (by simp only [EN, Nat.reduceEqDiff, reduceIte, k1_0, k5_0, i8_0, i4_0, decide_true, Bool.not_true, Bool.not_false, decide_false, eq_self, hB1.cell, hB1.cell] <;> rfl) sz27 (by simp only [EN, Nat.reduceEqDiff, reduceIte, k1_0, k5_0, i8_0, i4_0, decide_true, Bool.not_true, Bool.not_false, decide_false, eq_self, hB1.cell, hB1.cell, Value.cells]; rfl) rfl hB1 (by simp) (by intro u hu; simp at hu; rcases hu with rfl | rfl | rfl <;> rfl) ?_
          intro h62 hw62
          replace hT := hT.wr hB1 (by decide) hw62 hlt1
          replace hs := hs.wr hw62 hB1 (by decide)
          replace hB1 := hw62.at_
          refine WL.qq (by simp only [EN, Nat.reduceEqDiff, reduceIte, qv_assign, decide_true, Bool.not_true, Bool.not_false, decide_false, eq_self, hB1.cell, hB1.cell]; rfl) ?_
          refine WL.nil ?_
          refine th_norm ?_
          refine hx_ret ?_
          refine fin_ret [.tmp 4, .cell 5 27, .tmp 6] rfl rfl (by simp only [EN, Nat.reduceEqDiff, reduceIte, resv, ld27, readN, AR, Nat.zero_add, Nat.reduceAdd, k1_0, k5_0, i8_0, i4_0, decide_true, Bool.not_true, Bool.not_false, decide_false, eq_self, hB1.cell, hB1.cell]; rfl) ?_  -- ret 0 r17
          exact ⟨p, _, rfl, by rw [hS]; exact hT, by rw [hS]; exact ⟨a, c, rfl, hs, hc⟩⟩
end
end GL


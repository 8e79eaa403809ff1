/- History: the order of accounts; the reference's words, Compare, insert. -/
import Derived.Test.YtklhfckdifkpaaaHisB
import Derived.Test.YtklhfckdifkpaaaHisV
import Derived.Test.YtklhfckdifkpaaaGl28
import Derived.Test.YtklhfckdifkpaaaGl37
import Derived.Test.YtklhfckdifkpaaaHisN
import Derived.Test.YtklhfckdifkpaaaHisL
set_option linter.unusedSimpArgs false
set_option linter.unusedVariables false
set_option linter.unnecessarySimpa false
namespace GL
open Go Go.Proofs
set_option maxRecDepth 8000
def cmpS (a b : ByteArray) : Int := if sLt a b = true then -1 else if sLt b a = true then 1 else 0
theorem cmpS_lt {a b : ByteArray} : cmpS a b < 0 ↔ sLt a b = true := by
  unfold cmpS
  split
  · simp_all
  · split <;> simp_all
theorem cmpS_eq {a b : ByteArray} : cmpS a b = 0 ↔ a = b := by
  unfold cmpS
  split
  · rename_i h
    simp only [Int.reduceNeg, Int.reduceEq, false_iff]
    rintro rfl
    rw [sLt_irrefl] at h; cases h
  · split
    · rename_i h1 h
      simp only [Int.reduceEq, false_iff]
      rintro rfl
      rw [sLt_irrefl] at h; cases h
    · rename_i h1 h2
      simp only [true_iff]
      exact sLt_tri (by simpa using h1) (by simpa using h2)
def cmpA (x y : AC) : Int := orI [cmpS x.o y.o, cmpS x.a y.a, cmpI x.k y.k]
/-- x comes before y. -/
def aLt (x y : AC) : Prop := sLt x.o y.o = true ∨ (x.o = y.o ∧ (sLt x.a y.a = true ∨ (x.a = y.a ∧ x.k < y.k)))
theorem cmpA_lt {x y : AC} : cmpA x y < 0 ↔ aLt x y := by
  unfold cmpA aLt
  simp only [orI]
  by_cases h : cmpS x.o y.o = 0
  · have he := cmpS_eq.1 h
    rw [if_pos h, he, sLt_irrefl]
    by_cases h2 : cmpS x.a y.a = 0
    · rw [if_pos h2, cmpS_eq.1 h2, sLt_irrefl]
      by_cases h3 : cmpI x.k y.k = 0
      · rw [if_pos h3]; unfold cmpI at h3; simp; split at h3 <;> (try split at h3) <;> omega
      · rw [if_neg h3]; unfold cmpI at h3 ⊢; simp; split <;> (try split) <;> omega
    · rw [if_neg h2, cmpS_lt]
      have : ¬ x.a = y.a := fun hh => h2 (cmpS_eq.2 hh)
      simp [this]
  · rw [if_neg h, cmpS_lt]
    have : ¬ x.o = y.o := fun hh => h (cmpS_eq.2 hh)
    simp [this]
theorem aLt_irrefl (x : AC) : ¬ aLt x x := by
  rintro (h | ⟨_, h | ⟨_, h⟩⟩)
  · rw [sLt_irrefl] at h; cases h
  · rw [sLt_irrefl] at h; cases h
  · omega
theorem aLt_trans {x y z : AC} (h1 : aLt x y) (h2 : aLt y z) : aLt x z := by
  rcases h1 with h1 | ⟨e1, h1⟩ <;> rcases h2 with h2 | ⟨e2, h2⟩
  · exact .inl (sLt_trans h1 h2)
  · exact .inl (e2 ▸ h1)
  · exact .inl (e1 ▸ h2)
  · refine .inr ⟨e1.trans e2, ?_⟩
    rcases h1 with h1 | ⟨f1, h1⟩ <;> rcases h2 with h2 | ⟨f2, h2⟩
    · exact .inl (sLt_trans h1 h2)
    · exact .inl (f2 ▸ h1)
    · exact .inl (f1 ▸ h2)
    · exact .inr ⟨f1.trans f2, by omega⟩
theorem aLt_tri {x y : AC} (h1 : ¬ aLt x y) (h2 : ¬ aLt y x) : x = y := by
  have h3 : x.o = y.o := sLt_tri (Bool.eq_false_iff.2 fun h => h1 (.inl h)) (Bool.eq_false_iff.2 fun h => h2 (.inl h))
  have h4 : x.a = y.a := sLt_tri (Bool.eq_false_iff.2 fun h => h1 (.inr ⟨h3, .inl h⟩)) (Bool.eq_false_iff.2 fun h => h2 (.inr ⟨h3.symm, .inl h⟩))
  have h5 : ¬ x.k < y.k := fun h => h1 (.inr ⟨h3, .inr ⟨h4, h⟩⟩)
  have h6 : ¬ y.k < x.k := fun h => h2 (.inr ⟨h3.symm, .inr ⟨h4.symm, h⟩⟩)
  exact ac_eq.2 ⟨h3, by omega, h4⟩
theorem cmpA_eq {x y : AC} : cmpA x y = 0 ↔ x = y := by
  constructor
  · intro h
    unfold cmpA at h
    simp only [orI] at h
    by_cases h1 : cmpS x.o y.o = 0
    · rw [if_pos h1] at h
      by_cases h2 : cmpS x.a y.a = 0
      · rw [if_pos h2] at h
        have h3 : cmpI x.k y.k = 0 := by by_cases h3 : cmpI x.k y.k = 0; exact h3; rw [if_neg h3] at h; exact h
        refine ac_eq.2 ⟨cmpS_eq.1 h1, ?_, cmpS_eq.1 h2⟩
        unfold cmpI at h3
        split at h3
        · cases h3
        · split at h3
          · cases h3
          · omega
      · rw [if_neg h2] at h; exact absurd h h2
    · rw [if_neg h1] at h; exact absurd h h1
  · rintro rfl
    unfold cmpA
    simp only [orI]
    rw [if_pos (cmpS_eq.2 rfl), if_pos (cmpS_eq.2 rfl)]
    simp [cmpI]
/-! Words. -/
theorem bl_diff : ∀ {x y : List UInt8} {i : Nat} {p q : UInt8}, x.take i = y.take i → x[i]? = some p → y[i]? = some q → p ≠ q → Op.bytesLess x y = decide (p < q)
  | [], _, _, _, _, _, h, _, _ => by simp at h
  | _ :: _, [], _, _, _, _, _, h, _ => by simp at h
  | a :: x, b :: y, 0, p, q, _, h1, h2, hn => by
    simp at h1 h2
    subst h1 h2
    simp [Op.bytesLess, hn]
  | a :: x, b :: y, i + 1, p, q, ht, h1, h2, hn => by
    simp only [List.take_succ_cons, List.cons.injEq] at ht
    simp only [List.getElem?_cons_succ] at h1 h2
    obtain ⟨rfl, ht⟩ := ht
    simp only [Op.bytesLess, bl_diff ht h1 h2 hn, beq_self_eq_true, Bool.true_and, Bool.or_eq_right_iff_imp, decide_eq_true_eq]
    intro h
    exact absurd h (by simp)
theorem bl_pre : ∀ {x y : List UInt8} {i : Nat}, x.take i = y.take i → x.length ≤ i → i < y.length → Op.bytesLess x y = true
  | [], [], _, _, _, h => by simp at h
  | [], _ :: _, _, _, _, _ => rfl
  | a :: x, _, 0, _, h, _ => by simp at h
  | a :: x, [], i + 1, _, _, h => by simp at h
  | a :: x, b :: y, i + 1, ht, h1, h2 => by
    simp only [List.take_succ_cons, List.cons.injEq] at ht
    obtain ⟨rfl, ht⟩ := ht
    simp only [Op.bytesLess, bl_pre ht (by simpa using h1) (by simpa using h2), beq_self_eq_true, Bool.and_self, Bool.or_true]
theorem ba_at {a : ByteArray} {i : Nat} (h : i < a.size) : ∃ x, a[i]? = some x ∧ a.toList[i]? = some x := by
  refine ⟨a[i], by simp [h], ?_⟩
  rw [ByteArray.toList_eq]
  have h2 : i < a.data.size := h
  rw [Array.getElem?_toList, Array.getElem?_eq_getElem h2]
  rfl
theorem ba_len (a : ByteArray) : a.toList.length = a.size := by rw [ByteArray.toList_eq, Array.length_toList]; rfl
set_option maxHeartbeats 1000000 in
theorem c_words (a b : ByteArray) (ha : a.size ≤ 9223372036854775807) (hb : b.size ≤ 9223372036854775807) (h : Heap) : HCalls Try.prog 64 #[.string a, .string b] h (Pure (iV (cmpS a b)) h) := by
  refine hcalls2 Try.func64 rfl (by decide +kernel) (by simp only [Try.ntmps64]; exact of_decide_eq_true rfl) ?_
  intro e hin
  have e0 := hin 0 _ rfl
  have e1 := hin 1 _ rfl
  refine hx_seq ?_
  refine hx_region ?_
  refine WL.qq (by simp only [EN, Nat.reduceEqDiff, reduceIte, qv_assign]; rfl) ?_
  refine WL.nil ?_
  refine th_norm ?_
  refine hx_seq ?_
  refine hx_seq ?_
  refine hx_region ?_
  refine WL.qq (by simp only [EN, Nat.reduceEqDiff, reduceIte, qv_assign]; rfl) ?_
  refine WL.nil ?_
  refine th_norm ?_
  refine hx_block ?_
  refine hx_loopS [4, 5, 6, 7, 8, 9, 10, 11, 12, 13, 14, 15, 16, 17, 18, 19, 20, 21, 22, 23, 24, 25, 26, 27, 28, 29, 30, 31] (fun k e => ∃ (i : Nat), a.size - i = k ∧ (i ≤ a.size) ∧ (i ≤ b.size) ∧ (a.toList.take i = b.toList.take i) ∧ e 5 = .int .i64 i) _ ⟨0, rfl, ?_, ?_, ?_, ?_⟩ ?_
  · omega
  · omega
  · rfl
  · simp only [EN, Nat.reduceEqDiff, reduceIte, e0, e1] <;> rfl
  ·
    rintro k e0L hfr0 ⟨i, rfl, hi, hi2, hz, i5_0⟩
    have k0_0 := hfr0 0 rfl; try simp only [EN, Nat.reduceEqDiff, reduceIte, e0] at k0_0
    have k1_0 := hfr0 1 rfl; try simp only [EN, Nat.reduceEqDiff, reduceIte, e1] at k1_0
    refine hx_seq ?_
    refine hx_seq ?_
    refine hx_region ?_
    refine WL.qq (by simp only [EN, Nat.reduceEqDiff, reduceIte, qv_move, i5_0]; rfl) ?_
    refine WL.qq (by simp only [EN, Nat.reduceEqDiff, reduceIte, qv_move, k0_0]; rfl) ?_
    refine WL.qq (by simp only [EN, Nat.reduceEqDiff, reduceIte, qv_len, ln9, AR]; rfl) ?_
    refine WL.qq (by simp only [EN, Nat.reduceEqDiff, reduceIte, qv_binOp, binv_lss]; rfl) ?_
    refine WL.qq (by simp only [EN, Nat.reduceEqDiff, reduceIte, qv_move]; rfl) ?_
    refine WL.cq (gd_at (t := 10) rfl (by simp only [EN, Nat.reduceEqDiff, reduceIte, i5_0] <;> rfl)) (fun hg2_5 => by simp only [EN, Nat.reduceEqDiff, reduceIte, qv_move, i5_0, hg2_5, GR]; rfl) ?_
    refine WL.cq (gd_at (t := 10) rfl (by simp only [EN, Nat.reduceEqDiff, reduceIte, k1_0] <;> rfl)) (fun hg2_6 => by simp only [EN, Nat.reduceEqDiff, reduceIte, qv_move, k1_0, hg2_6, GR]; rfl) ?_
    refine WL.cq (gd_at (t := 10) rfl (by simp only [EN, Nat.reduceEqDiff, reduceIte] <;> rfl)) (fun hg2_7 => by simp only [EN, Nat.reduceEqDiff, reduceIte, qv_len, ln9, AR, hg2_7, GR]; rfl) ?_
    refine WL.cq (gd_at (t := 10) rfl (by simp only [EN, Nat.reduceEqDiff, reduceIte] <;> rfl)) (fun hg2_8 => by simp only [EN, Nat.reduceEqDiff, reduceIte, qv_binOp, binv_lss, hg2_8, GR]; rfl) ?_
    refine WL.qq (by simp only [EN, Nat.reduceEqDiff, reduceIte, qv_pick, pk_and, pk_or, GR]; rfl) ?_
    refine WL.nil ?_
    refine th_norm ?_
    refine hx_cond (by simp only [EN, Nat.reduceEqDiff, reduceIte]; rfl) (fun hct15 => ?_) (fun hct15 => ?_)
    ·
      try simp only [BD] at hct15
      have hlt : i < a.size ∧ i < b.size := (by have h9 := hct15; (try simp at h9); omega)
      obtain ⟨x, hx, hx2⟩ := ba_at hlt.1
      obtain ⟨y, hy, hy2⟩ := ba_at hlt.2
      refine hx_skip ?_
      refine th_norm ?_
      refine hx_seq ?_
      refine hx_block ?_
      refine hx_seq ?_
      apply hx_draw2 Rel.same [] [] [] rfl (by decide +kernel) rfl
      refine LD.qq rfl rfl (by simp only [EN, Nat.reduceEqDiff, reduceIte, qv_move, k0_0]; rfl) ?_
      refine LD.qq rfl rfl (by simp only [EN, Nat.reduceEqDiff, reduceIte, qv_move, i5_0]; rfl) ?_
      refine LD.qq rfl rfl (by simp only [EN, Nat.reduceEqDiff, reduceIte, k0_0, k1_0, i5_0, qv_index]; rw [el9 _ _ _ (by omega), Int.toNat_natCast, hx]; rfl) ?_
      refine LD.qq rfl rfl (by simp only [EN, Nat.reduceEqDiff, reduceIte, qv_move, k1_0]; rfl) ?_
      refine LD.qq rfl rfl (by simp only [EN, Nat.reduceEqDiff, reduceIte, qv_move, i5_0]; rfl) ?_
      refine LD.qq rfl rfl (by simp only [EN, Nat.reduceEqDiff, reduceIte, k0_0, k1_0, i5_0, qv_index]; rw [el9 _ _ _ (by omega), Int.toNat_natCast, hy]; rfl) ?_
      refine LD.qq rfl rfl (by simp only [EN, Nat.reduceEqDiff, reduceIte, qv_binOp, binv_neq, eq5, Option.map_some]; rfl) ?_
      refine LD.nil ?_
      rintro _ rfl -
      refine WL.nil ?_
      refine th_norm ?_
      refine hx_cond (by simp only [EN, Nat.reduceEqDiff, reduceIte]; rfl) (fun hct24 => ?_) (fun hct24 => ?_)
      ·
        try simp only [BD] at hct24
        have hne : x ≠ y := (fun hh => by subst hh; simp at hct24)
        have hd1 : sLt a b = decide (x < y) := bl_diff hz hx2 hy2 hne
        have hd2 : sLt b a = decide (y < x) := bl_diff hz.symm hy2 hx2 (Ne.symm hne)
        refine hx_seq ?_
        refine hx_seq ?_
        apply hx_draw2 Rel.same [] [] [] rfl (by decide +kernel) rfl
        refine LD.qq rfl rfl (by simp only [EN, Nat.reduceEqDiff, reduceIte, qv_move, k0_0]; rfl) ?_
        refine LD.qq rfl rfl (by simp only [EN, Nat.reduceEqDiff, reduceIte, qv_move, i5_0]; rfl) ?_
        refine LD.qq rfl rfl (by simp only [EN, Nat.reduceEqDiff, reduceIte, k0_0, k1_0, i5_0, qv_index]; rw [el9 _ _ _ (by omega), Int.toNat_natCast, hx]; rfl) ?_
        refine LD.qq rfl rfl (by simp only [EN, Nat.reduceEqDiff, reduceIte, qv_move, k1_0]; rfl) ?_
        refine LD.qq rfl rfl (by simp only [EN, Nat.reduceEqDiff, reduceIte, qv_move, i5_0]; rfl) ?_
        refine LD.qq rfl rfl (by simp only [EN, Nat.reduceEqDiff, reduceIte, k0_0, k1_0, i5_0, qv_index]; rw [el9 _ _ _ (by omega), Int.toNat_natCast, hy]; rfl) ?_
        refine LD.qq rfl rfl (by simp only [EN, Nat.reduceEqDiff, reduceIte, qv_binOp, binv_lss]; rfl) ?_
        refine LD.nil ?_
        rintro _ rfl -
        refine WL.nil ?_
        refine th_norm ?_
        refine hx_cond (by simp only [EN, Nat.reduceEqDiff, reduceIte]; rfl) (fun hct31 => ?_) (fun hct31 => ?_)
        ·
          try simp only [BD] at hct31
          refine hx_seq ?_
          refine hx_region ?_
          refine WL.qq (by simp only [EN, Nat.reduceEqDiff, reduceIte, qv_assign]; rfl) ?_
          refine WL.nil ?_
          refine th_norm ?_
          refine hx_ret ?_
          refine th_ret ?_
          refine bl_ret ?_
          refine th_ret ?_
          refine th_ret ?_
          refine bl_ret ?_
          refine th_ret ?_
          refine fin_ret [.tmp 4] rfl rfl (by simp only [EN, Nat.reduceEqDiff, reduceIte, resv, k0_0, k1_0, i5_0]; rfl) ?_  -- ret 0 r6
          have h9 : x < y := UInt8.lt_iff_toNat_lt.2 (by have h8 := hct31; (try simp at h8); omega)
          exact ⟨by simp only [retOf]; rw [cmpS, hd1, if_pos (by simpa using h9)], rfl⟩
        ·
          try simp only [BD] at hct31
          refine hx_skip ?_
          refine th_norm ?_
          refine hx_seq ?_
          refine hx_region ?_
          refine WL.qq (by simp only [EN, Nat.reduceEqDiff, reduceIte, qv_assign]; rfl) ?_
          refine WL.nil ?_
          refine th_norm ?_
          refine hx_ret ?_
          refine bl_ret ?_
          refine th_ret ?_
          refine th_ret ?_
          refine bl_ret ?_
          refine th_ret ?_
          refine fin_ret [.tmp 4] rfl rfl (by simp only [EN, Nat.reduceEqDiff, reduceIte, resv, k0_0, k1_0, i5_0]; rfl) ?_  -- ret 1 r7
          have h9 : ¬ x < y := (fun hh => by have h7 := UInt8.lt_iff_toNat_lt.1 hh; have h8 := hct31; (try simp at h8); omega)
          have h10 : y < x := (by rcases Nat.lt_trichotomy x.toNat y.toNat with h | h | h; exact absurd (UInt8.lt_iff_toNat_lt.2 h) h9; exact absurd (UInt8.toNat_inj.1 h) hne; exact UInt8.lt_iff_toNat_lt.2 h)
          exact ⟨by simp only [retOf]; rw [cmpS, hd1, hd2, if_neg (by simpa using h9), if_pos (by simpa using h10)], rfl⟩
      ·
        try simp only [BD] at hct24
        have hxy : x = y := UInt8.toNat_inj.1 (by have h8 := hct24; (try simp at h8); omega)
        refine hx_skip ?_
        refine bl_norm ?_
        refine th_norm ?_
        refine hx_region ?_
        refine WL.qq (by simp only [EN, Nat.reduceEqDiff, reduceIte, qv_move, i5_0]; rfl) ?_
        refine WL.qq (by simp only [EN, Nat.reduceEqDiff, reduceIte, qv_binOp, binv_add]; (try simp (disch := omega) only [w64, w8, wu64]); rfl) ?_
        refine WL.qq (by simp only [EN, Nat.reduceEqDiff, reduceIte, qv_assign]; rfl) ?_
        refine WL.nil ?_
        refine th_norm ?_
        refine ⟨rfl, rfl, ?_, _, ?_, i + 1, rfl, ?_, ?_, ?_, ?_⟩  -- again 0 of loop 0
        · (repeat (first | exact Fr.refl _ _ | refine Fr.set rfl ?_ | refine Fr.put rfl ?_ | with_reducible refine Fr.put0 ?_))
        · omega
        · omega
        · omega
        · rw [List.take_add_one, List.take_add_one, hz, hx2, hy2, hxy]
        · simp only [EN, Nat.reduceEqDiff, reduceIte, k0_0, k1_0, i5_0] <;> first | rfl | (congr 1; omega)
    ·
      try simp only [BD] at hct15
      have hge : ¬ (i < a.size ∧ i < b.size) := (by have h9 := hct15; (try simp at h9); omega)
      refine hx_exit ?_
      refine th_exit ?_
      refine th_exit ?_
      refine bl_hit ?_
      refine th_norm ?_
      refine hx_seq ?_
      refine hx_seq ?_
      refine hx_region ?_
      refine WL.qq (by simp only [EN, Nat.reduceEqDiff, reduceIte, qv_move, k0_0]; rfl) ?_
      refine WL.qq (by simp only [EN, Nat.reduceEqDiff, reduceIte, qv_len, ln9, AR]; rfl) ?_
      refine WL.qq (by simp only [EN, Nat.reduceEqDiff, reduceIte, qv_move, k1_0]; rfl) ?_
      refine WL.qq (by simp only [EN, Nat.reduceEqDiff, reduceIte, qv_len, ln9, AR]; rfl) ?_
      refine WL.qq (by simp only [EN, Nat.reduceEqDiff, reduceIte, qv_binOp, binv_eql, eq3, Option.map_some]; rfl) ?_
      refine WL.nil ?_
      refine th_norm ?_
      refine hx_cond (by simp only [EN, Nat.reduceEqDiff, reduceIte]; rfl) (fun hct36 => ?_) (fun hct36 => ?_)
      ·
        try simp only [BD] at hct36
        refine hx_seq ?_
        refine hx_region ?_
        refine WL.qq (by simp only [EN, Nat.reduceEqDiff, reduceIte, qv_assign]; rfl) ?_
        refine WL.nil ?_
        refine th_norm ?_
        refine hx_ret ?_
        refine th_ret ?_
        refine fin_ret [.tmp 4] rfl rfl (by simp only [EN, Nat.reduceEqDiff, reduceIte, resv, k0_0, k1_0, i5_0]; rfl) ?_  -- ret 2 r9
        have h8 : a.size = b.size := (by have h9 := hct36; (try simp at h9); omega)
        have hab : a = b := toList_inj (by have h7 := hz; rw [List.take_of_length_le (by rw [ba_len]; omega), List.take_of_length_le (by rw [ba_len]; omega)] at h7; exact h7)
        exact ⟨by simp only [retOf]; rw [cmpS_eq.2 hab], rfl⟩
      ·
        try simp only [BD] at hct36
        refine hx_skip ?_
        refine th_norm ?_
        refine hx_seq ?_
        refine hx_seq ?_
        refine hx_region ?_
        refine WL.qq (by simp only [EN, Nat.reduceEqDiff, reduceIte, qv_move, k0_0]; rfl) ?_
        refine WL.qq (by simp only [EN, Nat.reduceEqDiff, reduceIte, qv_len, ln9, AR]; rfl) ?_
        refine WL.qq (by simp only [EN, Nat.reduceEqDiff, reduceIte, qv_move, k1_0]; rfl) ?_
        refine WL.qq (by simp only [EN, Nat.reduceEqDiff, reduceIte, qv_len, ln9, AR]; rfl) ?_
        refine WL.qq (by simp only [EN, Nat.reduceEqDiff, reduceIte, qv_binOp, binv_lss]; rfl) ?_
        refine WL.nil ?_
        refine th_norm ?_
        refine hx_cond (by simp only [EN, Nat.reduceEqDiff, reduceIte]; rfl) (fun hct41 => ?_) (fun hct41 => ?_)
        ·
          try simp only [BD] at hct41
          refine hx_seq ?_
          refine hx_region ?_
          refine WL.qq (by simp only [EN, Nat.reduceEqDiff, reduceIte, qv_assign]; rfl) ?_
          refine WL.nil ?_
          refine th_norm ?_
          refine hx_ret ?_
          refine th_ret ?_
          refine fin_ret [.tmp 4] rfl rfl (by simp only [EN, Nat.reduceEqDiff, reduceIte, resv, k0_0, k1_0, i5_0]; rfl) ?_  -- ret 3 r11
          have h8 : sLt a b = true := bl_pre hz (by rw [ba_len]; omega) (by rw [ba_len]; omega)
          exact ⟨by simp only [retOf]; rw [cmpS, if_pos h8], rfl⟩
        ·
          try simp only [BD] at hct41
          refine hx_skip ?_
          refine th_norm ?_
          refine hx_seq ?_
          refine hx_region ?_
          refine WL.qq (by simp only [EN, Nat.reduceEqDiff, reduceIte, qv_assign]; rfl) ?_
          refine WL.nil ?_
          refine th_norm ?_
          refine hx_ret ?_
          refine fin_ret [.tmp 4] rfl rfl (by simp only [EN, Nat.reduceEqDiff, reduceIte, resv, k0_0, k1_0, i5_0]; rfl) ?_  -- ret 4 r12
          have h8 : sLt b a = true := bl_pre hz.symm (by rw [ba_len]; omega) (by rw [ba_len]; omega)
          exact ⟨by simp only [retOf]; rw [cmpS, sLt_asymm h8, if_neg (by simp), if_pos h8], rfl⟩
/-! Compare and insert. -/
set_option maxHeartbeats 1000000 in
theorem c_rCmp (x y : AC) (hx : x.o.size ≤ 9223372036854775807 ∧ x.a.size ≤ 9223372036854775807) (hy : y.o.size ≤ 9223372036854775807 ∧ y.a.size ≤ 9223372036854775807) (h : Heap) : HCalls Try.prog 38 #[acV x, acV y] h (Grow (iV (cmpA x y)) h) := by
  refine hcalls2 Try.func38 rfl (by decide +kernel) (by simp only [Try.ntmps38]; exact of_decide_eq_true rfl) ?_
  intro e hin
  have e0 := hin 0 _ rfl
  have e1 := hin 1 _ rfl
  refine hx_seq ?_
  refine hx_region ?_
  refine WL.box2 (by simp only [EN, Nat.reduceEqDiff, reduceIte, Value.cells, e0]; rfl) ?_
  intro h1 B1 hx1 hlt1 hB1
  refine WL.box2 (by simp only [EN, Nat.reduceEqDiff, reduceIte, Value.cells, e1, hB1.cell]; rfl) ?_
  intro h2 B2 hx2 hlt2 hB2
  replace hB1 := hB1.ext hx2
  refine WL.qq (by simp only [EN, Nat.reduceEqDiff, reduceIte, qv_assign, hB1.cell, hB2.cell]; rfl) ?_
  refine WL.nil ?_
  refine th_norm ?_
  refine hx_seq ?_
  refine hx_seq ?_
  refine hx_region ?_
  refine WL.qq (by simp only [EN, Nat.reduceEqDiff, reduceIte, qv_fieldAddr, fa24_0, Nat.zero_add, Nat.reduceAdd, hB1.cell, hB2.cell]; rfl) ?_
  refine WL.qq (by simp only [EN, Nat.reduceEqDiff, reduceIte, qv_load, ld9, readN, AR, Nat.zero_add, Nat.reduceAdd, hB1.cell, hB2.cell]; rfl) ?_
  refine WL.qq (by simp only [EN, Nat.reduceEqDiff, reduceIte, qv_fieldAddr, fa24_0, Nat.zero_add, Nat.reduceAdd, hB1.cell, hB2.cell]; rfl) ?_
  refine WL.qq (by simp only [EN, Nat.reduceEqDiff, reduceIte, qv_load, ld9, readN, AR, Nat.zero_add, Nat.reduceAdd, hB1.cell, hB2.cell]; rfl) ?_
  refine WL.ck Try.call64 (by simp only [EN, Nat.reduceEqDiff, reduceIte, AR, hB1.cell, hB2.cell]; exact c_words x.o y.o hx.1 hy.1 _) ?_
  refine WL.qq (by simp only [EN, Nat.reduceEqDiff, reduceIte, qv_assign, hB1.cell, hB2.cell]; rfl) ?_
  refine WL.nil ?_
  refine th_norm ?_
  refine hx_seq ?_
  refine hx_region ?_
  refine WL.qq (by simp only [EN, Nat.reduceEqDiff, reduceIte, qv_move, hB1.cell, hB2.cell]; rfl) ?_
  refine WL.qq (by simp only [EN, Nat.reduceEqDiff, reduceIte, qv_binOp, binv_neq, eq3, Option.map_some, hB1.cell, hB2.cell]; rfl) ?_
  refine WL.nil ?_
  refine th_norm ?_
  refine hx_cond (by simp only [EN, Nat.reduceEqDiff, reduceIte, hB1.cell, hB2.cell]; rfl) (fun hct13 => ?_) (fun hct13 => ?_)
  ·
    try simp only [BD] at hct13
    refine hx_seq ?_
    refine hx_region ?_
    refine WL.qq (by simp only [EN, Nat.reduceEqDiff, reduceIte, qv_move, hB1.cell, hB2.cell]; rfl) ?_
    refine WL.qq (by simp only [EN, Nat.reduceEqDiff, reduceIte, qv_assign, hB1.cell, hB2.cell]; rfl) ?_
    refine WL.nil ?_
    refine th_norm ?_
    refine hx_ret ?_
    refine th_ret ?_
    refine fin_ret [.tmp 4] rfl rfl (by simp only [EN, Nat.reduceEqDiff, reduceIte, resv, e0, e1, hB1.cell, hB2.cell]; rfl) ?_  -- ret 0 r3
    exact ⟨by simp only [retOf, cmpA, orI]; rw [if_neg hct13], ((hx1).trans (hx2))⟩
  ·
    try simp only [BD] at hct13
    refine hx_skip ?_
    refine th_norm ?_
    refine hx_seq ?_
    refine hx_seq ?_
    refine hx_region ?_
    refine WL.qq (by simp only [EN, Nat.reduceEqDiff, reduceIte, qv_fieldAddr, fa24_2, Nat.zero_add, Nat.reduceAdd, hB1.cell, hB2.cell]; rfl) ?_
    refine WL.qq (by simp only [EN, Nat.reduceEqDiff, reduceIte, qv_load, ld9, readN, AR, Nat.zero_add, Nat.reduceAdd, hB1.cell, hB2.cell]; rfl) ?_
    refine WL.qq (by simp only [EN, Nat.reduceEqDiff, reduceIte, qv_fieldAddr, fa24_2, Nat.zero_add, Nat.reduceAdd, hB1.cell, hB2.cell]; rfl) ?_
    refine WL.qq (by simp only [EN, Nat.reduceEqDiff, reduceIte, qv_load, ld9, readN, AR, Nat.zero_add, Nat.reduceAdd, hB1.cell, hB2.cell]; rfl) ?_
    refine WL.ck Try.call64 (by simp only [EN, Nat.reduceEqDiff, reduceIte, AR, hB1.cell, hB2.cell]; exact c_words x.a y.a hx.2 hy.2 _) ?_
    refine WL.qq (by simp only [EN, Nat.reduceEqDiff, reduceIte, qv_assign, hB1.cell, hB2.cell]; rfl) ?_
    refine WL.nil ?_
    refine th_norm ?_
    refine hx_seq ?_
    refine hx_region ?_
    refine WL.qq (by simp only [EN, Nat.reduceEqDiff, reduceIte, qv_move, hB1.cell, hB2.cell]; rfl) ?_
    refine WL.qq (by simp only [EN, Nat.reduceEqDiff, reduceIte, qv_binOp, binv_neq, eq3, Option.map_some, hB1.cell, hB2.cell]; rfl) ?_
    refine WL.nil ?_
    refine th_norm ?_
    refine hx_cond (by simp only [EN, Nat.reduceEqDiff, reduceIte, hB1.cell, hB2.cell]; rfl) (fun hct21 => ?_) (fun hct21 => ?_)
    ·
      try simp only [BD] at hct21
      refine hx_seq ?_
      refine hx_region ?_
      refine WL.qq (by simp only [EN, Nat.reduceEqDiff, reduceIte, qv_move, hB1.cell, hB2.cell]; rfl) ?_
      refine WL.qq (by simp only [EN, Nat.reduceEqDiff, reduceIte, qv_assign, hB1.cell, hB2.cell]; rfl) ?_
      refine WL.nil ?_
      refine th_norm ?_
      refine hx_ret ?_
      refine th_ret ?_
      refine fin_ret [.tmp 4] rfl rfl (by simp only [EN, Nat.reduceEqDiff, reduceIte, resv, e0, e1, hB1.cell, hB2.cell]; rfl) ?_  -- ret 1 r6
      exact ⟨by simp only [retOf, cmpA, orI]; rw [if_pos (by omega), if_neg hct21], ((hx1).trans (hx2))⟩
    ·
      try simp only [BD] at hct21
      refine hx_skip ?_
      refine th_norm ?_
      refine hx_seq ?_
      refine hx_seq ?_
      refine hx_region ?_
      refine WL.qq (by simp only [EN, Nat.reduceEqDiff, reduceIte, qv_fieldAddr, fa24_1, Nat.zero_add, Nat.reduceAdd, hB1.cell, hB2.cell]; rfl) ?_
      refine WL.qq (by simp only [EN, Nat.reduceEqDiff, reduceIte, qv_load, ld3, readN, AR, Nat.zero_add, Nat.reduceAdd, hB1.cell, hB2.cell]; rfl) ?_
      refine WL.qq (by simp only [EN, Nat.reduceEqDiff, reduceIte, qv_fieldAddr, fa24_1, Nat.zero_add, Nat.reduceAdd, hB1.cell, hB2.cell]; rfl) ?_
      refine WL.qq (by simp only [EN, Nat.reduceEqDiff, reduceIte, qv_load, ld3, readN, AR, Nat.zero_add, Nat.reduceAdd, hB1.cell, hB2.cell]; rfl) ?_
      refine WL.qq (by simp only [EN, Nat.reduceEqDiff, reduceIte, qv_binOp, binv_neq, eq3, Option.map_some, hB1.cell, hB2.cell]; rfl) ?_
      refine WL.nil ?_
      refine th_norm ?_
      refine hx_cond (by simp only [EN, Nat.reduceEqDiff, reduceIte, hB1.cell, hB2.cell]; rfl) (fun hct27 => ?_) (fun hct27 => ?_)
      ·
        try simp only [BD] at hct27
        have h1 : cmpS x.o y.o = 0 := (by omega); have h2 : cmpS x.a y.a = 0 := (by omega)
        refine hx_seq ?_
        refine hx_seq ?_
        refine hx_region ?_
        refine WL.qq (by simp only [EN, Nat.reduceEqDiff, reduceIte, qv_fieldAddr, fa24_1, Nat.zero_add, Nat.reduceAdd, hB1.cell, hB2.cell]; rfl) ?_
        refine WL.qq (by simp only [EN, Nat.reduceEqDiff, reduceIte, qv_load, ld3, readN, AR, Nat.zero_add, Nat.reduceAdd, hB1.cell, hB2.cell]; rfl) ?_
        refine WL.qq (by simp only [EN, Nat.reduceEqDiff, reduceIte, qv_fieldAddr, fa24_1, Nat.zero_add, Nat.reduceAdd, hB1.cell, hB2.cell]; rfl) ?_
        refine WL.qq (by simp only [EN, Nat.reduceEqDiff, reduceIte, qv_load, ld3, readN, AR, Nat.zero_add, Nat.reduceAdd, hB1.cell, hB2.cell]; rfl) ?_
        refine WL.qq (by simp only [EN, Nat.reduceEqDiff, reduceIte, qv_binOp, binv_lss, hB1.cell, hB2.cell]; rfl) ?_
        refine WL.nil ?_
        refine th_norm ?_
        refine hx_cond (by simp only [EN, Nat.reduceEqDiff, reduceIte, hB1.cell, hB2.cell]; rfl) (fun hct32 => ?_) (fun hct32 => ?_)
        ·
          try simp only [BD] at hct32
          refine hx_seq ?_
          refine hx_region ?_
          refine WL.qq (by simp only [EN, Nat.reduceEqDiff, reduceIte, qv_assign, hB1.cell, hB2.cell]; rfl) ?_
          refine WL.nil ?_
          refine th_norm ?_
          refine hx_ret ?_
          refine th_ret ?_
          refine th_ret ?_
          refine fin_ret [.tmp 4] rfl rfl (by simp only [EN, Nat.reduceEqDiff, reduceIte, resv, e0, e1, hB1.cell, hB2.cell]; rfl) ?_  -- ret 2 r9
          exact ⟨by simp only [retOf, cmpA, orI]; rw [if_pos h1, if_pos h2]; simp [cmpI, hct32], ((hx1).trans (hx2))⟩
        ·
          try simp only [BD] at hct32
          refine hx_skip ?_
          refine th_norm ?_
          refine hx_seq ?_
          refine hx_region ?_
          refine WL.qq (by simp only [EN, Nat.reduceEqDiff, reduceIte, qv_assign, hB1.cell, hB2.cell]; rfl) ?_
          refine WL.nil ?_
          refine th_norm ?_
          refine hx_ret ?_
          refine th_ret ?_
          refine fin_ret [.tmp 4] rfl rfl (by simp only [EN, Nat.reduceEqDiff, reduceIte, resv, e0, e1, hB1.cell, hB2.cell]; rfl) ?_  -- ret 3 r10
          have h3 : y.k < x.k := (by omega)
          exact ⟨by simp only [retOf, cmpA, orI]; rw [if_pos h1, if_pos h2]; simp [cmpI, hct32, h3], ((hx1).trans (hx2))⟩
      ·
        try simp only [BD] at hct27
        refine hx_skip ?_
        refine th_norm ?_
        refine hx_seq ?_
        refine hx_region ?_
        refine WL.qq (by simp only [EN, Nat.reduceEqDiff, reduceIte, qv_assign, hB1.cell, hB2.cell]; rfl) ?_
        refine WL.nil ?_
        refine th_norm ?_
        refine hx_ret ?_
        refine fin_ret [.tmp 4] rfl rfl (by simp only [EN, Nat.reduceEqDiff, reduceIte, resv, e0, e1, hB1.cell, hB2.cell]; rfl) ?_  -- ret 4 r11
        have h1 : cmpS x.o y.o = 0 := (by omega)
        have h2 : cmpS x.a y.a = 0 := (by omega)
        have h3 : x.k = y.k := (by omega)
        exact ⟨by simp only [retOf, cmpA, orI]; rw [if_pos h1, if_pos h2]; simp [cmpI, h3], ((hx1).trans (hx2))⟩
def insA (l : List AC) (x : AC) : List AC := if l[(l.takeWhile fun y => decide (cmpA y x < 0)).length]? = some x then l else l.take (l.takeWhile fun y => decide (cmpA y x < 0)).length ++ x :: l.drop (l.takeWhile fun y => decide (cmpA y x < 0)).length
theorem tw_at {α : Type} {p : α → Bool} : ∀ {l : List α} {t : Nat}, t ≤ l.length → (∀ y ∈ l.take t, p y = true) → (∀ y, l[t]? = some y → p y = false) → (l.takeWhile p).length = t
  | [], t, h, _, _ => by simp at h; simp [h]
  | x :: l, 0, _, _, h2 => by
    have := h2 x rfl
    rw [List.takeWhile_cons, this]; rfl
  | x :: l, t + 1, h, h1, h2 => by
    have h3 : p x = true := h1 x (by simp)
    rw [List.takeWhile_cons, h3]
    simp only [if_true, List.length_cons]
    rw [tw_at (by simpa using h) (fun y hy => h1 y (by rw [List.take_succ_cons]; exact List.mem_cons_of_mem _ hy)) (fun y hy => h2 y (by rw [List.getElem?_cons_succ]; exact hy))]
theorem insA_at {l : List AC} {x : AC} {t : Nat} (h : t ≤ l.length) (h1 : ∀ y ∈ l.take t, cmpA y x < 0) (h2 : ∀ y, l[t]? = some y → ¬ cmpA y x < 0) : insA l x = if l[t]? = some x then l else l.take t ++ x :: l.drop t := by
  unfold insA
  rw [tw_at h (fun y hy => decide_eq_true (h1 y hy)) (fun y hy => decide_eq_false (h2 y hy))]
theorem insA_len (l : List AC) (x : AC) : (insA l x).length ≤ l.length + 1 := by
  unfold insA
  split
  · omega
  · rw [List.length_append, List.length_take, List.length_cons, List.length_drop]; omega
/-- l[t:] of a slice without a place within an element. -/
theorem sl_drop {α : Type} {sz : Nat} {f : α → List Value} {h : Heap} {P : Program} {t el : TypeId} (hu : P.underlying t = some (.slice el)) (hsz : sizeB P el = some sz) {a : Option Addr} {L : List α} {cap : Nat} (ha : ∀ x, a = some x → x.spot = none) (hs : SlG sz f h a L) (hc : L.length ≤ cap) (hz : a = none → cap = 0) (k : IntKind) (i : Nat) (hi : i ≤ L.length) :
    ∃ a', slicev P t (.slice a L.length cap) (some (.int k (i : Int))) none none = some (.slice a' (L.length - i) (cap - i)) ∧ SlG sz f h a' (L.drop i) := by
  cases a with
  | none =>
    have hL : L = [] := hs.emp
    subst hL
    have h0 : i = 0 := by simpa using hi
    have hc0 := hz rfl
    subst h0 hc0
    refine ⟨none, ?_, SlG.nil⟩
    simp [slicev, hu, hsz, bnd]
  | some x =>
    obtain ⟨b, off, spot⟩ := x
    have := ha _ rfl
    simp only at this
    subst this
    exact ⟨_, by rw [slicev_l hu hsz b off L.length cap k i (by omega) (by omega), Int.toNat_natCast], hs.drop i hc⟩
theorem flat_drop {α : Type} {f : α → List Value} {sz : Nat} (hf : ∀ x, (f x).length = sz) (L : List α) (k : Nat) (hk : k ≤ L.length) : (L.flatMap f).drop (k * sz) = (L.drop k).flatMap f := by
  have h1 : L.flatMap f = (L.take k).flatMap f ++ (L.drop k).flatMap f := by rw [← List.flatMap_append, List.take_append_drop]
  have h2 : ((L.take k).flatMap f).length = k * sz := by rw [flat_len hf, List.length_take, Nat.min_eq_left hk]
  rw [h1, List.drop_append_of_le_length (by omega), List.drop_of_length_le (by omega), List.nil_append]
abbrev tyA : TypeId := 24
theorem acL_one (x : AC) : ∀ u ∈ acL x, u.oneCell' = true := fun u hu => by simp at hu; rcases hu with rfl | rfl | rfl <;> rfl
set_option maxHeartbeats 2000000 in
theorem c_insert (N : Nat) (v : Value) (l : List AC) (x : AC) (hl : l.length ≤ 100000) (hls : ∀ y ∈ l, AS y) (hxs : AS x) {h : Heap} (ho : Own h N tyA 3 v l.length (l.flatMap acL)) (hN : N ≤ h.size) :
    HCalls Try.prog 41 #[v, acV x] h fun u h' => Ext h h' ∧ Own h' N tyA 3 u (insA l x).length ((insA l x).flatMap acL) := by
  obtain ⟨al, cl, rfl, hcl, hcz, hsp⟩ := ho.shape
  have hs : SlG 3 acL h al l := slG_own (f := acL) (sz := 3) (fun _ => rfl) ho rfl
  have hspot : ∀ y, al = some y → y.spot = none := fun y hy => by obtain ⟨g, rfl, _⟩ := hsp y hy; rfl
  refine hcalls2 Try.func41 rfl (by decide +kernel) (by simp only [Try.ntmps41]; exact of_decide_eq_true rfl) ?_
  intro e hin
  have e0 := hin 0 _ rfl
  have e1 := hin 1 _ rfl
  refine hx_seq ?_
  refine hx_region ?_
  refine WL.box2 (by simp only [EN, Nat.reduceEqDiff, reduceIte, Value.cells, e1, strEq]; rfl) ?_
  intro h1 B1 hx1 hlt1 hB1
  replace hs := hs.ext hx1
  replace ho := ho.ext hx1
  refine WL.qq (by simp only [EN, Nat.reduceEqDiff, reduceIte, qv_assign, strEq, hB1.cell]; rfl) ?_
  refine WL.nil ?_
  refine th_norm ?_
  refine hx_seq ?_
  refine hx_region ?_
  refine WL.qq (by simp only [EN, Nat.reduceEqDiff, reduceIte, qv_assign, strEq, hB1.cell]; rfl) ?_
  refine WL.nil ?_
  refine th_norm ?_
  refine hx_seq ?_
  refine hx_block ?_
  refine hx_loopX [5, 6, 7, 8, 9, 10, 11, 12, 13, 14, 15, 16, 17, 18, 19, 20] (fun k e => ∃ (t : Nat), l.length - t = k ∧ (t ≤ l.length) ∧ ((∀ y ∈ l.take t, cmpA y x < 0)) ∧ e 5 = .int .i64 t) _ ⟨0, rfl, ?_, ?_, ?_⟩ ?_
  · omega
  · simp
  · simp only [EN, Nat.reduceEqDiff, reduceIte, e0, e1, strEq, hB1.cell] <;> rfl
  ·
    rintro k e0L hL0 hX0 hfr0 ⟨t, rfl, hi, hlo, i5_0⟩
    replace hs := hs.ext hX0
    replace ho := ho.ext hX0
    replace hB1 := hB1.ext hX0
    have k0_0 := hfr0 0 rfl; try simp only [EN, Nat.reduceEqDiff, reduceIte, e0, strEq, hB1.cell] at k0_0
    have k3_0 := hfr0 3 rfl; try simp only [EN, Nat.reduceEqDiff, reduceIte, strEq, hB1.cell] at k3_0
    obtain ⟨y, b1, o1, hq⟩ : ∃ (y : AC) (b1 o1 : Nat), t < l.length → l[t]? = some y ∧ al = some ⟨b1, o1, none⟩ ∧ GL.readN hL0 b1 (o1 + t * 3) 3 = some (acL y) := (by by_cases hlt : t < l.length; (obtain ⟨y, hy⟩ := atG hlt; obtain ⟨b1, o1, h1, h2⟩ := hs t y hy; exact ⟨y, b1, o1, fun _ => ⟨hy, h1, h2⟩⟩); exact ⟨x, 0, 0, fun hh => absurd hh hlt⟩)
    refine hx_seq ?_
    refine hx_seq ?_
    apply hx_draw2 Rel.grows [] [10] [(10, Spec.is _)] rfl (by decide +kernel) rfl
    refine LD.qq rfl rfl (by simp only [EN, Nat.reduceEqDiff, reduceIte, qv_move, i5_0, strEq, hB1.cell]; rfl) ?_
    refine LD.qq rfl rfl (by simp only [EN, Nat.reduceEqDiff, reduceIte, qv_move, k0_0, strEq, hB1.cell]; rfl) ?_
    refine LD.qq rfl rfl (by simp only [EN, Nat.reduceEqDiff, reduceIte, qv_len, ln30, AR, strEq, hB1.cell]; rfl) ?_
    refine LD.qq rfl rfl (by simp only [EN, Nat.reduceEqDiff, reduceIte, qv_binOp, binv_lss, strEq, hB1.cell]; rfl) ?_
    refine LD.qq rfl rfl (by simp only [EN, Nat.reduceEqDiff, reduceIte, qv_move, strEq, hB1.cell]; rfl) ?_
    refine LD.cq rfl rfl (gd_at (t := 10) rfl (by simp only [EN, Nat.reduceEqDiff, reduceIte, k0_0, strEq, hB1.cell] <;> rfl)) (fun hg2_5 => by simp only [EN, Nat.reduceEqDiff, reduceIte, qv_move, k0_0, strEq, hB1.cell, hg2_5, GR]; rfl) ?_
    refine LD.cq rfl rfl (gd_at (t := 10) rfl (by simp only [EN, Nat.reduceEqDiff, reduceIte, i5_0, strEq, hB1.cell] <;> rfl)) (fun hg2_6 => by simp only [EN, Nat.reduceEqDiff, reduceIte, qv_move, i5_0, strEq, hB1.cell, hg2_6, GR]; rfl) ?_
    refine LD.cq rfl rfl (gd_at (t := 10) rfl (by simp only [EN, Nat.reduceEqDiff, reduceIte, strEq, hB1.cell] <;> rfl)) (fun hg2_7 => by have hlt : t < l.length := (by simpa using hg2_7); have hh9 := hq hlt; simp only [EN, Nat.reduceEqDiff, reduceIte, k0_0, k3_0, i5_0, strEq, hB1.cell, qv_indexAddr, hg2_7, hh9.2.1, if_true]; exact ix30 _ _ _ _ _ _ (by omega) (by omega)) ?_
    refine LD.cq rfl rfl (gd_at (t := 10) rfl (by simp only [EN, Nat.reduceEqDiff, reduceIte, strEq, hB1.cell] <;> rfl)) (fun hg2_8 => by have hlt : t < l.length := (by simpa using hg2_8); have hh9 := hq hlt; simp only [EN, Nat.reduceEqDiff, reduceIte, k0_0, k3_0, i5_0, strEq, hB1.cell, qv_load, ld24, hg2_8, Int.toNat_natCast, hh9.2.2, if_true]; rfl) ?_
    refine LD.cq rfl rfl (gd_at (t := 10) rfl (by simp only [EN, Nat.reduceEqDiff, reduceIte, k3_0, strEq, hB1.cell] <;> rfl)) (fun hg2_9 => by simp only [EN, Nat.reduceEqDiff, reduceIte, qv_load, ld24, readN, AR, Nat.zero_add, Nat.reduceAdd, k3_0, strEq, hB1.cell, hg2_9, GR]; rfl) ?_
    refine LD.cck rfl rfl (gd_at (t := 10) rfl (by simp only [EN, Nat.reduceEqDiff, reduceIte, strEq, hB1.cell] <;> rfl)) Try.call38 (fun hg2_10 => by intro hD hr; have hx : Ext _ _ := hr; have hs := hs.ext hx; have ho := ho.ext hx; have hB1 := hB1.ext hx; simp only [EN, Nat.reduceEqDiff, reduceIte, AR, strEq, hB1.cell, hg2_10, GR]; exact c_rCmp y x (hls y (List.mem_of_getElem? (hq (by simpa using hg2_10)).1)) hxs _) ?_
    refine LD.cq rfl rfl (gd_at (t := 10) rfl (by simp only [EN, Nat.reduceEqDiff, reduceIte, strEq, hB1.cell] <;> rfl)) (fun hg2_11 => by simp only [EN, Nat.reduceEqDiff, reduceIte, qv_binOp, binv_lss, strEq, hB1.cell, hg2_11, GR]; rfl) ?_
    refine LD.qq rfl rfl (by simp only [EN, Nat.reduceEqDiff, reduceIte, qv_pick, pk_and, pk_or, GR, strEq, hB1.cell]; rfl) ?_
    refine LD.nil ?_
    rintro h2 hx2 hF2
    replace hx2 : Ext _ _ := hx2
    replace hs := hs.ext hx2
    replace ho := ho.ext hx2
    replace hB1 := hB1.ext hx2
    refine WL.nil ?_
    refine th_norm ?_
    refine hx_cond (by simp only [EN, Nat.reduceEqDiff, reduceIte, strEq, hB1.cell]; rfl) (fun hct18 => ?_) (fun hct18 => ?_)
    ·
      try simp only [BD] at hct18
      have hlt : t < l.length := (by have h9 := hct18; simp at h9; exact h9.1)
      have hcy : cmpA y x < 0 := (by have h9 := hct18; simp at h9; exact h9.2)
      refine hx_skip ?_
      refine th_norm ?_
      refine hx_block ?_
      refine hx_region ?_
      refine WL.qq (by simp only [EN, Nat.reduceEqDiff, reduceIte, qv_move, i5_0, strEq, hB1.cell]; rfl) ?_
      refine WL.qq (by simp only [EN, Nat.reduceEqDiff, reduceIte, qv_binOp, binv_add, strEq, hB1.cell]; (try simp (disch := omega) only [w64, w8, wu64]); rfl) ?_
      refine WL.qq (by simp only [EN, Nat.reduceEqDiff, reduceIte, qv_assign, strEq, hB1.cell]; rfl) ?_
      refine WL.nil ?_
      refine bl_norm ?_
      refine th_norm ?_
      refine ⟨rfl, ?_, ?_, _, ?_, t + 1, rfl, ?_, ?_, ?_⟩  -- again 0 of loop 0
      · exact hx2
      · (repeat (first | exact Fr.refl _ _ | refine Fr.set rfl ?_ | refine Fr.put rfl ?_ | with_reducible refine Fr.put0 ?_))
      · omega
      · omega
      · exact all_take (p := fun z => cmpA z x < 0) hlo (hq hlt).1 hcy
      · simp only [EN, Nat.reduceEqDiff, reduceIte, k0_0, k3_0, i5_0, strEq, hB1.cell] <;> first | rfl | (congr 1; omega)
    ·
      try simp only [BD] at hct18
      have hend : ∀ z, l[t]? = some z → ¬ cmpA z x < 0 := (fun z hz hh => by have hlt := (List.getElem?_eq_some_iff.1 hz).1; have h8 := (hq hlt).1; rw [h8] at hz; cases hz; rcases hct18 with h9 | h9; omega; exact h9 hh)
      have hins := insA_at hi hlo hend
      obtain ⟨y2, b2, o2, hq2⟩ : ∃ (y : AC) (b1 o1 : Nat), t < l.length → l[t]? = some y ∧ al = some ⟨b1, o1, none⟩ ∧ GL.readN h2 b1 (o1 + t * 3) 3 = some (acL y) := (by by_cases hlt : t < l.length; (obtain ⟨y, hy⟩ := atG hlt; obtain ⟨b1, o1, h1, h2⟩ := hs t y hy; exact ⟨y, b1, o1, fun _ => ⟨hy, h1, h2⟩⟩); exact ⟨x, 0, 0, fun hh => absurd hh hlt⟩)
      refine hx_exit ?_
      refine th_exit ?_
      refine th_exit ?_
      refine bl_hit ?_
      refine th_norm ?_
      refine hx_seq ?_
      refine hx_seq ?_
      apply hx_draw2 Rel.same [] [] [] rfl (by decide +kernel) rfl
      refine LD.qq rfl rfl (by simp only [EN, Nat.reduceEqDiff, reduceIte, qv_move, i5_0, strEq, hB1.cell]; rfl) ?_
      refine LD.qq rfl rfl (by simp only [EN, Nat.reduceEqDiff, reduceIte, qv_move, k0_0, strEq, hB1.cell]; rfl) ?_
      refine LD.qq rfl rfl (by simp only [EN, Nat.reduceEqDiff, reduceIte, qv_len, ln30, AR, strEq, hB1.cell]; rfl) ?_
      refine LD.qq rfl rfl (by simp only [EN, Nat.reduceEqDiff, reduceIte, qv_binOp, binv_lss, strEq, hB1.cell]; rfl) ?_
      refine LD.qq rfl rfl (by simp only [EN, Nat.reduceEqDiff, reduceIte, qv_move, strEq, hB1.cell]; rfl) ?_
      refine LD.cq rfl rfl (gd_at (t := 25) rfl (by simp only [EN, Nat.reduceEqDiff, reduceIte, k0_0, strEq, hB1.cell] <;> rfl)) (fun hg4_5 => by simp only [EN, Nat.reduceEqDiff, reduceIte, qv_move, k0_0, strEq, hB1.cell, hg4_5, GR]; rfl) ?_
      refine LD.cq rfl rfl (gd_at (t := 25) rfl (by simp only [EN, Nat.reduceEqDiff, reduceIte, i5_0, strEq, hB1.cell] <;> rfl)) (fun hg4_6 => by simp only [EN, Nat.reduceEqDiff, reduceIte, qv_move, i5_0, strEq, hB1.cell, hg4_6, GR]; rfl) ?_
      refine LD.cq rfl rfl (gd_at (t := 25) rfl (by simp only [EN, Nat.reduceEqDiff, reduceIte, strEq, hB1.cell] <;> rfl)) (fun hg4_7 => by have hlt : t < l.length := (by simpa using hg4_7); have hh9 := hq2 hlt; simp only [EN, Nat.reduceEqDiff, reduceIte, k0_0, k3_0, i5_0, strEq, hB1.cell, qv_indexAddr, hg4_7, hh9.2.1, if_true]; exact ix30 _ _ _ _ _ _ (by omega) (by omega)) ?_
      refine LD.cq rfl rfl (gd_at (t := 25) rfl (by simp only [EN, Nat.reduceEqDiff, reduceIte, strEq, hB1.cell] <;> rfl)) (fun hg4_8 => by have hlt : t < l.length := (by simpa using hg4_8); have hh9 := hq2 hlt; simp only [EN, Nat.reduceEqDiff, reduceIte, k0_0, k3_0, i5_0, strEq, hB1.cell, qv_load, ld24, hg4_8, Int.toNat_natCast, hh9.2.2, if_true]; rfl) ?_
      refine LD.cq rfl rfl (gd_at (t := 25) rfl (by simp only [EN, Nat.reduceEqDiff, reduceIte, k3_0, strEq, hB1.cell] <;> rfl)) (fun hg4_9 => by simp only [EN, Nat.reduceEqDiff, reduceIte, qv_load, ld24, readN, AR, Nat.zero_add, Nat.reduceAdd, k3_0, strEq, hB1.cell, hg4_9, GR]; rfl) ?_
      refine LD.cq rfl rfl (gd_at (t := 25) rfl (by simp only [EN, Nat.reduceEqDiff, reduceIte, strEq, hB1.cell] <;> rfl)) (fun hg4_10 => by simp only [EN, Nat.reduceEqDiff, reduceIte, qv_binOp, binv_eql, eqs24, Option.map_some, strEq, hB1.cell, hg4_10, GR]; rfl) ?_
      refine LD.qq rfl rfl (by simp only [EN, Nat.reduceEqDiff, reduceIte, qv_pick, pk_and, pk_or, GR, strEq, hB1.cell]; rfl) ?_
      refine LD.nil ?_
      rintro h2 rfl -
      refine WL.nil ?_
      refine th_norm ?_
      refine hx_cond (by simp only [EN, Nat.reduceEqDiff, reduceIte, strEq, hB1.cell]; rfl) (fun hct32 => ?_) (fun hct32 => ?_)
      ·
        try simp only [BD] at hct32
        refine hx_seq ?_
        refine hx_region ?_
        refine WL.qq (by simp only [EN, Nat.reduceEqDiff, reduceIte, qv_move, k0_0, strEq, hB1.cell]; rfl) ?_
        refine WL.qq (by simp only [EN, Nat.reduceEqDiff, reduceIte, qv_assign, strEq, hB1.cell]; rfl) ?_
        refine WL.nil ?_
        refine th_norm ?_
        refine hx_ret ?_
        refine th_ret ?_
        refine fin_ret [.tmp 4] rfl rfl (by simp only [EN, Nat.reduceEqDiff, reduceIte, resv, k0_0, k3_0, i5_0, strEq, hB1.cell]; rfl) ?_  -- ret 0 r5
        have hlt : t < l.length := (by have h9 := hct32; simp at h9; exact h9.1)
        have hyx : y2 = x := (by have h9 := hct32; simp at h9; exact ac_eq.2 ⟨h9.2.1, h9.2.2.1, h9.2.2.2⟩)
        rw [hins, if_pos (by rw [(hq2 hlt).1, hyx])]
        exact ⟨((hx1).trans ((hX0).trans (hx2))), ho⟩
      ·
        try simp only [BD] at hct32
        have hno : ¬ l[t]? = some x := (fun hh => by have hlt := (List.getElem?_eq_some_iff.1 hh).1; have h8 := (hq2 hlt).1; rw [hh] at h8; cases h8; simp [hlt] at hct32)
        rw [if_neg hno] at hins
        obtain ⟨M, hM⟩ : ∃ M, M = l.take t ++ x :: l.drop t := ⟨_, rfl⟩
        rw [← hM] at hins
        have hltk : (l.take t).length = t := (by rw [List.length_take]; omega)
        have hMl : M.length = l.length + 1 := (by rw [hM, List.length_append, List.length_cons, hltk, List.length_drop]; omega)
        have hM0 : M.take t = l.take t := (by rw [hM, List.take_append_of_le_length (by omega), List.take_of_length_le (by omega)])
        have hM1 : M.drop t = x :: l.drop t := (by rw [hM, List.drop_append_of_le_length (by omega), List.drop_of_length_le (by omega), List.nil_append])
        have hM2 : M.drop (t + 1) = l.drop t := (by rw [← List.drop_drop, hM1]; rfl)
        have hfA : ∀ z : AC, (acL z).length = 3 := fun _ => rfl
        have hT0 : (M.flatMap acL).take (t * 3) = (l.take t).flatMap acL := (by rw [flat_take hfA M t (by omega), hM0])
        have hT1 : ((M.flatMap acL).drop (t * 3)).take (1 * 3) = ([x] : List AC).flatMap acL := (by rw [flat_drop hfA M t (by omega), hM1, flat_take hfA _ 1 (by simp)]; rfl)
        have hT2 : ((M.flatMap acL).drop ((t + 1) * 3)).take ((l.length - t) * 3) = (l.drop t).flatMap acL := (by rw [flat_drop hfA M (t + 1) (by omega), hM2, flat_take hfA _ _ (by rw [List.length_drop]; omega), List.take_of_length_le (by rw [List.length_drop]; omega)])
        obtain ⟨a44, hsl44, hs44⟩ := sl_drop (P := Try.prog) Try.underlying30 sz24 hspot hs hcl hcz .i64 t hi
        have hXf := ((hx1).trans ((hX0).trans (hx2)))
        refine hx_skip ?_
        refine th_norm ?_
        refine hx_seq ?_
        apply hx_draw2R (Rel.apT (Array.size h2) tyA 3 (M.flatMap acL)) [] [0, 4, 6, 7, 11] [(0, Spec.ls (Array.size h2) #[] tyA 0), (4, Spec.ownZ (Array.size h2) tyA 3 t ((M.flatMap acL).take (t * 3))), (6, Spec.ls (Array.size h2) (acL x).toArray tyA 1), (7, Spec.own (Array.size h2) tyA 3 (t + 1) ((M.flatMap acL).take ((t + 1) * 3))), (11, Spec.own (Array.size h2) tyA 3 (l.length + 1) ((M.flatMap acL).take ((l.length + 1) * 3)))] rfl (by decide +kernel) rfl (apT_stable3 (Nat.le_refl 3))
        refine LD.es rfl rfl (by intro hD hr hf; replace hr : ApT _ _ _ _ _ _ := hr; have hX : Ext _ _ := apT_ext hr; have hB1 := hB1.ext hX; have hs := hs.ext hX; have hs44 := hs44.ext hX; exact (e_lit0 hX.size Try.underlying30 sz24).mono (fun _ _ hh => ⟨apT_of_ext hh.1, hh.2⟩)) ?_
        intro u6_0 w6_0
        obtain ⟨B30, hlt30, rfl⟩ := w6_0
        refine LD.qr rfl rfl (fun hD hr => by replace hr : ApT _ _ _ _ _ _ := hr; have hX : Ext _ _ := apT_ext hr; have hB1 := hB1.ext hX; have hs := hs.ext hX; have hs44 := hs44.ext hX; simp only [EN, Nat.reduceEqDiff, reduceIte, qv_move, k0_0, strEq, hB1.cell]; rfl) ?_
        refine LD.qr rfl rfl (fun hD hr => by replace hr : ApT _ _ _ _ _ _ := hr; have hX : Ext _ _ := apT_ext hr; have hB1 := hB1.ext hX; have hs := hs.ext hX; have hs44 := hs44.ext hX; simp only [EN, Nat.reduceEqDiff, reduceIte, qv_move, i5_0, strEq, hB1.cell]; rfl) ?_
        refine LD.qr rfl rfl (fun hD hr => by replace hr : ApT _ _ _ _ _ _ := hr; have hX : Ext _ _ := apT_ext hr; have hB1 := hB1.ext hX; have hs := hs.ext hX; have hs44 := hs44.ext hX; simp only [EN, Nat.reduceEqDiff, reduceIte, k0_0, k3_0, i5_0, strEq, hB1.cell, qv_slice, Option.map_some, Option.map_none]; rw [slicev_h Try.underlying30 sz24 al hspot l.length cl .i64 (t : Int) (by omega) (by omega), Int.toNat_natCast]) ?_
        refine LD.es rfl rfl (by intro hD hr hf; replace hr : ApT _ _ _ _ _ _ := hr; have hX : Ext _ _ := apT_ext hr; have hB1 := hB1.ext hX; have hs := hs.ext hX; have hs44 := hs44.ext hX; have hB30 := hf (0, .slice (some ⟨B30, 0, none⟩) 0 0) (by simp) (by show tb _ _ 0 = true; decide +kernel) _ rfl B30 rfl; exact (e_copyZ (f := acL) (L := l.take t) (bytes := 40) Try.underlying30 (inf_of Try.type24) rfl rfl rfl rfl (by decide) (fun _ => rfl) (by simp only [EN, Nat.reduceEqDiff, reduceIte, k0_0, k3_0, i5_0, strEq, hB1.cell]) hB30 hlt30 (by simp only [EN, Nat.reduceEqDiff, reduceIte, k0_0, k3_0, i5_0, strEq, hB1.cell]; rfl) hltk.symm (hs.pre t) (by simp only [maxLen]; omega) (by omega) hX.size).mono (fun _ _ hh => ⟨apT_of_ext hh.1, by have h8 := hh.2; rw [hltk, ← hT0] at h8; exact h8⟩)) ?_
        intro u6_4 w6_4
        obtain ⟨a31, c31, rfl, hz31⟩ := w6_4
        refine LD.qr rfl rfl (fun hD hr => by replace hr : ApT _ _ _ _ _ _ := hr; have hX : Ext _ _ := apT_ext hr; have hB1 := hB1.ext hX; have hs := hs.ext hX; have hs44 := hs44.ext hX; simp only [EN, Nat.reduceEqDiff, reduceIte, qv_load, ld24, readN, AR, Nat.zero_add, Nat.reduceAdd, k3_0, strEq, hB1.cell]; rfl) ?_
        refine LD.es rfl rfl (by intro hD hr hf; replace hr : ApT _ _ _ _ _ _ := hr; have hX : Ext _ _ := apT_ext hr; have hB1 := hB1.ext hX; have hs := hs.ext hX; have hs44 := hs44.ext hX; exact (e_lit1 hX.size Try.underlying30 sz24 zr24 (by decide) (by simp only [EN, Nat.reduceEqDiff, reduceIte, k0_0, k3_0, i5_0, strEq, hB1.cell, Value.cells] <;> rfl) rfl).mono (fun _ _ hh => ⟨apT_of_ext hh.1, hh.2⟩)) ?_
        intro u6_6 w6_6
        obtain ⟨B33, hlt33, rfl⟩ := w6_6
        refine LD.es rfl rfl (by intro hD hr hf; replace hr : ApT _ _ _ _ _ _ := hr; have hX : Ext _ _ := apT_ext hr; have hB1 := hB1.ext hX; have hs := hs.ext hX; have hs44 := hs44.ext hX; have ho31 := hf (4, .slice a31 t c31) (by simp) (by show tb _ _ 4 = true; decide +kernel) _ rfl; have hB33 := hf (6, .slice (some ⟨B33, 0, none⟩) 1 1) (by simp) (by show tb _ _ 6 = true; decide +kernel) _ rfl B33 rfl; exact e_appT (f := acL) (T := M.flatMap acL) (n := t) (m := 1) (M := [x]) (bytes := 40) Try.underlying30 (inf_of Try.type24) rfl rfl rfl rfl (by decide) (fun _ => rfl) acL_one (by simp only [EN, Nat.reduceEqDiff, reduceIte, k0_0, k3_0, i5_0, strEq, hB1.cell]) ho31 (by simp only [EN, Nat.reduceEqDiff, reduceIte, k0_0, k3_0, i5_0, strEq, hB1.cell]; rfl) rfl (slG_has (f := acL) (sz := 3) (L := [x]) (fun _ => rfl) hB33 rfl) hT1 (fun hh a cap hv => by cases hv; exact hz31 hh) (by simp only [maxLen]; omega) (by omega) hX.size) ?_
        intro u6_7 w6_7
        obtain ⟨a32, c32, rfl⟩ := w6_7
        refine LD.qr rfl rfl (fun hD hr => by replace hr : ApT _ _ _ _ _ _ := hr; have hX : Ext _ _ := apT_ext hr; have hB1 := hB1.ext hX; have hs := hs.ext hX; have hs44 := hs44.ext hX; simp only [EN, Nat.reduceEqDiff, reduceIte, qv_move, k0_0, strEq, hB1.cell]; rfl) ?_
        refine LD.qr rfl rfl (fun hD hr => by replace hr : ApT _ _ _ _ _ _ := hr; have hX : Ext _ _ := apT_ext hr; have hB1 := hB1.ext hX; have hs := hs.ext hX; have hs44 := hs44.ext hX; simp only [EN, Nat.reduceEqDiff, reduceIte, qv_move, i5_0, strEq, hB1.cell]; rfl) ?_
        refine LD.qr rfl rfl (fun hD hr => by replace hr : ApT _ _ _ _ _ _ := hr; have hX : Ext _ _ := apT_ext hr; have hB1 := hB1.ext hX; have hs := hs.ext hX; have hs44 := hs44.ext hX; simp only [EN, Nat.reduceEqDiff, reduceIte, k0_0, k3_0, i5_0, strEq, hB1.cell, qv_slice, Option.map_some, Option.map_none]; exact hsl44) ?_
        refine LD.es rfl rfl (by intro hD hr hf; replace hr : ApT _ _ _ _ _ _ := hr; have hX : Ext _ _ := apT_ext hr; have hB1 := hB1.ext hX; have hs := hs.ext hX; have hs44 := hs44.ext hX; have ho32 := hf (7, .slice a32 (t + 1) c32) (by simp) (by show tb _ _ 7 = true; decide +kernel) _ rfl; exact (e_appT (f := acL) (T := M.flatMap acL) (n := t + 1) (m := l.length - t) (M := l.drop t) (bytes := 40) Try.underlying30 (inf_of Try.type24) rfl rfl rfl rfl (by decide) (fun _ => rfl) acL_one (by simp only [EN, Nat.reduceEqDiff, reduceIte, k0_0, k3_0, i5_0, strEq, hB1.cell]) ho32 (by simp only [EN, Nat.reduceEqDiff, reduceIte, k0_0, k3_0, i5_0, strEq, hB1.cell]; rfl) (List.length_drop).symm hs44 hT2 (fun hh => by omega) (by simp only [maxLen]; omega) (by omega) hX.size).mono (fun _ _ hh => by rw [show t + 1 + (l.length - t) = l.length + 1 by omega] at hh; exact hh)) ?_
        intro u6_11 w6_11
        obtain ⟨a33, c33, rfl⟩ := w6_11
        refine LD.qr rfl rfl (fun hD hr => by replace hr : ApT _ _ _ _ _ _ := hr; have hX : Ext _ _ := apT_ext hr; have hB1 := hB1.ext hX; have hs := hs.ext hX; have hs44 := hs44.ext hX; simp only [EN, Nat.reduceEqDiff, reduceIte, qv_assign, strEq, hB1.cell]; rfl) ?_
        refine LD.nil ?_
        rintro h3 hr6 hF6
        have hx3 : Ext _ _ := apT_ext hr6
        replace hs := hs.ext hx3
        replace ho := ho.ext hx3
        replace hB1 := hB1.ext hx3
        have ho33 : Own h3 _ tyA 3 (.slice a33 (l.length + 1) c33) (l.length + 1) ((M.flatMap acL).take ((l.length + 1) * 3)) := hF6 (11, .slice a33 (l.length + 1) c33) (by simp) _ rfl
        rw [List.take_of_length_le (by rw [flat_len hfA]; omega), ← hMl] at ho33
        refine WL.nil ?_
        refine th_norm ?_
        refine hx_ret ?_
        refine fin_ret [.tmp 4] rfl rfl (by simp only [EN, Nat.reduceEqDiff, reduceIte, resv, k0_0, k3_0, i5_0, strEq, hB1.cell]; rfl) ?_  -- ret 1 r6
        rw [hins]
        exact ⟨((hx1).trans ((hX0).trans ((hx2).trans (hx3)))), by rw [← hMl]; exact ho33.base (by have := hXf.size; omega)⟩
end GL
set_option linter.unusedSimpArgs false
set_option linter.unusedVariables false
set_option linter.unnecessarySimpa false
namespace GL
open Go Go.Proofs
set_option maxRecDepth 8000
def rAcc (l : List PO) : List AC := l.foldl (fun s y => insA s y.c) []
theorem rAcc_step {l : List PO} {i : Nat} {y : PO} (h : l[i]? = some y) : rAcc (l.take (i + 1)) = insA (rAcc (l.take i)) y.c := by
  rw [List.take_add_one, h, rAcc, List.foldl_append]; rfl
theorem rAcc_app (l m : List PO) : rAcc (l ++ m) = m.foldl (fun s y => insA s y.c) (rAcc l) := by rw [rAcc, List.foldl_append]; rfl
theorem rAcc_snoc (l m : List PO) {j : Nat} {y : PO} (h : m[j]? = some y) : rAcc (l ++ m.take (j + 1)) = insA (rAcc (l ++ m.take j)) y.c := by
  rw [List.take_add_one, h, ← List.append_assoc, rAcc_app (l ++ m.take j)]; rfl
theorem rAcc_len (l : List PO) : (rAcc l).length ≤ l.length := by
  refine snoc_ind (p := fun l => (rAcc l).length ≤ l.length) (by simp [rAcc]) ?_ l
  intro l x ih
  have h1 : rAcc (l ++ [x]) = insA (rAcc l) x.c := by rw [rAcc_app]; rfl
  have h2 := insA_len (rAcc l) x.c
  rw [h1, List.length_append, List.length_singleton]
  omega
theorem insA_ne (l : List AC) (x : AC) : insA l x ≠ [] := by
  unfold insA
  split
  · rename_i h
    rintro rfl
    simp at h
  · simp
theorem insA_mem {l : List AC} {x z : AC} (h : z ∈ insA l x) : z = x ∨ z ∈ l := by
  unfold insA at h
  split at h
  · exact .inr h
  · rcases List.mem_append.1 h with h | h
    · exact .inr (List.mem_of_mem_take h)
    · rcases List.mem_cons.1 h with h | h
      · exact .inl h
      · exact .inr (List.mem_of_mem_drop h)
theorem rAcc_mem (l : List PO) : ∀ z ∈ rAcc l, ∃ y ∈ l, y.c = z := by
  refine snoc_ind (p := fun l => ∀ z ∈ rAcc l, ∃ y ∈ l, y.c = z) (fun z h => by cases h) ?_ l
  intro l x ih z hz
  have h1 : rAcc (l ++ [x]) = insA (rAcc l) x.c := by rw [rAcc_app]; rfl
  rw [h1] at hz
  rcases insA_mem hz with rfl | hz
  · exact ⟨x, by simp, rfl⟩
  · obtain ⟨y, hy, h2⟩ := ih z hz
    exact ⟨y, List.mem_append_left _ hy, h2⟩
set_option maxHeartbeats 2000000 in
theorem c_rAccs (a : Option Addr) (xs : List BX) (c : Nat) {l : List HB} (hxl : xs.map BX.bd = l) (hg : GS l) (has : ∀ y ∈ allP l, AS y.c) {h : Heap} (hs : SlG 4 bdL h a xs) (hb : BXs h xs) :
    HCalls Try.prog 15 #[.slice a xs.length c] h fun v h' => Ext h h' ∧ Own h' h.size tyA 3 v (rAcc (allP l)).length ((rAcc (allP l)).flatMap acL) ∧ (rAcc (allP l) = [] → v = .slice none 0 0) := by
  have hl : xs.length ≤ 12 := by have := hg.n; rw [← hxl, List.length_map] at this; exact this
  have ks := hs
  have kb := hb
  have hP12 := all_len hg.f hg.n
  refine hcalls2 Try.func15 rfl (by decide +kernel) (by simp only [Try.ntmps15]; exact of_decide_eq_true rfl) ?_
  intro e hin
  have e0 := hin 0 _ rfl
  refine hx_seq ?_
  refine hx_region ?_
  refine WL.qq (by simp only [EN, Nat.reduceEqDiff, reduceIte, qv_assign]; rfl) ?_
  refine WL.nil ?_
  refine th_norm ?_
  refine hx_seq ?_
  refine hx_region ?_
  refine WL.qq (by simp only [EN, Nat.reduceEqDiff, reduceIte, qv_assign]; rfl) ?_
  refine WL.nil ?_
  refine th_norm ?_
  refine hx_seq ?_
  refine hx_seq ?_
  refine hx_region ?_
  refine WL.qq (by simp only [EN, Nat.reduceEqDiff, reduceIte, qv_assign]; rfl) ?_
  refine WL.nil ?_
  refine th_norm ?_
  refine hx_block ?_
  refine hx_loopG [3, 4, 5, 6, 7, 8, 9, 10, 11, 12, 13, 14, 15, 16, 17, 18, 19, 20, 21, 22, 23, 24, 25, 26, 27, 28, 29, 30, 31, 32, 33, 34, 35, 36, 37, 38, 39, 40, 41, 42, 43, 44, 45] (fun k e hL0 => ∃ (i : Nat) (v : Value), xs.length - i = k ∧ (i ≤ xs.length) ∧ (Ext h hL0) ∧ (Own hL0 h.size tyA 3 v (rAcc (allP (l.take i))).length ((rAcc (allP (l.take i))).flatMap acL)) ∧ ((rAcc (allP (l.take i)) = [] → v = .slice none 0 0)) ∧ e 3 = v ∧ e 4 = .int .i64 i) _ ⟨0, .slice none 0 0, rfl, ?_, ?_, ?_, ?_, ?_, ?_⟩ ?_
  · omega
  · exact Ext.refl _
  · exact Own.nil
  · intro _; rfl
  · simp only [EN, Nat.reduceEqDiff, reduceIte, e0] <;> rfl
  · simp only [EN, Nat.reduceEqDiff, reduceIte, e0] <;> rfl
  ·
    rintro k e0L hL0 hfr0 ⟨i, v, rfl, hi, hX, ho, hn0, i3_0, i4_0⟩
    have k0_0 := hfr0 0 rfl; try simp only [EN, Nat.reduceEqDiff, reduceIte, e0] at k0_0
    refine hx_seq ?_
    refine hx_seq ?_
    refine hx_region ?_
    refine WL.qq (by simp only [EN, Nat.reduceEqDiff, reduceIte, qv_move, i4_0]; rfl) ?_
    refine WL.qq (by simp only [EN, Nat.reduceEqDiff, reduceIte, qv_move, k0_0]; rfl) ?_
    refine WL.qq (by simp only [EN, Nat.reduceEqDiff, reduceIte, qv_len, ln22, AR]; rfl) ?_
    refine WL.qq (by simp only [EN, Nat.reduceEqDiff, reduceIte, qv_binOp, binv_lss]; rfl) ?_
    refine WL.nil ?_
    refine th_norm ?_
    refine hx_cond (by simp only [EN, Nat.reduceEqDiff, reduceIte]; rfl) (fun hct11 => ?_) (fun hct11 => ?_)
    ·
      try simp only [BD] at hct11
      obtain ⟨x, hx⟩ := atG (l := xs) (i := i) (by omega)
      have hxb : l[i]? = some x.bd := (by rw [← hxl]; exact bd_at hx)
      have hxm : x.bd ∈ l := List.mem_of_getElem? hxb
      have hxl2 := (hg.f _ hxm).lens
      have hal := allP_step hxb
      refine hx_skip ?_
      refine th_norm ?_
      refine hx_seq ?_
      refine hx_block ?_
      refine hx_seq ?_
      refine hx_region ?_
      refine WL.qq (by simp only [EN, Nat.reduceEqDiff, reduceIte, qv_assign]; rfl) ?_
      refine WL.nil ?_
      refine th_norm ?_
      refine hx_block ?_
      refine hx_loopG [3, 5, 6, 7, 14, 15, 16, 17, 18, 19, 20, 21, 22, 23, 24, 25, 26, 27, 28, 29, 30, 31, 32, 33, 34, 35, 36, 37, 38, 39, 40, 41, 42, 43, 44, 45] (fun k e hL1 => ∃ (k2 : Nat) (v1 : Value), x.ps.length - k2 = k ∧ (k2 ≤ x.ps.length) ∧ (Ext h hL1) ∧ (Own hL1 h.size tyA 3 v1 (rAcc (allP (l.take i) ++ (pos x.bd).take (fl x k2))).length ((rAcc (allP (l.take i) ++ (pos x.bd).take (fl x k2))).flatMap acL)) ∧ ((rAcc (allP (l.take i) ++ (pos x.bd).take (fl x k2)) = [] → v1 = .slice none 0 0)) ∧ e 3 = v1 ∧ e 5 = .int .i64 k2) _ ⟨0, v, rfl, ?_, ?_, ?_, ?_, ?_, ?_⟩ ?_
      · omega
      · exact hX
      · rw [show fl x 0 = 0 from rfl, List.take_zero, List.append_nil]; exact ho
      · rw [show fl x 0 = 0 from rfl, List.take_zero, List.append_nil]; exact hn0
      · simp only [EN, Nat.reduceEqDiff, reduceIte, k0_0, i3_0, i4_0] <;> rfl
      · simp only [EN, Nat.reduceEqDiff, reduceIte, k0_0, i3_0, i4_0] <;> rfl
      ·
        rintro k e1L hL1 hfr1 ⟨k2, v1, rfl, hk2, hX1, ho1, hn1, i3_1, i5_1⟩
        have k0_1 := hfr1 0 rfl; try simp only [EN, Nat.reduceEqDiff, reduceIte, k0_0] at k0_1
        have k4_1 := hfr1 4 rfl; try simp only [EN, Nat.reduceEqDiff, reduceIte, i4_0] at k4_1
        obtain ⟨b, off, hae, _, _, _, _, hc3, _⟩ := bd_rd (ks.ext hX1) hx
        refine hx_seq ?_
        refine hx_seq ?_
        refine hx_region ?_
        refine WL.qq (by simp only [EN, Nat.reduceEqDiff, reduceIte, qv_move, i5_1]; rfl) ?_
        refine WL.qq (by simp only [EN, Nat.reduceEqDiff, reduceIte, qv_move, k0_1]; rfl) ?_
        refine WL.qq (by simp only [EN, Nat.reduceEqDiff, reduceIte, qv_move, k4_1]; rfl) ?_
        refine WL.qq (by simp only [EN, Nat.reduceEqDiff, reduceIte, qv_indexAddr, hae]; (try simp (disch := omega) only [ix22, Int.toNat_natCast]); rfl) ?_
        refine WL.qq (by simp only [EN, Nat.reduceEqDiff, reduceIte, qv_fieldAddr, fa45_3, Nat.zero_add, Nat.reduceAdd]; rfl) ?_
        refine WL.qq (by simp only [EN, Nat.reduceEqDiff, reduceIte, k0_1, k4_1, i3_1, i5_1, qv_load, ld43, Int.toNat_natCast, hc3]; rfl) ?_
        refine WL.qq (by simp only [EN, Nat.reduceEqDiff, reduceIte, qv_len, ln43, AR]; rfl) ?_
        refine WL.qq (by simp only [EN, Nat.reduceEqDiff, reduceIte, qv_binOp, binv_lss]; rfl) ?_
        refine WL.nil ?_
        refine th_norm ?_
        refine hx_cond (by simp only [EN, Nat.reduceEqDiff, reduceIte]; rfl) (fun hct21 => ?_) (fun hct21 => ?_)
        ·
          try simp only [BD] at hct21
          obtain ⟨y, hy⟩ := atG (l := x.ps) (i := k2) (by omega)
          have hxi := (kb x (List.mem_of_getElem? hx)).ext hX1
          obtain ⟨b2, off2, ha2, _, _, hp1⟩ := pt_rd hxi.1 hy
          have hyl := hxl2.2 y (List.mem_of_getElem? hy)
          refine hx_skip ?_
          refine th_norm ?_
          refine hx_seq ?_
          refine hx_block ?_
          refine hx_seq ?_
          refine hx_region ?_
          refine WL.qq (by simp only [EN, Nat.reduceEqDiff, reduceIte, qv_move, k0_1]; rfl) ?_
          refine WL.qq (by simp only [EN, Nat.reduceEqDiff, reduceIte, qv_move, k4_1]; rfl) ?_
          refine WL.qq (by simp only [EN, Nat.reduceEqDiff, reduceIte, qv_indexAddr, hae]; (try simp (disch := omega) only [ix22, Int.toNat_natCast]); rfl) ?_
          refine WL.qq (by simp only [EN, Nat.reduceEqDiff, reduceIte, qv_fieldAddr, fa45_3, Nat.zero_add, Nat.reduceAdd]; rfl) ?_
          refine WL.qq (by simp only [EN, Nat.reduceEqDiff, reduceIte, k0_1, k4_1, i3_1, i5_1, qv_load, ld43, Int.toNat_natCast, hc3]; rfl) ?_
          refine WL.qq (by simp only [EN, Nat.reduceEqDiff, reduceIte, qv_move, i5_1]; rfl) ?_
          refine WL.qq (by simp only [EN, Nat.reduceEqDiff, reduceIte, qv_indexAddr, ha2]; (try simp (disch := omega) only [ix43, Int.toNat_natCast]); rfl) ?_
          refine WL.qq (by simp only [EN, Nat.reduceEqDiff, reduceIte, qv_fieldAddr, fa79_1, Nat.zero_add, Nat.reduceAdd]; rfl) ?_
          refine WL.qq (by simp only [EN, Nat.reduceEqDiff, reduceIte, k0_1, k4_1, i3_1, i5_1, qv_load, ld77, Int.toNat_natCast, hp1]; rfl) ?_
          refine WL.qq (by simp only [EN, Nat.reduceEqDiff, reduceIte, qv_assign]; rfl) ?_
          refine WL.nil ?_
          refine th_norm ?_
          refine hx_seq ?_
          refine hx_region ?_
          refine WL.qq (by simp only [EN, Nat.reduceEqDiff, reduceIte, qv_assign]; rfl) ?_
          refine WL.nil ?_
          refine th_norm ?_
          refine hx_block ?_
          refine hx_loopG [3, 7, 33, 34, 35, 36, 37, 38, 39, 40, 41, 42, 43, 44, 45] (fun k e hL2 => ∃ (m2 : Nat) (v2 : Value), y.ps.length - m2 = k ∧ (m2 ≤ y.ps.length) ∧ (Ext h hL2) ∧ (Own hL2 h.size tyA 3 v2 (rAcc (allP (l.take i) ++ (pos x.bd).take (fl x k2 + m2))).length ((rAcc (allP (l.take i) ++ (pos x.bd).take (fl x k2 + m2))).flatMap acL)) ∧ ((rAcc (allP (l.take i) ++ (pos x.bd).take (fl x k2 + m2)) = [] → v2 = .slice none 0 0)) ∧ e 3 = v2 ∧ e 7 = .int .i64 m2) _ ⟨0, v1, rfl, ?_, ?_, ?_, ?_, ?_, ?_⟩ ?_
          · omega
          · exact hX1
          · exact ho1
          · exact hn1
          · simp only [EN, Nat.reduceEqDiff, reduceIte, k0_1, k4_1, i3_1, i5_1] <;> rfl
          · simp only [EN, Nat.reduceEqDiff, reduceIte, k0_1, k4_1, i3_1, i5_1] <;> rfl
          ·
            rintro k e2L hL2 hfr2 ⟨m2, v2, rfl, hm2, hX2, ho2, hn2, i3_2, i7_2⟩
            have k0_2 := hfr2 0 rfl; try simp only [EN, Nat.reduceEqDiff, reduceIte, k0_1] at k0_2
            have k4_2 := hfr2 4 rfl; try simp only [EN, Nat.reduceEqDiff, reduceIte, k4_1] at k4_2
            have k5_2 := hfr2 5 rfl; try simp only [EN, Nat.reduceEqDiff, reduceIte, i5_1] at k5_2
            have k6_2 := hfr2 6 rfl; try simp only [EN, Nat.reduceEqDiff, reduceIte] at k6_2
            refine hx_seq ?_
            refine hx_seq ?_
            refine hx_region ?_
            refine WL.qq (by simp only [EN, Nat.reduceEqDiff, reduceIte, qv_move, i7_2]; rfl) ?_
            refine WL.qq (by simp only [EN, Nat.reduceEqDiff, reduceIte, qv_move, k6_2]; rfl) ?_
            refine WL.qq (by simp only [EN, Nat.reduceEqDiff, reduceIte, qv_len, ln77, AR]; rfl) ?_
            refine WL.qq (by simp only [EN, Nat.reduceEqDiff, reduceIte, qv_binOp, binv_lss]; rfl) ?_
            refine WL.nil ?_
            refine th_norm ?_
            refine hx_cond (by simp only [EN, Nat.reduceEqDiff, reduceIte]; rfl) (fun hct36 => ?_) (fun hct36 => ?_)
            ·
              try simp only [BD] at hct36
              obtain ⟨z, hz⟩ := atG (l := y.ps) (i := m2) (by omega)
              have hyi : SlG 4 poL _ y.a y.ps := ((kb x (List.mem_of_getElem? hx)).ext hX2).2 y (List.mem_of_getElem? hy)
              obtain ⟨b3, off3, ha3, _, hr3, _⟩ := po_rd hyi hz
              have hzat := fl_at hy hz
              have hst := rAcc_snoc (allP (l.take i)) (pos x.bd) hzat
              have hzm : z ∈ allP l := mem_allP hxm (List.mem_of_getElem? hzat)
              have hsub : ∀ u ∈ rAcc (allP (l.take i) ++ (pos x.bd).take (fl x k2 + m2)), AS u := (fun u hu => by obtain ⟨w, hw, rfl⟩ := rAcc_mem _ u hu; rcases List.mem_append.1 hw with hw | hw; (obtain ⟨q, hq, hq2⟩ := List.mem_flatMap.1 hw; exact has w (mem_allP (List.mem_of_mem_take hq) hq2)); exact has w (mem_allP hxm (List.mem_of_mem_take hw)))
              have hlen : (rAcc (allP (l.take i) ++ (pos x.bd).take (fl x k2 + m2))).length ≤ 100000 := (by have h1 := rAcc_len (allP (l.take i) ++ (pos x.bd).take (fl x k2 + m2)); have h2 := all_len (l := l.take i) (fun b hb => hg.f b (List.mem_of_mem_take hb)) (by rw [List.length_take]; omega); have h3 := (hg.f _ hxm).pos; rw [List.length_append, List.length_take] at h1; omega)
              refine hx_skip ?_
              refine th_norm ?_
              refine hx_seq ?_
              refine hx_block ?_
              refine hx_region ?_
              refine WL.qq (by simp only [EN, Nat.reduceEqDiff, reduceIte, qv_move, i3_2]; rfl) ?_
              refine WL.qq (by simp only [EN, Nat.reduceEqDiff, reduceIte, qv_move, k6_2]; rfl) ?_
              refine WL.qq (by simp only [EN, Nat.reduceEqDiff, reduceIte, qv_move, i7_2]; rfl) ?_
              refine WL.qq (by simp only [EN, Nat.reduceEqDiff, reduceIte, qv_indexAddr, ha3]; (try simp (disch := omega) only [ix77, Int.toNat_natCast]); rfl) ?_
              refine WL.qq (by simp only [EN, Nat.reduceEqDiff, reduceIte, qv_fieldAddr, fa76_0, Nat.zero_add, Nat.reduceAdd]; rfl) ?_
              refine WL.qq (by simp only [EN, Nat.reduceEqDiff, reduceIte, k0_2, k4_2, k5_2, k6_2, i3_2, i7_2, qv_load, ld24, Int.toNat_natCast, hr3]; rfl) ?_
              refine WL.ce Try.call41 (by simp only [EN, Nat.reduceEqDiff, reduceIte, AR]; exact c_insert h.size v2 _ z.c hlen hsub (has z hzm) ho2 hX2.size) ?_
              rintro v40 h40 ⟨hx40, ho40⟩
              simp only [put_some]
              refine WL.qq (by simp only [EN, Nat.reduceEqDiff, reduceIte, qv_assign]; rfl) ?_
              refine WL.nil ?_
              refine bl_norm ?_
              refine th_norm ?_
              refine hx_region ?_
              refine WL.qq (by simp only [EN, Nat.reduceEqDiff, reduceIte, qv_move, i7_2]; rfl) ?_
              refine WL.qq (by simp only [EN, Nat.reduceEqDiff, reduceIte, qv_binOp, binv_add]; (try simp (disch := omega) only [w64, w8, wu64]); rfl) ?_
              refine WL.qq (by simp only [EN, Nat.reduceEqDiff, reduceIte, qv_assign]; rfl) ?_
              refine WL.nil ?_
              refine th_norm ?_
              refine ⟨rfl, ?_, _, ?_, m2 + 1, v40, rfl, ?_, ?_, ?_, ?_, ?_, ?_⟩  -- again 0 of loop 2
              · (repeat (first | exact Fr.refl _ _ | refine Fr.set rfl ?_ | refine Fr.put rfl ?_ | with_reducible refine Fr.put0 ?_))
              · omega
              · omega
              · exact hX2.trans hx40
              · rw [← Nat.add_assoc, hst]; exact ho40
              · rw [← Nat.add_assoc, hst]; intro hh; exact absurd hh (insA_ne _ _)
              · simp only [EN, Nat.reduceEqDiff, reduceIte, k0_2, k4_2, k5_2, k6_2, i3_2, i7_2] <;> first | rfl | (congr 1; omega)
              · simp only [EN, Nat.reduceEqDiff, reduceIte, k0_2, k4_2, k5_2, k6_2, i3_2, i7_2] <;> first | rfl | (congr 1; omega)
            ·
              try simp only [BD] at hct36
              have hfe : fl x (k2 + 1) = fl x k2 + m2 := (by rw [fl_step hy]; omega)
              refine hx_exit ?_
              refine th_exit ?_
              refine th_exit ?_
              refine bl_hit ?_
              refine bl_norm ?_
              refine th_norm ?_
              refine hx_region ?_
              refine WL.qq (by simp only [EN, Nat.reduceEqDiff, reduceIte, qv_move, k5_2]; rfl) ?_
              refine WL.qq (by simp only [EN, Nat.reduceEqDiff, reduceIte, qv_binOp, binv_add]; (try simp (disch := omega) only [w64, w8, wu64]); rfl) ?_
              refine WL.qq (by simp only [EN, Nat.reduceEqDiff, reduceIte, qv_assign]; rfl) ?_
              refine WL.nil ?_
              refine th_norm ?_
              refine ⟨rfl, ?_, _, ?_, k2 + 1, v2, rfl, ?_, ?_, ?_, ?_, ?_, ?_⟩  -- again 0 of loop 1
              · (repeat (first | exact Fr.refl _ _ | refine Fr.set rfl ?_ | refine Fr.put rfl ?_ | with_reducible refine Fr.put0 ?_ | refine Fr.trans ?_ (Fr.of hfr2 rfl)))
              · omega
              · omega
              · exact hX2
              · rw [hfe]; exact ho2
              · rw [hfe]; exact hn2
              · simp only [EN, Nat.reduceEqDiff, reduceIte, k0_2, k4_2, k5_2, k6_2, i3_2, i7_2] <;> first | rfl | (congr 1; omega)
              · simp only [EN, Nat.reduceEqDiff, reduceIte, k0_2, k4_2, k5_2, k6_2, i3_2, i7_2] <;> first | rfl | (congr 1; omega)
        ·
          try simp only [BD] at hct21
          have hfe : fl x k2 = (pos x.bd).length := fl_end (by omega)
          rw [hfe, List.take_length, ← hal] at ho1 hn1
          refine hx_exit ?_
          refine th_exit ?_
          refine th_exit ?_
          refine bl_hit ?_
          refine bl_norm ?_
          refine th_norm ?_
          refine hx_region ?_
          refine WL.qq (by simp only [EN, Nat.reduceEqDiff, reduceIte, qv_move, k4_1]; rfl) ?_
          refine WL.qq (by simp only [EN, Nat.reduceEqDiff, reduceIte, qv_binOp, binv_add]; (try simp (disch := omega) only [w64, w8, wu64]); rfl) ?_
          refine WL.qq (by simp only [EN, Nat.reduceEqDiff, reduceIte, qv_assign]; rfl) ?_
          refine WL.nil ?_
          refine th_norm ?_
          refine ⟨rfl, ?_, _, ?_, i + 1, v1, rfl, ?_, ?_, ?_, ?_, ?_, ?_⟩  -- again 0 of loop 0
          · (repeat (first | exact Fr.refl _ _ | refine Fr.set rfl ?_ | refine Fr.put rfl ?_ | with_reducible refine Fr.put0 ?_ | refine Fr.trans ?_ (Fr.of hfr1 rfl)))
          · omega
          · omega
          · exact hX1
          · exact ho1
          · exact hn1
          · simp only [EN, Nat.reduceEqDiff, reduceIte, k0_1, k4_1, i3_1, i5_1] <;> first | rfl | (congr 1; omega)
          · simp only [EN, Nat.reduceEqDiff, reduceIte, k0_1, k4_1, i3_1, i5_1] <;> first | rfl | (congr 1; omega)
    ·
      try simp only [BD] at hct11
      have hie : l.take i = l := List.take_of_length_le (by rw [← hxl, List.length_map]; omega)
      rw [hie] at ho hn0
      refine hx_exit ?_
      refine th_exit ?_
      refine th_exit ?_
      refine bl_hit ?_
      refine th_norm ?_
      refine hx_seq ?_
      refine hx_region ?_
      refine WL.qq (by simp only [EN, Nat.reduceEqDiff, reduceIte, qv_move, i3_0]; rfl) ?_
      refine WL.qq (by simp only [EN, Nat.reduceEqDiff, reduceIte, qv_assign]; rfl) ?_
      refine WL.nil ?_
      refine th_norm ?_
      refine hx_ret ?_
      refine fin_ret [.tmp 2] rfl rfl (by simp only [EN, Nat.reduceEqDiff, reduceIte, resv, k0_0, i3_0, i4_0]; rfl) ?_  -- ret 0 r13
      exact ⟨hX, ho, hn0⟩
end GL
set_option linter.unusedSimpArgs false
set_option linter.unusedVariables false
set_option linter.unnecessarySimpa false
namespace GL
open Go Go.Proofs
set_option maxRecDepth 8000
theorem tw_take {α : Type} (p : α → Bool) (l : List α) : l.take (l.takeWhile p).length = l.takeWhile p := by
  calc l.take (l.takeWhile p).length = (l.takeWhile p ++ l.dropWhile p).take (l.takeWhile p).length := by rw [List.takeWhile_append_dropWhile]
    _ = _ := List.take_left
theorem tw_drop {α : Type} (p : α → Bool) (l : List α) : l.drop (l.takeWhile p).length = l.dropWhile p := by
  calc l.drop (l.takeWhile p).length = (l.takeWhile p ++ l.dropWhile p).drop (l.takeWhile p).length := by rw [List.takeWhile_append_dropWhile]
    _ = _ := List.drop_left
theorem tw_all {α : Type} {p : α → Bool} : ∀ {l : List α}, ∀ y ∈ l.takeWhile p, p y = true
  | [], y, h => by cases h
  | a :: l, y, h => by
    rw [List.takeWhile_cons] at h
    split at h
    · rcases List.mem_cons.1 h with rfl | h
      · assumption
      · exact tw_all y h
    · cases h
theorem dw_hd {α : Type} {p : α → Bool} : ∀ {l : List α} {y : α} {r : List α}, l.dropWhile p = y :: r → p y = false
  | [], y, r, h => by cases h
  | a :: l, y, r, h => by
    rw [List.dropWhile_cons] at h
    split at h
    · exact dw_hd h
    · cases h; rename_i hp; simpa using hp
theorem insA_sorted {l : List AC} (hl : l.Pairwise aLt) (x : AC) : (insA l x).Pairwise aLt := by
  unfold insA
  split
  · exact hl
  rename_i hne
  rw [tw_take, tw_drop]
  have hsp : l.takeWhile (fun y => decide (cmpA y x < 0)) ++ l.dropWhile (fun y => decide (cmpA y x < 0)) = l := List.takeWhile_append_dropWhile
  have hp := hl
  rw [← hsp, List.pairwise_append] at hp
  obtain ⟨h1, h2, h3⟩ := hp
  have h4 : ∀ y ∈ l.takeWhile (fun y => decide (cmpA y x < 0)), aLt y x := fun y hy => cmpA_lt.1 (of_decide_eq_true (tw_all (p := fun y => decide (cmpA y x < 0)) y hy))
  have h5 : ∀ y ∈ l.dropWhile (fun y => decide (cmpA y x < 0)), aLt x y := by
    cases hd : l.dropWhile (fun y => decide (cmpA y x < 0)) with
    | nil => intro y hy; cases hy
    | cons b r =>
      have hb := dw_hd hd
      have hb1 : ¬ aLt b x := fun hh => by have := cmpA_lt.2 hh; simp at hb; omega
      have hb2 : b ≠ x := fun hh => hne (by
        have h6 := tw_drop (fun y => decide (cmpA y x < 0)) l
        rw [hd] at h6
        have h7 := congrArg (fun l => l[0]?) h6
        simp only [List.getElem?_drop, Nat.add_zero, List.getElem?_cons_zero] at h7
        rw [h7, hh])
      have hb3 : aLt x b := by
        by_cases h : aLt x b
        · exact h
        · exact absurd (aLt_tri hb1 h) hb2
      rw [hd] at h2
      intro y hy
      rcases List.mem_cons.1 hy with rfl | hy
      · exact hb3
      · exact aLt_trans hb3 ((List.pairwise_cons.1 h2).1 y hy)
  rw [List.pairwise_append, List.pairwise_cons]
  refine ⟨h1, ⟨h5, h2⟩, fun a ha b hb => ?_⟩
  rcases List.mem_cons.1 hb with rfl | hb
  · exact h4 a ha
  · exact h3 a ha b hb
theorem insA_iff {l : List AC} {x z : AC} : z ∈ insA l x ↔ z = x ∨ z ∈ l := by
  refine ⟨insA_mem, fun h => ?_⟩
  unfold insA
  split
  · rename_i hx
    rcases h with rfl | h
    · exact List.mem_of_getElem? hx
    · exact h
  · rw [tw_take, tw_drop]
    rcases h with rfl | h
    · simp
    · rw [← List.takeWhile_append_dropWhile (p := fun y => decide (cmpA y x < 0)) (l := l)] at h
      rcases List.mem_append.1 h with h | h
      · exact List.mem_append_left _ h
      · exact List.mem_append_right _ (List.mem_cons_of_mem _ h)
theorem rAcc_snoc1 (l : List PO) (y : PO) : rAcc (l ++ [y]) = insA (rAcc l) y.c := by rw [rAcc_app]; rfl
theorem rAcc_sorted (l : List PO) : (rAcc l).Pairwise aLt :=
  snoc_ind (p := fun l => (rAcc l).Pairwise aLt) List.Pairwise.nil (fun l y ih => by rw [rAcc_snoc1]; exact insA_sorted ih _) l
theorem rAcc_iff (q : AC) (l : List PO) : q ∈ rAcc l ↔ ∃ y ∈ l, y.c = q := by
  refine snoc_ind (p := fun l => q ∈ rAcc l ↔ ∃ y ∈ l, y.c = q) (by simp [rAcc]) (fun l y ih => ?_) l
  rw [rAcc_snoc1, insA_iff, ih]
  constructor
  · rintro (rfl | ⟨z, hz, rfl⟩)
    · exact ⟨y, by simp, rfl⟩
    · exact ⟨z, by simp [hz], rfl⟩
  · rintro ⟨z, hz, rfl⟩
    rcases List.mem_append.1 hz with hz | hz
    · exact .inr ⟨z, hz, rfl⟩
    · simp at hz; subst hz; exact .inl rfl
theorem rAcc_nd (l : List PO) : (rAcc l).Nodup := (rAcc_sorted l).imp fun {a b} h hh => by subst hh; exact aLt_irrefl _ h
/-- Two lists in strict order with the same members are one. -/
theorem srt_eq : ∀ {l m : List AC}, l.Pairwise aLt → m.Pairwise aLt → (∀ q, q ∈ l ↔ q ∈ m) → l = m
  | [], [], _, _, _ => rfl
  | [], b :: m, _, _, h => by have := (h b).2 (by simp); cases this
  | a :: l, [], _, _, h => by have := (h a).1 (by simp); cases this
  | a :: l, b :: m, h1, h2, h => by
    rw [List.pairwise_cons] at h1 h2
    have hab : a = b := by
      have ha := (h a).1 (by simp)
      have hb := (h b).2 (by simp)
      rcases List.mem_cons.1 ha with e | ha
      · exact e
      rcases List.mem_cons.1 hb with e | hb
      · exact e.symm
      exact absurd (aLt_trans (h1.1 b hb) (h2.1 a ha)) (aLt_irrefl _)
    subst hab
    congr 1
    refine srt_eq h1.2 h2.2 fun q => ?_
    have hq := h q
    simp only [List.mem_cons] at hq
    constructor
    · intro h5
      rcases hq.1 (.inr h5) with e | h6
      · subst e; exact absurd (h1.1 _ h5) (aLt_irrefl _)
      · exact h6
    · intro h5
      rcases hq.2 (.inr h5) with e | h6
      · subst e; exact absurd (h2.1 _ h5) (aLt_irrefl _)
      · exact h6
/-- Sorted keys of the postings are the reference's accounts. -/
theorem acc_eq {s : List AC} {P : List PO} {K : List AC} (hs : s.Perm K) (hsrt : s.Pairwise fun x y => ¬ aLt y x) (hnd : K.Nodup) (hk : ∀ q, q ∈ K ↔ ∃ y ∈ P, y.c = q) : s = rAcc P := by
  have hn : s.Nodup := hs.nodup_iff.2 hnd
  refine srt_eq ?_ (rAcc_sorted P) fun q => by rw [rAcc_iff, ← hk, hs.mem_iff]
  have h2 : s.Pairwise fun x y => ¬ aLt y x ∧ x ≠ y := List.Pairwise.and hsrt hn
  refine h2.imp fun {a b} h => ?_
  by_cases h3 : aLt a b
  · exact h3
  · exact absurd (aLt_tri h3 h.1) h.2
/-! Conservation. -/
theorem sum_one (a : ByteArray) (x : AC) (v : Int) : ∀ {A : List AC}, A.Nodup → sumF (fun q => if q.a = a then (if x = q then v else 0) else 0) A = if x ∈ A ∧ x.a = a then v else 0
  | [], _ => by simp [sumF]
  | b :: A, hn => by
    rw [List.nodup_cons] at hn
    simp only [sumF]
    rw [sum_one a x v hn.2]
    by_cases hxb : x = b
    · subst hxb
      by_cases hxa : x.a = a
      · simp [hxa, hn.1]
      · simp [hxa]
    · simp [hxb]
theorem sum_acc (a : ByteArray) {A : List AC} (hn : A.Nodup) : ∀ {P : List PO}, (∀ y ∈ P, y.c ∈ A) → sumF (fun q => if q.a = a then dS q P else 0) A = aS a P
  | [], _ => by rw [aS_nil]; exact sumF_zero fun x _ => by simp [dS_nil]
  | y :: P, hP => by
    have h1 := sum_acc a hn (P := P) fun z hz => hP z (by simp [hz])
    have h2 := sum_one a y.c y.d hn
    simp only [hP y (List.mem_cons_self ..), true_and] at h2
    have h3 : aS a (y :: P) = (if y.c.a = a then y.d else 0) + aS a P := rfl
    rw [h3, ← h1, ← h2, ← sumF_add]
    refine sumF_congr fun q _ => ?_
    have h4 : dS q (y :: P) = (if y.c = q then y.d else 0) + dS q P := rfl
    rw [h4]
    split <;> omega
theorem aS_part {p : PT} (h : ptE p = 0) (a : ByteArray) : aS a p.ps = 0 := by
  by_cases hx : ∃ x ∈ p.ps, x.c.a = a
  · obtain ⟨x, hx, rfl⟩ := hx
    exact (ptE_zero h).2.2.2 x hx
  · exact sumF_zero fun x hm => if_neg fun hh => hx ⟨x, hm, hh⟩
theorem aS_parts (a : ByteArray) : ∀ {L : List PT}, (∀ p ∈ L, ptE p = 0) → aS a (L.flatMap PT.ps) = 0
  | [], _ => rfl
  | p :: L, h => by
    rw [List.flatMap_cons, aS_app, aS_part (h p (by simp)), aS_parts a fun q hq => h q (by simp [hq])]; rfl
theorem aS_all (a : ByteArray) : ∀ {l : List HB}, (∀ b ∈ l, ∀ p ∈ b.pts, ptE p = 0) → aS a (allP l) = 0
  | [], _ => rfl
  | b :: l, h => by
    have h1 : allP (b :: l) = pos b ++ allP l := List.flatMap_cons
    rw [h1, aS_app, aS_all a fun c hc => h c (by simp [hc])]
    unfold pos
    rw [aS_parts a (h b (by simp))]; rfl
theorem take_ge {α : Type} {l : List α} {n : Nat} (h : l.length ≤ n) : l.take (n + 1) = l.take n := by rw [List.take_of_length_le h, List.take_of_length_le (by omega)]
theorem GH.rng {l : List HB} (hl : GH l) (q : AC) : ∀ n, GL.inR (dS q (allP (l.take n)))
  | 0 => by show GL.inR (dS q (allP [])); simp [allP, dS_nil, GL.inR]
  | n + 1 => by
    by_cases hn : n < l.length
    · obtain ⟨b, hb⟩ := atG hn
      rw [allP_step hb]
      by_cases hx : ∃ x ∈ pos b, x.c = q
      · obtain ⟨x, hx, rfl⟩ := hx
        have h1 := (bdE_zero (hl n b hb)).2.2.2.2.2 x hx
        rw [allP_app, allP_one] at h1
        exact h1
      · rw [dS_app, dS_none hx, Int.add_zero]
        exact GH.rng hl q n
    · rw [take_ge (by omega)]
      exact GH.rng hl q n
theorem mem_take_all {l : List HB} {n : Nat} {y : PO} (h : y ∈ allP (l.take n)) : y ∈ allP l := by
  obtain ⟨b, hb, hq⟩ := List.mem_flatMap.1 h
  exact List.mem_flatMap.2 ⟨b, List.mem_of_mem_take hb, hq⟩
/-- The balances of the accounts of an asset add up to 0. -/
theorem cons_all {l : List HB} (hl : GH l) (a : ByteArray) (n : Nat) : sumF (fun q => if q.a = a then dS q (allP (l.take n)) else 0) (rAcc (allP l)) = 0 := by
  rw [sum_acc a (rAcc_nd _) fun y hy => (rAcc_iff _ _).2 ⟨y, mem_take_all hy, rfl⟩]
  exact aS_all a fun b hb => (hl.take n).mem hb
end GL


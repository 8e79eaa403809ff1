/- The law HistoryConservation returns true: after every bundle, the balances of all accounts of an asset add up to 0, and none exceeds the limit. No condition beyond the row's own. -/
import Derived.Test.YtklhfckdifkpaaaRows
import Derived.Test.YtklhfckdifkpaaaHisO
import Derived.Test.YtklhfckdifkpaaaHisS
import Derived.Test.YtklhfckdifkpaaaHisV
set_option linter.unusedSimpArgs false
set_option linter.unusedVariables false
set_option linter.unnecessarySimpa false
namespace GL
open Go Go.Proofs
set_option maxRecDepth 8000
def ca (l : List HB) (n : Nat) (a : ByteArray) (q : AC) : Int := if q.a = a then dS q (allP (l.take n)) else 0
theorem ca_bd {l : List HB} (hl : GH l) (n : Nat) (a : ByteArray) (A : List AC) (k : Nat) (hA : A.length ≤ 1152) : -1152000000000000000 ≤ sumF (ca l n a) (A.take k) ∧ sumF (ca l n a) (A.take k) ≤ 1152000000000000000 := by
  have h1 := sumF_bound (f := ca l n a) (l := A.take k) (B := MA) fun q _ => by
    have := hl.rng q n
    simp only [inR, MA] at this
    unfold ca
    simp only [MA]
    split <;> omega
  have h2 : (A.take k).length ≤ 1152 := by rw [List.length_take]; omega
  simp only [MA] at h1
  omega
theorem ca_bal {l : List HB} (hl : GH l) {n : Nat} (hn : n ≤ l.length) (q : AC) : balA l q (n : Int) = dS q (allP (l.take n)) ∧ balE l (n : Int) = 0 ∧ inR (dS q (allP (l.take n))) := by
  unfold balA balE
  rw [if_pos ⟨by omega, by omega⟩, if_pos ⟨by omega, by omega⟩, Int.toNat_natCast]
  exact ⟨rfl, rfl, hl.rng q n⟩
set_option maxHeartbeats 2000000 in
theorem l_con (al : Option Addr) (L : List BX) (cl : Nat) {h : Heap} (hs : SlG 4 bdL h al L) (hb : BXs h L) (ll : L.length ≤ 9223372036854775807) :
    HCalls Try.prog 9 #[.slice al L.length cl] h (Grow (.bool true) h) := by
  refine hcalls2 Try.func9 rfl (by decide +kernel) (by simp only [Try.ntmps9]; exact of_decide_eq_true rfl) ?_
  intro e hin
  have e0 := hin 0 _ rfl
  refine hx_seq ?_
  refine hx_region ?_
  refine WL.qq (by simp only [EN, Nat.reduceEqDiff, reduceIte, qv_assign, decide_true, Bool.not_true, Bool.not_false, decide_false, eq_self, strEq]; rfl) ?_
  refine WL.nil ?_
  refine th_norm ?_
  refine hx_seq ?_
  refine hx_seq ?_
  refine hx_region ?_
  refine WL.qq (by simp only [EN, Nat.reduceEqDiff, reduceIte, qv_move, e0, decide_true, Bool.not_true, Bool.not_false, decide_false, eq_self, strEq]; rfl) ?_
  refine WL.ck Try.call12 (by simp only [EN, Nat.reduceEqDiff, reduceIte, AR, decide_true, Bool.not_true, Bool.not_false, decide_false, eq_self, strEq]; exact c_few al L cl ll hs hb) ?_
  refine WL.qq (by simp only [EN, Nat.reduceEqDiff, reduceIte, qv_unOp, unv_not, decide_true, Bool.not_true, Bool.not_false, decide_false, eq_self, strEq]; rfl) ?_
  refine WL.nil ?_
  refine th_norm ?_
  refine hx_cond (by simp only [EN, Nat.reduceEqDiff, reduceIte, decide_true, Bool.not_true, Bool.not_false, decide_false, eq_self, strEq]; rfl) (fun hct14 => ?_) (fun hct14 => ?_)
  ·
    try simp only [BD] at hct14
    refine hx_seq ?_
    refine hx_region ?_
    refine WL.cg Try.call13 (by simp only [EN, Nat.reduceEqDiff, reduceIte, AR, decide_true, Bool.not_true, Bool.not_false, decide_false, eq_self, strEq]; exact c_known14 _) ?_
    intro h1 hx1
    replace hs := hs.ext hx1
    replace hb := hb.ext hx1
    refine WL.qq (by simp only [EN, Nat.reduceEqDiff, reduceIte, qv_assign, decide_true, Bool.not_true, Bool.not_false, decide_false, eq_self, strEq]; rfl) ?_
    refine WL.nil ?_
    refine th_norm ?_
    refine hx_ret ?_
    refine th_ret ?_
    refine fin_ret [.tmp 2] rfl rfl (by simp only [EN, Nat.reduceEqDiff, reduceIte, resv, e0, decide_true, Bool.not_true, Bool.not_false, decide_false, eq_self, strEq]; rfl) ?_  -- ret 0 r2
    exact ⟨rfl, (hx1)⟩
  ·
    try simp only [BD] at hct14
    have hF : FW L := (by simpa using hct14)
    refine hx_skip ?_
    refine th_norm ?_
    refine hx_seq ?_
    refine hx_region ?_
    refine WL.qq (by simp only [EN, Nat.reduceEqDiff, reduceIte, qv_move, e0, decide_true, Bool.not_true, Bool.not_false, decide_false, eq_self, strEq]; rfl) ?_
    refine WL.ce Try.call14 (by simp only [EN, Nat.reduceEqDiff, reduceIte, AR, decide_true, Bool.not_true, Bool.not_false, decide_false, eq_self, strEq]; exact c_build al L cl hF hs hb) ?_
    rintro _ h2 ⟨hx2, p, a, c, xs, rfl, hS⟩
    replace hs := hs.ext hx2
    replace hb := hb.ext hx2
    simp only [put_some]
    refine WL.qq (by simp only [EN, Nat.reduceEqDiff, reduceIte, qv_move, decide_true, Bool.not_true, Bool.not_false, decide_false, eq_self, strEq]; rfl) ?_
    refine WL.qq (by simp only [EN, Nat.reduceEqDiff, reduceIte, qv_extract, AR, decide_true, Bool.not_true, Bool.not_false, decide_false, eq_self, strEq]; rfl) ?_
    refine WL.qq (by simp only [EN, Nat.reduceEqDiff, reduceIte, qv_extract, AR, decide_true, Bool.not_true, Bool.not_false, decide_false, eq_self, strEq]; rfl) ?_
    refine WL.qq (by simp only [EN, Nat.reduceEqDiff, reduceIte, qv_assign, decide_true, Bool.not_true, Bool.not_false, decide_false, eq_self, strEq]; rfl) ?_
    refine WL.qq (by simp only [EN, Nat.reduceEqDiff, reduceIte, qv_assign, decide_true, Bool.not_true, Bool.not_false, decide_false, eq_self, strEq]; rfl) ?_
    refine WL.nil ?_
    refine th_norm ?_
    refine hx_seq ?_
    refine hx_seq ?_
    refine hx_region ?_
    have hn12 : xs.length ≤ 12 := (by have := hS.n; omega)
    have hn13 : xs.length = (runB (L.map BX.bd)).length := (by rw [← hS.m, List.length_map])
    have hAl := all_len hS.g.f hS.g.n; have hRl := rAcc_len (allP (runB (L.map BX.bd))); have hcon := cons_all hS.g.g; have hcb := (fun (n : Nat) => ca_bal (n := n) hS.g.g); have hcd := ca_bd hS.g.g
    refine WL.qq (by simp only [EN, Nat.reduceEqDiff, reduceIte, qv_move, decide_true, Bool.not_true, Bool.not_false, decide_false, eq_self, strEq]; rfl) ?_
    refine WL.qq (by simp only [EN, Nat.reduceEqDiff, reduceIte, qv_binOp, binv_eql, eqz27, eqn27, eqm27, Option.map_some, decide_true, Bool.not_true, Bool.not_false, decide_false, eq_self, strEq]; rfl) ?_
    refine WL.nil ?_
    refine th_norm ?_
    refine hx_cond (by simp only [EN, Nat.reduceEqDiff, reduceIte, decide_true, Bool.not_true, Bool.not_false, decide_false, eq_self, strEq]; rfl) (fun hct22 => ?_) (fun hct22 => ?_)
    ·
      simp at hct22
    ·
      try simp only [BD] at hct22
      refine hx_skip ?_
      refine th_norm ?_
      refine hx_seq ?_
      refine hx_region ?_
      refine WL.qq (by simp only [EN, Nat.reduceEqDiff, reduceIte, qv_move, decide_true, Bool.not_true, Bool.not_false, decide_false, eq_self, strEq]; rfl) ?_
      refine WL.ce Try.call36 (by simp only [EN, Nat.reduceEqDiff, reduceIte, AR, decide_true, Bool.not_true, Bool.not_false, decide_false, eq_self, strEq]; exact c_accs hS.g hS.I.hr) ?_
      rintro _ h3 ⟨hx3, ho⟩
      replace hs := hs.ext hx3
      replace hb := hb.ext hx3
      replace hS := hS.ext hx3
      simp only [put_some]
      obtain ⟨aA, cA, rfl, hleA, _, _⟩ := ho.shape
      have hsA := slG_own (f := acL) (sz := 3) (fun _ => rfl) ho rfl
      obtain ⟨A, hAe⟩ : ∃ A, A = rAcc (allP (runB (L.map BX.bd))) := ⟨_, rfl⟩
      rw [← hAe] at hRl hsA hcon ⊢
      refine WL.qq (by simp only [EN, Nat.reduceEqDiff, reduceIte, qv_assign, decide_true, Bool.not_true, Bool.not_false, decide_false, eq_self, strEq]; rfl) ?_
      refine WL.nil ?_
      refine th_norm ?_
      refine hx_seq ?_
      refine hx_seq ?_
      refine hx_region ?_
      refine WL.qq (by simp only [EN, Nat.reduceEqDiff, reduceIte, qv_assign, decide_true, Bool.not_true, Bool.not_false, decide_false, eq_self, strEq]; rfl) ?_
      refine WL.nil ?_
      refine th_norm ?_
      refine hx_block ?_
      refine hx_loopX [2, 6, 7, 8, 9, 10, 11, 25, 26, 27, 28, 29, 30, 31, 32, 33, 34, 35, 36, 37, 38, 39, 40, 41, 42, 43, 44, 45, 46, 47, 48, 49, 50, 51, 52, 53, 54, 55, 56, 57, 58, 59, 60, 61, 62, 63, 64, 65, 66, 67, 68, 69, 70, 71, 72, 73, 74, 75, 76, 77, 78] (fun k e => ∃ (n : Nat), xs.length + 1 - n = k ∧ (n ≤ xs.length + 1) ∧ e 6 = .int .i64 n) _ ⟨0, rfl, ?_, ?_⟩ ?_
      · omega
      · simp only [EN, Nat.reduceEqDiff, reduceIte, e0, decide_true, Bool.not_true, Bool.not_false, decide_false, eq_self, strEq] <;> rfl
      ·
        rintro k e0L hL0 hX0 hfr0 ⟨n, rfl, hn, i6_0⟩
        replace hs := hs.ext hX0
        replace hb := hb.ext hX0
        replace hS := hS.ext hX0
        replace hsA := hsA.ext hX0
        have k3_0 := hfr0 3 rfl; try simp only [EN, Nat.reduceEqDiff, reduceIte, decide_true, Bool.not_true, Bool.not_false, decide_false, eq_self, strEq] at k3_0
        have k4_0 := hfr0 4 rfl; try simp only [EN, Nat.reduceEqDiff, reduceIte, decide_true, Bool.not_true, Bool.not_false, decide_false, eq_self, strEq] at k4_0
        have k5_0 := hfr0 5 rfl; try simp only [EN, Nat.reduceEqDiff, reduceIte, decide_true, Bool.not_true, Bool.not_false, decide_false, eq_self, strEq] at k5_0
        refine hx_seq ?_
        refine hx_seq ?_
        refine hx_region ?_
        refine WL.qq (by simp only [EN, Nat.reduceEqDiff, reduceIte, qv_move, i6_0, decide_true, Bool.not_true, Bool.not_false, decide_false, eq_self, strEq]; rfl) ?_
        refine WL.qq (by simp only [EN, Nat.reduceEqDiff, reduceIte, qv_move, k4_0, decide_true, Bool.not_true, Bool.not_false, decide_false, eq_self, strEq]; rfl) ?_
        refine WL.qq (by simp only [EN, Nat.reduceEqDiff, reduceIte, qv_len, ln22, AR, decide_true, Bool.not_true, Bool.not_false, decide_false, eq_self, strEq]; rfl) ?_
        refine WL.qq (by simp only [EN, Nat.reduceEqDiff, reduceIte, qv_binOp, binv_leq, decide_true, Bool.not_true, Bool.not_false, decide_false, eq_self, strEq]; rfl) ?_
        refine WL.nil ?_
        refine th_norm ?_
        refine hx_cond (by simp only [EN, Nat.reduceEqDiff, reduceIte, decide_true, Bool.not_true, Bool.not_false, decide_false, eq_self, strEq]; rfl) (fun hct28 => ?_) (fun hct28 => ?_)
        ·
          try simp only [BD] at hct28
          refine hx_skip ?_
          refine th_norm ?_
          refine hx_seq ?_
          refine hx_block ?_
          refine hx_seq ?_
          refine hx_region ?_
          refine WL.qq (by simp only [EN, Nat.reduceEqDiff, reduceIte, qv_assign, decide_true, Bool.not_true, Bool.not_false, decide_false, eq_self, strEq]; rfl) ?_
          refine WL.nil ?_
          refine th_norm ?_
          refine hx_block ?_
          refine hx_loopX [2, 7, 8, 9, 10, 11, 31, 32, 33, 34, 35, 36, 37, 38, 39, 40, 41, 42, 43, 44, 45, 46, 47, 48, 49, 50, 51, 52, 53, 54, 55, 56, 57, 58, 59, 60, 61, 62, 63, 64, 65, 66, 67, 68, 69, 70, 71, 72, 73, 74, 75, 76, 77, 78] (fun k e => ∃ (i : Nat), A.length - i = k ∧ (i ≤ A.length) ∧ e 7 = .int .i64 i) _ ⟨0, rfl, ?_, ?_⟩ ?_
          · omega
          · simp only [EN, Nat.reduceEqDiff, reduceIte, k3_0, k4_0, k5_0, i6_0, decide_true, Bool.not_true, Bool.not_false, decide_false, eq_self, strEq] <;> rfl
          ·
            rintro k e1L hL1 hX1 hfr1 ⟨i, rfl, hi, i7_1⟩
            replace hs := hs.ext hX1
            replace hb := hb.ext hX1
            replace hS := hS.ext hX1
            replace hsA := hsA.ext hX1
            have k3_1 := hfr1 3 rfl; try simp only [EN, Nat.reduceEqDiff, reduceIte, k3_0, decide_true, Bool.not_true, Bool.not_false, decide_false, eq_self, strEq] at k3_1
            have k4_1 := hfr1 4 rfl; try simp only [EN, Nat.reduceEqDiff, reduceIte, k4_0, decide_true, Bool.not_true, Bool.not_false, decide_false, eq_self, strEq] at k4_1
            have k5_1 := hfr1 5 rfl; try simp only [EN, Nat.reduceEqDiff, reduceIte, k5_0, decide_true, Bool.not_true, Bool.not_false, decide_false, eq_self, strEq] at k5_1
            have k6_1 := hfr1 6 rfl; try simp only [EN, Nat.reduceEqDiff, reduceIte, i6_0, decide_true, Bool.not_true, Bool.not_false, decide_false, eq_self, strEq] at k6_1
            refine hx_seq ?_
            refine hx_seq ?_
            refine hx_region ?_
            refine WL.qq (by simp only [EN, Nat.reduceEqDiff, reduceIte, qv_move, i7_1, decide_true, Bool.not_true, Bool.not_false, decide_false, eq_self, strEq]; rfl) ?_
            refine WL.qq (by simp only [EN, Nat.reduceEqDiff, reduceIte, qv_move, k5_1, decide_true, Bool.not_true, Bool.not_false, decide_false, eq_self, strEq]; rfl) ?_
            refine WL.qq (by simp only [EN, Nat.reduceEqDiff, reduceIte, qv_len, ln83, AR, decide_true, Bool.not_true, Bool.not_false, decide_false, eq_self, strEq]; rfl) ?_
            refine WL.qq (by simp only [EN, Nat.reduceEqDiff, reduceIte, qv_binOp, binv_lss, decide_true, Bool.not_true, Bool.not_false, decide_false, eq_self, strEq]; rfl) ?_
            refine WL.nil ?_
            refine th_norm ?_
            refine hx_cond (by simp only [EN, Nat.reduceEqDiff, reduceIte, decide_true, Bool.not_true, Bool.not_false, decide_false, eq_self, strEq]; rfl) (fun hct34 => ?_) (fun hct34 => ?_)
            ·
              try simp only [BD] at hct34
              obtain ⟨y, hy⟩ := atG (l := A) (i := i) (by omega)
              refine hx_skip ?_
              refine th_norm ?_
              refine hx_seq ?_
              refine hx_block ?_
              refine hx_seq ?_
              refine hx_region ?_
              refine WL.qq (by simp only [EN, Nat.reduceEqDiff, reduceIte, qv_assign, decide_true, Bool.not_true, Bool.not_false, decide_false, eq_self, strEq]; rfl) ?_
              refine WL.nil ?_
              refine th_norm ?_
              refine hx_seq ?_
              refine hx_seq ?_
              refine hx_region ?_
              refine WL.qq (by simp only [EN, Nat.reduceEqDiff, reduceIte, qv_assign, decide_true, Bool.not_true, Bool.not_false, decide_false, eq_self, strEq]; rfl) ?_
              refine WL.nil ?_
              refine th_norm ?_
              refine hx_block ?_
              refine hx_loopX [2, 8, 9, 10, 11, 37, 38, 39, 40, 41, 42, 43, 44, 45, 46, 47, 48, 49, 50, 51, 52, 53, 54, 55, 56, 57, 58, 59, 60, 61, 62, 63, 64, 65, 66, 67, 68, 69, 70, 71, 72, 73, 74, 75, 76] (fun k e => ∃ (j : Nat), A.length - j = k ∧ (j ≤ A.length) ∧ e 9 = .int .i64 j ∧ e 8 = iV (sumF (ca (runB (L.map BX.bd)) n y.a) (A.take j))) _ ⟨0, rfl, ?_, ?_, ?_⟩ ?_
              · omega
              · simp only [EN, Nat.reduceEqDiff, reduceIte, k3_1, k4_1, k5_1, k6_1, i7_1, decide_true, Bool.not_true, Bool.not_false, decide_false, eq_self, strEq] <;> rfl
              · simp only [EN, Nat.reduceEqDiff, reduceIte, k3_1, k4_1, k5_1, k6_1, i7_1, decide_true, Bool.not_true, Bool.not_false, decide_false, eq_self, strEq] <;> rfl
              ·
                rintro k e2L hL2 hX2 hfr2 ⟨j, rfl, hj, i9_2, i8_2⟩
                replace hs := hs.ext hX2
                replace hb := hb.ext hX2
                replace hS := hS.ext hX2
                replace hsA := hsA.ext hX2
                have k3_2 := hfr2 3 rfl; try simp only [EN, Nat.reduceEqDiff, reduceIte, k3_1, decide_true, Bool.not_true, Bool.not_false, decide_false, eq_self, strEq] at k3_2
                have k4_2 := hfr2 4 rfl; try simp only [EN, Nat.reduceEqDiff, reduceIte, k4_1, decide_true, Bool.not_true, Bool.not_false, decide_false, eq_self, strEq] at k4_2
                have k5_2 := hfr2 5 rfl; try simp only [EN, Nat.reduceEqDiff, reduceIte, k5_1, decide_true, Bool.not_true, Bool.not_false, decide_false, eq_self, strEq] at k5_2
                have k6_2 := hfr2 6 rfl; try simp only [EN, Nat.reduceEqDiff, reduceIte, k6_1, decide_true, Bool.not_true, Bool.not_false, decide_false, eq_self, strEq] at k6_2
                have k7_2 := hfr2 7 rfl; try simp only [EN, Nat.reduceEqDiff, reduceIte, i7_1, decide_true, Bool.not_true, Bool.not_false, decide_false, eq_self, strEq] at k7_2
                refine hx_seq ?_
                refine hx_seq ?_
                refine hx_region ?_
                refine WL.qq (by simp only [EN, Nat.reduceEqDiff, reduceIte, qv_move, i9_2, decide_true, Bool.not_true, Bool.not_false, decide_false, eq_self, strEq]; rfl) ?_
                refine WL.qq (by simp only [EN, Nat.reduceEqDiff, reduceIte, qv_move, k5_2, decide_true, Bool.not_true, Bool.not_false, decide_false, eq_self, strEq]; rfl) ?_
                refine WL.qq (by simp only [EN, Nat.reduceEqDiff, reduceIte, qv_len, ln83, AR, decide_true, Bool.not_true, Bool.not_false, decide_false, eq_self, strEq]; rfl) ?_
                refine WL.qq (by simp only [EN, Nat.reduceEqDiff, reduceIte, qv_binOp, binv_lss, decide_true, Bool.not_true, Bool.not_false, decide_false, eq_self, strEq]; rfl) ?_
                refine WL.nil ?_
                refine th_norm ?_
                refine hx_cond (by simp only [EN, Nat.reduceEqDiff, reduceIte, decide_true, Bool.not_true, Bool.not_false, decide_false, eq_self, strEq]; rfl) (fun hct40 => ?_) (fun hct40 => ?_)
                ·
                  try simp only [BD] at hct40
                  obtain ⟨z, hz⟩ := atG (l := A) (i := j) (by omega)
                  obtain ⟨b1, o1, ha1, hr1⟩ := hsA i y hy
                  obtain ⟨b2, o2, ha2, hr2⟩ := hsA j z hz
                  have hq1 := readN_cell hr1 2 _ rfl; have hq2 := readN_cell hr2 2 _ rfl
                  have ha3 := ha1.symm.trans ha2; cases ha3
                  have hst := sumF_step (f := ca (runB (L.map BX.bd)) n y.a) hz
                  have hcb1 := hcb n (by omega) z; have hcd1 := hcd n y.a A j (by omega); have hcd2 := hcb1.2.2
                  simp only [inR, MA] at hcd2
                  refine hx_skip ?_
                  refine th_norm ?_
                  refine hx_seq ?_
                  refine hx_block ?_
                  refine hx_seq ?_
                  apply hx_draw2 Rel.same [] [] [] rfl (by decide +kernel) rfl
                  refine LD.qq rfl rfl (by simp only [EN, Nat.reduceEqDiff, reduceIte, qv_move, k5_2, decide_true, Bool.not_true, Bool.not_false, decide_false, eq_self, strEq]; rfl) ?_
                  refine LD.qq rfl rfl (by simp only [EN, Nat.reduceEqDiff, reduceIte, qv_move, i9_2, decide_true, Bool.not_true, Bool.not_false, decide_false, eq_self, strEq]; rfl) ?_
                  refine LD.qq rfl rfl (by simp only [EN, Nat.reduceEqDiff, reduceIte, qv_indexAddr, decide_true, Bool.not_true, Bool.not_false, decide_false, eq_self, strEq, ha1]; (try simp (disch := omega) only [ix83, Int.toNat_natCast]); rfl) ?_
                  refine LD.qq rfl rfl (by simp only [EN, Nat.reduceEqDiff, reduceIte, qv_fieldAddr, fa35_2, Nat.zero_add, Nat.reduceAdd, decide_true, Bool.not_true, Bool.not_false, decide_false, eq_self, strEq]; rfl) ?_
                  refine LD.qq rfl rfl (by simp only [EN, Nat.reduceEqDiff, reduceIte, k3_2, k4_2, k5_2, k6_2, k7_2, i9_2, i8_2, decide_true, Bool.not_true, Bool.not_false, decide_false, eq_self, strEq, qv_load, ld9, Int.toNat_natCast, hq2]; rfl) ?_
                  refine LD.qq rfl rfl (by simp only [EN, Nat.reduceEqDiff, reduceIte, qv_move, k5_2, decide_true, Bool.not_true, Bool.not_false, decide_false, eq_self, strEq]; rfl) ?_
                  refine LD.qq rfl rfl (by simp only [EN, Nat.reduceEqDiff, reduceIte, qv_move, k7_2, decide_true, Bool.not_true, Bool.not_false, decide_false, eq_self, strEq]; rfl) ?_
                  refine LD.qq rfl rfl (by simp only [EN, Nat.reduceEqDiff, reduceIte, qv_indexAddr, decide_true, Bool.not_true, Bool.not_false, decide_false, eq_self, strEq, ha1]; (try simp (disch := omega) only [ix83, Int.toNat_natCast]); rfl) ?_
                  refine LD.qq rfl rfl (by simp only [EN, Nat.reduceEqDiff, reduceIte, qv_fieldAddr, fa35_2, Nat.zero_add, Nat.reduceAdd, decide_true, Bool.not_true, Bool.not_false, decide_false, eq_self, strEq]; rfl) ?_
                  refine LD.qq rfl rfl (by simp only [EN, Nat.reduceEqDiff, reduceIte, k3_2, k4_2, k5_2, k6_2, k7_2, i9_2, i8_2, decide_true, Bool.not_true, Bool.not_false, decide_false, eq_self, strEq, qv_load, ld9, Int.toNat_natCast, hq1]; rfl) ?_
                  refine LD.qq rfl rfl (by simp only [EN, Nat.reduceEqDiff, reduceIte, qv_binOp, binv_eql, eq9, Option.map_some, decide_true, Bool.not_true, Bool.not_false, decide_false, eq_self, strEq]; rfl) ?_
                  refine LD.nil ?_
                  rintro _ rfl -
                  refine WL.nil ?_
                  refine th_norm ?_
                  refine hx_cond (by simp only [EN, Nat.reduceEqDiff, reduceIte, decide_true, Bool.not_true, Bool.not_false, decide_false, eq_self, strEq]; rfl) (fun hct53 => ?_) (fun hct53 => ?_)
                  ·
                    try simp only [BD] at hct53
                    have hza : z.a = y.a := (by simpa using hct53)
                    obtain ⟨b3, o3, ha3, hr3⟩ := hsA j z hz
                    refine hx_seq ?_
                    refine hx_region ?_
                    refine WL.qq (by simp only [EN, Nat.reduceEqDiff, reduceIte, qv_move, k3_2, decide_true, Bool.not_true, Bool.not_false, decide_false, eq_self, strEq]; rfl) ?_
                    refine WL.qq (by simp only [EN, Nat.reduceEqDiff, reduceIte, qv_move, k5_2, decide_true, Bool.not_true, Bool.not_false, decide_false, eq_self, strEq]; rfl) ?_
                    refine WL.qq (by simp only [EN, Nat.reduceEqDiff, reduceIte, qv_move, i9_2, decide_true, Bool.not_true, Bool.not_false, decide_false, eq_self, strEq]; rfl) ?_
                    refine WL.qq (by simp only [EN, Nat.reduceEqDiff, reduceIte, qv_indexAddr, decide_true, Bool.not_true, Bool.not_false, decide_false, eq_self, strEq, ha3]; (try simp (disch := omega) only [ix83, Int.toNat_natCast]); rfl) ?_
                    refine WL.qq (by simp only [EN, Nat.reduceEqDiff, reduceIte, k3_2, k4_2, k5_2, k6_2, k7_2, i9_2, i8_2, decide_true, Bool.not_true, Bool.not_false, decide_false, eq_self, strEq, qv_load, ld35, Int.toNat_natCast, hr3]; rfl) ?_
                    refine WL.qq (by simp only [EN, Nat.reduceEqDiff, reduceIte, qv_move, k6_2, decide_true, Bool.not_true, Bool.not_false, decide_false, eq_self, strEq]; rfl) ?_
                    refine WL.cg Try.call16 (by simp only [EN, Nat.reduceEqDiff, reduceIte, AR, decide_true, Bool.not_true, Bool.not_false, decide_false, eq_self, strEq]; exact c_balAt z n hS.g hS.I.hr) ?_
                    intro h4 hx4
                    replace hs := hs.ext hx4
                    replace hb := hb.ext hx4
                    replace hS := hS.ext hx4
                    replace hsA := hsA.ext hx4
                    rw [hcb1.1, hcb1.2.1]
                    refine WL.qq (by simp only [EN, Nat.reduceEqDiff, reduceIte, qv_move, decide_true, Bool.not_true, Bool.not_false, decide_false, eq_self, strEq]; rfl) ?_
                    refine WL.qq (by simp only [EN, Nat.reduceEqDiff, reduceIte, qv_extract, AR, decide_true, Bool.not_true, Bool.not_false, decide_false, eq_self, strEq]; rfl) ?_
                    refine WL.qq (by simp only [EN, Nat.reduceEqDiff, reduceIte, qv_extract, AR, decide_true, Bool.not_true, Bool.not_false, decide_false, eq_self, strEq]; rfl) ?_
                    refine WL.qq (by simp only [EN, Nat.reduceEqDiff, reduceIte, qv_assign, decide_true, Bool.not_true, Bool.not_false, decide_false, eq_self, strEq]; rfl) ?_
                    refine WL.qq (by simp only [EN, Nat.reduceEqDiff, reduceIte, qv_assign, decide_true, Bool.not_true, Bool.not_false, decide_false, eq_self, strEq]; rfl) ?_
                    refine WL.nil ?_
                    refine th_norm ?_
                    refine hx_seq ?_
                    refine hx_seq ?_
                    refine hx_region ?_
                    refine WL.qq (by simp only [EN, Nat.reduceEqDiff, reduceIte, qv_move, decide_true, Bool.not_true, Bool.not_false, decide_false, eq_self, strEq]; rfl) ?_
                    refine WL.qq (by simp only [EN, Nat.reduceEqDiff, reduceIte, qv_binOp, binv_neq, eq32, Option.map_some, decide_true, Bool.not_true, Bool.not_false, decide_false, eq_self, strEq]; rfl) ?_
                    refine WL.qq (by simp only [EN, Nat.reduceEqDiff, reduceIte, qv_move, decide_true, Bool.not_true, Bool.not_false, decide_false, eq_self, strEq]; rfl) ?_
                    refine WL.cq (gd_at (t := 66) rfl (by simp only [EN, Nat.reduceEqDiff, reduceIte, decide_true, Bool.not_true, Bool.not_false, decide_false, eq_self, strEq] <;> rfl)) (fun hg19_3 => by simp only [EN, Nat.reduceEqDiff, reduceIte, qv_move, decide_true, Bool.not_true, Bool.not_false, decide_false, eq_self, strEq, hg19_3, GR]; rfl) ?_
                    refine WL.cq (gd_at (t := 66) rfl (by simp only [EN, Nat.reduceEqDiff, reduceIte, decide_true, Bool.not_true, Bool.not_false, decide_false, eq_self, strEq] <;> rfl)) (fun hg19_4 => by simp only [EN, Nat.reduceEqDiff, reduceIte, qv_binOp, binv_gtr, decide_true, Bool.not_true, Bool.not_false, decide_false, eq_self, strEq, hg19_4, GR]; rfl) ?_
                    refine WL.qq (by simp only [EN, Nat.reduceEqDiff, reduceIte, qv_pick, pk_and, pk_or, GR, decide_true, Bool.not_true, Bool.not_false, decide_false, eq_self, strEq]; rfl) ?_
                    refine WL.qq (by simp only [EN, Nat.reduceEqDiff, reduceIte, qv_move, decide_true, Bool.not_true, Bool.not_false, decide_false, eq_self, strEq]; rfl) ?_
                    refine WL.cq (gd_at (t := 70) rfl (by simp only [EN, Nat.reduceEqDiff, reduceIte, decide_true, Bool.not_true, Bool.not_false, decide_false, eq_self, strEq] <;> rfl)) (fun hg19_7 => by simp only [EN, Nat.reduceEqDiff, reduceIte, qv_move, decide_true, Bool.not_true, Bool.not_false, decide_false, eq_self, strEq, hg19_7, GR]; rfl) ?_
                    refine WL.cq (gd_at (t := 70) rfl (by simp only [EN, Nat.reduceEqDiff, reduceIte, decide_true, Bool.not_true, Bool.not_false, decide_false, eq_self, strEq] <;> rfl)) (fun hg19_8 => by simp only [EN, Nat.reduceEqDiff, reduceIte, qv_binOp, binv_lss, decide_true, Bool.not_true, Bool.not_false, decide_false, eq_self, strEq, hg19_8, GR]; rfl) ?_
                    refine WL.qq (by simp only [EN, Nat.reduceEqDiff, reduceIte, qv_pick, pk_and, pk_or, GR, decide_true, Bool.not_true, Bool.not_false, decide_false, eq_self, strEq]; rfl) ?_
                    refine WL.nil ?_
                    refine th_norm ?_
                    refine hx_cond (by simp only [EN, Nat.reduceEqDiff, reduceIte, decide_true, Bool.not_true, Bool.not_false, decide_false, eq_self, strEq]; rfl) (fun hct73 => ?_) (fun hct73 => ?_)
                    ·
                      simp at hct73; omega
                    ·
                      try simp only [BD] at hct73
                      refine hx_skip ?_
                      refine th_norm ?_
                      refine hx_region ?_
                      refine WL.qq (by simp only [EN, Nat.reduceEqDiff, reduceIte, qv_move, i8_2, decide_true, Bool.not_true, Bool.not_false, decide_false, eq_self, strEq]; rfl) ?_
                      refine WL.qq (by simp only [EN, Nat.reduceEqDiff, reduceIte, qv_move, decide_true, Bool.not_true, Bool.not_false, decide_false, eq_self, strEq]; rfl) ?_
                      refine WL.qq (by simp only [EN, Nat.reduceEqDiff, reduceIte, qv_binOp, binv_add, decide_true, Bool.not_true, Bool.not_false, decide_false, eq_self, strEq]; (try simp (disch := omega) only [w64, w8, wu64]); rfl) ?_
                      refine WL.qq (by simp only [EN, Nat.reduceEqDiff, reduceIte, qv_assign, decide_true, Bool.not_true, Bool.not_false, decide_false, eq_self, strEq]; rfl) ?_
                      refine WL.nil ?_
                      refine bl_norm ?_
                      refine th_norm ?_
                      refine hx_region ?_
                      refine WL.qq (by simp only [EN, Nat.reduceEqDiff, reduceIte, qv_move, i9_2, decide_true, Bool.not_true, Bool.not_false, decide_false, eq_self, strEq]; rfl) ?_
                      refine WL.qq (by simp only [EN, Nat.reduceEqDiff, reduceIte, qv_binOp, binv_add, decide_true, Bool.not_true, Bool.not_false, decide_false, eq_self, strEq]; (try simp (disch := omega) only [w64, w8, wu64]); rfl) ?_
                      refine WL.qq (by simp only [EN, Nat.reduceEqDiff, reduceIte, qv_assign, decide_true, Bool.not_true, Bool.not_false, decide_false, eq_self, strEq]; rfl) ?_
                      refine WL.nil ?_
                      refine th_norm ?_
                      refine ⟨rfl, ?_, ?_, _, ?_, j + 1, rfl, ?_, ?_, ?_⟩  -- again 0 of loop 2
                      · exact hx4
                      · (repeat (first | exact Fr.refl _ _ | refine Fr.set rfl ?_ | refine Fr.put rfl ?_ | with_reducible refine Fr.put0 ?_))
                      · omega
                      · omega
                      · simp only [EN, Nat.reduceEqDiff, reduceIte, k3_2, k4_2, k5_2, k6_2, k7_2, i9_2, i8_2, decide_true, Bool.not_true, Bool.not_false, decide_false, eq_self, strEq] <;> first | rfl | (congr 1; omega)
                      · simp only [EN, Nat.reduceEqDiff, reduceIte, k3_2, k4_2, k5_2, k6_2, k7_2, i9_2, i8_2, decide_true, Bool.not_true, Bool.not_false, decide_false, eq_self, strEq] <;> first | (rw [hst]; simp only [ca, if_pos hza]; done) | (rw [hst]; simp only [ca, if_pos hza]; rfl) | (rw [hst]; simp only [ca, if_neg hza, Int.add_zero]; done)
                  ·
                    try simp only [BD] at hct53
                    have hza : ¬ z.a = y.a := (by simpa using hct53)
                    refine hx_skip ?_
                    refine bl_norm ?_
                    refine th_norm ?_
                    refine hx_region ?_
                    refine WL.qq (by simp only [EN, Nat.reduceEqDiff, reduceIte, qv_move, i9_2, decide_true, Bool.not_true, Bool.not_false, decide_false, eq_self, strEq]; rfl) ?_
                    refine WL.qq (by simp only [EN, Nat.reduceEqDiff, reduceIte, qv_binOp, binv_add, decide_true, Bool.not_true, Bool.not_false, decide_false, eq_self, strEq]; (try simp (disch := omega) only [w64, w8, wu64]); rfl) ?_
                    refine WL.qq (by simp only [EN, Nat.reduceEqDiff, reduceIte, qv_assign, decide_true, Bool.not_true, Bool.not_false, decide_false, eq_self, strEq]; rfl) ?_
                    refine WL.nil ?_
                    refine th_norm ?_
                    refine ⟨rfl, ?_, ?_, _, ?_, j + 1, rfl, ?_, ?_, ?_⟩  -- again 1 of loop 2
                    · exact Ext.refl _
                    · (repeat (first | exact Fr.refl _ _ | refine Fr.set rfl ?_ | refine Fr.put rfl ?_ | with_reducible refine Fr.put0 ?_))
                    · omega
                    · omega
                    · simp only [EN, Nat.reduceEqDiff, reduceIte, k3_2, k4_2, k5_2, k6_2, k7_2, i9_2, i8_2, decide_true, Bool.not_true, Bool.not_false, decide_false, eq_self, strEq] <;> first | rfl | (congr 1; omega)
                    · simp only [EN, Nat.reduceEqDiff, reduceIte, k3_2, k4_2, k5_2, k6_2, k7_2, i9_2, i8_2, decide_true, Bool.not_true, Bool.not_false, decide_false, eq_self, strEq] <;> first | (rw [hst]; simp only [ca, if_pos hza]; done) | (rw [hst]; simp only [ca, if_pos hza]; rfl) | (rw [hst]; simp only [ca, if_neg hza, Int.add_zero]; done)
                ·
                  try simp only [BD] at hct40
                  have hje : j = A.length := (by omega); subst hje
                  have hz0 : sumF (ca (runB (L.map BX.bd)) n y.a) A = 0 := hcon y.a n
                  rw [List.take_length, hz0] at i8_2
                  refine hx_exit ?_
                  refine th_exit ?_
                  refine th_exit ?_
                  refine bl_hit ?_
                  refine th_norm ?_
                  refine hx_seq ?_
                  refine hx_region ?_
                  refine WL.qq (by simp only [EN, Nat.reduceEqDiff, reduceIte, qv_move, i8_2, decide_true, Bool.not_true, Bool.not_false, decide_false, eq_self, strEq]; rfl) ?_
                  refine WL.qq (by simp only [EN, Nat.reduceEqDiff, reduceIte, qv_binOp, binv_neq, eq2, Option.map_some, decide_true, Bool.not_true, Bool.not_false, decide_false, eq_self, strEq]; rfl) ?_
                  refine WL.nil ?_
                  refine th_norm ?_
                  refine hx_cond (by simp only [EN, Nat.reduceEqDiff, reduceIte, decide_true, Bool.not_true, Bool.not_false, decide_false, eq_self, strEq]; rfl) (fun hct78 => ?_) (fun hct78 => ?_)
                  ·
                    simp at hct78
                  ·
                    try simp only [BD] at hct78
                    refine hx_skip ?_
                    refine bl_norm ?_
                    refine th_norm ?_
                    refine hx_region ?_
                    refine WL.qq (by simp only [EN, Nat.reduceEqDiff, reduceIte, qv_move, k7_2, decide_true, Bool.not_true, Bool.not_false, decide_false, eq_self, strEq]; rfl) ?_
                    refine WL.qq (by simp only [EN, Nat.reduceEqDiff, reduceIte, qv_binOp, binv_add, decide_true, Bool.not_true, Bool.not_false, decide_false, eq_self, strEq]; (try simp (disch := omega) only [w64, w8, wu64]); rfl) ?_
                    refine WL.qq (by simp only [EN, Nat.reduceEqDiff, reduceIte, qv_assign, decide_true, Bool.not_true, Bool.not_false, decide_false, eq_self, strEq]; rfl) ?_
                    refine WL.nil ?_
                    refine th_norm ?_
                    refine ⟨rfl, ?_, ?_, _, ?_, i + 1, rfl, ?_, ?_⟩  -- again 0 of loop 1
                    · exact hX2
                    · (repeat (first | exact Fr.refl _ _ | refine Fr.set rfl ?_ | refine Fr.put rfl ?_ | with_reducible refine Fr.put0 ?_ | refine Fr.trans ?_ (Fr.of hfr2 rfl)))
                    · omega
                    · omega
                    · simp only [EN, Nat.reduceEqDiff, reduceIte, k3_2, k4_2, k5_2, k6_2, k7_2, i9_2, i8_2, decide_true, Bool.not_true, Bool.not_false, decide_false, eq_self, strEq] <;> first | rfl | (congr 1; omega)
            ·
              try simp only [BD] at hct34
              refine hx_exit ?_
              refine th_exit ?_
              refine th_exit ?_
              refine bl_hit ?_
              refine bl_norm ?_
              refine th_norm ?_
              refine hx_region ?_
              refine WL.qq (by simp only [EN, Nat.reduceEqDiff, reduceIte, qv_move, k6_1, decide_true, Bool.not_true, Bool.not_false, decide_false, eq_self, strEq]; rfl) ?_
              refine WL.qq (by simp only [EN, Nat.reduceEqDiff, reduceIte, qv_binOp, binv_add, decide_true, Bool.not_true, Bool.not_false, decide_false, eq_self, strEq]; (try simp (disch := omega) only [w64, w8, wu64]); rfl) ?_
              refine WL.qq (by simp only [EN, Nat.reduceEqDiff, reduceIte, qv_assign, decide_true, Bool.not_true, Bool.not_false, decide_false, eq_self, strEq]; rfl) ?_
              refine WL.nil ?_
              refine th_norm ?_
              refine ⟨rfl, ?_, ?_, _, ?_, n + 1, rfl, ?_, ?_⟩  -- again 0 of loop 0
              · exact hX1
              · (repeat (first | exact Fr.refl _ _ | refine Fr.set rfl ?_ | refine Fr.put rfl ?_ | with_reducible refine Fr.put0 ?_ | refine Fr.trans ?_ (Fr.of hfr1 rfl)))
              · omega
              · omega
              · simp only [EN, Nat.reduceEqDiff, reduceIte, k3_1, k4_1, k5_1, k6_1, i7_1, decide_true, Bool.not_true, Bool.not_false, decide_false, eq_self, strEq] <;> first | rfl | (congr 1; omega)
        ·
          try simp only [BD] at hct28
          refine hx_exit ?_
          refine th_exit ?_
          refine th_exit ?_
          refine bl_hit ?_
          refine th_norm ?_
          refine hx_seq ?_
          refine hx_region ?_
          refine WL.cg Try.call13 (by simp only [EN, Nat.reduceEqDiff, reduceIte, AR, decide_true, Bool.not_true, Bool.not_false, decide_false, eq_self, strEq]; exact c_known14 _) ?_
          intro h5 hx5
          replace hs := hs.ext hx5
          replace hb := hb.ext hx5
          replace hS := hS.ext hx5
          replace hsA := hsA.ext hx5
          refine WL.qq (by simp only [EN, Nat.reduceEqDiff, reduceIte, qv_assign, decide_true, Bool.not_true, Bool.not_false, decide_false, eq_self, strEq]; rfl) ?_
          refine WL.nil ?_
          refine th_norm ?_
          refine hx_ret ?_
          refine fin_ret [.tmp 2] rfl rfl (by simp only [EN, Nat.reduceEqDiff, reduceIte, resv, k3_0, k4_0, k5_0, i6_0, decide_true, Bool.not_true, Bool.not_false, decide_false, eq_self, strEq]; rfl) ?_  -- ret 1 r24
          exact ⟨rfl, ((hx2).trans ((hx3).trans ((hX0).trans (hx5))))⟩
end GL
namespace Go.Proofs.Ytklhfckdifkpaaa.historyConservation
open Go.ChangeShapes Go.WideShapes Go.ChangeAt Go.RowKit
theorem own : ownKnob Try.prog.godebug = none := by kernel_rfl
theorem laid : laidOutB Try.prog = true := by kernel_rfl
set_option maxRecDepth 100000 in
theorem lifted (os : Os) (started : os.Started) (H : Type) (enc : TypeId × Value → H) :
    ReturnsInHanded {} Try.checked os 9 .any (Rows.historyConservationSpec.pre6 enc Try.prog Try.f9 Rows.historyConservationRow.domain false) (Rows.historyConservationSpec.post enc Try.prog Try.f9 false true false false) := by
  refine returnsInHanded_of_change (C := Try.checked) own started (by kernel_rfl) Try.func9
    (ChangeSpec.witness6 (enc := enc) (C := Try.checked) false ⟨#[], #[(.slice none 0 0)], []⟩ 8 (by kernel_rfl) (by kernel_rfl) (by kernel_rfl) (by kernel_rfl)) ?_
  intro W base args ds gs before hval0 hW hcnd _
  have hval : ∀ (j : Nat) t v, Try.f9.params[j]? = some t → args[j]? = some v → Value.okWide Try.prog W .any base t v := hval0
  have hW' := hW
  obtain ⟨p, q, hA0, hV, rfl, hfz, hnd⟩ := hW
  have hA : DataW.TrodAll enc Try.prog W 0 (fun _ => true) true Try.f9.params.toList args.toList ds p := hA0
  rw [Try.params9] at hA hval
  obtain ⟨v0, vs0, d0, ds0, p0, q0, hargs, rfl, rfl, h0, r0⟩ := trodAll_cons hA
  obtain ⟨rfl, rfl, rfl⟩ := trodAll_nil r0
  obtain rfl : args = #[v0] := by cases args; simp_all
  obtain ⟨rfl, rfl⟩ := trodVars_none hV
  obtain ⟨al, l, cl, rfl, hl, hb, hll⟩ := GL.view_bs (hval 0 22 v0 rfl rfl) h0
  exact GL.law_done (tb := 4) laid (by kernel_rfl) rfl (by kernel_rfl) Try.underlying4 hW' rfl (GL.l_con al l cl hl hb hll)
theorem over : Rows.historyConservationRow.holds Try.pinned (OpenSpec.ofChange Rows.historyConservationSpec) :=
  OpenClaim.holds_of_wide 9 Try.f9 rfl rfl rfl rfl rfl rfl rfl ⟨rfl, rfl, rfl, rfl, rfl⟩ rfl rfl rfl rfl rfl (by kernel_rfl) Try.func9 (by kernel_rfl)
    (of_decide_eq_true (by kernel_rfl)) (by unfold Func.isWrapper; first | (rw [if_pos (by decide +kernel)]; kernel_rfl) | (rw [if_neg (by decide +kernel)]; exact ⟨rfl, rfl⟩))
    (fun os started H enc _ => lifted os started H enc)
theorem proved : Rows.HistoryConservationSaid := over
end Go.Proofs.Ytklhfckdifkpaaa.historyConservation


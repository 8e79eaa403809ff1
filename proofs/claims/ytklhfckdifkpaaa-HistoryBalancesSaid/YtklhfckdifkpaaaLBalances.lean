/- The law HistoryBalances returns true: BalanceAt returns the sum of all postings up to a bundle, or the specified error. No condition beyond the row's own. -/
import Derived.Test.YtklhfckdifkpaaaRows
import Derived.Test.YtklhfckdifkpaaaHisO
import Derived.Test.YtklhfckdifkpaaaHisR
set_option linter.unusedSimpArgs false
set_option linter.unusedVariables false
set_option linter.unnecessarySimpa false
namespace GL
open Go Go.Proofs
set_option maxRecDepth 8000
theorem stp_sub {l : List HB} {b x : HB} (h : x ∈ stp l b) : x ∈ l ∨ x = b := by
  unfold stp at h
  split at h
  · rcases List.mem_append.1 h with h | h
    · exact .inl h
    · simp at h; exact .inr h
  · exact .inl h
theorem runB_sub (L : List HB) : ∀ x ∈ runB L, x ∈ L := by
  refine snoc_ind (p := fun L => ∀ x ∈ runB L, x ∈ L) (fun x h => by cases h) ?_ L
  intro L b ih x hx
  have h1 : runB (L ++ [b]) = stp (runB L) b := by rw [runB, List.foldl_append]; rfl
  rw [h1] at hx
  rcases stp_sub hx with h | h
  · exact List.mem_append_left _ (ih x h)
  · subst h; simp
theorem runB_AS {L : List BX} (h : ∀ x ∈ L, ∀ y ∈ pos x.bd, AS y.c) : ∀ y ∈ allP (runB (L.map BX.bd)), AS y.c := fun y hy => by
  obtain ⟨b, hb, hq⟩ := List.mem_flatMap.1 hy
  obtain ⟨x, hx, rfl⟩ := List.mem_map.1 (runB_sub _ b hb)
  exact h x hx y hq
theorem balA_nat {l : List HB} {q : AC} {n : Nat} (hn : n ≤ l.length) : balA l q (n : Int) = dS q (allP (l.take n)) ∧ balE l (n : Int) = 0 := by
  unfold balA balE
  rw [if_pos ⟨by omega, by omega⟩, if_pos ⟨by omega, by omega⟩, Int.toNat_natCast]
  exact ⟨rfl, rfl⟩
set_option maxHeartbeats 2000000 in
theorem l_bal (al : Option Addr) (L : List BX) (cl : Nat) (q : AC) (sq : Int) {h : Heap} (hs : SlG 4 bdL h al L) (hb : BXs h L) (ll : L.length ≤ 9223372036854775807) (hLS : ∀ x ∈ L, ∀ y ∈ pos x.bd, AS y.c) :
    HCalls Try.prog 3 #[.slice al L.length cl, acV q, iV sq] h (Grow (.bool true) h) := by
  refine hcalls2 Try.func3 rfl (by decide +kernel) (by simp only [Try.ntmps3]; exact of_decide_eq_true rfl) ?_
  intro e hin
  have e0 := hin 0 _ rfl
  have e1 := hin 1 _ rfl
  have e2 := hin 2 _ rfl
  refine hx_seq ?_
  refine hx_region ?_
  refine WL.box2 (by simp only [EN, Nat.reduceEqDiff, reduceIte, Value.cells, e1, decide_true, Bool.not_true, Bool.not_false, decide_false, eq_self]; rfl) ?_
  intro h1 B1 hx1 hlt1 hB1
  replace hs := hs.ext hx1
  replace hb := hb.ext hx1
  refine WL.qq (by simp only [EN, Nat.reduceEqDiff, reduceIte, qv_assign, decide_true, Bool.not_true, Bool.not_false, decide_false, eq_self, hB1.cell]; rfl) ?_
  refine WL.nil ?_
  refine th_norm ?_
  refine hx_seq ?_
  refine hx_seq ?_
  refine hx_region ?_
  refine WL.qq (by simp only [EN, Nat.reduceEqDiff, reduceIte, qv_move, e0, decide_true, Bool.not_true, Bool.not_false, decide_false, eq_self, hB1.cell]; rfl) ?_
  refine WL.ck Try.call12 (by simp only [EN, Nat.reduceEqDiff, reduceIte, AR, decide_true, Bool.not_true, Bool.not_false, decide_false, eq_self, hB1.cell]; exact c_few al L cl ll hs hb) ?_
  refine WL.qq (by simp only [EN, Nat.reduceEqDiff, reduceIte, qv_unOp, unv_not, decide_true, Bool.not_true, Bool.not_false, decide_false, eq_self, hB1.cell]; rfl) ?_
  refine WL.nil ?_
  refine th_norm ?_
  refine hx_cond (by simp only [EN, Nat.reduceEqDiff, reduceIte, decide_true, Bool.not_true, Bool.not_false, decide_false, eq_self, hB1.cell]; rfl) (fun hct18 => ?_) (fun hct18 => ?_)
  ·
    try simp only [BD] at hct18
    refine hx_seq ?_
    refine hx_region ?_
    refine WL.cg Try.call13 (by simp only [EN, Nat.reduceEqDiff, reduceIte, AR, decide_true, Bool.not_true, Bool.not_false, decide_false, eq_self, hB1.cell]; exact c_known14 _) ?_
    intro h2 hx2
    replace hs := hs.ext hx2
    replace hb := hb.ext hx2
    replace hB1 := hB1.ext hx2
    refine WL.qq (by simp only [EN, Nat.reduceEqDiff, reduceIte, qv_assign, decide_true, Bool.not_true, Bool.not_false, decide_false, eq_self, hB1.cell]; rfl) ?_
    refine WL.nil ?_
    refine th_norm ?_
    refine hx_ret ?_
    refine th_ret ?_
    refine fin_ret [.tmp 6] rfl rfl (by simp only [EN, Nat.reduceEqDiff, reduceIte, resv, e0, e1, e2, decide_true, Bool.not_true, Bool.not_false, decide_false, eq_self, hB1.cell]; rfl) ?_  -- ret 0 r2
    exact ⟨rfl, ((hx1).trans (hx2))⟩
  ·
    try simp only [BD] at hct18
    have hF : FW L := (by simpa using hct18)
    refine hx_skip ?_
    refine th_norm ?_
    refine hx_seq ?_
    refine hx_region ?_
    refine WL.qq (by simp only [EN, Nat.reduceEqDiff, reduceIte, qv_move, e0, decide_true, Bool.not_true, Bool.not_false, decide_false, eq_self, hB1.cell]; rfl) ?_
    refine WL.ce Try.call14 (by simp only [EN, Nat.reduceEqDiff, reduceIte, AR, decide_true, Bool.not_true, Bool.not_false, decide_false, eq_self, hB1.cell]; exact c_build al L cl hF hs hb) ?_
    rintro _ h3 ⟨hx3, p, a, c, xs, rfl, hS⟩
    replace hs := hs.ext hx3
    replace hb := hb.ext hx3
    replace hB1 := hB1.ext hx3
    simp only [put_some]
    refine WL.qq (by simp only [EN, Nat.reduceEqDiff, reduceIte, qv_move, decide_true, Bool.not_true, Bool.not_false, decide_false, eq_self, hB1.cell]; rfl) ?_
    refine WL.qq (by simp only [EN, Nat.reduceEqDiff, reduceIte, qv_extract, AR, decide_true, Bool.not_true, Bool.not_false, decide_false, eq_self, hB1.cell]; rfl) ?_
    refine WL.qq (by simp only [EN, Nat.reduceEqDiff, reduceIte, qv_extract, AR, decide_true, Bool.not_true, Bool.not_false, decide_false, eq_self, hB1.cell]; rfl) ?_
    refine WL.qq (by simp only [EN, Nat.reduceEqDiff, reduceIte, qv_assign, decide_true, Bool.not_true, Bool.not_false, decide_false, eq_self, hB1.cell]; rfl) ?_
    refine WL.qq (by simp only [EN, Nat.reduceEqDiff, reduceIte, qv_assign, decide_true, Bool.not_true, Bool.not_false, decide_false, eq_self, hB1.cell]; rfl) ?_
    refine WL.nil ?_
    refine th_norm ?_
    refine hx_seq ?_
    refine hx_seq ?_
    refine hx_region ?_
    have hn12 : xs.length ≤ 12 := (by have := hS.n; omega)
    have hn13 : xs.length = (runB (L.map BX.bd)).length := (by rw [← hS.m, List.length_map])
    have hRA := runB_AS hLS
    have hAl := all_len hS.g.f hS.g.n; have hAr := hS.g.g.inR
    refine WL.qq (by simp only [EN, Nat.reduceEqDiff, reduceIte, qv_move, decide_true, Bool.not_true, Bool.not_false, decide_false, eq_self, hB1.cell]; rfl) ?_
    refine WL.qq (by simp only [EN, Nat.reduceEqDiff, reduceIte, qv_binOp, binv_eql, eqz27, eqn27, eqm27, Option.map_some, decide_true, Bool.not_true, Bool.not_false, decide_false, eq_self, hB1.cell]; rfl) ?_
    refine WL.nil ?_
    refine th_norm ?_
    refine hx_cond (by simp only [EN, Nat.reduceEqDiff, reduceIte, decide_true, Bool.not_true, Bool.not_false, decide_false, eq_self, hB1.cell]; rfl) (fun hct26 => ?_) (fun hct26 => ?_)
    ·
      simp at hct26
    ·
      try simp only [BD] at hct26
      obtain ⟨R, hR⟩ : ∃ R, R = rAcc (allP (runB (L.map BX.bd))) := ⟨_, rfl⟩
      have hRl : R.length ≤ 1152 := (by rw [hR]; have := rAcc_len (allP (runB (L.map BX.bd))); omega)
      have hfA : ∀ z : AC, (acL z).length = 3 := fun _ => rfl
      have hT0 : ((R ++ [q]).flatMap acL).take (R.length * 3) = R.flatMap acL := (by rw [flat_take hfA _ _ (by simp), List.take_append_of_le_length (Nat.le_refl _), List.take_length])
      have hT1 : (((R ++ [q]).flatMap acL).drop (R.length * 3)).take (1 * 3) = ([q] : List AC).flatMap acL := (by rw [flat_drop hfA _ _ (by simp), List.drop_append_of_le_length (Nat.le_refl _), List.drop_length, List.nil_append]; rfl)
      refine hx_skip ?_
      refine th_norm ?_
      refine hx_seq ?_
      apply hx_draw2R (Rel.apT (Array.size h3) tyA 3 ((R ++ [q]).flatMap acL)) [] [1, 3, 4] [(1, Spec.ownZ (Array.size h3) tyA 3 R.length (((R ++ [q]).flatMap acL).take (R.length * 3))), (3, Spec.ls (Array.size h3) (acL q).toArray tyA 1), (4, Spec.own (Array.size h3) tyA 3 (R.length + 1) (((R ++ [q]).flatMap acL).take ((R.length + 1) * 3)))] rfl (by decide +kernel) rfl (apT_stable2 (Nat.le_refl 3))
      refine LD.qr rfl rfl (fun hD hr => by replace hr : ApT _ _ _ _ _ _ := hr; have hX : Ext _ _ := apT_ext hr; have hB1 := hB1.ext hX; have hS := hS.ext hX; simp only [EN, Nat.reduceEqDiff, reduceIte, qv_move, decide_true, Bool.not_true, Bool.not_false, decide_false, eq_self, hB1.cell]; rfl) ?_
      refine LD.es rfl rfl (by intro hD hr hf; replace hr : ApT _ _ _ _ _ _ := hr; have hX : Ext _ _ := apT_ext hr; have hB1 := hB1.ext hX; have hS := hS.ext hX; exact (e_call Try.call15 (by simp only [EN, Nat.reduceEqDiff, reduceIte, e0, e1, e2, decide_true, Bool.not_true, Bool.not_false, decide_false, eq_self, hB1.cell, List.map_toArray, List.map_cons, List.map_nil]; exact c_rAccs a xs c hS.m hS.g hRA hS.sl hS.bx)).mono (fun v' h' hh => by obtain ⟨h1, ho, hz⟩ := hh; rw [← hR] at ho hz; obtain ⟨a9, c9, rfl, _, _, _⟩ := ho.shape; exact ⟨apT_of_ext h1, ⟨a9, c9, rfl, fun h0 => by have h8 := hz (List.length_eq_zero_iff.1 h0); simp only [Value.slice.injEq] at h8; exact h8.2.2⟩, by rw [hT0]; exact ho.base hX.size⟩)) ?_
      intro u6_1 w6_1
      obtain ⟨a31, c31, rfl, hz31⟩ := w6_1
      refine LD.qr rfl rfl (fun hD hr => by replace hr : ApT _ _ _ _ _ _ := hr; have hX : Ext _ _ := apT_ext hr; have hB1 := hB1.ext hX; have hS := hS.ext hX; simp only [EN, Nat.reduceEqDiff, reduceIte, qv_load, ld24, readN, AR, Nat.zero_add, Nat.reduceAdd, decide_true, Bool.not_true, Bool.not_false, decide_false, eq_self, hB1.cell]; rfl) ?_
      refine LD.es rfl rfl (by intro hD hr hf; replace hr : ApT _ _ _ _ _ _ := hr; have hX : Ext _ _ := apT_ext hr; have hB1 := hB1.ext hX; have hS := hS.ext hX; exact (e_lit1 hX.size Try.underlying30 sz24 zr24 (by decide) (by simp only [EN, Nat.reduceEqDiff, reduceIte, e0, e1, e2, decide_true, Bool.not_true, Bool.not_false, decide_false, eq_self, hB1.cell, Value.cells] <;> rfl) rfl).mono (fun _ _ hh => ⟨apT_of_ext hh.1, hh.2⟩)) ?_
      intro u6_3 w6_3
      obtain ⟨B33, hlt33, rfl⟩ := w6_3
      refine LD.es rfl rfl (by intro hD hr hf; replace hr : ApT _ _ _ _ _ _ := hr; have hX : Ext _ _ := apT_ext hr; have hB1 := hB1.ext hX; have hS := hS.ext hX; have ho31 := hf (1, .slice a31 R.length c31) (by simp) (by show tb _ _ 1 = true; decide +kernel) _ rfl; have hB33 := hf (3, .slice (some ⟨B33, 0, none⟩) 1 1) (by simp) (by show tb _ _ 3 = true; decide +kernel) _ rfl B33 rfl; exact e_appT (f := acL) (T := (R ++ [q]).flatMap acL) (n := R.length) (m := 1) (M := [q]) (bytes := 40) Try.underlying30 (inf_of Try.type24) rfl rfl rfl rfl (by decide) (fun _ => rfl) acL_one (by simp only [EN, Nat.reduceEqDiff, reduceIte, e0, e1, e2, decide_true, Bool.not_true, Bool.not_false, decide_false, eq_self, hB1.cell]) ho31 (by simp only [EN, Nat.reduceEqDiff, reduceIte, e0, e1, e2, decide_true, Bool.not_true, Bool.not_false, decide_false, eq_self, hB1.cell]; rfl) rfl (slG_has (f := acL) (sz := 3) (L := [q]) (fun _ => rfl) hB33 rfl) hT1 (fun hh a cap hv => by cases hv; exact hz31 hh) (by simp only [maxLen]; omega) (by omega) hX.size) ?_
      intro u6_4 w6_4
      obtain ⟨a32, c32, rfl⟩ := w6_4
      refine LD.qr rfl rfl (fun hD hr => by replace hr : ApT _ _ _ _ _ _ := hr; have hX : Ext _ _ := apT_ext hr; have hB1 := hB1.ext hX; have hS := hS.ext hX; simp only [EN, Nat.reduceEqDiff, reduceIte, qv_assign, decide_true, Bool.not_true, Bool.not_false, decide_false, eq_self, hB1.cell]; rfl) ?_
      refine LD.nil ?_
      rintro h4 hr6 hF6
      have hx4 : Ext _ _ := apT_ext hr6
      replace hs := hs.ext hx4
      replace hb := hb.ext hx4
      replace hB1 := hB1.ext hx4
      replace hS := hS.ext hx4
      have ho32 : Own h4 _ tyA 3 (.slice a32 (R.length + 1) c32) (R.length + 1) (((R ++ [q]).flatMap acL).take ((R.length + 1) * 3)) := hF6 (4, .slice a32 (R.length + 1) c32) (by simp) _ rfl
      rw [List.take_of_length_le (by rw [flat_len hfA, List.length_append]; simp)] at ho32
      have hsA := slG_own (f := acL) (sz := 3) (fun _ => rfl) ho32 (by simp)
      refine WL.nil ?_
      refine th_norm ?_
      refine hx_seq ?_
      refine hx_seq ?_
      refine hx_region ?_
      refine WL.qq (by simp only [EN, Nat.reduceEqDiff, reduceIte, qv_assign, decide_true, Bool.not_true, Bool.not_false, decide_false, eq_self, hB1.cell]; rfl) ?_
      refine WL.nil ?_
      refine th_norm ?_
      refine hx_block ?_
      refine hx_loopX [6, 10, 11, 12, 13, 32, 33, 34, 35, 36, 37, 38, 39, 40, 41, 42, 43, 44, 45, 46, 47, 48, 49, 50, 51, 52, 53, 54, 55, 56, 57, 58, 59, 60, 61, 62, 63, 64, 65, 66, 67] (fun k e => ∃ (i : Nat), R.length + 1 - i = k ∧ (i ≤ R.length + 1) ∧ e 10 = .int .i64 i) _ ⟨0, rfl, ?_, ?_⟩ ?_
      · omega
      · simp only [EN, Nat.reduceEqDiff, reduceIte, e0, e1, e2, decide_true, Bool.not_true, Bool.not_false, decide_false, eq_self, hB1.cell] <;> rfl
      ·
        rintro k e0L hL0 hX0 hfr0 ⟨i, rfl, hi, i10_0⟩
        replace hs := hs.ext hX0
        replace hb := hb.ext hX0
        replace hB1 := hB1.ext hX0
        replace hS := hS.ext hX0
        replace hsA := hsA.ext hX0
        have k2_0 := hfr0 2 rfl; try simp only [EN, Nat.reduceEqDiff, reduceIte, e2, decide_true, Bool.not_true, Bool.not_false, decide_false, eq_self, hB1.cell] at k2_0
        have k4_0 := hfr0 4 rfl; try simp only [EN, Nat.reduceEqDiff, reduceIte, decide_true, Bool.not_true, Bool.not_false, decide_false, eq_self, hB1.cell] at k4_0
        have k7_0 := hfr0 7 rfl; try simp only [EN, Nat.reduceEqDiff, reduceIte, decide_true, Bool.not_true, Bool.not_false, decide_false, eq_self, hB1.cell] at k7_0
        have k8_0 := hfr0 8 rfl; try simp only [EN, Nat.reduceEqDiff, reduceIte, decide_true, Bool.not_true, Bool.not_false, decide_false, eq_self, hB1.cell] at k8_0
        have k9_0 := hfr0 9 rfl; try simp only [EN, Nat.reduceEqDiff, reduceIte, decide_true, Bool.not_true, Bool.not_false, decide_false, eq_self, hB1.cell] at k9_0
        refine hx_seq ?_
        refine hx_seq ?_
        refine hx_region ?_
        refine WL.qq (by simp only [EN, Nat.reduceEqDiff, reduceIte, qv_move, i10_0, decide_true, Bool.not_true, Bool.not_false, decide_false, eq_self, hB1.cell]; rfl) ?_
        refine WL.qq (by simp only [EN, Nat.reduceEqDiff, reduceIte, qv_move, k9_0, decide_true, Bool.not_true, Bool.not_false, decide_false, eq_self, hB1.cell]; rfl) ?_
        refine WL.qq (by simp only [EN, Nat.reduceEqDiff, reduceIte, qv_len, ln30, AR, decide_true, Bool.not_true, Bool.not_false, decide_false, eq_self, hB1.cell]; rfl) ?_
        refine WL.qq (by simp only [EN, Nat.reduceEqDiff, reduceIte, qv_binOp, binv_lss, decide_true, Bool.not_true, Bool.not_false, decide_false, eq_self, hB1.cell]; rfl) ?_
        refine WL.nil ?_
        refine th_norm ?_
        refine hx_cond (by simp only [EN, Nat.reduceEqDiff, reduceIte, decide_true, Bool.not_true, Bool.not_false, decide_false, eq_self, hB1.cell]; rfl) (fun hct35 => ?_) (fun hct35 => ?_)
        ·
          try simp only [BD] at hct35
          obtain ⟨z, hz⟩ := atG (l := R ++ [q]) (i := i) (by rw [List.length_append, List.length_singleton]; omega)
          refine hx_skip ?_
          refine th_norm ?_
          refine hx_seq ?_
          refine hx_block ?_
          refine hx_seq ?_
          refine hx_region ?_
          refine WL.qq (by simp only [EN, Nat.reduceEqDiff, reduceIte, qv_assign, decide_true, Bool.not_true, Bool.not_false, decide_false, eq_self, hB1.cell]; rfl) ?_
          refine WL.nil ?_
          refine th_norm ?_
          refine hx_block ?_
          refine hx_loopX [6, 11, 12, 13, 38, 39, 40, 41, 42, 43, 44, 45, 46, 47, 48, 49, 50, 51, 52, 53, 54, 55, 56, 57, 58, 59, 60, 61, 62, 63, 64, 65, 66, 67] (fun k e => ∃ (n : Nat), xs.length + 1 - n = k ∧ (n ≤ xs.length + 1) ∧ e 11 = .int .i64 n) _ ⟨0, rfl, ?_, ?_⟩ ?_
          · omega
          · simp only [EN, Nat.reduceEqDiff, reduceIte, k2_0, k4_0, k7_0, k8_0, k9_0, i10_0, decide_true, Bool.not_true, Bool.not_false, decide_false, eq_self, hB1.cell] <;> rfl
          ·
            rintro k e1L hL1 hX1 hfr1 ⟨n, rfl, hn, i11_1⟩
            replace hs := hs.ext hX1
            replace hb := hb.ext hX1
            replace hB1 := hB1.ext hX1
            replace hS := hS.ext hX1
            replace hsA := hsA.ext hX1
            have k2_1 := hfr1 2 rfl; try simp only [EN, Nat.reduceEqDiff, reduceIte, k2_0, decide_true, Bool.not_true, Bool.not_false, decide_false, eq_self, hB1.cell] at k2_1
            have k4_1 := hfr1 4 rfl; try simp only [EN, Nat.reduceEqDiff, reduceIte, k4_0, decide_true, Bool.not_true, Bool.not_false, decide_false, eq_self, hB1.cell] at k4_1
            have k7_1 := hfr1 7 rfl; try simp only [EN, Nat.reduceEqDiff, reduceIte, k7_0, decide_true, Bool.not_true, Bool.not_false, decide_false, eq_self, hB1.cell] at k7_1
            have k8_1 := hfr1 8 rfl; try simp only [EN, Nat.reduceEqDiff, reduceIte, k8_0, decide_true, Bool.not_true, Bool.not_false, decide_false, eq_self, hB1.cell] at k8_1
            have k9_1 := hfr1 9 rfl; try simp only [EN, Nat.reduceEqDiff, reduceIte, k9_0, decide_true, Bool.not_true, Bool.not_false, decide_false, eq_self, hB1.cell] at k9_1
            have k10_1 := hfr1 10 rfl; try simp only [EN, Nat.reduceEqDiff, reduceIte, i10_0, decide_true, Bool.not_true, Bool.not_false, decide_false, eq_self, hB1.cell] at k10_1
            refine hx_seq ?_
            refine hx_seq ?_
            refine hx_region ?_
            refine WL.qq (by simp only [EN, Nat.reduceEqDiff, reduceIte, qv_move, i11_1, decide_true, Bool.not_true, Bool.not_false, decide_false, eq_self, hB1.cell]; rfl) ?_
            refine WL.qq (by simp only [EN, Nat.reduceEqDiff, reduceIte, qv_move, k8_1, decide_true, Bool.not_true, Bool.not_false, decide_false, eq_self, hB1.cell]; rfl) ?_
            refine WL.qq (by simp only [EN, Nat.reduceEqDiff, reduceIte, qv_len, ln22, AR, decide_true, Bool.not_true, Bool.not_false, decide_false, eq_self, hB1.cell]; rfl) ?_
            refine WL.qq (by simp only [EN, Nat.reduceEqDiff, reduceIte, qv_binOp, binv_leq, decide_true, Bool.not_true, Bool.not_false, decide_false, eq_self, hB1.cell]; rfl) ?_
            refine WL.nil ?_
            refine th_norm ?_
            refine hx_cond (by simp only [EN, Nat.reduceEqDiff, reduceIte, decide_true, Bool.not_true, Bool.not_false, decide_false, eq_self, hB1.cell]; rfl) (fun hct41 => ?_) (fun hct41 => ?_)
            ·
              try simp only [BD] at hct41
              obtain ⟨b1, o1, ha1, hr1⟩ := hsA i z hz
              have hbn := balA_nat (l := runB (L.map BX.bd)) (q := z) (n := n) (by omega)
              refine hx_skip ?_
              refine th_norm ?_
              refine hx_seq ?_
              refine hx_block ?_
              refine hx_seq ?_
              refine hx_region ?_
              refine WL.qq (by simp only [EN, Nat.reduceEqDiff, reduceIte, qv_move, k7_1, decide_true, Bool.not_true, Bool.not_false, decide_false, eq_self, hB1.cell]; rfl) ?_
              refine WL.qq (by simp only [EN, Nat.reduceEqDiff, reduceIte, qv_move, k9_1, decide_true, Bool.not_true, Bool.not_false, decide_false, eq_self, hB1.cell]; rfl) ?_
              refine WL.qq (by simp only [EN, Nat.reduceEqDiff, reduceIte, qv_move, k10_1, decide_true, Bool.not_true, Bool.not_false, decide_false, eq_self, hB1.cell]; rfl) ?_
              refine WL.qq (by simp only [EN, Nat.reduceEqDiff, reduceIte, qv_indexAddr, decide_true, Bool.not_true, Bool.not_false, decide_false, eq_self, hB1.cell, ha1]; (try simp (disch := omega) only [ix30, Int.toNat_natCast]); rfl) ?_
              refine WL.qq (by simp only [EN, Nat.reduceEqDiff, reduceIte, k2_1, k4_1, k7_1, k8_1, k9_1, k10_1, i11_1, decide_true, Bool.not_true, Bool.not_false, decide_false, eq_self, hB1.cell, qv_load, ld24, Int.toNat_natCast, hr1]; rfl) ?_
              refine WL.cg Try.call17 (by simp only [EN, Nat.reduceEqDiff, reduceIte, AR, decide_true, Bool.not_true, Bool.not_false, decide_false, eq_self, hB1.cell]; exact c_account z _) ?_
              intro h5 hx5
              replace hs := hs.ext hx5
              replace hb := hb.ext hx5
              replace hB1 := hB1.ext hx5
              replace hS := hS.ext hx5
              replace hsA := hsA.ext hx5
              refine WL.qq (by simp only [EN, Nat.reduceEqDiff, reduceIte, qv_move, i11_1, decide_true, Bool.not_true, Bool.not_false, decide_false, eq_self, hB1.cell]; rfl) ?_
              refine WL.cg Try.call16 (by simp only [EN, Nat.reduceEqDiff, reduceIte, AR, decide_true, Bool.not_true, Bool.not_false, decide_false, eq_self, hB1.cell]; exact c_balAt z n hS.g hS.I.hr) ?_
              intro h6 hx6
              replace hs := hs.ext hx6
              replace hb := hb.ext hx6
              replace hB1 := hB1.ext hx6
              replace hS := hS.ext hx6
              replace hsA := hsA.ext hx6
              refine WL.qq (by simp only [EN, Nat.reduceEqDiff, reduceIte, qv_move, decide_true, Bool.not_true, Bool.not_false, decide_false, eq_self, hB1.cell]; rfl) ?_
              refine WL.qq (by simp only [EN, Nat.reduceEqDiff, reduceIte, qv_extract, AR, decide_true, Bool.not_true, Bool.not_false, decide_false, eq_self, hB1.cell]; rfl) ?_
              refine WL.qq (by simp only [EN, Nat.reduceEqDiff, reduceIte, qv_extract, AR, decide_true, Bool.not_true, Bool.not_false, decide_false, eq_self, hB1.cell]; rfl) ?_
              refine WL.qq (by simp only [EN, Nat.reduceEqDiff, reduceIte, qv_assign, decide_true, Bool.not_true, Bool.not_false, decide_false, eq_self, hB1.cell]; rfl) ?_
              refine WL.qq (by simp only [EN, Nat.reduceEqDiff, reduceIte, qv_assign, decide_true, Bool.not_true, Bool.not_false, decide_false, eq_self, hB1.cell]; rfl) ?_
              refine WL.nil ?_
              refine th_norm ?_
              refine hx_seq ?_
              refine hx_region ?_
              rw [hbn.1, hbn.2]
              obtain ⟨b2, o2, ha2, hr2⟩ := hsA i z hz
              refine WL.qq (by simp only [EN, Nat.reduceEqDiff, reduceIte, qv_move, decide_true, Bool.not_true, Bool.not_false, decide_false, eq_self, hB1.cell]; rfl) ?_
              refine WL.qq (by simp only [EN, Nat.reduceEqDiff, reduceIte, qv_binOp, binv_neq, eq32, Option.map_some, decide_true, Bool.not_true, Bool.not_false, decide_false, eq_self, hB1.cell]; rfl) ?_
              refine WL.qq (by simp only [EN, Nat.reduceEqDiff, reduceIte, qv_move, decide_true, Bool.not_true, Bool.not_false, decide_false, eq_self, hB1.cell]; rfl) ?_
              refine WL.cq (gd_at (t := 57) rfl (by simp only [EN, Nat.reduceEqDiff, reduceIte, decide_true, Bool.not_true, Bool.not_false, decide_false, eq_self, hB1.cell] <;> rfl)) (fun hg14_3 => by simp only [EN, Nat.reduceEqDiff, reduceIte, qv_move, decide_true, Bool.not_true, Bool.not_false, decide_false, eq_self, hB1.cell, hg14_3, GR]; rfl) ?_
              refine WL.cq (gd_at (t := 57) rfl (by simp only [EN, Nat.reduceEqDiff, reduceIte, k8_1, decide_true, Bool.not_true, Bool.not_false, decide_false, eq_self, hB1.cell] <;> rfl)) (fun hg14_4 => by simp only [EN, Nat.reduceEqDiff, reduceIte, qv_move, k8_1, decide_true, Bool.not_true, Bool.not_false, decide_false, eq_self, hB1.cell, hg14_4, GR]; rfl) ?_
              refine WL.cq (gd_at (t := 57) rfl (by simp only [EN, Nat.reduceEqDiff, reduceIte, k9_1, decide_true, Bool.not_true, Bool.not_false, decide_false, eq_self, hB1.cell] <;> rfl)) (fun hg14_5 => by simp only [EN, Nat.reduceEqDiff, reduceIte, qv_move, k9_1, decide_true, Bool.not_true, Bool.not_false, decide_false, eq_self, hB1.cell, hg14_5, GR]; rfl) ?_
              refine WL.cq (gd_at (t := 57) rfl (by simp only [EN, Nat.reduceEqDiff, reduceIte, k10_1, decide_true, Bool.not_true, Bool.not_false, decide_false, eq_self, hB1.cell] <;> rfl)) (fun hg14_6 => by simp only [EN, Nat.reduceEqDiff, reduceIte, qv_move, k10_1, decide_true, Bool.not_true, Bool.not_false, decide_false, eq_self, hB1.cell, hg14_6, GR]; rfl) ?_
              refine WL.cq (gd_at (t := 57) rfl (by simp only [EN, Nat.reduceEqDiff, reduceIte, decide_true, Bool.not_true, Bool.not_false, decide_false, eq_self, hB1.cell] <;> rfl)) (fun hg14_7 => by have hq0 := hg14_7; (try simp only [BD] at hq0); simp only [EN, Nat.reduceEqDiff, reduceIte, qv_indexAddr, decide_true, Bool.not_true, Bool.not_false, decide_false, eq_self, hB1.cell, ha2, hg14_7, GR]; (try simp (disch := omega) only [ix30, Int.toNat_natCast]); rfl) ?_
              refine WL.cq (gd_at (t := 57) rfl (by simp only [EN, Nat.reduceEqDiff, reduceIte, decide_true, Bool.not_true, Bool.not_false, decide_false, eq_self, hB1.cell] <;> rfl)) (fun hg14_8 => by simp only [EN, Nat.reduceEqDiff, reduceIte, k2_1, k4_1, k7_1, k8_1, k9_1, k10_1, i11_1, decide_true, Bool.not_true, Bool.not_false, decide_false, eq_self, hB1.cell, GR, hg14_8, qv_load, ld24, Int.toNat_natCast, hr2]; rfl) ?_
              refine WL.cq (gd_at (t := 57) rfl (by simp only [EN, Nat.reduceEqDiff, reduceIte, i11_1, decide_true, Bool.not_true, Bool.not_false, decide_false, eq_self, hB1.cell] <;> rfl)) (fun hg14_9 => by simp only [EN, Nat.reduceEqDiff, reduceIte, qv_move, i11_1, decide_true, Bool.not_true, Bool.not_false, decide_false, eq_self, hB1.cell, hg14_9, GR]; rfl) ?_
              refine WL.ccg (gd_at (t := 57) rfl (by simp only [EN, Nat.reduceEqDiff, reduceIte, decide_true, Bool.not_true, Bool.not_false, decide_false, eq_self, hB1.cell] <;> rfl)) Try.call18 (fun hg14_10 => by simp only [EN, Nat.reduceEqDiff, reduceIte, AR, decide_true, Bool.not_true, Bool.not_false, decide_false, eq_self, hB1.cell, hg14_10, GR]; exact (hS.m ▸ c_rBalance a xs c z n (by omega) (by rw [hS.m]; omega) (by rw [hS.m]; exact hAr) hS.fb hS.sl hS.bx)) ?_
              intro h7 hx7
              replace hs := hs.ext hx7
              replace hb := hb.ext hx7
              replace hB1 := hB1.ext hx7
              replace hS := hS.ext hx7
              replace hsA := hsA.ext hx7
              refine WL.cq (gd_at (t := 57) rfl (by simp only [EN, Nat.reduceEqDiff, reduceIte, decide_true, Bool.not_true, Bool.not_false, decide_false, eq_self, hB1.cell] <;> rfl)) (fun hg14_11 => by simp only [EN, Nat.reduceEqDiff, reduceIte, qv_binOp, binv_neq, eq2, Option.map_some, decide_true, Bool.not_true, Bool.not_false, decide_false, eq_self, hB1.cell, hg14_11, GR]; rfl) ?_
              refine WL.qq (by simp only [EN, Nat.reduceEqDiff, reduceIte, qv_pick, pk_and, pk_or, GR, decide_true, Bool.not_true, Bool.not_false, decide_false, eq_self, hB1.cell]; rfl) ?_
              refine WL.nil ?_
              refine th_norm ?_
              refine hx_cond (by simp only [EN, Nat.reduceEqDiff, reduceIte, decide_true, Bool.not_true, Bool.not_false, decide_false, eq_self, hB1.cell]; rfl) (fun hct67 => ?_) (fun hct67 => ?_)
              ·
                simp at hct67
              ·
                try simp only [BD] at hct67
                refine hx_skip ?_
                refine bl_norm ?_
                refine th_norm ?_
                refine hx_region ?_
                refine WL.qq (by simp only [EN, Nat.reduceEqDiff, reduceIte, qv_move, i11_1, decide_true, Bool.not_true, Bool.not_false, decide_false, eq_self, hB1.cell]; rfl) ?_
                refine WL.qq (by simp only [EN, Nat.reduceEqDiff, reduceIte, qv_binOp, binv_add, decide_true, Bool.not_true, Bool.not_false, decide_false, eq_self, hB1.cell]; (try simp (disch := omega) only [w64, w8, wu64]); rfl) ?_
                refine WL.qq (by simp only [EN, Nat.reduceEqDiff, reduceIte, qv_assign, decide_true, Bool.not_true, Bool.not_false, decide_false, eq_self, hB1.cell]; rfl) ?_
                refine WL.nil ?_
                refine th_norm ?_
                refine ⟨rfl, ?_, ?_, _, ?_, n + 1, rfl, ?_, ?_⟩  -- again 0 of loop 1
                · exact (hx5).trans ((hx6).trans (hx7))
                · (repeat (first | exact Fr.refl _ _ | refine Fr.set rfl ?_ | refine Fr.put rfl ?_ | with_reducible refine Fr.put0 ?_))
                · omega
                · omega
                · simp only [EN, Nat.reduceEqDiff, reduceIte, k2_1, k4_1, k7_1, k8_1, k9_1, k10_1, i11_1, decide_true, Bool.not_true, Bool.not_false, decide_false, eq_self, hB1.cell] <;> first | rfl | (congr 1; omega)
            ·
              try simp only [BD] at hct41
              refine hx_exit ?_
              refine th_exit ?_
              refine th_exit ?_
              refine bl_hit ?_
              refine bl_norm ?_
              refine th_norm ?_
              refine hx_region ?_
              refine WL.qq (by simp only [EN, Nat.reduceEqDiff, reduceIte, qv_move, k10_1, decide_true, Bool.not_true, Bool.not_false, decide_false, eq_self, hB1.cell]; rfl) ?_
              refine WL.qq (by simp only [EN, Nat.reduceEqDiff, reduceIte, qv_binOp, binv_add, decide_true, Bool.not_true, Bool.not_false, decide_false, eq_self, hB1.cell]; (try simp (disch := omega) only [w64, w8, wu64]); rfl) ?_
              refine WL.qq (by simp only [EN, Nat.reduceEqDiff, reduceIte, qv_assign, decide_true, Bool.not_true, Bool.not_false, decide_false, eq_self, hB1.cell]; rfl) ?_
              refine WL.nil ?_
              refine th_norm ?_
              refine ⟨rfl, ?_, ?_, _, ?_, i + 1, rfl, ?_, ?_⟩  -- again 0 of loop 0
              · exact hX1
              · (repeat (first | exact Fr.refl _ _ | refine Fr.set rfl ?_ | refine Fr.put rfl ?_ | with_reducible refine Fr.put0 ?_ | refine Fr.trans ?_ (Fr.of hfr1 rfl)))
              · omega
              · omega
              · simp only [EN, Nat.reduceEqDiff, reduceIte, k2_1, k4_1, k7_1, k8_1, k9_1, k10_1, i11_1, decide_true, Bool.not_true, Bool.not_false, decide_false, eq_self, hB1.cell] <;> first | rfl | (congr 1; omega)
        ·
          try simp only [BD] at hct35
          refine hx_exit ?_
          refine th_exit ?_
          refine th_exit ?_
          refine bl_hit ?_
          refine th_norm ?_
          refine hx_seq ?_
          refine hx_region ?_
          refine WL.qq (by simp only [EN, Nat.reduceEqDiff, reduceIte, qv_move, k7_0, decide_true, Bool.not_true, Bool.not_false, decide_false, eq_self, hB1.cell]; rfl) ?_
          refine WL.qq (by simp only [EN, Nat.reduceEqDiff, reduceIte, qv_load, ld24, readN, AR, Nat.zero_add, Nat.reduceAdd, k4_0, decide_true, Bool.not_true, Bool.not_false, decide_false, eq_self, hB1.cell]; rfl) ?_
          refine WL.cg Try.call17 (by simp only [EN, Nat.reduceEqDiff, reduceIte, AR, decide_true, Bool.not_true, Bool.not_false, decide_false, eq_self, hB1.cell]; exact c_account q _) ?_
          intro h8 hx8
          replace hs := hs.ext hx8
          replace hb := hb.ext hx8
          replace hB1 := hB1.ext hx8
          replace hS := hS.ext hx8
          replace hsA := hsA.ext hx8
          refine WL.qq (by simp only [EN, Nat.reduceEqDiff, reduceIte, qv_move, k2_0, decide_true, Bool.not_true, Bool.not_false, decide_false, eq_self, hB1.cell]; rfl) ?_
          refine WL.cg Try.call16 (by simp only [EN, Nat.reduceEqDiff, reduceIte, AR, decide_true, Bool.not_true, Bool.not_false, decide_false, eq_self, hB1.cell]; exact c_balAt q sq hS.g hS.I.hr) ?_
          intro h9 hx9
          replace hs := hs.ext hx9
          replace hb := hb.ext hx9
          replace hB1 := hB1.ext hx9
          replace hS := hS.ext hx9
          replace hsA := hsA.ext hx9
          refine WL.qq (by simp only [EN, Nat.reduceEqDiff, reduceIte, qv_move, decide_true, Bool.not_true, Bool.not_false, decide_false, eq_self, hB1.cell]; rfl) ?_
          refine WL.qq (by simp only [EN, Nat.reduceEqDiff, reduceIte, qv_extract, AR, decide_true, Bool.not_true, Bool.not_false, decide_false, eq_self, hB1.cell]; rfl) ?_
          refine WL.qq (by simp only [EN, Nat.reduceEqDiff, reduceIte, qv_extract, AR, decide_true, Bool.not_true, Bool.not_false, decide_false, eq_self, hB1.cell]; rfl) ?_
          refine WL.qq (by simp only [EN, Nat.reduceEqDiff, reduceIte, qv_assign, decide_true, Bool.not_true, Bool.not_false, decide_false, eq_self, hB1.cell]; rfl) ?_
          refine WL.qq (by simp only [EN, Nat.reduceEqDiff, reduceIte, qv_assign, decide_true, Bool.not_true, Bool.not_false, decide_false, eq_self, hB1.cell]; rfl) ?_
          refine WL.nil ?_
          refine th_norm ?_
          refine hx_seq ?_
          refine hx_seq ?_
          refine hx_region ?_
          refine WL.qq (by simp only [EN, Nat.reduceEqDiff, reduceIte, qv_move, k2_0, decide_true, Bool.not_true, Bool.not_false, decide_false, eq_self, hB1.cell]; rfl) ?_
          refine WL.qq (by simp only [EN, Nat.reduceEqDiff, reduceIte, qv_binOp, binv_lss, decide_true, Bool.not_true, Bool.not_false, decide_false, eq_self, hB1.cell]; rfl) ?_
          refine WL.qq (by simp only [EN, Nat.reduceEqDiff, reduceIte, qv_move, decide_true, Bool.not_true, Bool.not_false, decide_false, eq_self, hB1.cell]; rfl) ?_
          refine WL.cq (gd_at (t := 78) rfl (by simp only [EN, Nat.reduceEqDiff, reduceIte, k2_0, decide_true, Bool.not_true, Bool.not_false, decide_false, eq_self, hB1.cell] <;> rfl)) (fun hg17_3 => by simp only [EN, Nat.reduceEqDiff, reduceIte, qv_move, k2_0, decide_true, Bool.not_true, Bool.not_false, decide_false, eq_self, hB1.cell, hg17_3, GR]; rfl) ?_
          refine WL.cq (gd_at (t := 78) rfl (by simp only [EN, Nat.reduceEqDiff, reduceIte, k8_0, decide_true, Bool.not_true, Bool.not_false, decide_false, eq_self, hB1.cell] <;> rfl)) (fun hg17_4 => by simp only [EN, Nat.reduceEqDiff, reduceIte, qv_move, k8_0, decide_true, Bool.not_true, Bool.not_false, decide_false, eq_self, hB1.cell, hg17_4, GR]; rfl) ?_
          refine WL.cq (gd_at (t := 78) rfl (by simp only [EN, Nat.reduceEqDiff, reduceIte, decide_true, Bool.not_true, Bool.not_false, decide_false, eq_self, hB1.cell] <;> rfl)) (fun hg17_5 => by simp only [EN, Nat.reduceEqDiff, reduceIte, qv_len, ln22, AR, decide_true, Bool.not_true, Bool.not_false, decide_false, eq_self, hB1.cell, hg17_5, GR]; rfl) ?_
          refine WL.cq (gd_at (t := 78) rfl (by simp only [EN, Nat.reduceEqDiff, reduceIte, decide_true, Bool.not_true, Bool.not_false, decide_false, eq_self, hB1.cell] <;> rfl)) (fun hg17_6 => by simp only [EN, Nat.reduceEqDiff, reduceIte, qv_binOp, binv_gtr, decide_true, Bool.not_true, Bool.not_false, decide_false, eq_self, hB1.cell, hg17_6, GR]; rfl) ?_
          refine WL.qq (by simp only [EN, Nat.reduceEqDiff, reduceIte, qv_pick, pk_and, pk_or, GR, decide_true, Bool.not_true, Bool.not_false, decide_false, eq_self, hB1.cell]; rfl) ?_
          refine WL.nil ?_
          refine th_norm ?_
          refine hx_cond (by simp only [EN, Nat.reduceEqDiff, reduceIte, decide_true, Bool.not_true, Bool.not_false, decide_false, eq_self, hB1.cell]; rfl) (fun hct83 => ?_) (fun hct83 => ?_)
          ·
            try simp only [BD] at hct83
            refine hx_seq ?_
            refine hx_region ?_
            refine WL.qq (by simp only [EN, Nat.reduceEqDiff, reduceIte, qv_move, decide_true, Bool.not_true, Bool.not_false, decide_false, eq_self, hB1.cell]; rfl) ?_
            refine WL.qq (by simp only [EN, Nat.reduceEqDiff, reduceIte, qv_binOp, binv_eql, eq32, Option.map_some, decide_true, Bool.not_true, Bool.not_false, decide_false, eq_self, hB1.cell]; rfl) ?_
            refine WL.qq (by simp only [EN, Nat.reduceEqDiff, reduceIte, qv_move, decide_true, Bool.not_true, Bool.not_false, decide_false, eq_self, hB1.cell]; rfl) ?_
            refine WL.cq (gd_at (t := 86) rfl (by simp only [EN, Nat.reduceEqDiff, reduceIte, decide_true, Bool.not_true, Bool.not_false, decide_false, eq_self, hB1.cell] <;> rfl)) (fun hg18_3 => by simp only [EN, Nat.reduceEqDiff, reduceIte, qv_move, decide_true, Bool.not_true, Bool.not_false, decide_false, eq_self, hB1.cell, hg18_3, GR]; rfl) ?_
            refine WL.cq (gd_at (t := 86) rfl (by simp only [EN, Nat.reduceEqDiff, reduceIte, decide_true, Bool.not_true, Bool.not_false, decide_false, eq_self, hB1.cell] <;> rfl)) (fun hg18_4 => by simp only [EN, Nat.reduceEqDiff, reduceIte, qv_binOp, binv_eql, eq2, Option.map_some, decide_true, Bool.not_true, Bool.not_false, decide_false, eq_self, hB1.cell, hg18_4, GR]; rfl) ?_
            refine WL.qq (by simp only [EN, Nat.reduceEqDiff, reduceIte, qv_pick, pk_and, pk_or, GR, decide_true, Bool.not_true, Bool.not_false, decide_false, eq_self, hB1.cell]; rfl) ?_
            refine WL.qq (by simp only [EN, Nat.reduceEqDiff, reduceIte, qv_move, decide_true, Bool.not_true, Bool.not_false, decide_false, eq_self, hB1.cell]; rfl) ?_
            refine WL.ccg (gd_at (t := 90) rfl (by simp only [EN, Nat.reduceEqDiff, reduceIte, decide_true, Bool.not_true, Bool.not_false, decide_false, eq_self, hB1.cell] <;> rfl)) Try.call13 (fun hg18_7 => by simp only [EN, Nat.reduceEqDiff, reduceIte, AR, decide_true, Bool.not_true, Bool.not_false, decide_false, eq_self, hB1.cell, hg18_7, GR]; exact c_known14 _) ?_
            intro h10 hx10
            replace hs := hs.ext hx10
            replace hb := hb.ext hx10
            replace hB1 := hB1.ext hx10
            replace hS := hS.ext hx10
            replace hsA := hsA.ext hx10
            refine WL.qq (by simp only [EN, Nat.reduceEqDiff, reduceIte, qv_pick, pk_and, pk_or, GR, decide_true, Bool.not_true, Bool.not_false, decide_false, eq_self, hB1.cell]; rfl) ?_
            refine WL.qq (by simp only [EN, Nat.reduceEqDiff, reduceIte, qv_assign, decide_true, Bool.not_true, Bool.not_false, decide_false, eq_self, hB1.cell]; rfl) ?_
            refine WL.nil ?_
            refine th_norm ?_
            refine hx_ret ?_
            refine th_ret ?_
            refine fin_ret [.tmp 6] rfl rfl (by simp only [EN, Nat.reduceEqDiff, reduceIte, resv, k2_0, k4_0, k7_0, k8_0, k9_0, i10_0, decide_true, Bool.not_true, Bool.not_false, decide_false, eq_self, hB1.cell]; rfl) ?_  -- ret 1 r18
            have h1 : balE (runB (L.map BX.bd)) sq = 2 ∧ balA (runB (L.map BX.bd)) q sq = 0 := (by have h9 := hct83; (try simp at h9); unfold balE balA; rw [if_neg (by omega), if_neg (by omega)]; exact ⟨rfl, rfl⟩)
            exact ⟨by simp only [retOf, h1]; simp, ((hx1).trans ((hx3).trans ((hx4).trans ((hX0).trans ((hx8).trans ((hx9).trans (hx10)))))))⟩
          ·
            try simp only [BD] at hct83
            refine hx_skip ?_
            refine th_norm ?_
            refine hx_seq ?_
            refine hx_region ?_
            refine WL.qq (by simp only [EN, Nat.reduceEqDiff, reduceIte, qv_move, decide_true, Bool.not_true, Bool.not_false, decide_false, eq_self, hB1.cell]; rfl) ?_
            refine WL.qq (by simp only [EN, Nat.reduceEqDiff, reduceIte, qv_binOp, binv_eql, eq32, Option.map_some, decide_true, Bool.not_true, Bool.not_false, decide_false, eq_self, hB1.cell]; rfl) ?_
            refine WL.qq (by simp only [EN, Nat.reduceEqDiff, reduceIte, qv_move, decide_true, Bool.not_true, Bool.not_false, decide_false, eq_self, hB1.cell]; rfl) ?_
            refine WL.ccg (gd_at (t := 95) rfl (by simp only [EN, Nat.reduceEqDiff, reduceIte, decide_true, Bool.not_true, Bool.not_false, decide_false, eq_self, hB1.cell] <;> rfl)) Try.call13 (fun hg19_3 => by simp only [EN, Nat.reduceEqDiff, reduceIte, AR, decide_true, Bool.not_true, Bool.not_false, decide_false, eq_self, hB1.cell, hg19_3, GR]; exact c_known14 _) ?_
            intro h11 hx11
            replace hs := hs.ext hx11
            replace hb := hb.ext hx11
            replace hB1 := hB1.ext hx11
            replace hS := hS.ext hx11
            replace hsA := hsA.ext hx11
            refine WL.qq (by simp only [EN, Nat.reduceEqDiff, reduceIte, qv_pick, pk_and, pk_or, GR, decide_true, Bool.not_true, Bool.not_false, decide_false, eq_self, hB1.cell]; rfl) ?_
            refine WL.qq (by simp only [EN, Nat.reduceEqDiff, reduceIte, qv_assign, decide_true, Bool.not_true, Bool.not_false, decide_false, eq_self, hB1.cell]; rfl) ?_
            refine WL.nil ?_
            refine th_norm ?_
            refine hx_ret ?_
            refine fin_ret [.tmp 6] rfl rfl (by simp only [EN, Nat.reduceEqDiff, reduceIte, resv, k2_0, k4_0, k7_0, k8_0, k9_0, i10_0, decide_true, Bool.not_true, Bool.not_false, decide_false, eq_self, hB1.cell]; rfl) ?_  -- ret 2 r19
            have h1 : balE (runB (L.map BX.bd)) sq = 0 := (by have h9 := hct83; (try simp at h9); unfold balE; rw [if_pos (by omega)])
            exact ⟨by simp only [retOf, h1]; simp, ((hx1).trans ((hx3).trans ((hx4).trans ((hX0).trans ((hx8).trans ((hx9).trans (hx11)))))))⟩
end GL
namespace Go.Proofs.Ytklhfckdifkpaaa.historyBalances
open Go.ChangeShapes Go.WideShapes Go.ChangeAt Go.RowKit
theorem own : ownKnob Try.prog.godebug = none := by kernel_rfl
theorem laid : laidOutB Try.prog = true := by kernel_rfl
set_option maxRecDepth 100000 in
theorem lifted (os : Os) (started : os.Started) (H : Type) (enc : TypeId × Value → H) :
    ReturnsInHanded {} Try.checked os 3 .any (Rows.historyBalancesSpec.pre6 enc Try.prog Try.f3 Rows.historyBalancesRow.domain false) (Rows.historyBalancesSpec.post enc Try.prog Try.f3 false true false false) := by
  refine returnsInHanded_of_change (C := Try.checked) own started (by kernel_rfl) Try.func3
    (ChangeSpec.witness6 (enc := enc) (C := Try.checked) false ⟨#[], #[(.slice none 0 0), (.agg #[(.string ⟨#[]⟩), (.int .i64 0), (.string ⟨#[]⟩)]), (.int .i64 0)], []⟩ 8 (by kernel_rfl) (by kernel_rfl) (by kernel_rfl) (by kernel_rfl)) ?_
  intro W base args ds gs before hval0 hW hcnd _
  have hval : ∀ (j : Nat) t v, Try.f3.params[j]? = some t → args[j]? = some v → Value.okWide Try.prog W .any base t v := hval0
  have hW' := hW
  obtain ⟨p, q, hA0, hV, rfl, hfz, hnd⟩ := hW
  have hA : DataW.TrodAll enc Try.prog W 0 (fun _ => true) true Try.f3.params.toList args.toList ds p := hA0
  rw [Try.params3] at hA hval
  obtain ⟨v0, vs0, d0, ds0, p0, q0, hargs, rfl, rfl, h0, r0⟩ := trodAll_cons hA
  obtain ⟨v1, vs1, d1, ds1, p1, q1, rfl, rfl, rfl, h1, r1⟩ := trodAll_cons r0
  obtain ⟨v2, vs2, d2, ds2, p2, q2, rfl, rfl, rfl, h2, r2⟩ := trodAll_cons r1
  obtain ⟨rfl, rfl, rfl⟩ := trodAll_nil r2
  obtain rfl : args = #[v0, v1, v2] := by cases args; simp_all
  obtain ⟨rfl, rfl⟩ := trodVars_none hV
  obtain ⟨al, l, cl, rfl, hl, hb, hll, has⟩ := GL.view_bsS (hval 0 22 v0 rfl rfl) h0
  obtain ⟨q, rfl⟩ := GL.view_ac (hval 1 24 v1 rfl rfl) h1
  obtain ⟨n, rfl, _, _⟩ := GL.view_i (hval 2 3 v2 rfl rfl) h2
  exact GL.law_done (tb := 4) laid (by kernel_rfl) rfl (by kernel_rfl) Try.underlying4 hW' rfl (GL.l_bal al l cl q n hl hb hll has)
theorem over : Rows.historyBalancesRow.holds Try.pinned (OpenSpec.ofChange Rows.historyBalancesSpec) :=
  OpenClaim.holds_of_wide 3 Try.f3 rfl rfl rfl rfl rfl rfl rfl ⟨rfl, rfl, rfl, rfl, rfl⟩ rfl rfl rfl rfl rfl (by kernel_rfl) Try.func3 (by kernel_rfl)
    (of_decide_eq_true (by kernel_rfl)) (by unfold Func.isWrapper; first | (rw [if_pos (by decide +kernel)]; kernel_rfl) | (rw [if_neg (by decide +kernel)]; exact ⟨rfl, rfl⟩))
    (fun os started H enc _ => lifted os started H enc)
theorem proved : Rows.HistoryBalancesSaid := over
end Go.Proofs.Ytklhfckdifkpaaa.historyBalances


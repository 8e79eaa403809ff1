/- The law HistoryAccounts returns true: Accounts returns all accounts with postings in increasing order, and Compare is a total order. No condition beyond the row's own. -/
import Derived.Test.YtklhfckdifkpaaaRows
import Derived.Test.YtklhfckdifkpaaaHisO
import Derived.Test.YtklhfckdifkpaaaHisS
import Derived.Test.YtklhfckdifkpaaaHisV
set_option linter.unusedSimpArgs false
set_option linter.unusedVariables false
set_option linter.unnecessarySimpa false
namespace GL
open Go Go.Proofs
set_option maxRecDepth 8000
theorem LD.offS {P : Program} {ops : Array Oper} {ds : List Deferred} {K : Kont} {e : Env} {ρ : Rel} {late : Nat → Bool} {Φ : Nat → Option Spec} {h0 : Heap} {k d : Nat} {rest : List Oper} {F : List (Nat × Value)} {o : Op} {ty : TypeId} {pos : String} {aft : Array Edge} {gw : Option (Nat × Bool)}
    (hl : late k = false) (hg : gOk ops e ⟨some d, o, ty, pos, aft, gw⟩ = false) (hk : LD ρ P ops late Φ h0 ds K (k + 1) rest (Env.set e d undef) F) : LD ρ P ops late Φ h0 ds K k (⟨some d, o, ty, pos, aft, gw⟩ :: rest) e F := LD.off hl hg hk
theorem cmpA_le {x y : AC} : cmpA x y ≤ 0 ↔ ¬ aLt y x := by
  have h1 := @cmpA_lt x y
  have h2 := @cmpA_lt y x
  have h3 := @cmpA_eq x y
  constructor
  · intro h hh
    by_cases h4 : aLt x y
    · exact aLt_irrefl _ (aLt_trans h4 hh)
    · have h5 : cmpA x y = 0 := by
        have : ¬ cmpA x y < 0 := fun hc => h4 (h1.1 hc)
        omega
      rw [h3] at h5; subst h5; exact aLt_irrefl _ hh
  · intro h
    by_cases h4 : aLt x y
    · have := h1.2 h4; omega
    · have h5 := h3.2 (aLt_tri h4 h); omega
theorem cmpA_tr {x y z : AC} (h1 : decide (cmpA x y ≤ 0) = true) (h2 : decide (cmpA y z ≤ 0) = true) : decide (0 < cmpA x z) = false := by
  have h3 := cmpA_le.1 (of_decide_eq_true h1)
  have h4 := cmpA_le.1 (of_decide_eq_true h2)
  have h5 : cmpA x z ≤ 0 := cmpA_le.2 fun hh => by
    by_cases h6 : aLt x y
    · exact h4 (aLt_trans hh h6)
    · have := aLt_tri h6 h3; subst this; exact h4 hh
  exact decide_eq_false (by omega)
theorem cmpA_same (x y : AC) : decide (cmpA x y = 0) = ((x.o == y.o) && (decide (x.k = y.k) && ((x.a == y.a) && true))) := by
  rw [Bool.eq_iff_iff, decide_eq_true_iff, cmpA_eq, ac_eq]
  simp
theorem runB_sub2 {l : List HB} {b x : HB} (h : x ∈ stp l b) : x ∈ l ∨ x = b := by
  unfold stp at h
  split at h
  · rcases List.mem_append.1 h with h | h
    · exact .inl h
    · simp at h; exact .inr h
  · exact .inl h
theorem runB_in (L : List HB) : ∀ x ∈ runB L, x ∈ L := by
  refine snoc_ind (p := fun L => ∀ x ∈ runB L, x ∈ L) (fun x h => by cases h) ?_ L
  intro L b ih x hx
  have h1 : runB (L ++ [b]) = stp (runB L) b := by rw [runB, List.foldl_append]; rfl
  rw [h1] at hx
  rcases runB_sub2 hx with h | h
  · exact List.mem_append_left _ (ih x h)
  · subst h; simp
theorem runB_AS2 {L : List BX} (h : ∀ x ∈ L, ∀ y ∈ pos x.bd, AS y.c) : ∀ y ∈ allP (runB (L.map BX.bd)), AS y.c := fun y hy => by
  obtain ⟨b, hb, hq⟩ := List.mem_flatMap.1 hy
  obtain ⟨x, hx, rfl⟩ := List.mem_map.1 (runB_in _ b hb)
  exact h x hx y hq
set_option maxHeartbeats 2000000 in
theorem l_acc (al : Option Addr) (L : List BX) (cl : Nat) (u v w : AC) (hu : AS u) (hv : AS v) (hw : AS w) {h : Heap} (hs : SlG 4 bdL h al L) (hb : BXs h L) (ll : L.length ≤ 9223372036854775807) (hLS : ∀ x ∈ L, ∀ y ∈ pos x.bd, AS y.c) :
    HCalls Try.prog 10 #[.slice al L.length cl, acV u, acV v, acV w] h (Grow (.bool true) h) := by
  refine hcalls2 Try.func10 rfl (by decide +kernel) (by simp only [Try.ntmps10]; exact of_decide_eq_true rfl) ?_
  intro e hin
  have e0 := hin 0 _ rfl
  have e1 := hin 1 _ rfl
  have e2 := hin 2 _ rfl
  have e3 := hin 3 _ rfl
  refine hx_seq ?_
  refine hx_region ?_
  refine WL.box2 (by simp only [EN, Nat.reduceEqDiff, reduceIte, Value.cells, e1]; rfl) ?_
  intro h1 B1 hx1 hlt1 hB1
  replace hs := hs.ext hx1
  replace hb := hb.ext hx1
  refine WL.box2 (by simp only [EN, Nat.reduceEqDiff, reduceIte, Value.cells, e2, hB1.cell]; rfl) ?_
  intro h2 B2 hx2 hlt2 hB2
  replace hs := hs.ext hx2
  replace hb := hb.ext hx2
  replace hB1 := hB1.ext hx2
  refine WL.box2 (by simp only [EN, Nat.reduceEqDiff, reduceIte, Value.cells, e3, hB1.cell, hB2.cell]; rfl) ?_
  intro h3 B3 hx3 hlt3 hB3
  replace hs := hs.ext hx3
  replace hb := hb.ext hx3
  replace hB1 := hB1.ext hx3
  replace hB2 := hB2.ext hx3
  refine WL.qq (by simp only [EN, Nat.reduceEqDiff, reduceIte, qv_assign]; rfl) ?_
  refine WL.nil ?_
  refine th_norm ?_
  refine hx_cutX [8, 14, 15, 16, 17, 18, 19, 20, 21, 22, 23, 24, 25, 26, 27, 28, 29, 30, 31, 32, 33, 34, 35, 36, 37, 38, 39, 40, 41, 42, 43, 44, 45, 46, 47, 48, 49, 50, 51, 52, 53, 54] (fun e => True) ?_ ?_
  ·
    refine hx_seq ?_
    rcases Bool.eq_false_or_eq_true (decide (cmpA u v ≤ 0)) with hd1 | hd1
    ·
      rcases Bool.eq_false_or_eq_true (decide (cmpA v w ≤ 0)) with hd2 | hd2
      ·
        have hd3 := cmpA_tr hd1 hd2
        apply hx_draw2 Rel.grows [] [1, 3, 4, 7, 12, 17, 22, 24, 25, 31, 33, 34] [(1, Spec.is _), (3, Spec.is _), (4, Spec.is _), (7, Spec.is _), (12, Spec.is _), (17, Spec.is _), (22, Spec.is _), (24, Spec.is _), (25, Spec.is _), (31, Spec.is _), (33, Spec.is _), (34, Spec.is _)] rfl (by decide +kernel) rfl
        refine LD.qq rfl rfl (by simp only [EN, Nat.reduceEqDiff, reduceIte, qv_load, ld24, readN, AR, Nat.zero_add, Nat.reduceAdd, hB1.cell]; rfl) ?_
        refine LD.ck rfl rfl Try.call17 (by intro hD hr; have hx : Ext _ _ := hr; simp only [EN, Nat.reduceEqDiff, reduceIte, AR]; exact c_account _ _) ?_
        refine LD.qq rfl rfl (by simp only [EN, Nat.reduceEqDiff, reduceIte, qv_load, ld24, readN, AR, Nat.zero_add, Nat.reduceAdd, hB2.cell]; rfl) ?_
        refine LD.ck rfl rfl Try.call17 (by intro hD hr; have hx : Ext _ _ := hr; simp only [EN, Nat.reduceEqDiff, reduceIte, AR]; exact c_account _ _) ?_
        refine LD.ck rfl rfl Try.call37 (by intro hD hr; have hx : Ext _ _ := hr; simp only [EN, Nat.reduceEqDiff, reduceIte, AR]; exact c_cmpA u v _) ?_
        refine LD.qq rfl rfl (by simp only [EN, Nat.reduceEqDiff, reduceIte, qv_load, ld24, readN, AR, Nat.zero_add, Nat.reduceAdd, hB1.cell]; rfl) ?_
        refine LD.qq rfl rfl (by simp only [EN, Nat.reduceEqDiff, reduceIte, qv_load, ld24, readN, AR, Nat.zero_add, Nat.reduceAdd, hB2.cell]; rfl) ?_
        refine LD.ck rfl rfl Try.call38 (by intro hD hr; have hx : Ext _ _ := hr; simp only [EN, Nat.reduceEqDiff, reduceIte, AR]; exact c_rCmp u v hu hv _) ?_
        refine LD.qq rfl rfl (by simp only [EN, Nat.reduceEqDiff, reduceIte, qv_binOp, binv_neq, eq3, Option.map_some, eq_self, decide_true, Bool.not_true]; rfl) ?_
        refine LD.qq rfl rfl (by simp only [EN, Nat.reduceEqDiff, reduceIte, qv_move]; rfl) ?_
        refine LD.on (by rw [gOk_s (gd_at (t := 23) rfl (by simp only [EN, Nat.reduceEqDiff, reduceIte] <;> rfl))]; rfl) ?_
        refine LD.qq rfl rfl (by simp only [EN, Nat.reduceEqDiff, reduceIte, qv_load, ld24, readN, AR, Nat.zero_add, Nat.reduceAdd, hB1.cell]; rfl) ?_
        refine LD.on (by rw [gOk_s (gd_at (t := 23) rfl (by simp only [EN, Nat.reduceEqDiff, reduceIte] <;> rfl))]; rfl) ?_
        refine LD.qq rfl rfl (by simp only [EN, Nat.reduceEqDiff, reduceIte, qv_load, ld24, readN, AR, Nat.zero_add, Nat.reduceAdd, hB2.cell]; rfl) ?_
        refine LD.on (by rw [gOk_s (gd_at (t := 23) rfl (by simp only [EN, Nat.reduceEqDiff, reduceIte] <;> rfl))]; rfl) ?_
        refine LD.ck rfl rfl Try.call38 (by intro hD hr; have hx : Ext _ _ := hr; simp only [EN, Nat.reduceEqDiff, reduceIte, AR]; exact c_rCmp u v hu hv _) ?_
        refine LD.on (by rw [gOk_s (gd_at (t := 23) rfl (by simp only [EN, Nat.reduceEqDiff, reduceIte] <;> rfl))]; rfl) ?_
        refine LD.qq rfl rfl (by simp only [EN, Nat.reduceEqDiff, reduceIte, qv_binOp, binv_leq, hd1]; rfl) ?_
        refine LD.on (by rw [gOk_s (gd_at (t := 23) rfl (by simp only [EN, Nat.reduceEqDiff, reduceIte] <;> rfl))]; rfl) ?_
        refine LD.qq rfl rfl (by simp only [EN, Nat.reduceEqDiff, reduceIte, qv_move]; rfl) ?_
        refine LD.on (by rw [gOk_s (gd_at (t := 28) rfl (by simp only [EN, Nat.reduceEqDiff, reduceIte] <;> rfl))]; rfl) ?_
        refine LD.qq rfl rfl (by simp only [EN, Nat.reduceEqDiff, reduceIte, qv_load, ld24, readN, AR, Nat.zero_add, Nat.reduceAdd, hB2.cell]; rfl) ?_
        refine LD.on (by rw [gOk_s (gd_at (t := 28) rfl (by simp only [EN, Nat.reduceEqDiff, reduceIte] <;> rfl))]; rfl) ?_
        refine LD.qq rfl rfl (by simp only [EN, Nat.reduceEqDiff, reduceIte, qv_load, ld24, readN, AR, Nat.zero_add, Nat.reduceAdd, hB3.cell]; rfl) ?_
        refine LD.on (by rw [gOk_s (gd_at (t := 28) rfl (by simp only [EN, Nat.reduceEqDiff, reduceIte] <;> rfl))]; rfl) ?_
        refine LD.ck rfl rfl Try.call38 (by intro hD hr; have hx : Ext _ _ := hr; simp only [EN, Nat.reduceEqDiff, reduceIte, AR]; exact c_rCmp v w hv hw _) ?_
        refine LD.on (by rw [gOk_s (gd_at (t := 28) rfl (by simp only [EN, Nat.reduceEqDiff, reduceIte] <;> rfl))]; rfl) ?_
        refine LD.qq rfl rfl (by simp only [EN, Nat.reduceEqDiff, reduceIte, qv_binOp, binv_leq, hd2]; rfl) ?_
        refine LD.on (by rw [gOk_s (gd_at (t := 23) rfl (by simp only [EN, Nat.reduceEqDiff, reduceIte] <;> rfl))]; rfl) ?_
        refine LD.qq rfl rfl (by simp only [EN, Nat.reduceEqDiff, reduceIte, qv_pick, pk_and, pk_or, GR]; rfl) ?_
        refine LD.on (by rw [gOk_s (gd_at (t := 23) rfl (by simp only [EN, Nat.reduceEqDiff, reduceIte] <;> rfl))]; rfl) ?_
        refine LD.qq rfl rfl (by simp only [EN, Nat.reduceEqDiff, reduceIte, qv_move]; rfl) ?_
        refine LD.on (by rw [gOk_s (gd_at (t := 34) rfl (by simp only [EN, Nat.reduceEqDiff, reduceIte] <;> rfl))]; rfl) ?_
        refine LD.qq rfl rfl (by simp only [EN, Nat.reduceEqDiff, reduceIte, qv_load, ld24, readN, AR, Nat.zero_add, Nat.reduceAdd, hB1.cell]; rfl) ?_
        refine LD.on (by rw [gOk_s (gd_at (t := 34) rfl (by simp only [EN, Nat.reduceEqDiff, reduceIte] <;> rfl))]; rfl) ?_
        refine LD.ck rfl rfl Try.call17 (by intro hD hr; have hx : Ext _ _ := hr; simp only [EN, Nat.reduceEqDiff, reduceIte, AR]; exact c_account _ _) ?_
        refine LD.on (by rw [gOk_s (gd_at (t := 34) rfl (by simp only [EN, Nat.reduceEqDiff, reduceIte] <;> rfl))]; rfl) ?_
        refine LD.qq rfl rfl (by simp only [EN, Nat.reduceEqDiff, reduceIte, qv_load, ld24, readN, AR, Nat.zero_add, Nat.reduceAdd, hB3.cell]; rfl) ?_
        refine LD.on (by rw [gOk_s (gd_at (t := 34) rfl (by simp only [EN, Nat.reduceEqDiff, reduceIte] <;> rfl))]; rfl) ?_
        refine LD.ck rfl rfl Try.call17 (by intro hD hr; have hx : Ext _ _ := hr; simp only [EN, Nat.reduceEqDiff, reduceIte, AR]; exact c_account _ _) ?_
        refine LD.on (by rw [gOk_s (gd_at (t := 34) rfl (by simp only [EN, Nat.reduceEqDiff, reduceIte] <;> rfl))]; rfl) ?_
        refine LD.ck rfl rfl Try.call37 (by intro hD hr; have hx : Ext _ _ := hr; simp only [EN, Nat.reduceEqDiff, reduceIte, AR]; exact c_cmpA u w _) ?_
        refine LD.on (by rw [gOk_s (gd_at (t := 34) rfl (by simp only [EN, Nat.reduceEqDiff, reduceIte] <;> rfl))]; rfl) ?_
        refine LD.qq rfl rfl (by simp only [EN, Nat.reduceEqDiff, reduceIte, qv_binOp, binv_gtr, hd3]; rfl) ?_
        refine LD.on (by rw [gOk_s (gd_at (t := 23) rfl (by simp only [EN, Nat.reduceEqDiff, reduceIte] <;> rfl))]; rfl) ?_
        refine LD.qq rfl rfl (by simp only [EN, Nat.reduceEqDiff, reduceIte, qv_pick, pk_and, pk_or, GR]; rfl) ?_
        refine LD.qq rfl rfl (by simp only [EN, Nat.reduceEqDiff, reduceIte, qv_pick, pk_and, pk_or, GR]; rfl) ?_
        refine LD.qq rfl rfl (by simp only [EN, Nat.reduceEqDiff, reduceIte, qv_move]; rfl) ?_
        refine LD.on (by rw [gOk_s (gd_at (t := 43) rfl (by simp only [EN, Nat.reduceEqDiff, reduceIte] <;> rfl))]; rfl) ?_
        refine LD.qq rfl rfl (by simp only [EN, Nat.reduceEqDiff, reduceIte, qv_load, ld24, readN, AR, Nat.zero_add, Nat.reduceAdd, hB1.cell]; rfl) ?_
        refine LD.on (by rw [gOk_s (gd_at (t := 43) rfl (by simp only [EN, Nat.reduceEqDiff, reduceIte] <;> rfl))]; rfl) ?_
        refine LD.ck rfl rfl Try.call17 (by intro hD hr; have hx : Ext _ _ := hr; simp only [EN, Nat.reduceEqDiff, reduceIte, AR]; exact c_account _ _) ?_
        refine LD.on (by rw [gOk_s (gd_at (t := 43) rfl (by simp only [EN, Nat.reduceEqDiff, reduceIte] <;> rfl))]; rfl) ?_
        refine LD.qq rfl rfl (by simp only [EN, Nat.reduceEqDiff, reduceIte, qv_load, ld24, readN, AR, Nat.zero_add, Nat.reduceAdd, hB2.cell]; rfl) ?_
        refine LD.on (by rw [gOk_s (gd_at (t := 43) rfl (by simp only [EN, Nat.reduceEqDiff, reduceIte] <;> rfl))]; rfl) ?_
        refine LD.ck rfl rfl Try.call17 (by intro hD hr; have hx : Ext _ _ := hr; simp only [EN, Nat.reduceEqDiff, reduceIte, AR]; exact c_account _ _) ?_
        refine LD.on (by rw [gOk_s (gd_at (t := 43) rfl (by simp only [EN, Nat.reduceEqDiff, reduceIte] <;> rfl))]; rfl) ?_
        refine LD.ck rfl rfl Try.call37 (by intro hD hr; have hx : Ext _ _ := hr; simp only [EN, Nat.reduceEqDiff, reduceIte, AR]; exact c_cmpA u v _) ?_
        refine LD.on (by rw [gOk_s (gd_at (t := 43) rfl (by simp only [EN, Nat.reduceEqDiff, reduceIte] <;> rfl))]; rfl) ?_
        refine LD.qq rfl rfl (by simp only [EN, Nat.reduceEqDiff, reduceIte, qv_binOp, binv_eql, eq3, Option.map_some]; rfl) ?_
        refine LD.on (by rw [gOk_s (gd_at (t := 43) rfl (by simp only [EN, Nat.reduceEqDiff, reduceIte] <;> rfl))]; rfl) ?_
        refine LD.qq rfl rfl (by simp only [EN, Nat.reduceEqDiff, reduceIte, qv_load, ld24, readN, AR, Nat.zero_add, Nat.reduceAdd, hB1.cell]; rfl) ?_
        refine LD.on (by rw [gOk_s (gd_at (t := 43) rfl (by simp only [EN, Nat.reduceEqDiff, reduceIte] <;> rfl))]; rfl) ?_
        refine LD.qq rfl rfl (by simp only [EN, Nat.reduceEqDiff, reduceIte, qv_load, ld24, readN, AR, Nat.zero_add, Nat.reduceAdd, hB2.cell]; rfl) ?_
        refine LD.on (by rw [gOk_s (gd_at (t := 43) rfl (by simp only [EN, Nat.reduceEqDiff, reduceIte] <;> rfl))]; rfl) ?_
        refine LD.qq rfl rfl (by simp only [EN, Nat.reduceEqDiff, reduceIte, qv_binOp, binv_eql, eqs24, Option.map_some]; rfl) ?_
        refine LD.on (by rw [gOk_s (gd_at (t := 43) rfl (by simp only [EN, Nat.reduceEqDiff, reduceIte] <;> rfl))]; rfl) ?_
        refine LD.qq rfl rfl (by simp only [EN, Nat.reduceEqDiff, reduceIte, qv_binOp, binv_neq, eq4, Option.map_some, ← cmpA_same, BEq.rfl, Bool.not_true]; rfl) ?_
        refine LD.qq rfl rfl (by simp only [EN, Nat.reduceEqDiff, reduceIte, qv_pick, pk_and, pk_or, GR]; rfl) ?_
        refine LD.nil ?_
        rintro h4 hx4 hF1
        replace hx4 : Ext _ _ := hx4
        refine WL.nil ?_
        refine th_norm ?_
        refine hx_cond (by simp only [EN, Nat.reduceEqDiff, reduceIte]; rfl) (fun hct54 => ?_) (fun hct54 => ?_)
        ·
          simp at hct54
        ·
          try simp only [BD] at hct54
          refine hx_skip ?_
          refine th_norm ?_
          refine ⟨rfl, ?_, ?_, trivial⟩  -- meet 0 of cut 1
          · exact hx4
          · (repeat (first | exact Fr.refl _ _ | refine Fr.set rfl ?_ | refine Fr.put rfl ?_ | with_reducible refine Fr.put0 ?_))
      ·
        apply hx_draw2 Rel.grows [] [1, 3, 4, 7, 12, 17, 22, 24, 25, 31, 33, 34] [(1, Spec.is _), (3, Spec.is _), (4, Spec.is _), (7, Spec.is _), (12, Spec.is _), (17, Spec.is _), (22, (Spec.is (.bool true))), (24, (Spec.is (.bool true))), (25, (Spec.is (.bool true))), (31, Spec.is _), (33, Spec.is _), (34, Spec.is _)] rfl (by decide +kernel) rfl
        refine LD.qq rfl rfl (by simp only [EN, Nat.reduceEqDiff, reduceIte, qv_load, ld24, readN, AR, Nat.zero_add, Nat.reduceAdd, hB1.cell]; rfl) ?_
        refine LD.ck rfl rfl Try.call17 (by intro hD hr; have hx : Ext _ _ := hr; simp only [EN, Nat.reduceEqDiff, reduceIte, AR]; exact c_account _ _) ?_
        refine LD.qq rfl rfl (by simp only [EN, Nat.reduceEqDiff, reduceIte, qv_load, ld24, readN, AR, Nat.zero_add, Nat.reduceAdd, hB2.cell]; rfl) ?_
        refine LD.ck rfl rfl Try.call17 (by intro hD hr; have hx : Ext _ _ := hr; simp only [EN, Nat.reduceEqDiff, reduceIte, AR]; exact c_account _ _) ?_
        refine LD.ck rfl rfl Try.call37 (by intro hD hr; have hx : Ext _ _ := hr; simp only [EN, Nat.reduceEqDiff, reduceIte, AR]; exact c_cmpA u v _) ?_
        refine LD.qq rfl rfl (by simp only [EN, Nat.reduceEqDiff, reduceIte, qv_load, ld24, readN, AR, Nat.zero_add, Nat.reduceAdd, hB1.cell]; rfl) ?_
        refine LD.qq rfl rfl (by simp only [EN, Nat.reduceEqDiff, reduceIte, qv_load, ld24, readN, AR, Nat.zero_add, Nat.reduceAdd, hB2.cell]; rfl) ?_
        refine LD.ck rfl rfl Try.call38 (by intro hD hr; have hx : Ext _ _ := hr; simp only [EN, Nat.reduceEqDiff, reduceIte, AR]; exact c_rCmp u v hu hv _) ?_
        refine LD.qq rfl rfl (by simp only [EN, Nat.reduceEqDiff, reduceIte, qv_binOp, binv_neq, eq3, Option.map_some, eq_self, decide_true, Bool.not_true]; rfl) ?_
        refine LD.qq rfl rfl (by simp only [EN, Nat.reduceEqDiff, reduceIte, qv_move]; rfl) ?_
        refine LD.on (by rw [gOk_s (gd_at (t := 23) rfl (by simp only [EN, Nat.reduceEqDiff, reduceIte] <;> rfl))]; rfl) ?_
        refine LD.qq rfl rfl (by simp only [EN, Nat.reduceEqDiff, reduceIte, qv_load, ld24, readN, AR, Nat.zero_add, Nat.reduceAdd, hB1.cell]; rfl) ?_
        refine LD.on (by rw [gOk_s (gd_at (t := 23) rfl (by simp only [EN, Nat.reduceEqDiff, reduceIte] <;> rfl))]; rfl) ?_
        refine LD.qq rfl rfl (by simp only [EN, Nat.reduceEqDiff, reduceIte, qv_load, ld24, readN, AR, Nat.zero_add, Nat.reduceAdd, hB2.cell]; rfl) ?_
        refine LD.on (by rw [gOk_s (gd_at (t := 23) rfl (by simp only [EN, Nat.reduceEqDiff, reduceIte] <;> rfl))]; rfl) ?_
        refine LD.ck rfl rfl Try.call38 (by intro hD hr; have hx : Ext _ _ := hr; simp only [EN, Nat.reduceEqDiff, reduceIte, AR]; exact c_rCmp u v hu hv _) ?_
        refine LD.on (by rw [gOk_s (gd_at (t := 23) rfl (by simp only [EN, Nat.reduceEqDiff, reduceIte] <;> rfl))]; rfl) ?_
        refine LD.qq rfl rfl (by simp only [EN, Nat.reduceEqDiff, reduceIte, qv_binOp, binv_leq, hd1]; rfl) ?_
        refine LD.on (by rw [gOk_s (gd_at (t := 23) rfl (by simp only [EN, Nat.reduceEqDiff, reduceIte] <;> rfl))]; rfl) ?_
        refine LD.qq rfl rfl (by simp only [EN, Nat.reduceEqDiff, reduceIte, qv_move]; rfl) ?_
        refine LD.on (by rw [gOk_s (gd_at (t := 28) rfl (by simp only [EN, Nat.reduceEqDiff, reduceIte] <;> rfl))]; rfl) ?_
        refine LD.qq rfl rfl (by simp only [EN, Nat.reduceEqDiff, reduceIte, qv_load, ld24, readN, AR, Nat.zero_add, Nat.reduceAdd, hB2.cell]; rfl) ?_
        refine LD.on (by rw [gOk_s (gd_at (t := 28) rfl (by simp only [EN, Nat.reduceEqDiff, reduceIte] <;> rfl))]; rfl) ?_
        refine LD.qq rfl rfl (by simp only [EN, Nat.reduceEqDiff, reduceIte, qv_load, ld24, readN, AR, Nat.zero_add, Nat.reduceAdd, hB3.cell]; rfl) ?_
        refine LD.on (by rw [gOk_s (gd_at (t := 28) rfl (by simp only [EN, Nat.reduceEqDiff, reduceIte] <;> rfl))]; rfl) ?_
        refine LD.ck rfl rfl Try.call38 (by intro hD hr; have hx : Ext _ _ := hr; simp only [EN, Nat.reduceEqDiff, reduceIte, AR]; exact c_rCmp v w hv hw _) ?_
        refine LD.on (by rw [gOk_s (gd_at (t := 28) rfl (by simp only [EN, Nat.reduceEqDiff, reduceIte] <;> rfl))]; rfl) ?_
        refine LD.qq rfl rfl (by simp only [EN, Nat.reduceEqDiff, reduceIte, qv_binOp, binv_leq, hd2]; rfl) ?_
        refine LD.on (by rw [gOk_s (gd_at (t := 23) rfl (by simp only [EN, Nat.reduceEqDiff, reduceIte] <;> rfl))]; rfl) ?_
        refine LD.qq rfl rfl (by simp only [EN, Nat.reduceEqDiff, reduceIte, qv_pick, pk_and, pk_or, GR]; rfl) ?_
        refine LD.on (by rw [gOk_s (gd_at (t := 23) rfl (by simp only [EN, Nat.reduceEqDiff, reduceIte] <;> rfl))]; rfl) ?_
        refine LD.qq rfl rfl (by simp only [EN, Nat.reduceEqDiff, reduceIte, qv_move]; rfl) ?_
        refine LD.offS rfl (by first | (rw [gOk_s (gd_at (t := 34) rfl (by simp only [EN, Nat.reduceEqDiff, reduceIte] <;> rfl))]; rfl) | exact gOk_z (gd_un (t := 34) rfl (by simp only [EN, Nat.reduceEqDiff, reduceIte] <;> rfl))) ?_
        refine LD.offS rfl (by first | (rw [gOk_s (gd_at (t := 34) rfl (by simp only [EN, Nat.reduceEqDiff, reduceIte] <;> rfl))]; rfl) | exact gOk_z (gd_un (t := 34) rfl (by simp only [EN, Nat.reduceEqDiff, reduceIte] <;> rfl))) ?_
        refine LD.offS rfl (by first | (rw [gOk_s (gd_at (t := 34) rfl (by simp only [EN, Nat.reduceEqDiff, reduceIte] <;> rfl))]; rfl) | exact gOk_z (gd_un (t := 34) rfl (by simp only [EN, Nat.reduceEqDiff, reduceIte] <;> rfl))) ?_
        refine LD.offS rfl (by first | (rw [gOk_s (gd_at (t := 34) rfl (by simp only [EN, Nat.reduceEqDiff, reduceIte] <;> rfl))]; rfl) | exact gOk_z (gd_un (t := 34) rfl (by simp only [EN, Nat.reduceEqDiff, reduceIte] <;> rfl))) ?_
        refine LD.offS rfl (by first | (rw [gOk_s (gd_at (t := 34) rfl (by simp only [EN, Nat.reduceEqDiff, reduceIte] <;> rfl))]; rfl) | exact gOk_z (gd_un (t := 34) rfl (by simp only [EN, Nat.reduceEqDiff, reduceIte] <;> rfl))) ?_
        refine LD.offS rfl (by first | (rw [gOk_s (gd_at (t := 34) rfl (by simp only [EN, Nat.reduceEqDiff, reduceIte] <;> rfl))]; rfl) | exact gOk_z (gd_un (t := 34) rfl (by simp only [EN, Nat.reduceEqDiff, reduceIte] <;> rfl))) ?_
        refine LD.on (by rw [gOk_s (gd_at (t := 23) rfl (by simp only [EN, Nat.reduceEqDiff, reduceIte] <;> rfl))]; rfl) ?_
        refine LD.qq rfl rfl (by simp only [EN, Nat.reduceEqDiff, reduceIte, qv_pick, pk_and, pk_or, GR]; rfl) ?_
        refine LD.qq rfl rfl (by simp only [EN, Nat.reduceEqDiff, reduceIte, qv_pick, pk_and, pk_or, GR]; rfl) ?_
        refine LD.qq rfl rfl (by simp only [EN, Nat.reduceEqDiff, reduceIte, qv_move]; rfl) ?_
        refine LD.on (by rw [gOk_s (gd_at (t := 43) rfl (by simp only [EN, Nat.reduceEqDiff, reduceIte] <;> rfl))]; rfl) ?_
        refine LD.qq rfl rfl (by simp only [EN, Nat.reduceEqDiff, reduceIte, qv_load, ld24, readN, AR, Nat.zero_add, Nat.reduceAdd, hB1.cell]; rfl) ?_
        refine LD.on (by rw [gOk_s (gd_at (t := 43) rfl (by simp only [EN, Nat.reduceEqDiff, reduceIte] <;> rfl))]; rfl) ?_
        refine LD.ck rfl rfl Try.call17 (by intro hD hr; have hx : Ext _ _ := hr; simp only [EN, Nat.reduceEqDiff, reduceIte, AR]; exact c_account _ _) ?_
        refine LD.on (by rw [gOk_s (gd_at (t := 43) rfl (by simp only [EN, Nat.reduceEqDiff, reduceIte] <;> rfl))]; rfl) ?_
        refine LD.qq rfl rfl (by simp only [EN, Nat.reduceEqDiff, reduceIte, qv_load, ld24, readN, AR, Nat.zero_add, Nat.reduceAdd, hB2.cell]; rfl) ?_
        refine LD.on (by rw [gOk_s (gd_at (t := 43) rfl (by simp only [EN, Nat.reduceEqDiff, reduceIte] <;> rfl))]; rfl) ?_
        refine LD.ck rfl rfl Try.call17 (by intro hD hr; have hx : Ext _ _ := hr; simp only [EN, Nat.reduceEqDiff, reduceIte, AR]; exact c_account _ _) ?_
        refine LD.on (by rw [gOk_s (gd_at (t := 43) rfl (by simp only [EN, Nat.reduceEqDiff, reduceIte] <;> rfl))]; rfl) ?_
        refine LD.ck rfl rfl Try.call37 (by intro hD hr; have hx : Ext _ _ := hr; simp only [EN, Nat.reduceEqDiff, reduceIte, AR]; exact c_cmpA u v _) ?_
        refine LD.on (by rw [gOk_s (gd_at (t := 43) rfl (by simp only [EN, Nat.reduceEqDiff, reduceIte] <;> rfl))]; rfl) ?_
        refine LD.qq rfl rfl (by simp only [EN, Nat.reduceEqDiff, reduceIte, qv_binOp, binv_eql, eq3, Option.map_some]; rfl) ?_
        refine LD.on (by rw [gOk_s (gd_at (t := 43) rfl (by simp only [EN, Nat.reduceEqDiff, reduceIte] <;> rfl))]; rfl) ?_
        refine LD.qq rfl rfl (by simp only [EN, Nat.reduceEqDiff, reduceIte, qv_load, ld24, readN, AR, Nat.zero_add, Nat.reduceAdd, hB1.cell]; rfl) ?_
        refine LD.on (by rw [gOk_s (gd_at (t := 43) rfl (by simp only [EN, Nat.reduceEqDiff, reduceIte] <;> rfl))]; rfl) ?_
        refine LD.qq rfl rfl (by simp only [EN, Nat.reduceEqDiff, reduceIte, qv_load, ld24, readN, AR, Nat.zero_add, Nat.reduceAdd, hB2.cell]; rfl) ?_
        refine LD.on (by rw [gOk_s (gd_at (t := 43) rfl (by simp only [EN, Nat.reduceEqDiff, reduceIte] <;> rfl))]; rfl) ?_
        refine LD.qq rfl rfl (by simp only [EN, Nat.reduceEqDiff, reduceIte, qv_binOp, binv_eql, eqs24, Option.map_some]; rfl) ?_
        refine LD.on (by rw [gOk_s (gd_at (t := 43) rfl (by simp only [EN, Nat.reduceEqDiff, reduceIte] <;> rfl))]; rfl) ?_
        refine LD.qq rfl rfl (by simp only [EN, Nat.reduceEqDiff, reduceIte, qv_binOp, binv_neq, eq4, Option.map_some, ← cmpA_same, BEq.rfl, Bool.not_true]; rfl) ?_
        refine LD.qq rfl rfl (by simp only [EN, Nat.reduceEqDiff, reduceIte, qv_pick, pk_and, pk_or, GR]; rfl) ?_
        refine LD.nil ?_
        rintro h5 hx5 hF1
        replace hx5 : Ext _ _ := hx5
        refine WL.nil ?_
        refine th_norm ?_
        refine hx_cond (by simp only [EN, Nat.reduceEqDiff, reduceIte]; rfl) (fun hct54 => ?_) (fun hct54 => ?_)
        ·
          simp at hct54
        ·
          try simp only [BD] at hct54
          refine hx_skip ?_
          refine th_norm ?_
          refine ⟨rfl, ?_, ?_, trivial⟩  -- meet 1 of cut 1
          · exact hx5
          · (repeat (first | exact Fr.refl _ _ | refine Fr.set rfl ?_ | refine Fr.put rfl ?_ | with_reducible refine Fr.put0 ?_))
    ·
      apply hx_draw2 Rel.grows [] [1, 3, 4, 7, 12, 17, 22, 24, 25, 31, 33, 34] [(1, Spec.is _), (3, Spec.is _), (4, Spec.is _), (7, Spec.is _), (12, Spec.is _), (17, (Spec.is (.bool true))), (22, (Spec.is (.bool true))), (24, (Spec.is (.bool true))), (25, (Spec.is (.bool true))), (31, Spec.is _), (33, Spec.is _), (34, Spec.is _)] rfl (by decide +kernel) rfl
      refine LD.qq rfl rfl (by simp only [EN, Nat.reduceEqDiff, reduceIte, qv_load, ld24, readN, AR, Nat.zero_add, Nat.reduceAdd, hB1.cell]; rfl) ?_
      refine LD.ck rfl rfl Try.call17 (by intro hD hr; have hx : Ext _ _ := hr; simp only [EN, Nat.reduceEqDiff, reduceIte, AR]; exact c_account _ _) ?_
      refine LD.qq rfl rfl (by simp only [EN, Nat.reduceEqDiff, reduceIte, qv_load, ld24, readN, AR, Nat.zero_add, Nat.reduceAdd, hB2.cell]; rfl) ?_
      refine LD.ck rfl rfl Try.call17 (by intro hD hr; have hx : Ext _ _ := hr; simp only [EN, Nat.reduceEqDiff, reduceIte, AR]; exact c_account _ _) ?_
      refine LD.ck rfl rfl Try.call37 (by intro hD hr; have hx : Ext _ _ := hr; simp only [EN, Nat.reduceEqDiff, reduceIte, AR]; exact c_cmpA u v _) ?_
      refine LD.qq rfl rfl (by simp only [EN, Nat.reduceEqDiff, reduceIte, qv_load, ld24, readN, AR, Nat.zero_add, Nat.reduceAdd, hB1.cell]; rfl) ?_
      refine LD.qq rfl rfl (by simp only [EN, Nat.reduceEqDiff, reduceIte, qv_load, ld24, readN, AR, Nat.zero_add, Nat.reduceAdd, hB2.cell]; rfl) ?_
      refine LD.ck rfl rfl Try.call38 (by intro hD hr; have hx : Ext _ _ := hr; simp only [EN, Nat.reduceEqDiff, reduceIte, AR]; exact c_rCmp u v hu hv _) ?_
      refine LD.qq rfl rfl (by simp only [EN, Nat.reduceEqDiff, reduceIte, qv_binOp, binv_neq, eq3, Option.map_some, eq_self, decide_true, Bool.not_true]; rfl) ?_
      refine LD.qq rfl rfl (by simp only [EN, Nat.reduceEqDiff, reduceIte, qv_move]; rfl) ?_
      refine LD.on (by rw [gOk_s (gd_at (t := 23) rfl (by simp only [EN, Nat.reduceEqDiff, reduceIte] <;> rfl))]; rfl) ?_
      refine LD.qq rfl rfl (by simp only [EN, Nat.reduceEqDiff, reduceIte, qv_load, ld24, readN, AR, Nat.zero_add, Nat.reduceAdd, hB1.cell]; rfl) ?_
      refine LD.on (by rw [gOk_s (gd_at (t := 23) rfl (by simp only [EN, Nat.reduceEqDiff, reduceIte] <;> rfl))]; rfl) ?_
      refine LD.qq rfl rfl (by simp only [EN, Nat.reduceEqDiff, reduceIte, qv_load, ld24, readN, AR, Nat.zero_add, Nat.reduceAdd, hB2.cell]; rfl) ?_
      refine LD.on (by rw [gOk_s (gd_at (t := 23) rfl (by simp only [EN, Nat.reduceEqDiff, reduceIte] <;> rfl))]; rfl) ?_
      refine LD.ck rfl rfl Try.call38 (by intro hD hr; have hx : Ext _ _ := hr; simp only [EN, Nat.reduceEqDiff, reduceIte, AR]; exact c_rCmp u v hu hv _) ?_
      refine LD.on (by rw [gOk_s (gd_at (t := 23) rfl (by simp only [EN, Nat.reduceEqDiff, reduceIte] <;> rfl))]; rfl) ?_
      refine LD.qq rfl rfl (by simp only [EN, Nat.reduceEqDiff, reduceIte, qv_binOp, binv_leq, hd1]; rfl) ?_
      refine LD.on (by rw [gOk_s (gd_at (t := 23) rfl (by simp only [EN, Nat.reduceEqDiff, reduceIte] <;> rfl))]; rfl) ?_
      refine LD.qq rfl rfl (by simp only [EN, Nat.reduceEqDiff, reduceIte, qv_move]; rfl) ?_
      refine LD.offS rfl (by first | (rw [gOk_s (gd_at (t := 28) rfl (by simp only [EN, Nat.reduceEqDiff, reduceIte] <;> rfl))]; rfl) | exact gOk_z (gd_un (t := 28) rfl (by simp only [EN, Nat.reduceEqDiff, reduceIte] <;> rfl))) ?_
      refine LD.offS rfl (by first | (rw [gOk_s (gd_at (t := 28) rfl (by simp only [EN, Nat.reduceEqDiff, reduceIte] <;> rfl))]; rfl) | exact gOk_z (gd_un (t := 28) rfl (by simp only [EN, Nat.reduceEqDiff, reduceIte] <;> rfl))) ?_
      refine LD.offS rfl (by first | (rw [gOk_s (gd_at (t := 28) rfl (by simp only [EN, Nat.reduceEqDiff, reduceIte] <;> rfl))]; rfl) | exact gOk_z (gd_un (t := 28) rfl (by simp only [EN, Nat.reduceEqDiff, reduceIte] <;> rfl))) ?_
      refine LD.offS rfl (by first | (rw [gOk_s (gd_at (t := 28) rfl (by simp only [EN, Nat.reduceEqDiff, reduceIte] <;> rfl))]; rfl) | exact gOk_z (gd_un (t := 28) rfl (by simp only [EN, Nat.reduceEqDiff, reduceIte] <;> rfl))) ?_
      refine LD.on (by rw [gOk_s (gd_at (t := 23) rfl (by simp only [EN, Nat.reduceEqDiff, reduceIte] <;> rfl))]; rfl) ?_
      refine LD.qq rfl rfl (by simp only [EN, Nat.reduceEqDiff, reduceIte, qv_pick, pk_and, pk_or, GR]; rfl) ?_
      refine LD.on (by rw [gOk_s (gd_at (t := 23) rfl (by simp only [EN, Nat.reduceEqDiff, reduceIte] <;> rfl))]; rfl) ?_
      refine LD.qq rfl rfl (by simp only [EN, Nat.reduceEqDiff, reduceIte, qv_move]; rfl) ?_
      refine LD.offS rfl (by first | (rw [gOk_s (gd_at (t := 34) rfl (by simp only [EN, Nat.reduceEqDiff, reduceIte] <;> rfl))]; rfl) | exact gOk_z (gd_un (t := 34) rfl (by simp only [EN, Nat.reduceEqDiff, reduceIte] <;> rfl))) ?_
      refine LD.offS rfl (by first | (rw [gOk_s (gd_at (t := 34) rfl (by simp only [EN, Nat.reduceEqDiff, reduceIte] <;> rfl))]; rfl) | exact gOk_z (gd_un (t := 34) rfl (by simp only [EN, Nat.reduceEqDiff, reduceIte] <;> rfl))) ?_
      refine LD.offS rfl (by first | (rw [gOk_s (gd_at (t := 34) rfl (by simp only [EN, Nat.reduceEqDiff, reduceIte] <;> rfl))]; rfl) | exact gOk_z (gd_un (t := 34) rfl (by simp only [EN, Nat.reduceEqDiff, reduceIte] <;> rfl))) ?_
      refine LD.offS rfl (by first | (rw [gOk_s (gd_at (t := 34) rfl (by simp only [EN, Nat.reduceEqDiff, reduceIte] <;> rfl))]; rfl) | exact gOk_z (gd_un (t := 34) rfl (by simp only [EN, Nat.reduceEqDiff, reduceIte] <;> rfl))) ?_
      refine LD.offS rfl (by first | (rw [gOk_s (gd_at (t := 34) rfl (by simp only [EN, Nat.reduceEqDiff, reduceIte] <;> rfl))]; rfl) | exact gOk_z (gd_un (t := 34) rfl (by simp only [EN, Nat.reduceEqDiff, reduceIte] <;> rfl))) ?_
      refine LD.offS rfl (by first | (rw [gOk_s (gd_at (t := 34) rfl (by simp only [EN, Nat.reduceEqDiff, reduceIte] <;> rfl))]; rfl) | exact gOk_z (gd_un (t := 34) rfl (by simp only [EN, Nat.reduceEqDiff, reduceIte] <;> rfl))) ?_
      refine LD.on (by rw [gOk_s (gd_at (t := 23) rfl (by simp only [EN, Nat.reduceEqDiff, reduceIte] <;> rfl))]; rfl) ?_
      refine LD.qq rfl rfl (by simp only [EN, Nat.reduceEqDiff, reduceIte, qv_pick, pk_and, pk_or, GR]; rfl) ?_
      refine LD.qq rfl rfl (by simp only [EN, Nat.reduceEqDiff, reduceIte, qv_pick, pk_and, pk_or, GR]; rfl) ?_
      refine LD.qq rfl rfl (by simp only [EN, Nat.reduceEqDiff, reduceIte, qv_move]; rfl) ?_
      refine LD.on (by rw [gOk_s (gd_at (t := 43) rfl (by simp only [EN, Nat.reduceEqDiff, reduceIte] <;> rfl))]; rfl) ?_
      refine LD.qq rfl rfl (by simp only [EN, Nat.reduceEqDiff, reduceIte, qv_load, ld24, readN, AR, Nat.zero_add, Nat.reduceAdd, hB1.cell]; rfl) ?_
      refine LD.on (by rw [gOk_s (gd_at (t := 43) rfl (by simp only [EN, Nat.reduceEqDiff, reduceIte] <;> rfl))]; rfl) ?_
      refine LD.ck rfl rfl Try.call17 (by intro hD hr; have hx : Ext _ _ := hr; simp only [EN, Nat.reduceEqDiff, reduceIte, AR]; exact c_account _ _) ?_
      refine LD.on (by rw [gOk_s (gd_at (t := 43) rfl (by simp only [EN, Nat.reduceEqDiff, reduceIte] <;> rfl))]; rfl) ?_
      refine LD.qq rfl rfl (by simp only [EN, Nat.reduceEqDiff, reduceIte, qv_load, ld24, readN, AR, Nat.zero_add, Nat.reduceAdd, hB2.cell]; rfl) ?_
      refine LD.on (by rw [gOk_s (gd_at (t := 43) rfl (by simp only [EN, Nat.reduceEqDiff, reduceIte] <;> rfl))]; rfl) ?_
      refine LD.ck rfl rfl Try.call17 (by intro hD hr; have hx : Ext _ _ := hr; simp only [EN, Nat.reduceEqDiff, reduceIte, AR]; exact c_account _ _) ?_
      refine LD.on (by rw [gOk_s (gd_at (t := 43) rfl (by simp only [EN, Nat.reduceEqDiff, reduceIte] <;> rfl))]; rfl) ?_
      refine LD.ck rfl rfl Try.call37 (by intro hD hr; have hx : Ext _ _ := hr; simp only [EN, Nat.reduceEqDiff, reduceIte, AR]; exact c_cmpA u v _) ?_
      refine LD.on (by rw [gOk_s (gd_at (t := 43) rfl (by simp only [EN, Nat.reduceEqDiff, reduceIte] <;> rfl))]; rfl) ?_
      refine LD.qq rfl rfl (by simp only [EN, Nat.reduceEqDiff, reduceIte, qv_binOp, binv_eql, eq3, Option.map_some]; rfl) ?_
      refine LD.on (by rw [gOk_s (gd_at (t := 43) rfl (by simp only [EN, Nat.reduceEqDiff, reduceIte] <;> rfl))]; rfl) ?_
      refine LD.qq rfl rfl (by simp only [EN, Nat.reduceEqDiff, reduceIte, qv_load, ld24, readN, AR, Nat.zero_add, Nat.reduceAdd, hB1.cell]; rfl) ?_
      refine LD.on (by rw [gOk_s (gd_at (t := 43) rfl (by simp only [EN, Nat.reduceEqDiff, reduceIte] <;> rfl))]; rfl) ?_
      refine LD.qq rfl rfl (by simp only [EN, Nat.reduceEqDiff, reduceIte, qv_load, ld24, readN, AR, Nat.zero_add, Nat.reduceAdd, hB2.cell]; rfl) ?_
      refine LD.on (by rw [gOk_s (gd_at (t := 43) rfl (by simp only [EN, Nat.reduceEqDiff, reduceIte] <;> rfl))]; rfl) ?_
      refine LD.qq rfl rfl (by simp only [EN, Nat.reduceEqDiff, reduceIte, qv_binOp, binv_eql, eqs24, Option.map_some]; rfl) ?_
      refine LD.on (by rw [gOk_s (gd_at (t := 43) rfl (by simp only [EN, Nat.reduceEqDiff, reduceIte] <;> rfl))]; rfl) ?_
      refine LD.qq rfl rfl (by simp only [EN, Nat.reduceEqDiff, reduceIte, qv_binOp, binv_neq, eq4, Option.map_some, ← cmpA_same, BEq.rfl, Bool.not_true]; rfl) ?_
      refine LD.qq rfl rfl (by simp only [EN, Nat.reduceEqDiff, reduceIte, qv_pick, pk_and, pk_or, GR]; rfl) ?_
      refine LD.nil ?_
      rintro h6 hx6 hF1
      replace hx6 : Ext _ _ := hx6
      refine WL.nil ?_
      refine th_norm ?_
      refine hx_cond (by simp only [EN, Nat.reduceEqDiff, reduceIte]; rfl) (fun hct54 => ?_) (fun hct54 => ?_)
      ·
        simp at hct54
      ·
        try simp only [BD] at hct54
        refine hx_skip ?_
        refine th_norm ?_
        refine ⟨rfl, ?_, ?_, trivial⟩  -- meet 2 of cut 1
        · exact hx6
        · (repeat (first | exact Fr.refl _ _ | refine Fr.set rfl ?_ | refine Fr.put rfl ?_ | with_reducible refine Fr.put0 ?_))
  ·
    rintro ec1 hC1 hXc1 hfc1 -
    have k0_c1 := hfc1 0 rfl; try simp only [EN, Nat.reduceEqDiff, reduceIte, e0] at k0_c1
    refine hx_seq ?_
    refine hx_seq ?_
    refine hx_region ?_
    replace hs := hs.ext hXc1; replace hb := hb.ext hXc1
    refine WL.qq (by simp only [EN, Nat.reduceEqDiff, reduceIte, qv_move, k0_c1]; rfl) ?_
    refine WL.ck Try.call12 (by simp only [EN, Nat.reduceEqDiff, reduceIte, AR]; exact c_few al L cl ll hs hb) ?_
    refine WL.qq (by simp only [EN, Nat.reduceEqDiff, reduceIte, qv_unOp, unv_not]; rfl) ?_
    refine WL.nil ?_
    refine th_norm ?_
    refine hx_cond (by simp only [EN, Nat.reduceEqDiff, reduceIte]; rfl) (fun hct57 => ?_) (fun hct57 => ?_)
    ·
      try simp only [BD] at hct57
      refine hx_seq ?_
      refine hx_region ?_
      refine WL.cg Try.call13 (by simp only [EN, Nat.reduceEqDiff, reduceIte, AR]; exact c_known14 _) ?_
      intro h7 hx7
      replace hs := hs.ext hx7
      replace hb := hb.ext hx7
      refine WL.qq (by simp only [EN, Nat.reduceEqDiff, reduceIte, qv_assign]; rfl) ?_
      refine WL.nil ?_
      refine th_norm ?_
      refine hx_ret ?_
      refine th_ret ?_
      refine fin_ret [.tmp 8] rfl rfl (by simp only [EN, Nat.reduceEqDiff, reduceIte, resv, k0_c1]; rfl) ?_  -- ret 0 r4
      exact ⟨rfl, ((hx1).trans ((hx2).trans ((hx3).trans ((hXc1).trans (hx7)))))⟩
    ·
      try simp only [BD] at hct57
      have hF : FW L := (by simpa using hct57)
      refine hx_skip ?_
      refine th_norm ?_
      refine hx_seq ?_
      refine hx_region ?_
      refine WL.qq (by simp only [EN, Nat.reduceEqDiff, reduceIte, qv_move, k0_c1]; rfl) ?_
      refine WL.ce Try.call14 (by simp only [EN, Nat.reduceEqDiff, reduceIte, AR]; exact c_build al L cl hF hs hb) ?_
      rintro _ h8 ⟨hx8, p, a, c, xs, rfl, hS⟩
      replace hs := hs.ext hx8
      replace hb := hb.ext hx8
      simp only [put_some]
      refine WL.qq (by simp only [EN, Nat.reduceEqDiff, reduceIte, qv_move]; rfl) ?_
      refine WL.qq (by simp only [EN, Nat.reduceEqDiff, reduceIte, qv_extract, AR]; rfl) ?_
      refine WL.qq (by simp only [EN, Nat.reduceEqDiff, reduceIte, qv_extract, AR]; rfl) ?_
      refine WL.qq (by simp only [EN, Nat.reduceEqDiff, reduceIte, qv_assign]; rfl) ?_
      refine WL.qq (by simp only [EN, Nat.reduceEqDiff, reduceIte, qv_assign]; rfl) ?_
      refine WL.nil ?_
      refine th_norm ?_
      refine hx_seq ?_
      refine hx_seq ?_
      refine hx_region ?_
      have hRA := runB_AS2 hLS
      refine WL.qq (by simp only [EN, Nat.reduceEqDiff, reduceIte, qv_move]; rfl) ?_
      refine WL.qq (by simp only [EN, Nat.reduceEqDiff, reduceIte, qv_binOp, binv_eql, eqz27, eqn27, eqm27, Option.map_some]; rfl) ?_
      refine WL.nil ?_
      refine th_norm ?_
      refine hx_cond (by simp only [EN, Nat.reduceEqDiff, reduceIte]; rfl) (fun hct65 => ?_) (fun hct65 => ?_)
      ·
        simp at hct65
      ·
        try simp only [BD] at hct65
        refine hx_skip ?_
        refine th_norm ?_
        refine hx_seq ?_
        refine hx_region ?_
        refine WL.qq (by simp only [EN, Nat.reduceEqDiff, reduceIte, qv_move]; rfl) ?_
        refine WL.ce Try.call36 (by simp only [EN, Nat.reduceEqDiff, reduceIte, AR]; exact c_accs hS.g hS.I.hr) ?_
        rintro _ h9 ⟨hx9, ho⟩
        replace hs := hs.ext hx9
        replace hb := hb.ext hx9
        replace hS := hS.ext hx9
        simp only [put_some]
        obtain ⟨aA, cA, rfl, hleA, _, _⟩ := ho.shape
        have hsA := slG_own (f := acL) (sz := 3) (fun _ => rfl) ho rfl
        refine WL.qq (by simp only [EN, Nat.reduceEqDiff, reduceIte, qv_move]; rfl) ?_
        refine WL.ce Try.call15 (by simp only [EN, Nat.reduceEqDiff, reduceIte, AR]; exact c_rAccs a xs c hS.m hS.g hRA hS.sl hS.bx) ?_
        rintro _ h10 ⟨hx10, ho2, hz2⟩
        replace hs := hs.ext hx10
        replace hb := hb.ext hx10
        replace hS := hS.ext hx10
        replace hsA := hsA.ext hx10
        simp only [put_some]
        obtain ⟨aB, cB, rfl, hleB, _, _⟩ := ho2.shape
        have hsB := slG_own (f := acL) (sz := 3) (fun _ => rfl) ho2 rfl
        refine WL.qq (by simp only [EN, Nat.reduceEqDiff, reduceIte, qv_assign]; rfl) ?_
        refine WL.qq (by simp only [EN, Nat.reduceEqDiff, reduceIte, qv_assign]; rfl) ?_
        refine WL.nil ?_
        refine th_norm ?_
        refine hx_seq ?_
        refine hx_seq ?_
        refine hx_region ?_
        have hlA : (rAcc (allP (runB (L.map BX.bd)))).length ≤ 9223372036854775807 := (by have := all_len hS.g.f hS.g.n; have := rAcc_len (allP (runB (L.map BX.bd))); omega)
        generalize hAe : rAcc (allP (runB (L.map BX.bd))) = A at hsA hsB hlA ⊢
        refine WL.qq (by simp only [EN, Nat.reduceEqDiff, reduceIte, qv_move]; rfl) ?_
        refine WL.qq (by simp only [EN, Nat.reduceEqDiff, reduceIte, qv_len, ln83, AR]; rfl) ?_
        refine WL.qq (by simp only [EN, Nat.reduceEqDiff, reduceIte, qv_move]; rfl) ?_
        refine WL.qq (by simp only [EN, Nat.reduceEqDiff, reduceIte, qv_len, ln30, AR]; rfl) ?_
        refine WL.qq (by simp only [EN, Nat.reduceEqDiff, reduceIte, qv_binOp, binv_neq, eq3, Option.map_some]; rfl) ?_
        refine WL.nil ?_
        refine th_norm ?_
        refine hx_cond (by simp only [EN, Nat.reduceEqDiff, reduceIte]; rfl) (fun hct74 => ?_) (fun hct74 => ?_)
        ·
          simp at hct74
        ·
          try simp only [BD] at hct74
          refine hx_skip ?_
          refine th_norm ?_
          refine hx_seq ?_
          refine hx_seq ?_
          refine hx_region ?_
          refine WL.qq (by simp only [EN, Nat.reduceEqDiff, reduceIte, qv_assign]; rfl) ?_
          refine WL.nil ?_
          refine th_norm ?_
          refine hx_block ?_
          refine hx_loopX [8, 13, 75, 76, 77, 78, 79, 80, 81, 82, 83, 84, 85, 86, 87, 88, 89, 90] (fun k e => ∃ (i : Nat), A.length - i = k ∧ (i ≤ A.length) ∧ e 13 = .int .i64 i) _ ⟨0, rfl, ?_, ?_⟩ ?_
          · omega
          · simp only [EN, Nat.reduceEqDiff, reduceIte, k0_c1] <;> rfl
          ·
            rintro k e0L hL0 hX0 hfr0 ⟨i, rfl, hi, i13_0⟩
            replace hs := hs.ext hX0
            replace hb := hb.ext hX0
            replace hS := hS.ext hX0
            replace hsA := hsA.ext hX0
            replace hsB := hsB.ext hX0
            have k11_0 := hfr0 11 rfl; try simp only [EN, Nat.reduceEqDiff, reduceIte] at k11_0
            have k12_0 := hfr0 12 rfl; try simp only [EN, Nat.reduceEqDiff, reduceIte] at k12_0
            refine hx_seq ?_
            refine hx_seq ?_
            refine hx_region ?_
            refine WL.qq (by simp only [EN, Nat.reduceEqDiff, reduceIte, qv_move, i13_0]; rfl) ?_
            refine WL.qq (by simp only [EN, Nat.reduceEqDiff, reduceIte, qv_move, k11_0]; rfl) ?_
            refine WL.qq (by simp only [EN, Nat.reduceEqDiff, reduceIte, qv_len, ln83, AR]; rfl) ?_
            refine WL.qq (by simp only [EN, Nat.reduceEqDiff, reduceIte, qv_binOp, binv_lss]; rfl) ?_
            refine WL.nil ?_
            refine th_norm ?_
            refine hx_cond (by simp only [EN, Nat.reduceEqDiff, reduceIte]; rfl) (fun hct78 => ?_) (fun hct78 => ?_)
            ·
              try simp only [BD] at hct78
              obtain ⟨z, hz⟩ := atG (l := A) (i := i) (by omega)
              obtain ⟨b1, o1, ha1, hr1⟩ := hsA i z hz
              obtain ⟨b2, o2, ha2, hr2⟩ := hsB i z hz
              refine hx_skip ?_
              refine th_norm ?_
              refine hx_seq ?_
              refine hx_block ?_
              refine hx_seq ?_
              apply hx_draw2 Rel.grows [] [8] [(8, Spec.is _)] rfl (by decide +kernel) rfl
              refine LD.qq rfl rfl (by simp only [EN, Nat.reduceEqDiff, reduceIte, qv_move, k11_0]; rfl) ?_
              refine LD.qq rfl rfl (by simp only [EN, Nat.reduceEqDiff, reduceIte, qv_move, i13_0]; rfl) ?_
              refine LD.qq rfl rfl (by simp only [EN, Nat.reduceEqDiff, reduceIte, qv_indexAddr, ha1]; (try simp (disch := omega) only [ix83, Int.toNat_natCast]); rfl) ?_
              refine LD.qq rfl rfl (by simp only [EN, Nat.reduceEqDiff, reduceIte, k11_0, k12_0, i13_0, qv_load, ld35, Int.toNat_natCast, hr1]; rfl) ?_
              refine LD.qq rfl rfl (by simp only [EN, Nat.reduceEqDiff, reduceIte, qv_move, k12_0]; rfl) ?_
              refine LD.qq rfl rfl (by simp only [EN, Nat.reduceEqDiff, reduceIte, qv_move, i13_0]; rfl) ?_
              refine LD.qq rfl rfl (by simp only [EN, Nat.reduceEqDiff, reduceIte, qv_indexAddr, ha2]; (try simp (disch := omega) only [ix30, Int.toNat_natCast]); rfl) ?_
              refine LD.qq rfl rfl (by simp only [EN, Nat.reduceEqDiff, reduceIte, k11_0, k12_0, i13_0, qv_load, ld24, Int.toNat_natCast, hr2]; rfl) ?_
              refine LD.ck rfl rfl Try.call17 (by intro hD hr; have hx : Ext _ _ := hr; have hs := hs.ext hx; have hb := hb.ext hx; have hS := hS.ext hx; have hsA := hsA.ext hx; have hsB := hsB.ext hx; simp only [EN, Nat.reduceEqDiff, reduceIte, AR]; exact c_account z _) ?_
              refine LD.qq rfl rfl (by simp only [EN, Nat.reduceEqDiff, reduceIte, qv_binOp, binv_neq, eqs35, Option.map_some]; rfl) ?_
              refine LD.nil ?_
              rintro h11 hx11 hF14
              replace hx11 : Ext _ _ := hx11
              replace hs := hs.ext hx11
              replace hb := hb.ext hx11
              replace hS := hS.ext hx11
              replace hsA := hsA.ext hx11
              replace hsB := hsB.ext hx11
              refine WL.nil ?_
              refine th_norm ?_
              refine hx_cond (by simp only [EN, Nat.reduceEqDiff, reduceIte]; rfl) (fun hct90 => ?_) (fun hct90 => ?_)
              ·
                simp at hct90
              ·
                try simp only [BD] at hct90
                refine hx_skip ?_
                refine bl_norm ?_
                refine th_norm ?_
                refine hx_region ?_
                refine WL.qq (by simp only [EN, Nat.reduceEqDiff, reduceIte, qv_move, i13_0]; rfl) ?_
                refine WL.qq (by simp only [EN, Nat.reduceEqDiff, reduceIte, qv_binOp, binv_add]; (try simp (disch := omega) only [w64, w8, wu64]); rfl) ?_
                refine WL.qq (by simp only [EN, Nat.reduceEqDiff, reduceIte, qv_assign]; rfl) ?_
                refine WL.nil ?_
                refine th_norm ?_
                refine ⟨rfl, ?_, ?_, _, ?_, i + 1, rfl, ?_, ?_⟩  -- again 0 of loop 0
                · exact hx11
                · (repeat (first | exact Fr.refl _ _ | refine Fr.set rfl ?_ | refine Fr.put rfl ?_ | with_reducible refine Fr.put0 ?_))
                · omega
                · omega
                · simp only [EN, Nat.reduceEqDiff, reduceIte, k11_0, k12_0, i13_0] <;> first | rfl | (congr 1; omega)
            ·
              try simp only [BD] at hct78
              refine hx_exit ?_
              refine th_exit ?_
              refine th_exit ?_
              refine bl_hit ?_
              refine th_norm ?_
              refine hx_seq ?_
              refine hx_region ?_
              refine WL.cg Try.call13 (by simp only [EN, Nat.reduceEqDiff, reduceIte, AR]; exact c_known14 _) ?_
              intro h12 hx12
              replace hs := hs.ext hx12
              replace hb := hb.ext hx12
              replace hS := hS.ext hx12
              replace hsA := hsA.ext hx12
              replace hsB := hsB.ext hx12
              refine WL.qq (by simp only [EN, Nat.reduceEqDiff, reduceIte, qv_assign]; rfl) ?_
              refine WL.nil ?_
              refine th_norm ?_
              refine hx_ret ?_
              refine fin_ret [.tmp 8] rfl rfl (by simp only [EN, Nat.reduceEqDiff, reduceIte, resv, k11_0, k12_0, i13_0]; rfl) ?_  -- ret 1 r16
              exact ⟨rfl, ((hx1).trans ((hx2).trans ((hx3).trans ((hXc1).trans ((hx8).trans ((hx9).trans ((hx10).trans ((hX0).trans (hx12)))))))))⟩
end GL
namespace Go.Proofs.Ytklhfckdifkpaaa.historyAccounts
open Go.ChangeShapes Go.WideShapes Go.ChangeAt Go.RowKit
theorem own : ownKnob Try.prog.godebug = none := by kernel_rfl
theorem laid : laidOutB Try.prog = true := by kernel_rfl
set_option maxRecDepth 100000 in
theorem lifted (os : Os) (started : os.Started) (H : Type) (enc : TypeId × Value → H) :
    ReturnsInHanded {} Try.checked os 10 .any (Rows.historyAccountsSpec.pre6 enc Try.prog Try.f10 Rows.historyAccountsRow.domain false) (Rows.historyAccountsSpec.post enc Try.prog Try.f10 false true false false) := by
  refine returnsInHanded_of_change (C := Try.checked) own started (by kernel_rfl) Try.func10
    (ChangeSpec.witness6 (enc := enc) (C := Try.checked) false ⟨#[], #[(.slice none 0 0), (.agg #[(.string ⟨#[]⟩), (.int .i64 0), (.string ⟨#[]⟩)]), (.agg #[(.string ⟨#[]⟩), (.int .i64 0), (.string ⟨#[]⟩)]), (.agg #[(.string ⟨#[]⟩), (.int .i64 0), (.string ⟨#[]⟩)])], []⟩ 8 (by kernel_rfl) (by kernel_rfl) (by kernel_rfl) (by kernel_rfl)) ?_
  intro W base args ds gs before hval0 hW hcnd _
  have hval : ∀ (j : Nat) t v, Try.f10.params[j]? = some t → args[j]? = some v → Value.okWide Try.prog W .any base t v := hval0
  have hW' := hW
  obtain ⟨p, q, hA0, hV, rfl, hfz, hnd⟩ := hW
  have hA : DataW.TrodAll enc Try.prog W 0 (fun _ => true) true Try.f10.params.toList args.toList ds p := hA0
  rw [Try.params10] at hA hval
  obtain ⟨v0, vs0, d0, ds0, p0, q0, hargs, rfl, rfl, h0, r0⟩ := trodAll_cons hA
  obtain ⟨v1, vs1, d1, ds1, p1, q1, rfl, rfl, rfl, h1, r1⟩ := trodAll_cons r0
  obtain ⟨v2, vs2, d2, ds2, p2, q2, rfl, rfl, rfl, h2, r2⟩ := trodAll_cons r1
  obtain ⟨v3, vs3, d3, ds3, p3, q3, rfl, rfl, rfl, h3, r3⟩ := trodAll_cons r2
  obtain ⟨rfl, rfl, rfl⟩ := trodAll_nil r3
  obtain rfl : args = #[v0, v1, v2, v3] := by cases args; simp_all
  obtain ⟨rfl, rfl⟩ := trodVars_none hV
  obtain ⟨al, l, cl, rfl, hl, hb, hll, has⟩ := GL.view_bsS (hval 0 22 v0 rfl rfl) h0
  obtain ⟨u, rfl, hu⟩ := GL.view_acS (hval 1 24 v1 rfl rfl) h1
  obtain ⟨v, rfl, hv⟩ := GL.view_acS (hval 2 24 v2 rfl rfl) h2
  obtain ⟨w, rfl, hw⟩ := GL.view_acS (hval 3 24 v3 rfl rfl) h3
  exact GL.law_done (tb := 4) laid (by kernel_rfl) rfl (by kernel_rfl) Try.underlying4 hW' rfl (GL.l_acc al l cl u v w hu hv hw hl hb hll has)
theorem over : Rows.historyAccountsRow.holds Try.pinned (OpenSpec.ofChange Rows.historyAccountsSpec) :=
  OpenClaim.holds_of_wide 10 Try.f10 rfl rfl rfl rfl rfl rfl rfl ⟨rfl, rfl, rfl, rfl, rfl⟩ rfl rfl rfl rfl rfl (by kernel_rfl) Try.func10 (by kernel_rfl)
    (of_decide_eq_true (by kernel_rfl)) (by unfold Func.isWrapper; first | (rw [if_pos (by decide +kernel)]; kernel_rfl) | (rw [if_neg (by decide +kernel)]; exact ⟨rfl, rfl⟩))
    (fun os started H enc _ => lifted os started H enc)
theorem proved : Rows.HistoryAccountsSaid := over
end Go.Proofs.Ytklhfckdifkpaaa.historyAccounts


/- Limits: flows are converted; the statement that no limit is ever exceeded. -/
import Derived.Test.YtenjmnpefmjdfaaLimI
import Derived.Test.YtenjmnpefmjdfaaLimV
set_option linter.unusedSimpArgs false
set_option linter.unusedVariables false
set_option linter.unnecessarySimpa false
namespace GL
open Go Go.Proofs
set_option maxRecDepth 8000
theorem c_flows (al : Option Addr) (l : List L2) (cl : Nat) (ll : l.length ≤ 1000000) {h : Heap} (hl : SlG 3 limL h al l) :
    HCalls Try.prog 26 #[.slice al l.length cl] h fun v h' => Ext h h' ∧ Own h' h.size 31 3 v l.length (l.flatMap limL) := by
  refine hcalls2 Try.func26 rfl (by decide +kernel) (by simp only [Try.ntmps26]; exact of_decide_eq_true rfl) ?_
  intro e hin
  have e0 := hin 0 _ rfl
  refine hx_seq ?_
  refine hx_region ?_
  refine WL.qq (by simp only [EN, Nat.reduceEqDiff, reduceIte, qv_assign]; rfl) ?_
  refine WL.nil ?_
  refine th_norm ?_
  refine hx_seq ?_
  refine hx_region ?_
  refine WL.qq (by simp only [EN, Nat.reduceEqDiff, reduceIte, qv_assign]; rfl) ?_
  refine WL.nil ?_
  refine th_norm ?_
  refine hx_seq ?_
  refine hx_seq ?_
  refine hx_region ?_
  refine WL.qq (by simp only [EN, Nat.reduceEqDiff, reduceIte, qv_assign]; rfl) ?_
  refine WL.nil ?_
  refine th_norm ?_
  refine hx_block ?_
  refine hx_loopG [3, 4, 5, 6, 7, 8, 9, 10, 11, 12, 13, 14, 15, 16, 17] (fun k e hL0 => ∃ (i : Nat) (v : Value), l.length - i = k ∧ (i ≤ l.length) ∧ (Ext h hL0) ∧ (Own hL0 h.size 31 3 v (l.take i).length ((l.take i).flatMap limL)) ∧ e 4 = .int .i64 i ∧ e 3 = v) _ ⟨0, .slice none 0 0, rfl, ?_, ?_, ?_, ?_, ?_⟩ ?_
  · omega
  · exact Ext.refl _
  · exact Own.nil
  · simp only [EN, Nat.reduceEqDiff, reduceIte, e0] <;> rfl
  · simp only [EN, Nat.reduceEqDiff, reduceIte, e0] <;> rfl
  ·
    rintro k e0L hL0 hfr0 ⟨i, v, rfl, hi, hE, ho, i4_0, i3_0⟩
    have k0_0 := hfr0 0 rfl; try simp only [EN, Nat.reduceEqDiff, reduceIte, e0] at k0_0
    have hl := hl.ext hE
    refine hx_seq ?_
    refine hx_seq ?_
    refine hx_region ?_
    refine WL.qq (by simp only [EN, Nat.reduceEqDiff, reduceIte, qv_move, i4_0]; rfl) ?_
    refine WL.qq (by simp only [EN, Nat.reduceEqDiff, reduceIte, qv_move, k0_0]; rfl) ?_
    refine WL.qq (by simp only [EN, Nat.reduceEqDiff, reduceIte, qv_len, ln39, AR]; rfl) ?_
    refine WL.qq (by simp only [EN, Nat.reduceEqDiff, reduceIte, qv_binOp, binv_lss]; rfl) ?_
    refine WL.nil ?_
    refine th_norm ?_
    refine hx_cond (by simp only [EN, Nat.reduceEqDiff, reduceIte]; rfl) (fun hct8 => ?_) (fun hct8 => ?_)
    ·
      try simp only [BD] at hct8
      obtain ⟨x, hx⟩ := atG (l := l) (i := i) (by omega)
      obtain ⟨b, off, rfl, hr3, hc0, hc1, hc2⟩ := lim_rd hl hx
      refine hx_skip ?_
      refine th_norm ?_
      refine hx_seq ?_
      refine hx_block ?_
      refine hx_region ?_
      refine WL.qq (by simp only [EN, Nat.reduceEqDiff, reduceIte, qv_move, i3_0]; rfl) ?_
      refine WL.qq (by simp only [EN, Nat.reduceEqDiff, reduceIte, qv_move, k0_0]; rfl) ?_
      refine WL.qq (by simp only [EN, Nat.reduceEqDiff, reduceIte, qv_move, i4_0]; rfl) ?_
      refine WL.qq (by simp only [EN, Nat.reduceEqDiff, reduceIte, qv_indexAddr]; (try simp (disch := omega) only [ix39, Int.toNat_natCast]); rfl) ?_
      refine WL.qq (by simp only [EN, Nat.reduceEqDiff, reduceIte, k0_0, i4_0, i3_0, qv_load, ld47, Int.toNat_natCast, hr3]; rfl) ?_
      have hil : (l.take i).length ≤ l.length := (by simp; omega)
      refine WL.push (bytes := 40) Try.underlying32 (inf_of Try.type31) rfl rfl rfl rfl (by decide) (by decide) sz31 zr31 (fun u => by simp only [EN, Nat.reduceEqDiff, reduceIte, k0_0, i4_0, i3_0]) ho (by simp only [EN, Nat.reduceEqDiff, reduceIte, k0_0, i4_0, i3_0, Value.cells]; rfl) rfl (by simp [Value.oneCell']) (by simp only [maxLen]; omega) (by omega) hE.size ?_
      intro h40 v40 B40 ho40 hg40 hp40 hn40
      replace hE := hg40.ext hE (fun c hc => (ho.block c hc).1)
      skip
      refine WL.qq (by simp only [EN, Nat.reduceEqDiff, reduceIte, qv_assign]; rfl) ?_
      refine WL.nil ?_
      refine bl_norm ?_
      refine th_norm ?_
      refine hx_region ?_
      refine WL.qq (by simp only [EN, Nat.reduceEqDiff, reduceIte, qv_move, i4_0]; rfl) ?_
      refine WL.qq (by simp only [EN, Nat.reduceEqDiff, reduceIte, qv_binOp, binv_add]; (try simp (disch := omega) only [w64, w8, wu64]); rfl) ?_
      refine WL.qq (by simp only [EN, Nat.reduceEqDiff, reduceIte, qv_assign]; rfl) ?_
      refine WL.nil ?_
      refine th_norm ?_
      refine ⟨rfl, ?_, _, ?_, i + 1, v40, rfl, ?_, ?_, ?_, ?_, ?_⟩  -- again 0 of loop 0
      · (repeat (first | exact Fr.refl _ _ | refine Fr.set rfl ?_ | refine Fr.put rfl ?_ | with_reducible refine Fr.put0 ?_))
      · omega
      · omega
      · exact hE
      · rw [List.take_add_one, hx, List.flatMap_append, List.length_append]; exact ho40
      · simp only [EN, Nat.reduceEqDiff, reduceIte, k0_0, i4_0, i3_0] <;> first | rfl | (congr 1; omega)
      · simp only [EN, Nat.reduceEqDiff, reduceIte, k0_0, i4_0, i3_0] <;> first | rfl | (congr 1; omega)
    ·
      try simp only [BD] at hct8
      refine hx_exit ?_
      refine th_exit ?_
      refine th_exit ?_
      refine bl_hit ?_
      refine th_norm ?_
      refine hx_seq ?_
      refine hx_region ?_
      refine WL.qq (by simp only [EN, Nat.reduceEqDiff, reduceIte, qv_move, i3_0]; rfl) ?_
      refine WL.qq (by simp only [EN, Nat.reduceEqDiff, reduceIte, qv_assign]; rfl) ?_
      refine WL.nil ?_
      refine th_norm ?_
      refine hx_ret ?_
      refine fin_ret [.tmp 2] rfl rfl (by simp only [EN, Nat.reduceEqDiff, reduceIte, resv, k0_0, i4_0, i3_0]; rfl) ?_  -- ret 0 r6
      have hil : i = l.length := (by omega)
      subst hil
      rw [List.take_length] at ho
      exact ⟨hE, ho⟩
/-! What holds of a table that is set first and then recorded to. -/
structure NE (ls ns : List L2) (m n : Nat) : Prop where
  amt : ∀ x ∈ ls, 0 ≤ x.2 ∧ x.2 ≤ 1000000000000000
  net : ∀ x ∈ ns, wthn x.2 = true
  out : ∀ x ∈ ns, wthn (outW ns x.1.f) = true
  bil : ∀ x ∈ ls, x.1.t ≠ em → lk ns x.1 ≤ x.2
  mul : ∀ x ∈ ls, x.1.t = em → outW ns x.1.f ≤ x.2
  ll : ls.length ≤ m
  ln : ns.length ≤ n
theorem NE.lk {ls ns : List L2} {m n : Nat} (hN : NE ls ns m n) (q : PK) : -1000000000000000 ≤ lk ns q ∧ lk ns q ≤ 1000000000000000 := by
  cases hq : ns.lookup q with
  | none => rw [GL.lk, hq]; simp
  | some v =>
    have h1 := wthn_iff.1 (hN.net _ (mem_lookup hq))
    rw [GL.lk, hq]
    exact h1
theorem outW_no {ns : List L2} {a : ByteArray} (h : ∀ x ∈ ns, x.1.f ≠ a) : outW ns a = 0 := by
  unfold outW
  rw [sumF_zero (f := outV a) (fun x hx => if_neg (h x hx))]
  rfl
theorem NE.ou {ls ns : List L2} {m n : Nat} (hN : NE ls ns m n) (a : ByteArray) : -1000000000000000 ≤ outW ns a ∧ outW ns a ≤ 1000000000000000 := by
  by_cases h : ∃ x ∈ ns, x.1.f = a
  · obtain ⟨x, hx, rfl⟩ := h
    exact wthn_iff.1 (hN.out x hx)
  · rw [outW_no (fun x hx hh => h ⟨x, hx, hh⟩)]; simp
theorem setE_amt {ls ns : List L2} {q : PK} {a : Int} (h : setE ls ns q a = 0) : a ≤ 1000000000000000 := by
  unfold setE at h
  by_cases h1 : 1000000000000000 < a
  · rw [if_pos h1] at h; cases h
  · omega
theorem setL_mem {ls : List L2} {q : PK} {a : Int} {x : L2} (hx : x ∈ setL ls q a) : x ∈ ls ∨ (0 ≤ a ∧ x = (q, a)) := by
  unfold setL at hx
  split at hx
  · exact .inl (List.mem_filter.1 hx).1
  · rename_i h0
    have : ∀ (l : List L2), x ∈ mset l q a → x ∈ l ∨ x = (q, a) := by
      intro l
      induction l with
      | nil => intro h; simp only [mset, List.mem_singleton] at h; exact .inr h
      | cons y l ih =>
        intro h
        simp only [mset] at h
        split at h
        · rcases List.mem_cons.1 h with h | h
          · exact .inr h
          · exact .inl (List.mem_cons_of_mem _ h)
        · rcases List.mem_cons.1 h with h | h
          · exact .inl (h ▸ List.mem_cons_self)
          · exact (ih h).imp (List.mem_cons_of_mem _) id
    exact (this ls hx).imp id fun h => ⟨by omega, h⟩
theorem NE.set {ls : List L2} {m : Nat} (hN : NE ls [] m 0) {q : PK} {a r : Int} (hr : r = 0 → a ≤ 1000000000000000) : NE (if r = 0 then setL ls q a else ls) [] (m + 1) 0 := by
  by_cases h : r = 0
  · rw [if_pos h]
    have h0 : ∀ x ∈ setL ls q a, 0 ≤ x.2 ∧ x.2 ≤ 1000000000000000 := fun x hx => by
      rcases setL_mem hx with h1 | ⟨h1, rfl⟩
      · exact hN.amt x h1
      · exact ⟨h1, hr h⟩
    refine ⟨h0, (fun x hx => by cases hx), (fun x hx => by cases hx), fun x hx _ => (h0 x hx).1, fun x hx _ => ?_, Nat.le_trans (setL_len _ _ _) (Nat.succ_le_succ hN.ll), Nat.le_refl _⟩
    rw [outW_no (ns := []) (fun x hx => by cases hx)]
    exact (h0 x hx).1
  · rw [if_neg h]
    exact ⟨hN.amt, hN.net, hN.out, hN.bil, hN.mul, Nat.le_succ_of_le hN.ll, hN.ln⟩
theorem foF_len : ∀ (F ns : List L2), (foF ns F).length ≤ ns.length + 2 * F.length
  | [], ns => by simp [foF]
  | x :: F, ns => by
    have h1 := foF_len F (stF ns x)
    have h2 := mset_len ns x.1 (IntKind.i64.wrap (GL.lk ns x.1 + x.2))
    have h3 := mset_len (mset ns x.1 (IntKind.i64.wrap (GL.lk ns x.1 + x.2))) (swp x.1) (IntKind.i64.wrap (GL.lk (mset ns x.1 (IntKind.i64.wrap (GL.lk ns x.1 + x.2))) (swp x.1) - x.2))
    have h4 : (stF ns x).length ≤ ns.length + 2 := by unfold stF; omega
    show (foF (stF ns x) F).length ≤ _
    rw [List.length_cons]
    omega
theorem aft_len (ns F : List L2) : (aftS ns F).length ≤ ns.length + 2 * F.length := Nat.le_trans (List.length_filter_le _ _) (foF_len F ns)
/-- What a check of the program says. -/
theorem chkS_ok {ls ns F : List L2} (h : chkS ls ns F = 0) : valE F = 0 ∧ cntM ls (aftS ns F) ≤ 256 ∧ (∀ x ∈ aftS ns F, wthn x.2 = true) ∧ (∀ x ∈ aftS ns F, wthn (outW (aftS ns F) x.1.f) = true) ∧
    (∀ x ∈ ls, x.1.t ≠ em → GL.lk ns x.1 < GL.lk (aftS ns F) x.1 → GL.lk (aftS ns F) x.1 ≤ x.2) ∧ (∀ x ∈ ls, x.1.t = em → outW ns x.1.f < outW (aftS ns F) x.1.f → outW (aftS ns F) x.1.f ≤ x.2) := by
  unfold chkS at h
  by_cases h1 : valE F ≠ 0
  · rw [if_pos h1] at h; exact absurd h h1
  rw [if_neg h1] at h
  by_cases h2 : 256 < cntM ls (aftS ns F)
  · rw [if_pos h2] at h; cases h
  rw [if_neg h2] at h
  by_cases h3 : ¬ (∀ x ∈ aftS ns F, wthn x.2 = true)
  · rw [if_pos h3] at h; cases h
  rw [if_neg h3] at h
  by_cases h4 : ¬ (∀ x ∈ aftS ns F, wthn (outW (aftS ns F) x.1.f) = true)
  · rw [if_pos h4] at h; cases h
  rw [if_neg h4] at h
  by_cases h5 : ∃ x ∈ ls, x.1.t ≠ em ∧ excd x.2 (GL.lk ns x.1) (GL.lk (aftS ns F) x.1) = true
  · rw [if_pos h5] at h; cases h
  rw [if_neg h5] at h
  by_cases h6 : ∃ x ∈ ls, x.1.t = em ∧ excd x.2 (outW ns x.1.f) (outW (aftS ns F) x.1.f) = true
  · rw [if_pos h6] at h; cases h
  refine ⟨Decidable.not_not.1 h1, by omega, Decidable.not_not.1 h3, Decidable.not_not.1 h4, fun x hx ht hlt => ?_, fun x hx ht hlt => ?_⟩
  · exact Int.not_lt.1 fun hh => h5 ⟨x, hx, ht, by simp [excd, hlt, hh]⟩
  · exact Int.not_lt.1 fun hh => h6 ⟨x, hx, ht, by simp [excd, hlt, hh]⟩
theorem NE.recd {ls ns F : List L2} {m n : Nat} (hN : NE ls ns m n) (hF : F.length ≤ 12) {r : Int} (hr : chkS ls ns F = r) : NE ls (if r = 0 then aftS ns F else ns) m (n + 24) := by
  by_cases h : r = 0
  · rw [if_pos h]
    obtain ⟨_, _, h3, h4, h5, h6⟩ := chkS_ok (hr.trans h)
    refine ⟨hN.amt, h3, h4, fun x hx ht => ?_, fun x hx ht => ?_, hN.ll, by have := aft_len ns F; have := hN.ln; omega⟩
    · have h7 := h5 x hx ht
      have h8 := hN.bil x hx ht
      omega
    · have h7 := h6 x hx ht
      have h8 := hN.mul x hx ht
      omega
  · rw [if_neg h]
    exact ⟨hN.amt, hN.net, hN.out, hN.bil, hN.mul, hN.ll, Nat.le_add_right_of_le hN.ln⟩
theorem NE.mroom {ls ns : List L2} {m n : Nat} (hN : NE ls ns m n) (hnd : (ls.map Prod.fst).Nodup) {x : L2} (hx : x ∈ ls) : ∃ mm bb, roomV ls ⟨x.1.f, em⟩ (outW ns x.1.f) = .tuple #[iV mm, .bool bb] ∧ (x.1.t = em → 0 ≤ mm ∧ bb = true) := by
  refine ⟨_, _, rfl, fun ht => ?_⟩
  have e : (⟨x.1.f, em⟩ : PK) = x.1 := pk_eq.2 ⟨rfl, ht.symm⟩
  have hl : ls.lookup x.1 = some x.2 := lookup_mem hnd hx
  have h1 := hN.amt x hx
  have h2 := hN.ou x.1.f
  have h3 := hN.mul x hx ht
  rw [e, GL.lk, hl]
  simp only [Option.isSome_some, if_true, Option.getD_some, and_true]
  rw [w64 (by omega) (by omega)]
  omega
theorem NE.broom {ls ns : List L2} {m n : Nat} (hN : NE ls ns m n) (hnd : (ls.map Prod.fst).Nodup) {x : L2} (hx : x ∈ ls) (ht : x.1.t ≠ em) : ∃ mm, broomV ls ns x.1.f x.1.t = .tuple #[iV mm, .bool true] ∧ 0 ≤ mm := by
  have hl : ls.lookup (⟨x.1.f, x.1.t⟩ : PK) = some x.2 := lookup_mem hnd hx
  have h1 := hN.amt x hx
  have h2 := hN.lk x.1
  have h3 := hN.bil x hx ht
  have h4 : GL.lk ns (⟨x.1.f, x.1.t⟩ : PK) = GL.lk ns x.1 := rfl
  refine ⟨x.2 - GL.lk ns x.1, ?_, by omega⟩
  rw [broomV, if_neg ht, roomV, GL.lk, hl, h4]
  simp only [Option.isSome_some, if_true, Option.getD_some]
  rw [w64 (by omega) (by omega)]
set_option maxHeartbeats 1000000 in
theorem l_never (X : AV) (al : Option Addr) (l : List AV) (cl : Nat) {h : Heap} (hX : AVok h X) (hl : SlG 1 avL h al l) (ll : l.length ≤ 9223372036854775807) (ho : ∀ x ∈ l, AVok h x) :
    HCalls Try.prog 7 #[.slice X.a X.L.length X.c, .slice al l.length cl] h (Grow (.bool true) h) := by
  have hXl : X.L.length ≤ 9223372036854775807 := Nat.le_trans hX.len hX.cap
  refine hcalls2 Try.func7 rfl (by decide +kernel) (by simp only [Try.ntmps7]; exact of_decide_eq_true rfl) ?_
  intro e hin
  have e0 := hin 0 _ rfl
  have e1 := hin 1 _ rfl
  have hE := Ext.refl h
  refine hx_seq ?_
  refine hx_region ?_
  refine WL.qq (by simp only [EN, Nat.reduceEqDiff, reduceIte, qv_assign, strEq, decide_true, Bool.not_true, Bool.not_false, decide_false, eq_self, if_true, if_false, Bool.or_true, Bool.and_true]; rfl) ?_
  refine WL.nil ?_
  refine th_norm ?_
  refine hx_seq ?_
  refine hx_seq ?_
  refine hx_region ?_
  refine WL.cg Try.call11 (by simp only [EN, Nat.reduceEqDiff, reduceIte, AR, strEq, decide_true, Bool.not_true, Bool.not_false, decide_false, eq_self, if_true, if_false, Bool.or_true, Bool.and_true]; exact c_known16 _) ?_
  intro h1 hx1
  replace hE := hE.ext hx1
  refine WL.qq (by simp only [EN, Nat.reduceEqDiff, reduceIte, qv_unOp, unv_not, strEq, decide_true, Bool.not_true, Bool.not_false, decide_false, eq_self, if_true, if_false, Bool.or_true, Bool.and_true]; rfl) ?_
  refine WL.qq (by simp only [EN, Nat.reduceEqDiff, reduceIte, qv_move, strEq, decide_true, Bool.not_true, Bool.not_false, decide_false, eq_self, if_true, if_false, Bool.or_true, Bool.and_true]; rfl) ?_
  refine WL.cq (gd_at (t := 14) rfl (by simp only [EN, Nat.reduceEqDiff, reduceIte, e0, strEq, decide_true, Bool.not_true, Bool.not_false, decide_false, eq_self, if_true, if_false, Bool.or_true, Bool.and_true] <;> rfl)) (fun hg1_3 => by simp only [EN, Nat.reduceEqDiff, reduceIte, qv_move, e0, strEq, decide_true, Bool.not_true, Bool.not_false, decide_false, eq_self, if_true, if_false, Bool.or_true, Bool.and_true, hg1_3, GR]; rfl) ?_
  refine WL.cq (gd_at (t := 14) rfl (by simp only [EN, Nat.reduceEqDiff, reduceIte, strEq, decide_true, Bool.not_true, Bool.not_false, decide_false, eq_self, if_true, if_false, Bool.or_true, Bool.and_true] <;> rfl)) (fun hg1_4 => by simp only [EN, Nat.reduceEqDiff, reduceIte, qv_len, ln38, AR, strEq, decide_true, Bool.not_true, Bool.not_false, decide_false, eq_self, if_true, if_false, Bool.or_true, Bool.and_true, hg1_4, GR]; rfl) ?_
  refine WL.cq (gd_at (t := 14) rfl (by simp only [EN, Nat.reduceEqDiff, reduceIte, strEq, decide_true, Bool.not_true, Bool.not_false, decide_false, eq_self, if_true, if_false, Bool.or_true, Bool.and_true] <;> rfl)) (fun hg1_5 => by simp only [EN, Nat.reduceEqDiff, reduceIte, qv_binOp, binv_gtr, strEq, decide_true, Bool.not_true, Bool.not_false, decide_false, eq_self, if_true, if_false, Bool.or_true, Bool.and_true, hg1_5, GR]; rfl) ?_
  refine WL.qq (by simp only [EN, Nat.reduceEqDiff, reduceIte, qv_pick, pk_and, pk_or, GR, strEq, decide_true, Bool.not_true, Bool.not_false, decide_false, eq_self, if_true, if_false, Bool.or_true, Bool.and_true]; rfl) ?_
  refine WL.qq (by simp only [EN, Nat.reduceEqDiff, reduceIte, qv_move, strEq, decide_true, Bool.not_true, Bool.not_false, decide_false, eq_self, if_true, if_false, Bool.or_true, Bool.and_true]; rfl) ?_
  refine WL.cq (gd_at (t := 19) rfl (by simp only [EN, Nat.reduceEqDiff, reduceIte, e1, strEq, decide_true, Bool.not_true, Bool.not_false, decide_false, eq_self, if_true, if_false, Bool.or_true, Bool.and_true] <;> rfl)) (fun hg1_8 => by simp only [EN, Nat.reduceEqDiff, reduceIte, qv_move, e1, strEq, decide_true, Bool.not_true, Bool.not_false, decide_false, eq_self, if_true, if_false, Bool.or_true, Bool.and_true, hg1_8, GR]; rfl) ?_
  refine WL.cq (gd_at (t := 19) rfl (by simp only [EN, Nat.reduceEqDiff, reduceIte, strEq, decide_true, Bool.not_true, Bool.not_false, decide_false, eq_self, if_true, if_false, Bool.or_true, Bool.and_true] <;> rfl)) (fun hg1_9 => by simp only [EN, Nat.reduceEqDiff, reduceIte, qv_len, ln56, AR, strEq, decide_true, Bool.not_true, Bool.not_false, decide_false, eq_self, if_true, if_false, Bool.or_true, Bool.and_true, hg1_9, GR]; rfl) ?_
  refine WL.cq (gd_at (t := 19) rfl (by simp only [EN, Nat.reduceEqDiff, reduceIte, strEq, decide_true, Bool.not_true, Bool.not_false, decide_false, eq_self, if_true, if_false, Bool.or_true, Bool.and_true] <;> rfl)) (fun hg1_10 => by simp only [EN, Nat.reduceEqDiff, reduceIte, qv_binOp, binv_gtr, strEq, decide_true, Bool.not_true, Bool.not_false, decide_false, eq_self, if_true, if_false, Bool.or_true, Bool.and_true, hg1_10, GR]; rfl) ?_
  refine WL.qq (by simp only [EN, Nat.reduceEqDiff, reduceIte, qv_pick, pk_and, pk_or, GR, strEq, decide_true, Bool.not_true, Bool.not_false, decide_false, eq_self, if_true, if_false, Bool.or_true, Bool.and_true]; rfl) ?_
  refine WL.nil ?_
  refine th_norm ?_
  refine hx_cond (by simp only [EN, Nat.reduceEqDiff, reduceIte, strEq, decide_true, Bool.not_true, Bool.not_false, decide_false, eq_self, if_true, if_false, Bool.or_true, Bool.and_true]; rfl) (fun hct23 => ?_) (fun hct23 => ?_)
  ·
    try simp only [BD] at hct23
    refine hx_seq ?_
    refine hx_region ?_
    refine WL.cg Try.call11 (by simp only [EN, Nat.reduceEqDiff, reduceIte, AR, strEq, decide_true, Bool.not_true, Bool.not_false, decide_false, eq_self, if_true, if_false, Bool.or_true, Bool.and_true]; exact c_known16 _) ?_
    intro h2 hx2
    replace hE := hE.ext hx2
    refine WL.qq (by simp only [EN, Nat.reduceEqDiff, reduceIte, qv_assign, strEq, decide_true, Bool.not_true, Bool.not_false, decide_false, eq_self, if_true, if_false, Bool.or_true, Bool.and_true]; rfl) ?_
    refine WL.nil ?_
    refine th_norm ?_
    refine hx_ret ?_
    refine th_ret ?_
    refine fin_ret [.tmp 4] rfl rfl (by simp only [EN, Nat.reduceEqDiff, reduceIte, resv, e0, e1, strEq, decide_true, Bool.not_true, Bool.not_false, decide_false, eq_self, if_true, if_false, Bool.or_true, Bool.and_true]; rfl) ?_  -- ret 0 r2
    exact ⟨rfl, hE⟩
  ·
    try simp only [BD] at hct23
    have hn3 : X.L.length ≤ 20 ∧ l.length ≤ 40 := (by have := hct23; simp at this; omega)
    refine hx_skip ?_
    refine th_norm ?_
    refine hx_seq ?_
    refine hx_region ?_
    refine WL.ce Try.call12 (by simp only [EN, Nat.reduceEqDiff, reduceIte, AR, strEq, decide_true, Bool.not_true, Bool.not_false, decide_false, eq_self, if_true, if_false, Bool.or_true, Bool.and_true]; exact tb_new _) ?_
    rintro _ h3 ⟨p, rfl, hT⟩
    simp only [put_some]
    obtain ⟨hs, hTs, hEs⟩ : ∃ hs, TB hs h3 p [] [] ∧ Ext h hs := ⟨_, hT, hE⟩
    replace hT := hTs
    refine WL.qq (by simp only [EN, Nat.reduceEqDiff, reduceIte, qv_assign, strEq, decide_true, Bool.not_true, Bool.not_false, decide_false, eq_self, if_true, if_false, Bool.or_true, Bool.and_true]; rfl) ?_
    refine WL.nil ?_
    refine th_norm ?_
    refine hx_seq ?_
    refine hx_seq ?_
    refine hx_region ?_
    refine WL.qq (by simp only [EN, Nat.reduceEqDiff, reduceIte, qv_assign, strEq, decide_true, Bool.not_true, Bool.not_false, decide_false, eq_self, if_true, if_false, Bool.or_true, Bool.and_true]; rfl) ?_
    refine WL.nil ?_
    refine th_norm ?_
    refine hx_block ?_
    refine hx_loopG [6, 26, 27, 28, 29, 30, 31, 32, 33, 34, 35, 36, 37, 38, 39, 40, 41, 42, 43, 44, 45, 46, 47, 48, 49, 50, 51, 52, 53, 54, 55, 56, 57, 58, 59, 60, 61, 62, 63, 64, 65, 66] (fun k e hL0 => ∃ (i : Nat) (ls : List L2), X.L.length - i = k ∧ (i ≤ X.L.length) ∧ (TB hs hL0 p ls []) ∧ (NE ls [] i 0) ∧ e 6 = .int .i64 i) _ ⟨0, [], rfl, ?_, ?_, ?_, ?_⟩ ?_
    · omega
    · exact hT
    · exact ⟨fun x hx => (by cases hx), fun x hx => (by cases hx), fun x hx => (by cases hx), fun x hx => (by cases hx), fun x hx => (by cases hx), Nat.le_refl _, Nat.le_refl _⟩
    · simp only [EN, Nat.reduceEqDiff, reduceIte, e0, e1, strEq, decide_true, Bool.not_true, Bool.not_false, decide_false, eq_self, if_true, if_false, Bool.or_true, Bool.and_true] <;> rfl
    ·
      rintro k e0L hL0 hfr0 ⟨i, ls, rfl, hi, hT, hN, i6_0⟩
      have k0_0 := hfr0 0 rfl; try simp only [EN, Nat.reduceEqDiff, reduceIte, e0, strEq, decide_true, Bool.not_true, Bool.not_false, decide_false, eq_self, if_true, if_false, Bool.or_true, Bool.and_true] at k0_0
      have k1_0 := hfr0 1 rfl; try simp only [EN, Nat.reduceEqDiff, reduceIte, e1, strEq, decide_true, Bool.not_true, Bool.not_false, decide_false, eq_self, if_true, if_false, Bool.or_true, Bool.and_true] at k1_0
      have k5_0 := hfr0 5 rfl; try simp only [EN, Nat.reduceEqDiff, reduceIte, strEq, decide_true, Bool.not_true, Bool.not_false, decide_false, eq_self, if_true, if_false, Bool.or_true, Bool.and_true] at k5_0
      have hXx := (hX.ext hEs).ext hT.E
      refine hx_seq ?_
      refine hx_seq ?_
      refine hx_region ?_
      refine WL.qq (by simp only [EN, Nat.reduceEqDiff, reduceIte, qv_move, i6_0, strEq, decide_true, Bool.not_true, Bool.not_false, decide_false, eq_self, if_true, if_false, Bool.or_true, Bool.and_true]; rfl) ?_
      refine WL.qq (by simp only [EN, Nat.reduceEqDiff, reduceIte, qv_move, k0_0, strEq, decide_true, Bool.not_true, Bool.not_false, decide_false, eq_self, if_true, if_false, Bool.or_true, Bool.and_true]; rfl) ?_
      refine WL.qq (by simp only [EN, Nat.reduceEqDiff, reduceIte, qv_len, ln38, AR, strEq, decide_true, Bool.not_true, Bool.not_false, decide_false, eq_self, if_true, if_false, Bool.or_true, Bool.and_true]; rfl) ?_
      refine WL.qq (by simp only [EN, Nat.reduceEqDiff, reduceIte, qv_binOp, binv_lss, strEq, decide_true, Bool.not_true, Bool.not_false, decide_false, eq_self, if_true, if_false, Bool.or_true, Bool.and_true]; rfl) ?_
      refine WL.nil ?_
      refine th_norm ?_
      refine hx_cond (by simp only [EN, Nat.reduceEqDiff, reduceIte, strEq, decide_true, Bool.not_true, Bool.not_false, decide_false, eq_self, if_true, if_false, Bool.or_true, Bool.and_true]; rfl) (fun hct29 => ?_) (fun hct29 => ?_)
      ·
        try simp only [BD] at hct29
        obtain ⟨x, hx⟩ := atG (l := X.L) (i := i) (by omega)
        obtain ⟨b, off, hXa, hr3, hc0, hc1, hc2⟩ := lim_rd hXx.rd hx
        have hcm := fun q => cnt_len (setL ls q x.2) []; have hcl := fun q => setL_len ls q x.2; have hll := hN.ll; simp only [List.length_nil] at hcm
        refine hx_skip ?_
        refine th_norm ?_
        refine hx_seq ?_
        refine hx_block ?_
        refine hx_seq ?_
        refine hx_region ?_
        refine WL.qq (by simp only [EN, Nat.reduceEqDiff, reduceIte, qv_move, k0_0, strEq, decide_true, Bool.not_true, Bool.not_false, decide_false, eq_self, if_true, if_false, Bool.or_true, Bool.and_true]; rfl) ?_
        refine WL.qq (by simp only [EN, Nat.reduceEqDiff, reduceIte, qv_move, i6_0, strEq, decide_true, Bool.not_true, Bool.not_false, decide_false, eq_self, if_true, if_false, Bool.or_true, Bool.and_true]; rfl) ?_
        refine WL.qq (by simp only [EN, Nat.reduceEqDiff, reduceIte, qv_indexAddr, strEq, decide_true, Bool.not_true, Bool.not_false, decide_false, eq_self, if_true, if_false, Bool.or_true, Bool.and_true, hXa]; (try simp (disch := omega) only [ix38, Int.toNat_natCast]); rfl) ?_
        refine WL.qq (by simp only [EN, Nat.reduceEqDiff, reduceIte, qv_fieldAddr, fa57_1, Nat.zero_add, Nat.reduceAdd, strEq, decide_true, Bool.not_true, Bool.not_false, decide_false, eq_self, if_true, if_false, Bool.or_true, Bool.and_true]; rfl) ?_
        refine WL.qq (by simp only [EN, Nat.reduceEqDiff, reduceIte, k0_0, k1_0, k5_0, i6_0, strEq, decide_true, Bool.not_true, Bool.not_false, decide_false, eq_self, if_true, if_false, Bool.or_true, Bool.and_true, qv_load, ld9, Int.toNat_natCast, hc1]; rfl) ?_
        refine WL.qq (by simp only [EN, Nat.reduceEqDiff, reduceIte, qv_binOp, binv_eql, eq9, Option.map_some, strEq, decide_true, Bool.not_true, Bool.not_false, decide_false, eq_self, if_true, if_false, Bool.or_true, Bool.and_true]; rfl) ?_
        refine WL.nil ?_
        refine th_norm ?_
        refine hx_cond (by simp only [EN, Nat.reduceEqDiff, reduceIte, strEq, decide_true, Bool.not_true, Bool.not_false, decide_false, eq_self, if_true, if_false, Bool.or_true, Bool.and_true]; rfl) (fun hct37 => ?_) (fun hct37 => ?_)
        ·
          try simp only [BD] at hct37
          apply hx_draw2 Rel.same [11] [] [] rfl (by decide +kernel) rfl
          refine LD.qq rfl rfl (by simp only [EN, Nat.reduceEqDiff, reduceIte, qv_move, k5_0, strEq, decide_true, Bool.not_true, Bool.not_false, decide_false, eq_self, if_true, if_false, Bool.or_true, Bool.and_true]; rfl) ?_
          refine LD.qq rfl rfl (by simp only [EN, Nat.reduceEqDiff, reduceIte, qv_move, k0_0, strEq, decide_true, Bool.not_true, Bool.not_false, decide_false, eq_self, if_true, if_false, Bool.or_true, Bool.and_true]; rfl) ?_
          refine LD.qq rfl rfl (by simp only [EN, Nat.reduceEqDiff, reduceIte, qv_move, i6_0, strEq, decide_true, Bool.not_true, Bool.not_false, decide_false, eq_self, if_true, if_false, Bool.or_true, Bool.and_true]; rfl) ?_
          refine LD.qq rfl rfl (by simp only [EN, Nat.reduceEqDiff, reduceIte, qv_indexAddr, strEq, decide_true, Bool.not_true, Bool.not_false, decide_false, eq_self, if_true, if_false, Bool.or_true, Bool.and_true, hXa]; (try simp (disch := omega) only [ix38, Int.toNat_natCast]); rfl) ?_
          refine LD.qq rfl rfl (by simp only [EN, Nat.reduceEqDiff, reduceIte, qv_fieldAddr, fa57_0, Nat.zero_add, Nat.reduceAdd, strEq, decide_true, Bool.not_true, Bool.not_false, decide_false, eq_self, if_true, if_false, Bool.or_true, Bool.and_true]; rfl) ?_
          refine LD.qq rfl rfl (by simp only [EN, Nat.reduceEqDiff, reduceIte, k0_0, k1_0, k5_0, i6_0, strEq, decide_true, Bool.not_true, Bool.not_false, decide_false, eq_self, if_true, if_false, Bool.or_true, Bool.and_true, qv_load, ld9, Int.toNat_natCast, Nat.add_zero, hc0]; rfl) ?_
          refine LD.qq rfl rfl (by simp only [EN, Nat.reduceEqDiff, reduceIte, qv_move, k0_0, strEq, decide_true, Bool.not_true, Bool.not_false, decide_false, eq_self, if_true, if_false, Bool.or_true, Bool.and_true]; rfl) ?_
          refine LD.qq rfl rfl (by simp only [EN, Nat.reduceEqDiff, reduceIte, qv_move, i6_0, strEq, decide_true, Bool.not_true, Bool.not_false, decide_false, eq_self, if_true, if_false, Bool.or_true, Bool.and_true]; rfl) ?_
          refine LD.qq rfl rfl (by simp only [EN, Nat.reduceEqDiff, reduceIte, qv_indexAddr, strEq, decide_true, Bool.not_true, Bool.not_false, decide_false, eq_self, if_true, if_false, Bool.or_true, Bool.and_true, hXa]; (try simp (disch := omega) only [ix38, Int.toNat_natCast]); rfl) ?_
          refine LD.qq rfl rfl (by simp only [EN, Nat.reduceEqDiff, reduceIte, qv_fieldAddr, fa57_2, Nat.zero_add, Nat.reduceAdd, strEq, decide_true, Bool.not_true, Bool.not_false, decide_false, eq_self, if_true, if_false, Bool.or_true, Bool.and_true]; rfl) ?_
          refine LD.qq rfl rfl (by simp only [EN, Nat.reduceEqDiff, reduceIte, k0_0, k1_0, k5_0, i6_0, strEq, decide_true, Bool.not_true, Bool.not_false, decide_false, eq_self, if_true, if_false, Bool.or_true, Bool.and_true, qv_load, ld2, Int.toNat_natCast, hc2]; rfl) ?_
          refine LD.skip rfl ?_
          refine LD.nil ?_
          rintro _ rfl -
          obtain ⟨r, hr⟩ : ∃ r, setME ls [] x.1.f x.2 = r := ⟨_, rfl⟩
          refine WL.ce Try.call13 (by simp only [EN, Nat.reduceEqDiff, reduceIte, AR, strEq, decide_true, Bool.not_true, Bool.not_false, decide_false, eq_self, if_true, if_false, Bool.or_true, Bool.and_true]; exact tb_setM x.1.f x.2 hT (by have h8 := hcm ⟨x.1.f, em⟩; have h9 := hcl ⟨x.1.f, em⟩; omega) hr) ?_
          rintro _ h8 ⟨rfl, hT8⟩
          simp only [put_some]
          have hN8 : NE (if r = 0 then setL ls ⟨x.1.f, em⟩ x.2 else ls) [] (i + 1) 0 := hN.set (fun h0 => by subst h0; unfold setME at hr; split at hr; (cases hr); (exact setE_amt hr))
          refine WL.nil ?_
          refine bl_norm ?_
          refine th_norm ?_
          refine hx_region ?_
          refine WL.qq (by simp only [EN, Nat.reduceEqDiff, reduceIte, qv_move, i6_0, strEq, decide_true, Bool.not_true, Bool.not_false, decide_false, eq_self, if_true, if_false, Bool.or_true, Bool.and_true]; rfl) ?_
          refine WL.qq (by simp only [EN, Nat.reduceEqDiff, reduceIte, qv_binOp, binv_add, strEq, decide_true, Bool.not_true, Bool.not_false, decide_false, eq_self, if_true, if_false, Bool.or_true, Bool.and_true]; (try simp (disch := omega) only [w64, w8, wu64]); rfl) ?_
          refine WL.qq (by simp only [EN, Nat.reduceEqDiff, reduceIte, qv_assign, strEq, decide_true, Bool.not_true, Bool.not_false, decide_false, eq_self, if_true, if_false, Bool.or_true, Bool.and_true]; rfl) ?_
          refine WL.nil ?_
          refine th_norm ?_
          refine ⟨rfl, ?_, _, ?_, i + 1, (if r = 0 then setL ls ⟨x.1.f, em⟩ x.2 else ls), rfl, ?_, ?_, ?_, ?_⟩  -- again 0 of loop 0
          · (repeat (first | exact Fr.refl _ _ | refine Fr.set rfl ?_ | refine Fr.put rfl ?_ | with_reducible refine Fr.put0 ?_))
          · omega
          · omega
          · exact hT8
          · exact hN8
          · simp only [EN, Nat.reduceEqDiff, reduceIte, k0_0, k1_0, k5_0, i6_0, strEq, decide_true, Bool.not_true, Bool.not_false, decide_false, eq_self, if_true, if_false, Bool.or_true, Bool.and_true] <;> first | rfl | (congr 1; omega)
        ·
          try simp only [BD] at hct37
          apply hx_draw2 Rel.same [16] [] [] rfl (by decide +kernel) rfl
          refine LD.qq rfl rfl (by simp only [EN, Nat.reduceEqDiff, reduceIte, qv_move, k5_0, strEq, decide_true, Bool.not_true, Bool.not_false, decide_false, eq_self, if_true, if_false, Bool.or_true, Bool.and_true]; rfl) ?_
          refine LD.qq rfl rfl (by simp only [EN, Nat.reduceEqDiff, reduceIte, qv_move, k0_0, strEq, decide_true, Bool.not_true, Bool.not_false, decide_false, eq_self, if_true, if_false, Bool.or_true, Bool.and_true]; rfl) ?_
          refine LD.qq rfl rfl (by simp only [EN, Nat.reduceEqDiff, reduceIte, qv_move, i6_0, strEq, decide_true, Bool.not_true, Bool.not_false, decide_false, eq_self, if_true, if_false, Bool.or_true, Bool.and_true]; rfl) ?_
          refine LD.qq rfl rfl (by simp only [EN, Nat.reduceEqDiff, reduceIte, qv_indexAddr, strEq, decide_true, Bool.not_true, Bool.not_false, decide_false, eq_self, if_true, if_false, Bool.or_true, Bool.and_true, hXa]; (try simp (disch := omega) only [ix38, Int.toNat_natCast]); rfl) ?_
          refine LD.qq rfl rfl (by simp only [EN, Nat.reduceEqDiff, reduceIte, qv_fieldAddr, fa57_0, Nat.zero_add, Nat.reduceAdd, strEq, decide_true, Bool.not_true, Bool.not_false, decide_false, eq_self, if_true, if_false, Bool.or_true, Bool.and_true]; rfl) ?_
          refine LD.qq rfl rfl (by simp only [EN, Nat.reduceEqDiff, reduceIte, k0_0, k1_0, k5_0, i6_0, strEq, decide_true, Bool.not_true, Bool.not_false, decide_false, eq_self, if_true, if_false, Bool.or_true, Bool.and_true, qv_load, ld9, Int.toNat_natCast, Nat.add_zero, hc0]; rfl) ?_
          refine LD.qq rfl rfl (by simp only [EN, Nat.reduceEqDiff, reduceIte, qv_move, k0_0, strEq, decide_true, Bool.not_true, Bool.not_false, decide_false, eq_self, if_true, if_false, Bool.or_true, Bool.and_true]; rfl) ?_
          refine LD.qq rfl rfl (by simp only [EN, Nat.reduceEqDiff, reduceIte, qv_move, i6_0, strEq, decide_true, Bool.not_true, Bool.not_false, decide_false, eq_self, if_true, if_false, Bool.or_true, Bool.and_true]; rfl) ?_
          refine LD.qq rfl rfl (by simp only [EN, Nat.reduceEqDiff, reduceIte, qv_indexAddr, strEq, decide_true, Bool.not_true, Bool.not_false, decide_false, eq_self, if_true, if_false, Bool.or_true, Bool.and_true, hXa]; (try simp (disch := omega) only [ix38, Int.toNat_natCast]); rfl) ?_
          refine LD.qq rfl rfl (by simp only [EN, Nat.reduceEqDiff, reduceIte, qv_fieldAddr, fa57_1, Nat.zero_add, Nat.reduceAdd, strEq, decide_true, Bool.not_true, Bool.not_false, decide_false, eq_self, if_true, if_false, Bool.or_true, Bool.and_true]; rfl) ?_
          refine LD.qq rfl rfl (by simp only [EN, Nat.reduceEqDiff, reduceIte, k0_0, k1_0, k5_0, i6_0, strEq, decide_true, Bool.not_true, Bool.not_false, decide_false, eq_self, if_true, if_false, Bool.or_true, Bool.and_true, qv_load, ld9, Int.toNat_natCast, hc1]; rfl) ?_
          refine LD.qq rfl rfl (by simp only [EN, Nat.reduceEqDiff, reduceIte, qv_move, k0_0, strEq, decide_true, Bool.not_true, Bool.not_false, decide_false, eq_self, if_true, if_false, Bool.or_true, Bool.and_true]; rfl) ?_
          refine LD.qq rfl rfl (by simp only [EN, Nat.reduceEqDiff, reduceIte, qv_move, i6_0, strEq, decide_true, Bool.not_true, Bool.not_false, decide_false, eq_self, if_true, if_false, Bool.or_true, Bool.and_true]; rfl) ?_
          refine LD.qq rfl rfl (by simp only [EN, Nat.reduceEqDiff, reduceIte, qv_indexAddr, strEq, decide_true, Bool.not_true, Bool.not_false, decide_false, eq_self, if_true, if_false, Bool.or_true, Bool.and_true, hXa]; (try simp (disch := omega) only [ix38, Int.toNat_natCast]); rfl) ?_
          refine LD.qq rfl rfl (by simp only [EN, Nat.reduceEqDiff, reduceIte, qv_fieldAddr, fa57_2, Nat.zero_add, Nat.reduceAdd, strEq, decide_true, Bool.not_true, Bool.not_false, decide_false, eq_self, if_true, if_false, Bool.or_true, Bool.and_true]; rfl) ?_
          refine LD.qq rfl rfl (by simp only [EN, Nat.reduceEqDiff, reduceIte, k0_0, k1_0, k5_0, i6_0, strEq, decide_true, Bool.not_true, Bool.not_false, decide_false, eq_self, if_true, if_false, Bool.or_true, Bool.and_true, qv_load, ld2, Int.toNat_natCast, hc2]; rfl) ?_
          refine LD.skip rfl ?_
          refine LD.nil ?_
          rintro _ rfl -
          obtain ⟨r, hr⟩ : ∃ r, setBE ls [] x.1 x.2 = r := ⟨_, rfl⟩
          refine WL.ce Try.call27 (by simp only [EN, Nat.reduceEqDiff, reduceIte, AR, strEq, decide_true, Bool.not_true, Bool.not_false, decide_false, eq_self, if_true, if_false, Bool.or_true, Bool.and_true]; exact tb_setB x.1 x.2 hT (by have h8 := hcm x.1; have h9 := hcl x.1; omega) hr) ?_
          rintro _ h8 ⟨rfl, hT8⟩
          simp only [put_some]
          have hN8 : NE (if r = 0 then setL ls x.1 x.2 else ls) [] (i + 1) 0 := hN.set (fun h0 => by subst h0; unfold setBE at hr; split at hr; (cases hr); split at hr; (cases hr); (exact setE_amt hr))
          refine WL.nil ?_
          refine bl_norm ?_
          refine th_norm ?_
          refine hx_region ?_
          refine WL.qq (by simp only [EN, Nat.reduceEqDiff, reduceIte, qv_move, i6_0, strEq, decide_true, Bool.not_true, Bool.not_false, decide_false, eq_self, if_true, if_false, Bool.or_true, Bool.and_true]; rfl) ?_
          refine WL.qq (by simp only [EN, Nat.reduceEqDiff, reduceIte, qv_binOp, binv_add, strEq, decide_true, Bool.not_true, Bool.not_false, decide_false, eq_self, if_true, if_false, Bool.or_true, Bool.and_true]; (try simp (disch := omega) only [w64, w8, wu64]); rfl) ?_
          refine WL.qq (by simp only [EN, Nat.reduceEqDiff, reduceIte, qv_assign, strEq, decide_true, Bool.not_true, Bool.not_false, decide_false, eq_self, if_true, if_false, Bool.or_true, Bool.and_true]; rfl) ?_
          refine WL.nil ?_
          refine th_norm ?_
          refine ⟨rfl, ?_, _, ?_, i + 1, (if r = 0 then setL ls x.1 x.2 else ls), rfl, ?_, ?_, ?_, ?_⟩  -- again 1 of loop 0
          · (repeat (first | exact Fr.refl _ _ | refine Fr.set rfl ?_ | refine Fr.put rfl ?_ | with_reducible refine Fr.put0 ?_))
          · omega
          · omega
          · exact hT8
          · exact hN8
          · simp only [EN, Nat.reduceEqDiff, reduceIte, k0_0, k1_0, k5_0, i6_0, strEq, decide_true, Bool.not_true, Bool.not_false, decide_false, eq_self, if_true, if_false, Bool.or_true, Bool.and_true] <;> first | rfl | (congr 1; omega)
      ·
        try simp only [BD] at hct29
        refine hx_exit ?_
        refine th_exit ?_
        refine th_exit ?_
        refine bl_hit ?_
        refine th_norm ?_
        refine hx_seq ?_
        refine hx_seq ?_
        refine hx_region ?_
        refine WL.qq (by simp only [EN, Nat.reduceEqDiff, reduceIte, qv_assign, strEq, decide_true, Bool.not_true, Bool.not_false, decide_false, eq_self, if_true, if_false, Bool.or_true, Bool.and_true]; rfl) ?_
        refine WL.nil ?_
        refine th_norm ?_
        refine hx_block ?_
        refine hx_loopG [4, 7, 8, 9, 10, 11, 67, 68, 69, 70, 71, 72, 73, 74, 75, 76, 77, 78, 79, 80, 81, 82, 83, 84, 85, 86, 87, 88, 89, 90, 91, 92, 93, 94, 95, 96, 97, 98, 99, 100, 101, 102, 103, 104, 105, 106, 107, 108, 109, 110, 111, 112, 113, 114, 115, 116, 117, 118, 119, 120, 121, 122, 123, 124, 125, 126, 127, 128, 129, 130] (fun k e hL1 => ∃ (j : Nat) (ns : List L2), l.length - j = k ∧ (j ≤ l.length) ∧ (TB hs hL1 p ls ns) ∧ (NE ls ns i (24 * j)) ∧ e 7 = .int .i64 j) _ ⟨0, [], rfl, ?_, ?_, ?_, ?_⟩ ?_
        · omega
        · exact hT
        · exact hN
        · simp only [EN, Nat.reduceEqDiff, reduceIte, k0_0, k1_0, k5_0, i6_0, strEq, decide_true, Bool.not_true, Bool.not_false, decide_false, eq_self, if_true, if_false, Bool.or_true, Bool.and_true] <;> rfl
        ·
          rintro k e1L hL1 hfr1 ⟨j, ns, rfl, hj, hT, hN, i7_1⟩
          have k1_1 := hfr1 1 rfl; try simp only [EN, Nat.reduceEqDiff, reduceIte, k1_0, strEq, decide_true, Bool.not_true, Bool.not_false, decide_false, eq_self, if_true, if_false, Bool.or_true, Bool.and_true] at k1_1
          have k5_1 := hfr1 5 rfl; try simp only [EN, Nat.reduceEqDiff, reduceIte, k5_0, strEq, decide_true, Bool.not_true, Bool.not_false, decide_false, eq_self, if_true, if_false, Bool.or_true, Bool.and_true] at k5_1
          have hl2 := (hl.ext hEs).ext hT.E
          refine hx_seq ?_
          refine hx_seq ?_
          refine hx_region ?_
          refine WL.qq (by simp only [EN, Nat.reduceEqDiff, reduceIte, qv_move, i7_1, strEq, decide_true, Bool.not_true, Bool.not_false, decide_false, eq_self, if_true, if_false, Bool.or_true, Bool.and_true]; rfl) ?_
          refine WL.qq (by simp only [EN, Nat.reduceEqDiff, reduceIte, qv_move, k1_1, strEq, decide_true, Bool.not_true, Bool.not_false, decide_false, eq_self, if_true, if_false, Bool.or_true, Bool.and_true]; rfl) ?_
          refine WL.qq (by simp only [EN, Nat.reduceEqDiff, reduceIte, qv_len, ln56, AR, strEq, decide_true, Bool.not_true, Bool.not_false, decide_false, eq_self, if_true, if_false, Bool.or_true, Bool.and_true]; rfl) ?_
          refine WL.qq (by simp only [EN, Nat.reduceEqDiff, reduceIte, qv_binOp, binv_lss, strEq, decide_true, Bool.not_true, Bool.not_false, decide_false, eq_self, if_true, if_false, Bool.or_true, Bool.and_true]; rfl) ?_
          refine WL.nil ?_
          refine th_norm ?_
          refine hx_cond (by simp only [EN, Nat.reduceEqDiff, reduceIte, strEq, decide_true, Bool.not_true, Bool.not_false, decide_false, eq_self, if_true, if_false, Bool.or_true, Bool.and_true]; rfl) (fun hct70 => ?_) (fun hct70 => ?_)
          ·
            try simp only [BD] at hct70
            obtain ⟨y, hy⟩ := atG (l := l) (i := j) (by omega)
            have hyo := ((ho y (List.mem_of_getElem? hy)).ext hEs).ext hT.E
            have hyl := Nat.le_trans hyo.len hyo.cap
            obtain ⟨b, off, hala, hr1⟩ := hl2 j y hy
            have hc := readN_cell hr1 0 _ rfl; rw [Nat.add_zero, Nat.mul_one] at hc
            refine hx_skip ?_
            refine th_norm ?_
            refine hx_seq ?_
            refine hx_block ?_
            refine hx_seq ?_
            refine hx_seq ?_
            refine hx_region ?_
            refine WL.qq (by simp only [EN, Nat.reduceEqDiff, reduceIte, qv_move, k1_1, strEq, decide_true, Bool.not_true, Bool.not_false, decide_false, eq_self, if_true, if_false, Bool.or_true, Bool.and_true]; rfl) ?_
            refine WL.qq (by simp only [EN, Nat.reduceEqDiff, reduceIte, qv_move, i7_1, strEq, decide_true, Bool.not_true, Bool.not_false, decide_false, eq_self, if_true, if_false, Bool.or_true, Bool.and_true]; rfl) ?_
            refine WL.qq (by simp only [EN, Nat.reduceEqDiff, reduceIte, qv_indexAddr, strEq, decide_true, Bool.not_true, Bool.not_false, decide_false, eq_self, if_true, if_false, Bool.or_true, Bool.and_true, hala]; (try simp (disch := omega) only [ix56, Int.toNat_natCast]); rfl) ?_
            refine WL.qq (by simp only [EN, Nat.reduceEqDiff, reduceIte, k1_1, k5_1, i7_1, strEq, decide_true, Bool.not_true, Bool.not_false, decide_false, eq_self, if_true, if_false, Bool.or_true, Bool.and_true, qv_load, ld39, Int.toNat_natCast, hc]; rfl) ?_
            refine WL.qq (by simp only [EN, Nat.reduceEqDiff, reduceIte, qv_len, ln39, AR, strEq, decide_true, Bool.not_true, Bool.not_false, decide_false, eq_self, if_true, if_false, Bool.or_true, Bool.and_true]; rfl) ?_
            refine WL.qq (by simp only [EN, Nat.reduceEqDiff, reduceIte, qv_binOp, binv_gtr, strEq, decide_true, Bool.not_true, Bool.not_false, decide_false, eq_self, if_true, if_false, Bool.or_true, Bool.and_true]; rfl) ?_
            refine WL.nil ?_
            refine th_norm ?_
            refine hx_cond (by simp only [EN, Nat.reduceEqDiff, reduceIte, strEq, decide_true, Bool.not_true, Bool.not_false, decide_false, eq_self, if_true, if_false, Bool.or_true, Bool.and_true]; rfl) (fun hct78 => ?_) (fun hct78 => ?_)
            ·
              try simp only [BD] at hct78
              refine hx_seq ?_
              refine hx_region ?_
              refine WL.qq (by simp only [EN, Nat.reduceEqDiff, reduceIte, qv_assign, strEq, decide_true, Bool.not_true, Bool.not_false, decide_false, eq_self, if_true, if_false, Bool.or_true, Bool.and_true]; rfl) ?_
              refine WL.nil ?_
              refine th_norm ?_
              refine hx_ret ?_
              refine th_ret ?_
              refine bl_ret ?_
              refine th_ret ?_
              refine th_ret ?_
              refine bl_ret ?_
              refine th_ret ?_
              refine fin_ret [.tmp 4] rfl rfl (by simp only [EN, Nat.reduceEqDiff, reduceIte, resv, k1_1, k5_1, i7_1, strEq, decide_true, Bool.not_true, Bool.not_false, decide_false, eq_self, if_true, if_false, Bool.or_true, Bool.and_true]; rfl) ?_  -- ret 1 r14
              exact ⟨rfl, hEs.trans hT.E⟩
            ·
              try simp only [BD] at hct78
              refine hx_skip ?_
              refine th_norm ?_
              refine hx_seq ?_
              refine hx_fresh (fun eF15 hfcf15 => ?_)
              have k1_f15 := hfcf15 1 rfl; try simp only [EN, Nat.reduceEqDiff, reduceIte, k1_1, strEq, decide_true, Bool.not_true, Bool.not_false, decide_false, eq_self, if_true, if_false, Bool.or_true, Bool.and_true] at k1_f15
              have k5_f15 := hfcf15 5 rfl; try simp only [EN, Nat.reduceEqDiff, reduceIte, k5_1, strEq, decide_true, Bool.not_true, Bool.not_false, decide_false, eq_self, if_true, if_false, Bool.or_true, Bool.and_true] at k5_f15
              have k7_f15 := hfcf15 7 rfl; try simp only [EN, Nat.reduceEqDiff, reduceIte, i7_1, strEq, decide_true, Bool.not_true, Bool.not_false, decide_false, eq_self, if_true, if_false, Bool.or_true, Bool.and_true] at k7_f15
              refine hx_region ?_
              refine WL.qq (by simp only [EN, Nat.reduceEqDiff, reduceIte, qv_move, k5_f15, strEq, decide_true, Bool.not_true, Bool.not_false, decide_false, eq_self, if_true, if_false, Bool.or_true, Bool.and_true]; rfl) ?_
              refine WL.qq (by simp only [EN, Nat.reduceEqDiff, reduceIte, qv_move, k1_f15, strEq, decide_true, Bool.not_true, Bool.not_false, decide_false, eq_self, if_true, if_false, Bool.or_true, Bool.and_true]; rfl) ?_
              refine WL.qq (by simp only [EN, Nat.reduceEqDiff, reduceIte, qv_move, k7_f15, strEq, decide_true, Bool.not_true, Bool.not_false, decide_false, eq_self, if_true, if_false, Bool.or_true, Bool.and_true]; rfl) ?_
              refine WL.qq (by simp only [EN, Nat.reduceEqDiff, reduceIte, qv_indexAddr, strEq, decide_true, Bool.not_true, Bool.not_false, decide_false, eq_self, if_true, if_false, Bool.or_true, Bool.and_true, hala]; (try simp (disch := omega) only [ix56, Int.toNat_natCast]); rfl) ?_
              refine WL.qq (by simp only [EN, Nat.reduceEqDiff, reduceIte, k1_f15, k5_f15, k7_f15, strEq, decide_true, Bool.not_true, Bool.not_false, decide_false, eq_self, if_true, if_false, Bool.or_true, Bool.and_true, qv_load, ld39, Int.toNat_natCast, hc]; rfl) ?_
              refine WL.ce Try.call26 (by simp only [EN, Nat.reduceEqDiff, reduceIte, AR, strEq, decide_true, Bool.not_true, Bool.not_false, decide_false, eq_self, if_true, if_false, Bool.or_true, Bool.and_true]; exact c_flows y.a y.L y.c (by omega) hyo.rd) ?_
              rintro _ h3 ⟨hx3, hoe⟩
              replace hT := hT.ext hx3
              simp only [put_some]
              obtain ⟨ae, ce, rfl, _, hse, _⟩ := Own.slG (f := limL) (sz := 3) (fun _ => rfl) hoe rfl
              obtain ⟨r, hr⟩ : ∃ r, chkS ls ns y.L = r := ⟨_, rfl⟩
              have hcm2 := cnt_len ls (aftS ns y.L); have hal2 := aft_len ns y.L; have hll2 := hN.ll; have hln2 := hN.ln
              refine WL.ce Try.call15 (by simp only [EN, Nat.reduceEqDiff, reduceIte, AR, strEq, decide_true, Bool.not_true, Bool.not_false, decide_false, eq_self, if_true, if_false, Bool.or_true, Bool.and_true]; exact tb_Record ae y.L ce hyl (by omega) hT hse hr) ?_
              rintro _ h15 ⟨rfl, hT15⟩
              simp only [put_some]
              have hN15 := hN.recd (by omega) hr
              obtain ⟨ns2, hns2⟩ : ∃ ns2, (if r = 0 then aftS ns y.L else ns) = ns2 := ⟨_, rfl⟩
              rw [hns2] at hT15 hN15
              replace hT := hT15
              have hnd := (tb_nodup hT).1
              refine WL.nil ?_
              refine th_norm ?_
              refine hx_seq ?_
              refine hx_fresh (fun eF16 hfcf16 => ?_)
              have k1_f16 := hfcf16 1 rfl; try simp only [EN, Nat.reduceEqDiff, reduceIte, k1_f15, strEq, decide_true, Bool.not_true, Bool.not_false, decide_false, eq_self, if_true, if_false, Bool.or_true, Bool.and_true] at k1_f16
              have k5_f16 := hfcf16 5 rfl; try simp only [EN, Nat.reduceEqDiff, reduceIte, k5_f15, strEq, decide_true, Bool.not_true, Bool.not_false, decide_false, eq_self, if_true, if_false, Bool.or_true, Bool.and_true] at k5_f16
              have k7_f16 := hfcf16 7 rfl; try simp only [EN, Nat.reduceEqDiff, reduceIte, k7_f15, strEq, decide_true, Bool.not_true, Bool.not_false, decide_false, eq_self, if_true, if_false, Bool.or_true, Bool.and_true] at k7_f16
              refine hx_region ?_
              refine WL.qq (by simp only [EN, Nat.reduceEqDiff, reduceIte, qv_move, k5_f16, strEq, decide_true, Bool.not_true, Bool.not_false, decide_false, eq_self, if_true, if_false, Bool.or_true, Bool.and_true]; rfl) ?_
              refine WL.ce Try.call28 (by simp only [EN, Nat.reduceEqDiff, reduceIte, AR, strEq, decide_true, Bool.not_true, Bool.not_false, decide_false, eq_self, if_true, if_false, Bool.or_true, Bool.and_true]; exact tb_Limits (by omega) hT) ?_
              rintro _ h4 ⟨hx4, L, aL, cL, rfl, hsL, hkL, hpL⟩
              replace hT := hT.ext hx4
              simp only [put_some]
              refine WL.qq (by simp only [EN, Nat.reduceEqDiff, reduceIte, qv_assign, strEq, decide_true, Bool.not_true, Bool.not_false, decide_false, eq_self, if_true, if_false, Bool.or_true, Bool.and_true]; rfl) ?_
              refine WL.nil ?_
              refine th_norm ?_
              refine hx_seq ?_
              refine hx_region ?_
              have hLl := hpL.length_eq
              refine WL.qq (by simp only [EN, Nat.reduceEqDiff, reduceIte, qv_assign, strEq, decide_true, Bool.not_true, Bool.not_false, decide_false, eq_self, if_true, if_false, Bool.or_true, Bool.and_true]; rfl) ?_
              refine WL.nil ?_
              refine th_norm ?_
              refine hx_block ?_
              refine hx_loopX [4, 9, 10, 11, 88, 89, 90, 91, 92, 93, 94, 95, 96, 97, 98, 99, 100, 101, 102, 103, 104, 105, 106, 107, 108, 109, 110, 111, 112, 113, 114, 115, 116, 117, 118, 119, 120, 121, 122, 123, 124, 125, 126, 127, 128, 129, 130] (fun k e => ∃ (i2 : Nat), L.length - i2 = k ∧ (i2 ≤ L.length) ∧ e 9 = .int .i64 i2) _ ⟨0, rfl, ?_, ?_⟩ ?_
              · omega
              · simp only [EN, Nat.reduceEqDiff, reduceIte, k1_f16, k5_f16, k7_f16, strEq, decide_true, Bool.not_true, Bool.not_false, decide_false, eq_self, if_true, if_false, Bool.or_true, Bool.and_true] <;> rfl
              ·
                rintro k e2L hL2 hX2 hfr2 ⟨i2, rfl, hi2, i9_2⟩
                replace hT := hT.ext hX2
                replace hsL := hsL.ext hX2
                have k1_2 := hfr2 1 rfl; try simp only [EN, Nat.reduceEqDiff, reduceIte, k1_f16, strEq, decide_true, Bool.not_true, Bool.not_false, decide_false, eq_self, if_true, if_false, Bool.or_true, Bool.and_true] at k1_2
                have k5_2 := hfr2 5 rfl; try simp only [EN, Nat.reduceEqDiff, reduceIte, k5_f16, strEq, decide_true, Bool.not_true, Bool.not_false, decide_false, eq_self, if_true, if_false, Bool.or_true, Bool.and_true] at k5_2
                have k7_2 := hfr2 7 rfl; try simp only [EN, Nat.reduceEqDiff, reduceIte, k7_f16, strEq, decide_true, Bool.not_true, Bool.not_false, decide_false, eq_self, if_true, if_false, Bool.or_true, Bool.and_true] at k7_2
                have k8_2 := hfr2 8 rfl; try simp only [EN, Nat.reduceEqDiff, reduceIte, strEq, decide_true, Bool.not_true, Bool.not_false, decide_false, eq_self, if_true, if_false, Bool.or_true, Bool.and_true] at k8_2
                refine hx_seq ?_
                refine hx_seq ?_
                refine hx_region ?_
                refine WL.qq (by simp only [EN, Nat.reduceEqDiff, reduceIte, qv_move, i9_2, strEq, decide_true, Bool.not_true, Bool.not_false, decide_false, eq_self, if_true, if_false, Bool.or_true, Bool.and_true]; rfl) ?_
                refine WL.qq (by simp only [EN, Nat.reduceEqDiff, reduceIte, qv_move, k8_2, strEq, decide_true, Bool.not_true, Bool.not_false, decide_false, eq_self, if_true, if_false, Bool.or_true, Bool.and_true]; rfl) ?_
                refine WL.qq (by simp only [EN, Nat.reduceEqDiff, reduceIte, qv_len, ln59, AR, strEq, decide_true, Bool.not_true, Bool.not_false, decide_false, eq_self, if_true, if_false, Bool.or_true, Bool.and_true]; rfl) ?_
                refine WL.qq (by simp only [EN, Nat.reduceEqDiff, reduceIte, qv_binOp, binv_lss, strEq, decide_true, Bool.not_true, Bool.not_false, decide_false, eq_self, if_true, if_false, Bool.or_true, Bool.and_true]; rfl) ?_
                refine WL.nil ?_
                refine th_norm ?_
                refine hx_cond (by simp only [EN, Nat.reduceEqDiff, reduceIte, strEq, decide_true, Bool.not_true, Bool.not_false, decide_false, eq_self, if_true, if_false, Bool.or_true, Bool.and_true]; rfl) (fun hct91 => ?_) (fun hct91 => ?_)
                ·
                  try simp only [BD] at hct91
                  obtain ⟨z, hz⟩ := atG (l := L) (i := i2) (by omega)
                  obtain ⟨bz, offz, haz, hz3, hz0, hz1, hz2⟩ := lim_rd hsL hz
                  have hzl : z ∈ ls := hpL.mem_iff.1 (List.mem_of_getElem? hz)
                  obtain ⟨mm, bb, hmv, hmm⟩ := hN15.mroom hnd hzl
                  refine hx_skip ?_
                  refine th_norm ?_
                  refine hx_seq ?_
                  refine hx_block ?_
                  refine hx_seq ?_
                  refine hx_region ?_
                  refine WL.qq (by simp only [EN, Nat.reduceEqDiff, reduceIte, qv_move, k5_2, strEq, decide_true, Bool.not_true, Bool.not_false, decide_false, eq_self, if_true, if_false, Bool.or_true, Bool.and_true]; rfl) ?_
                  refine WL.qq (by simp only [EN, Nat.reduceEqDiff, reduceIte, qv_move, k8_2, strEq, decide_true, Bool.not_true, Bool.not_false, decide_false, eq_self, if_true, if_false, Bool.or_true, Bool.and_true]; rfl) ?_
                  refine WL.qq (by simp only [EN, Nat.reduceEqDiff, reduceIte, qv_move, i9_2, strEq, decide_true, Bool.not_true, Bool.not_false, decide_false, eq_self, if_true, if_false, Bool.or_true, Bool.and_true]; rfl) ?_
                  refine WL.qq (by simp only [EN, Nat.reduceEqDiff, reduceIte, qv_indexAddr, strEq, decide_true, Bool.not_true, Bool.not_false, decide_false, eq_self, if_true, if_false, Bool.or_true, Bool.and_true, haz]; (try simp (disch := omega) only [ix59, Int.toNat_natCast]); rfl) ?_
                  refine WL.qq (by simp only [EN, Nat.reduceEqDiff, reduceIte, qv_fieldAddr, fa63_0, Nat.zero_add, Nat.reduceAdd, strEq, decide_true, Bool.not_true, Bool.not_false, decide_false, eq_self, if_true, if_false, Bool.or_true, Bool.and_true]; rfl) ?_
                  refine WL.qq (by simp only [EN, Nat.reduceEqDiff, reduceIte, k1_2, k5_2, k7_2, k8_2, i9_2, strEq, decide_true, Bool.not_true, Bool.not_false, decide_false, eq_self, if_true, if_false, Bool.or_true, Bool.and_true, qv_load, ld9, Int.toNat_natCast, Nat.add_zero, hz0]; rfl) ?_
                  refine WL.cg Try.call29 (by simp only [EN, Nat.reduceEqDiff, reduceIte, AR, strEq, decide_true, Bool.not_true, Bool.not_false, decide_false, eq_self, if_true, if_false, Bool.or_true, Bool.and_true]; exact hmv ▸ tb_MRoom z.1.f hT) ?_
                  intro h5 hx5
                  replace hT := hT.ext hx5
                  replace hsL := hsL.ext hx5
                  refine WL.qq (by simp only [EN, Nat.reduceEqDiff, reduceIte, qv_move, strEq, decide_true, Bool.not_true, Bool.not_false, decide_false, eq_self, if_true, if_false, Bool.or_true, Bool.and_true]; rfl) ?_
                  refine WL.qq (by simp only [EN, Nat.reduceEqDiff, reduceIte, qv_extract, AR, strEq, decide_true, Bool.not_true, Bool.not_false, decide_false, eq_self, if_true, if_false, Bool.or_true, Bool.and_true]; rfl) ?_
                  refine WL.qq (by simp only [EN, Nat.reduceEqDiff, reduceIte, qv_extract, AR, strEq, decide_true, Bool.not_true, Bool.not_false, decide_false, eq_self, if_true, if_false, Bool.or_true, Bool.and_true]; rfl) ?_
                  refine WL.qq (by simp only [EN, Nat.reduceEqDiff, reduceIte, qv_assign, strEq, decide_true, Bool.not_true, Bool.not_false, decide_false, eq_self, if_true, if_false, Bool.or_true, Bool.and_true]; rfl) ?_
                  refine WL.qq (by simp only [EN, Nat.reduceEqDiff, reduceIte, qv_assign, strEq, decide_true, Bool.not_true, Bool.not_false, decide_false, eq_self, if_true, if_false, Bool.or_true, Bool.and_true]; rfl) ?_
                  refine WL.nil ?_
                  refine th_norm ?_
                  refine hx_cutX [10, 11, 104, 105, 106, 107, 108, 109, 110, 111, 112, 113, 114, 115, 116, 117, 118, 119, 120, 121, 122, 123, 124] (fun e => ∃ (nn : Int), (0 ≤ nn) ∧ e 10 = iV nn ∧ e 11 = .bool true) ?_ ?_
                  ·
                    refine hx_seq ?_
                    refine hx_region ?_
                    obtain ⟨bz, offz, haz', hz3, hz0, hz1, hz2⟩ := lim_rd hsL hz
                    refine WL.qq (by simp only [EN, Nat.reduceEqDiff, reduceIte, qv_move, k8_2, strEq, decide_true, Bool.not_true, Bool.not_false, decide_false, eq_self, if_true, if_false, Bool.or_true, Bool.and_true]; rfl) ?_
                    refine WL.qq (by simp only [EN, Nat.reduceEqDiff, reduceIte, qv_move, i9_2, strEq, decide_true, Bool.not_true, Bool.not_false, decide_false, eq_self, if_true, if_false, Bool.or_true, Bool.and_true]; rfl) ?_
                    refine WL.qq (by simp only [EN, Nat.reduceEqDiff, reduceIte, qv_indexAddr, strEq, decide_true, Bool.not_true, Bool.not_false, decide_false, eq_self, if_true, if_false, Bool.or_true, Bool.and_true, haz']; (try simp (disch := omega) only [ix59, Int.toNat_natCast]); rfl) ?_
                    refine WL.qq (by simp only [EN, Nat.reduceEqDiff, reduceIte, qv_fieldAddr, fa63_1, Nat.zero_add, Nat.reduceAdd, strEq, decide_true, Bool.not_true, Bool.not_false, decide_false, eq_self, if_true, if_false, Bool.or_true, Bool.and_true]; rfl) ?_
                    refine WL.qq (by simp only [EN, Nat.reduceEqDiff, reduceIte, k1_2, k5_2, k7_2, k8_2, i9_2, strEq, decide_true, Bool.not_true, Bool.not_false, decide_false, eq_self, if_true, if_false, Bool.or_true, Bool.and_true, qv_load, ld9, Int.toNat_natCast, hz1]; rfl) ?_
                    refine WL.qq (by simp only [EN, Nat.reduceEqDiff, reduceIte, qv_binOp, binv_neq, eq9, Option.map_some, strEq, decide_true, Bool.not_true, Bool.not_false, decide_false, eq_self, if_true, if_false, Bool.or_true, Bool.and_true]; rfl) ?_
                    refine WL.nil ?_
                    refine th_norm ?_
                    refine hx_cond (by simp only [EN, Nat.reduceEqDiff, reduceIte, strEq, decide_true, Bool.not_true, Bool.not_false, decide_false, eq_self, if_true, if_false, Bool.or_true, Bool.and_true]; rfl) (fun hct109 => ?_) (fun hct109 => ?_)
                    ·
                      try simp only [BD] at hct109
                      obtain ⟨mb, hbv, hmb⟩ := hN15.broom hnd hzl (by simpa using hct109)
                      apply hx_draw2 Rel.grows [] [11] [(11, Spec.is _)] rfl (by decide +kernel) rfl
                      refine LD.qq rfl rfl (by simp only [EN, Nat.reduceEqDiff, reduceIte, qv_move, k5_2, strEq, decide_true, Bool.not_true, Bool.not_false, decide_false, eq_self, if_true, if_false, Bool.or_true, Bool.and_true]; rfl) ?_
                      refine LD.qq rfl rfl (by simp only [EN, Nat.reduceEqDiff, reduceIte, qv_move, k8_2, strEq, decide_true, Bool.not_true, Bool.not_false, decide_false, eq_self, if_true, if_false, Bool.or_true, Bool.and_true]; rfl) ?_
                      refine LD.qq rfl rfl (by simp only [EN, Nat.reduceEqDiff, reduceIte, qv_move, i9_2, strEq, decide_true, Bool.not_true, Bool.not_false, decide_false, eq_self, if_true, if_false, Bool.or_true, Bool.and_true]; rfl) ?_
                      refine LD.qq rfl rfl (by simp only [EN, Nat.reduceEqDiff, reduceIte, qv_indexAddr, strEq, decide_true, Bool.not_true, Bool.not_false, decide_false, eq_self, if_true, if_false, Bool.or_true, Bool.and_true, haz']; (try simp (disch := omega) only [ix59, Int.toNat_natCast]); rfl) ?_
                      refine LD.qq rfl rfl (by simp only [EN, Nat.reduceEqDiff, reduceIte, qv_fieldAddr, fa63_0, Nat.zero_add, Nat.reduceAdd, strEq, decide_true, Bool.not_true, Bool.not_false, decide_false, eq_self, if_true, if_false, Bool.or_true, Bool.and_true]; rfl) ?_
                      refine LD.qq rfl rfl (by simp only [EN, Nat.reduceEqDiff, reduceIte, k1_2, k5_2, k7_2, k8_2, i9_2, strEq, decide_true, Bool.not_true, Bool.not_false, decide_false, eq_self, if_true, if_false, Bool.or_true, Bool.and_true, qv_load, ld9, Int.toNat_natCast, Nat.add_zero, hz0]; rfl) ?_
                      refine LD.qq rfl rfl (by simp only [EN, Nat.reduceEqDiff, reduceIte, qv_move, k8_2, strEq, decide_true, Bool.not_true, Bool.not_false, decide_false, eq_self, if_true, if_false, Bool.or_true, Bool.and_true]; rfl) ?_
                      refine LD.qq rfl rfl (by simp only [EN, Nat.reduceEqDiff, reduceIte, qv_move, i9_2, strEq, decide_true, Bool.not_true, Bool.not_false, decide_false, eq_self, if_true, if_false, Bool.or_true, Bool.and_true]; rfl) ?_
                      refine LD.qq rfl rfl (by simp only [EN, Nat.reduceEqDiff, reduceIte, qv_indexAddr, strEq, decide_true, Bool.not_true, Bool.not_false, decide_false, eq_self, if_true, if_false, Bool.or_true, Bool.and_true, haz']; (try simp (disch := omega) only [ix59, Int.toNat_natCast]); rfl) ?_
                      refine LD.qq rfl rfl (by simp only [EN, Nat.reduceEqDiff, reduceIte, qv_fieldAddr, fa63_1, Nat.zero_add, Nat.reduceAdd, strEq, decide_true, Bool.not_true, Bool.not_false, decide_false, eq_self, if_true, if_false, Bool.or_true, Bool.and_true]; rfl) ?_
                      refine LD.qq rfl rfl (by simp only [EN, Nat.reduceEqDiff, reduceIte, k1_2, k5_2, k7_2, k8_2, i9_2, strEq, decide_true, Bool.not_true, Bool.not_false, decide_false, eq_self, if_true, if_false, Bool.or_true, Bool.and_true, qv_load, ld9, Int.toNat_natCast, hz1]; rfl) ?_
                      refine LD.ck rfl rfl Try.call30 (by intro hD hr; have hx : Ext _ _ := hr; have hT := hT.ext hx; have hsL := hsL.ext hx; simp only [EN, Nat.reduceEqDiff, reduceIte, AR, strEq, decide_true, Bool.not_true, Bool.not_false, decide_false, eq_self, if_true, if_false, Bool.or_true, Bool.and_true]; exact hbv ▸ tb_BRoom z.1.f z.1.t hT) ?_
                      refine LD.qq rfl rfl (by simp only [EN, Nat.reduceEqDiff, reduceIte, qv_move, strEq, decide_true, Bool.not_true, Bool.not_false, decide_false, eq_self, if_true, if_false, Bool.or_true, Bool.and_true]; rfl) ?_
                      refine LD.qq rfl rfl (by simp only [EN, Nat.reduceEqDiff, reduceIte, qv_extract, AR, strEq, decide_true, Bool.not_true, Bool.not_false, decide_false, eq_self, if_true, if_false, Bool.or_true, Bool.and_true]; rfl) ?_
                      refine LD.qq rfl rfl (by simp only [EN, Nat.reduceEqDiff, reduceIte, qv_extract, AR, strEq, decide_true, Bool.not_true, Bool.not_false, decide_false, eq_self, if_true, if_false, Bool.or_true, Bool.and_true]; rfl) ?_
                      refine LD.qq rfl rfl (by simp only [EN, Nat.reduceEqDiff, reduceIte, qv_assign, strEq, decide_true, Bool.not_true, Bool.not_false, decide_false, eq_self, if_true, if_false, Bool.or_true, Bool.and_true]; rfl) ?_
                      refine LD.qq rfl rfl (by simp only [EN, Nat.reduceEqDiff, reduceIte, qv_assign, strEq, decide_true, Bool.not_true, Bool.not_false, decide_false, eq_self, if_true, if_false, Bool.or_true, Bool.and_true]; rfl) ?_
                      refine LD.nil ?_
                      rintro h6 hx6 hF22
                      replace hx6 : Ext _ _ := hx6
                      replace hT := hT.ext hx6
                      replace hsL := hsL.ext hx6
                      refine WL.nil ?_
                      refine th_norm ?_
                      refine ⟨rfl, ?_, ?_, mb, ?_, ?_, ?_⟩  -- meet 0 of cut 21
                      · exact hx6
                      · (repeat (first | exact Fr.refl _ _ | refine Fr.set rfl ?_ | refine Fr.put rfl ?_ | with_reducible refine Fr.put0 ?_))
                      · exact hmb
                      · simp only [EN, Nat.reduceEqDiff, reduceIte, k1_2, k5_2, k7_2, k8_2, i9_2, strEq, decide_true, Bool.not_true, Bool.not_false, decide_false, eq_self, if_true, if_false, Bool.or_true, Bool.and_true] <;> first | rfl | (congr 1; omega)
                      · simp only [EN, Nat.reduceEqDiff, reduceIte, k1_2, k5_2, k7_2, k8_2, i9_2, strEq, decide_true, Bool.not_true, Bool.not_false, decide_false, eq_self, if_true, if_false, Bool.or_true, Bool.and_true] <;> first | rfl | (rw [hb0])
                    ·
                      try simp only [BD] at hct109
                      have hze : z.1.t = em := (by simpa using hct109)
                      obtain ⟨hm0, hb0⟩ := hmm hze
                      refine hx_skip ?_
                      refine th_norm ?_
                      refine ⟨rfl, ?_, ?_, mm, ?_, ?_, ?_⟩  -- meet 1 of cut 21
                      · exact Ext.refl _
                      · (repeat (first | exact Fr.refl _ _ | refine Fr.set rfl ?_ | refine Fr.put rfl ?_ | with_reducible refine Fr.put0 ?_))
                      · exact hm0
                      · simp only [EN, Nat.reduceEqDiff, reduceIte, k1_2, k5_2, k7_2, k8_2, i9_2, strEq, decide_true, Bool.not_true, Bool.not_false, decide_false, eq_self, if_true, if_false, Bool.or_true, Bool.and_true] <;> first | rfl | (congr 1; omega)
                      · simp only [EN, Nat.reduceEqDiff, reduceIte, k1_2, k5_2, k7_2, k8_2, i9_2, strEq, decide_true, Bool.not_true, Bool.not_false, decide_false, eq_self, if_true, if_false, Bool.or_true, Bool.and_true] <;> first | rfl | (rw [hb0])
                  ·
                    rintro ec21 hC21 hXc21 hfc21 ⟨nn, hnn, i10_c21, i11_c21⟩
                    replace hT := hT.ext hXc21
                    replace hsL := hsL.ext hXc21
                    have k1_c21 := hfc21 1 rfl; try simp only [EN, Nat.reduceEqDiff, reduceIte, k1_2, strEq, decide_true, Bool.not_true, Bool.not_false, decide_false, eq_self, if_true, if_false, Bool.or_true, Bool.and_true] at k1_c21
                    have k5_c21 := hfc21 5 rfl; try simp only [EN, Nat.reduceEqDiff, reduceIte, k5_2, strEq, decide_true, Bool.not_true, Bool.not_false, decide_false, eq_self, if_true, if_false, Bool.or_true, Bool.and_true] at k5_c21
                    have k7_c21 := hfc21 7 rfl; try simp only [EN, Nat.reduceEqDiff, reduceIte, k7_2, strEq, decide_true, Bool.not_true, Bool.not_false, decide_false, eq_self, if_true, if_false, Bool.or_true, Bool.and_true] at k7_c21
                    have k8_c21 := hfc21 8 rfl; try simp only [EN, Nat.reduceEqDiff, reduceIte, k8_2, strEq, decide_true, Bool.not_true, Bool.not_false, decide_false, eq_self, if_true, if_false, Bool.or_true, Bool.and_true] at k8_c21
                    have k9_c21 := hfc21 9 rfl; try simp only [EN, Nat.reduceEqDiff, reduceIte, i9_2, strEq, decide_true, Bool.not_true, Bool.not_false, decide_false, eq_self, if_true, if_false, Bool.or_true, Bool.and_true] at k9_c21
                    refine hx_seq ?_
                    refine hx_fresh (fun eF23 hfcf23 => ?_)
                    have k1_f23 := hfcf23 1 rfl; try simp only [EN, Nat.reduceEqDiff, reduceIte, k1_c21, strEq, decide_true, Bool.not_true, Bool.not_false, decide_false, eq_self, if_true, if_false, Bool.or_true, Bool.and_true] at k1_f23
                    have k5_f23 := hfcf23 5 rfl; try simp only [EN, Nat.reduceEqDiff, reduceIte, k5_c21, strEq, decide_true, Bool.not_true, Bool.not_false, decide_false, eq_self, if_true, if_false, Bool.or_true, Bool.and_true] at k5_f23
                    have k7_f23 := hfcf23 7 rfl; try simp only [EN, Nat.reduceEqDiff, reduceIte, k7_c21, strEq, decide_true, Bool.not_true, Bool.not_false, decide_false, eq_self, if_true, if_false, Bool.or_true, Bool.and_true] at k7_f23
                    have k8_f23 := hfcf23 8 rfl; try simp only [EN, Nat.reduceEqDiff, reduceIte, k8_c21, strEq, decide_true, Bool.not_true, Bool.not_false, decide_false, eq_self, if_true, if_false, Bool.or_true, Bool.and_true] at k8_f23
                    have k9_f23 := hfcf23 9 rfl; try simp only [EN, Nat.reduceEqDiff, reduceIte, k9_c21, strEq, decide_true, Bool.not_true, Bool.not_false, decide_false, eq_self, if_true, if_false, Bool.or_true, Bool.and_true] at k9_f23
                    have k10_f23 := hfcf23 10 rfl; try simp only [EN, Nat.reduceEqDiff, reduceIte, i10_c21, strEq, decide_true, Bool.not_true, Bool.not_false, decide_false, eq_self, if_true, if_false, Bool.or_true, Bool.and_true] at k10_f23
                    have k11_f23 := hfcf23 11 rfl; try simp only [EN, Nat.reduceEqDiff, reduceIte, i11_c21, strEq, decide_true, Bool.not_true, Bool.not_false, decide_false, eq_self, if_true, if_false, Bool.or_true, Bool.and_true] at k11_f23
                    refine hx_region ?_
                    refine WL.qq (by simp only [EN, Nat.reduceEqDiff, reduceIte, qv_move, k11_f23, strEq, decide_true, Bool.not_true, Bool.not_false, decide_false, eq_self, if_true, if_false, Bool.or_true, Bool.and_true]; rfl) ?_
                    refine WL.qq (by simp only [EN, Nat.reduceEqDiff, reduceIte, qv_unOp, unv_not, strEq, decide_true, Bool.not_true, Bool.not_false, decide_false, eq_self, if_true, if_false, Bool.or_true, Bool.and_true]; rfl) ?_
                    refine WL.qq (by simp only [EN, Nat.reduceEqDiff, reduceIte, qv_move, strEq, decide_true, Bool.not_true, Bool.not_false, decide_false, eq_self, if_true, if_false, Bool.or_true, Bool.and_true]; rfl) ?_
                    refine WL.cq (gd_at (t := 127) rfl (by simp only [EN, Nat.reduceEqDiff, reduceIte, k10_f23, strEq, decide_true, Bool.not_true, Bool.not_false, decide_false, eq_self, if_true, if_false, Bool.or_true, Bool.and_true] <;> rfl)) (fun hg23_3 => by simp only [EN, Nat.reduceEqDiff, reduceIte, qv_move, k10_f23, strEq, decide_true, Bool.not_true, Bool.not_false, decide_false, eq_self, if_true, if_false, Bool.or_true, Bool.and_true, hg23_3, GR]; rfl) ?_
                    refine WL.cq (gd_at (t := 127) rfl (by simp only [EN, Nat.reduceEqDiff, reduceIte, strEq, decide_true, Bool.not_true, Bool.not_false, decide_false, eq_self, if_true, if_false, Bool.or_true, Bool.and_true] <;> rfl)) (fun hg23_4 => by simp only [EN, Nat.reduceEqDiff, reduceIte, qv_binOp, binv_lss, strEq, decide_true, Bool.not_true, Bool.not_false, decide_false, eq_self, if_true, if_false, Bool.or_true, Bool.and_true, hg23_4, GR]; rfl) ?_
                    refine WL.qq (by simp only [EN, Nat.reduceEqDiff, reduceIte, qv_pick, pk_and, pk_or, GR, strEq, decide_true, Bool.not_true, Bool.not_false, decide_false, eq_self, if_true, if_false, Bool.or_true, Bool.and_true]; rfl) ?_
                    refine WL.nil ?_
                    refine th_norm ?_
                    refine hx_cond (by simp only [EN, Nat.reduceEqDiff, reduceIte, strEq, decide_true, Bool.not_true, Bool.not_false, decide_false, eq_self, if_true, if_false, Bool.or_true, Bool.and_true]; rfl) (fun hct130 => ?_) (fun hct130 => ?_)
                    ·
                      exfalso; simp at hct130; omega
                    ·
                      try simp only [BD] at hct130
                      refine hx_skip ?_
                      refine bl_norm ?_
                      refine th_norm ?_
                      refine hx_region ?_
                      refine WL.qq (by simp only [EN, Nat.reduceEqDiff, reduceIte, qv_move, k9_f23, strEq, decide_true, Bool.not_true, Bool.not_false, decide_false, eq_self, if_true, if_false, Bool.or_true, Bool.and_true]; rfl) ?_
                      refine WL.qq (by simp only [EN, Nat.reduceEqDiff, reduceIte, qv_binOp, binv_add, strEq, decide_true, Bool.not_true, Bool.not_false, decide_false, eq_self, if_true, if_false, Bool.or_true, Bool.and_true]; (try simp (disch := omega) only [w64, w8, wu64]); rfl) ?_
                      refine WL.qq (by simp only [EN, Nat.reduceEqDiff, reduceIte, qv_assign, strEq, decide_true, Bool.not_true, Bool.not_false, decide_false, eq_self, if_true, if_false, Bool.or_true, Bool.and_true]; rfl) ?_
                      refine WL.nil ?_
                      refine th_norm ?_
                      refine ⟨rfl, ?_, ?_, _, ?_, i2 + 1, rfl, ?_, ?_⟩  -- again 0 of loop 2
                      · exact (hx5).trans (hXc21)
                      · (repeat (first | exact Fr.refl _ _ | refine Fr.set rfl ?_ | refine Fr.put rfl ?_ | with_reducible refine Fr.put0 ?_ | refine Fr.trans ?_ (Fr.of hfcf23 rfl) | refine Fr.trans ?_ (Fr.of hfc21 rfl)))
                      · omega
                      · omega
                      · simp only [EN, Nat.reduceEqDiff, reduceIte, k1_f23, k5_f23, k7_f23, k8_f23, k9_f23, k10_f23, k11_f23, strEq, decide_true, Bool.not_true, Bool.not_false, decide_false, eq_self, if_true, if_false, Bool.or_true, Bool.and_true] <;> first | rfl | (congr 1; omega)
                ·
                  try simp only [BD] at hct91
                  refine hx_exit ?_
                  refine th_exit ?_
                  refine th_exit ?_
                  refine bl_hit ?_
                  refine bl_norm ?_
                  refine th_norm ?_
                  refine hx_region ?_
                  refine WL.qq (by simp only [EN, Nat.reduceEqDiff, reduceIte, qv_move, k7_2, strEq, decide_true, Bool.not_true, Bool.not_false, decide_false, eq_self, if_true, if_false, Bool.or_true, Bool.and_true]; rfl) ?_
                  refine WL.qq (by simp only [EN, Nat.reduceEqDiff, reduceIte, qv_binOp, binv_add, strEq, decide_true, Bool.not_true, Bool.not_false, decide_false, eq_self, if_true, if_false, Bool.or_true, Bool.and_true]; (try simp (disch := omega) only [w64, w8, wu64]); rfl) ?_
                  refine WL.qq (by simp only [EN, Nat.reduceEqDiff, reduceIte, qv_assign, strEq, decide_true, Bool.not_true, Bool.not_false, decide_false, eq_self, if_true, if_false, Bool.or_true, Bool.and_true]; rfl) ?_
                  refine WL.nil ?_
                  refine th_norm ?_
                  refine ⟨rfl, ?_, _, ?_, j + 1, ns2, rfl, ?_, ?_, ?_, ?_⟩  -- again 0 of loop 1
                  · (repeat (first | exact Fr.refl _ _ | refine Fr.set rfl ?_ | refine Fr.put rfl ?_ | with_reducible refine Fr.put0 ?_ | refine Fr.trans ?_ (Fr.of hfr2 rfl) | refine Fr.trans ?_ (Fr.of hfcf16 rfl) | refine Fr.trans ?_ (Fr.of hfcf15 rfl)))
                  · omega
                  · omega
                  · exact hT
                  · have h9 := hN15; rw [show 24 * (j + 1) = 24 * j + 24 by omega]; exact h9
                  · simp only [EN, Nat.reduceEqDiff, reduceIte, k1_2, k5_2, k7_2, k8_2, i9_2, strEq, decide_true, Bool.not_true, Bool.not_false, decide_false, eq_self, if_true, if_false, Bool.or_true, Bool.and_true] <;> first | rfl | (congr 1; omega)
          ·
            try simp only [BD] at hct70
            refine hx_exit ?_
            refine th_exit ?_
            refine th_exit ?_
            refine bl_hit ?_
            refine th_norm ?_
            refine hx_seq ?_
            refine hx_region ?_
            refine WL.qq (by simp only [EN, Nat.reduceEqDiff, reduceIte, qv_assign, strEq, decide_true, Bool.not_true, Bool.not_false, decide_false, eq_self, if_true, if_false, Bool.or_true, Bool.and_true]; rfl) ?_
            refine WL.nil ?_
            refine th_norm ?_
            refine hx_ret ?_
            refine fin_ret [.tmp 4] rfl rfl (by simp only [EN, Nat.reduceEqDiff, reduceIte, resv, k1_1, k5_1, i7_1, strEq, decide_true, Bool.not_true, Bool.not_false, decide_false, eq_self, if_true, if_false, Bool.or_true, Bool.and_true]; rfl) ?_  -- ret 2 r25
            exact ⟨rfl, hEs.trans hT.E⟩
end GL


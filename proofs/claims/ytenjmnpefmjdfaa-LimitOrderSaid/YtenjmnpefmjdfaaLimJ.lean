/- Limits: flows are converted; the statement that no limit is ever exceeded. -/
import Derived.Test.YtenjmnpefmjdfaaLimI
import Derived.Test.YtenjmnpefmjdfaaLimV
set_option linter.unusedSimpArgs false
set_option linter.unusedVariables false
set_option linter.unnecessarySimpa false
namespace GL
open Go Go.Proofs
set_option maxRecDepth 8000
theorem c_flows (al : Option Addr) (l : List L2) (cl : Nat) (ll : l.length ≤ 1000000) {h : Heap} (hl : SlG 3 limL h al l) :
    HCalls Try.prog 26 #[.slice al l.length cl] h fun v h' => Ext h h' ∧ Own h' h.size 31 3 v l.length (l.flatMap limL) := by
  refine hcalls2 Try.func26 rfl (by decide +kernel) (by simp only [Try.ntmps26]; exact of_decide_eq_true rfl) ?_
  intro e hin
  have e0 := hin 0 _ rfl
  refine hx_seq ?_
  refine hx_region ?_
  refine WL.qq (by simp only [EN, Nat.reduceEqDiff, reduceIte, qv_assign]; rfl) ?_
  refine WL.nil ?_
  refine th_norm ?_
  refine hx_seq ?_
  refine hx_region ?_
  refine WL.qq (by simp only [EN, Nat.reduceEqDiff, reduceIte, qv_assign]; rfl) ?_
  refine WL.nil ?_
  refine th_norm ?_
  refine hx_seq ?_
  refine hx_seq ?_
  refine hx_region ?_
  refine WL.qq (by simp only [EN, Nat.reduceEqDiff, reduceIte, qv_assign]; rfl) ?_
  refine WL.nil ?_
  refine th_norm ?_
  refine hx_block ?_
  refine hx_loopG [3, 4, 5, 6, 7, 8, 9, 10, 11, 12, 13, 14, 15, 16, 17] (fun k e hL0 => ∃ (i : Nat) (v : Value), l.length - i = k ∧ (i ≤ l.length) ∧ (Ext h hL0) ∧ (Own hL0 h.size 31 3 v (l.take i).length ((l.take i).flatMap limL)) ∧ e 4 = .int .i64 i ∧ e 3 = v) _ ⟨0, .slice none 0 0, rfl, ?_, ?_, ?_, ?_, ?_⟩ ?_
  · omega
  · exact Ext.refl _
  · exact Own.nil
  · simp only [EN, Nat.reduceEqDiff, reduceIte, e0] <;> rfl
  · simp only [EN, Nat.reduceEqDiff, reduceIte, e0] <;> rfl
  ·
    rintro k e0L hL0 hfr0 ⟨i, v, rfl, hi, hE, ho, i4_0, i3_0⟩
    have k0_0 := hfr0 0 rfl; try simp only [EN, Nat.reduceEqDiff, reduceIte, e0] at k0_0
    have hl := hl.ext hE
    refine hx_seq ?_
    refine hx_seq ?_
    refine hx_region ?_
    refine WL.qq (by simp only [EN, Nat.reduceEqDiff, reduceIte, qv_move, i4_0]; rfl) ?_
    refine WL.qq (by simp only [EN, Nat.reduceEqDiff, reduceIte, qv_move, k0_0]; rfl) ?_
    refine WL.qq (by simp only [EN, Nat.reduceEqDiff, reduceIte, qv_len, ln39, AR]; rfl) ?_
    refine WL.qq (by simp only [EN, Nat.reduceEqDiff, reduceIte, qv_binOp, binv_lss]; rfl) ?_
    refine WL.nil ?_
    refine th_norm ?_
    refine hx_cond (by simp only [EN, Nat.reduceEqDiff, reduceIte]; rfl) (fun hct8 => ?_) (fun hct8 => ?_)
    ·
      try simp only [BD] at hct8
      obtain ⟨x, hx⟩ := atG (l := l) (i := i) (by omega)
      obtain ⟨b, off, rfl, hr3, hc0, hc1, hc2⟩ := lim_rd hl hx
      refine hx_skip ?_
      refine th_norm ?_
      refine hx_seq ?_
      refine hx_block ?_
      refine hx_region ?_
      refine WL.qq (by simp only [EN, Nat.reduceEqDiff, reduceIte, qv_move, i3_0]; rfl) ?_
      refine WL.qq (by simp only [EN, Nat.reduceEqDiff, reduceIte, qv_move, k0_0]; rfl) ?_
      refine WL.qq (by simp only [EN, Nat.reduceEqDiff, reduceIte, qv_move, i4_0]; rfl) ?_
      refine WL.qq (by simp only [EN, Nat.reduceEqDiff, reduceIte, qv_indexAddr]; (try simp (disch := omega) only [ix39, Int.toNat_natCast]); rfl) ?_
      refine WL.qq (by simp only [EN, Nat.reduceEqDiff, reduceIte, k0_0, i4_0, i3_0, qv_load, ld47, Int.toNat_natCast, hr3]; rfl) ?_
      have hil : (l.take i).length ≤ l.length := (by simp; omega)
      refine WL.push (bytes := 40) Try.underlying32 (inf_of Try.type31) rfl rfl rfl rfl (by decide) (by decide) sz31 zr31 (fun u => by simp only [EN, Nat.reduceEqDiff, reduceIte, k0_0, i4_0, i3_0]) ho (by simp only [EN, Nat.reduceEqDiff, reduceIte, k0_0, i4_0, i3_0, Value.cells]; rfl) rfl (by simp [Value.oneCell']) (by simp only [maxLen]; omega) (by omega) hE.size ?_
      intro h40 v40 B40 ho40 hg40 hp40 hn40
      replace hE := hg40.ext hE (fun c hc => (ho.block c hc).1)
      skip
      refine WL.qq (by simp only [EN, Nat.reduceEqDiff, reduceIte, qv_assign]; rfl) ?_
      refine WL.nil ?_
      refine bl_norm ?_
      refine th_norm ?_
      refine hx_region ?_
      refine WL.qq (by simp only [EN, Nat.reduceEqDiff, reduceIte, qv_move, i4_0]; rfl) ?_
      refine WL.qq (by simp only [EN, Nat.reduceEqDiff, reduceIte, qv_binOp, binv_add]; (try simp (disch := omega) only [w64, w8, wu64]); rfl) ?_
      refine WL.qq (by simp only [EN, Nat.reduceEqDiff, reduceIte, qv_assign]; rfl) ?_
      refine WL.nil ?_
      refine th_norm ?_
      refine ⟨rfl, ?_, _, ?_, i + 1, v40, rfl, ?_, ?_, ?_, ?_, ?_⟩  -- again 0 of loop 0
      · (repeat (first | exact Fr.refl _ _ | refine Fr.set rfl ?_ | refine Fr.put rfl ?_ | with_reducible refine Fr.put0 ?_))
      · omega
      · omega
      · exact hE
      · rw [List.take_add_one, hx, List.flatMap_append, List.length_append]; exact ho40
      · simp only [EN, Nat.reduceEqDiff, reduceIte, k0_0, i4_0, i3_0] <;> first | rfl | (congr 1; omega)
      · simp only [EN, Nat.reduceEqDiff, reduceIte, k0_0, i4_0, i3_0] <;> first | rfl | (congr 1; omega)
    ·
      try simp only [BD] at hct8
      refine hx_exit ?_
      refine th_exit ?_
      refine th_exit ?_
      refine bl_hit ?_
      refine th_norm ?_
      refine hx_seq ?_
      refine hx_region ?_
      refine WL.qq (by simp only [EN, Nat.reduceEqDiff, reduceIte, qv_move, i3_0]; rfl) ?_
      refine WL.qq (by simp only [EN, Nat.reduceEqDiff, reduceIte, qv_assign]; rfl) ?_
      refine WL.nil ?_
      refine th_norm ?_
      refine hx_ret ?_
      refine fin_ret [.tmp 2] rfl rfl (by simp only [EN, Nat.reduceEqDiff, reduceIte, resv, k0_0, i4_0, i3_0]; rfl) ?_  -- ret 0 r6
      have hil : i = l.length := (by omega)
      subst hil
      rw [List.take_length] at ho
      exact ⟨hE, ho⟩
/-! What holds of a table that is set first and then recorded to. -/
structure NE (ls ns : List L2) (m n : Nat) : Prop where
  amt : ∀ x ∈ ls, 0 ≤ x.2 ∧ x.2 ≤ 1000000000000000
  net : ∀ x ∈ ns, wthn x.2 = true
  out : ∀ x ∈ ns, wthn (outW ns x.1.f) = true
  bil : ∀ x ∈ ls, x.1.t ≠ em → lk ns x.1 ≤ x.2
  mul : ∀ x ∈ ls, x.1.t = em → outW ns x.1.f ≤ x.2
  ll : ls.length ≤ m
  ln : ns.length ≤ n
theorem NE.lk {ls ns : List L2} {m n : Nat} (hN : NE ls ns m n) (q : PK) : -1000000000000000 ≤ lk ns q ∧ lk ns q ≤ 1000000000000000 := by
  cases hq : ns.lookup q with
  | none => rw [GL.lk, hq]; simp
  | some v =>
    have h1 := wthn_iff.1 (hN.net _ (mem_lookup hq))
    rw [GL.lk, hq]
    exact h1
theorem outW_no {ns : List L2} {a : ByteArray} (h : ∀ x ∈ ns, x.1.f ≠ a) : outW ns a = 0 := by
  unfold outW
  rw [sumF_zero (f := outV a) (fun x hx => if_neg (h x hx))]
  rfl
theorem NE.ou {ls ns : List L2} {m n : Nat} (hN : NE ls ns m n) (a : ByteArray) : -1000000000000000 ≤ outW ns a ∧ outW ns a ≤ 1000000000000000 := by
  by_cases h : ∃ x ∈ ns, x.1.f = a
  · obtain ⟨x, hx, rfl⟩ := h
    exact wthn_iff.1 (hN.out x hx)
  · rw [outW_no (fun x hx hh => h ⟨x, hx, hh⟩)]; simp
theorem setE_amt {ls ns : List L2} {q : PK} {a : Int} (h : setE ls ns q a = 0) : a ≤ 1000000000000000 := by
  unfold setE at h
  by_cases h1 : 1000000000000000 < a
  · rw [if_pos h1] at h; cases h
  · omega
theorem setL_mem {ls : List L2} {q : PK} {a : Int} {x : L2} (hx : x ∈ setL ls q a) : x ∈ ls ∨ (0 ≤ a ∧ x = (q, a)) := by
  unfold setL at hx
  split at hx
  · exact .inl (List.mem_filter.1 hx).1
  · rename_i h0
    have : ∀ (l : List L2), x ∈ mset l q a → x ∈ l ∨ x = (q, a) := by
      intro l
      induction l with
      | nil => intro h; simp only [mset, List.mem_singleton] at h; exact .inr h
      | cons y l ih =>
        intro h
        simp only [mset] at h
        split at h
        · rcases List.mem_cons.1 h with h | h
          · exact .inr h
          · exact .inl (List.mem_cons_of_mem _ h)
        · rcases List.mem_cons.1 h with h | h
          · exact .inl (h ▸ List.mem_cons_self)
          · exact (ih h).imp (List.mem_cons_of_mem _) id
    exact (this ls hx).imp id fun h => ⟨by omega, h⟩
theorem NE.set {ls : List L2} {m : Nat} (hN : NE ls [] m 0) {q : PK} {a r : Int} (hr : r = 0 → a ≤ 1000000000000000) : NE (if r = 0 then setL ls q a else ls) [] (m + 1) 0 := by
  by_cases h : r = 0
  · rw [if_pos h]
    have h0 : ∀ x ∈ setL ls q a, 0 ≤ x.2 ∧ x.2 ≤ 1000000000000000 := fun x hx => by
      rcases setL_mem hx with h1 | ⟨h1, rfl⟩
      · exact hN.amt x h1
      · exact ⟨h1, hr h⟩
    refine ⟨h0, (fun x hx => by cases hx), (fun x hx => by cases hx), fun x hx _ => (h0 x hx).1, fun x hx _ => ?_, Nat.le_trans (setL_len _ _ _) (Nat.succ_le_succ hN.ll), Nat.le_refl _⟩
    rw [outW_no (ns := []) (fun x hx => by cases hx)]
    exact (h0 x hx).1
  · rw [if_neg h]
    exact ⟨hN.amt, hN.net, hN.out, hN.bil, hN.mul, Nat.le_succ_of_le hN.ll, hN.ln⟩
theorem foF_len : ∀ (F ns : List L2), (foF ns F).length ≤ ns.length + 2 * F.length
  | [], ns => by simp [foF]
  | x :: F, ns => by
    have h1 := foF_len F (stF ns x)
    have h2 := mset_len ns x.1 (IntKind.i64.wrap (GL.lk ns x.1 + x.2))
    have h3 := mset_len (mset ns x.1 (IntKind.i64.wrap (GL.lk ns x.1 + x.2))) (swp x.1) (IntKind.i64.wrap (GL.lk (mset ns x.1 (IntKind.i64.wrap (GL.lk ns x.1 + x.2))) (swp x.1) - x.2))
    have h4 : (stF ns x).length ≤ ns.length + 2 := by unfold stF; omega
    show (foF (stF ns x) F).length ≤ _
    rw [List.length_cons]
    omega
theorem aft_len (ns F : List L2) : (aftS ns F).length ≤ ns.length + 2 * F.length := Nat.le_trans (List.length_filter_le _ _) (foF_len F ns)
/-- What a check of the program says. -/
theorem chkS_ok {ls ns F : List L2} (h : chkS ls ns F = 0) : valE F = 0 ∧ cntM ls (aftS ns F) ≤ 256 ∧ (∀ x ∈ aftS ns F, wthn x.2 = true) ∧ (∀ x ∈ aftS ns F, wthn (outW (aftS ns F) x.1.f) = true) ∧
    (∀ x ∈ ls, x.1.t ≠ em → GL.lk ns x.1 < GL.lk (aftS ns F) x.1 → GL.lk (aftS ns F) x.1 ≤ x.2) ∧ (∀ x ∈ ls, x.1.t = em → outW ns x.1.f < outW (aftS ns F) x.1.f → outW (aftS ns F) x.1.f ≤ x.2) := by
  unfold chkS at h
  by_cases h1 : valE F ≠ 0
  · rw [if_pos h1] at h; exact absurd h h1
  rw [if_neg h1] at h
  by_cases h2 : 256 < cntM ls (aftS ns F)
  · rw [if_pos h2] at h; cases h
  rw [if_neg h2] at h
  by_cases h3 : ¬ (∀ x ∈ aftS ns F, wthn x.2 = true)
  · rw [if_pos h3] at h; cases h
  rw [if_neg h3] at h
  by_cases h4 : ¬ (∀ x ∈ aftS ns F, wthn (outW (aftS ns F) x.1.f) = true)
  · rw [if_pos h4] at h; cases h
  rw [if_neg h4] at h
  by_cases h5 : ∃ x ∈ ls, x.1.t ≠ em ∧ excd x.2 (GL.lk ns x.1) (GL.lk (aftS ns F) x.1) = true
  · rw [if_pos h5] at h; cases h
  rw [if_neg h5] at h
  by_cases h6 : ∃ x ∈ ls, x.1.t = em ∧ excd x.2 (outW ns x.1.f) (outW (aftS ns F) x.1.f) = true
  · rw [if_pos h6] at h; cases h
  refine ⟨Decidable.not_not.1 h1, by omega, Decidable.not_not.1 h3, Decidable.not_not.1 h4, fun x hx ht hlt => ?_, fun x hx ht hlt => ?_⟩
  · exact Int.not_lt.1 fun hh => h5 ⟨x, hx, ht, by simp [excd, hlt, hh]⟩
  · exact Int.not_lt.1 fun hh => h6 ⟨x, hx, ht, by simp [excd, hlt, hh]⟩
theorem NE.recd {ls ns F : List L2} {m n : Nat} (hN : NE ls ns m n) (hF : F.length ≤ 12) {r : Int} (hr : chkS ls ns F = r) : NE ls (if r = 0 then aftS ns F else ns) m (n + 24) := by
  by_cases h : r = 0
  · rw [if_pos h]
    obtain ⟨_, _, h3, h4, h5, h6⟩ := chkS_ok (hr.trans h)
    refine ⟨hN.amt, h3, h4, fun x hx ht => ?_, fun x hx ht => ?_, hN.ll, by have := aft_len ns F; have := hN.ln; omega⟩
    · have h7 := h5 x hx ht
      have h8 := hN.bil x hx ht
      omega
    · have h7 := h6 x hx ht
      have h8 := hN.mul x hx ht
      omega
  · rw [if_neg h]
    exact ⟨hN.amt, hN.net, hN.out, hN.bil, hN.mul, hN.ll, Nat.le_add_right_of_le hN.ln⟩
theorem NE.mroom {ls ns : List L2} {m n : Nat} (hN : NE ls ns m n) (hnd : (ls.map Prod.fst).Nodup) {x : L2} (hx : x ∈ ls) : ∃ mm bb, roomV ls ⟨x.1.f, em⟩ (outW ns x.1.f) = .tuple #[iV mm, .bool bb] ∧ (x.1.t = em → 0 ≤ mm ∧ bb = true) := by
  refine ⟨_, _, rfl, fun ht => ?_⟩
  have e : (⟨x.1.f, em⟩ : PK) = x.1 := pk_eq.2 ⟨rfl, ht.symm⟩
  have hl : ls.lookup x.1 = some x.2 := lookup_mem hnd hx
  have h1 := hN.amt x hx
  have h2 := hN.ou x.1.f
  have h3 := hN.mul x hx ht
  rw [e, GL.lk, hl]
  simp only [Option.isSome_some, if_true, Option.getD_some, and_true]
  rw [w64 (by omega) (by omega)]
  omega
theorem NE.broom {ls ns : List L2} {m n : Nat} (hN : NE ls ns m n) (hnd : (ls.map Prod.fst).Nodup) {x : L2} (hx : x ∈ ls) (ht : x.1.t ≠ em) : ∃ mm, broomV ls ns x.1.f x.1.t = .tuple #[iV mm, .bool true] ∧ 0 ≤ mm := by
  have hl : ls.lookup (⟨x.1.f, x.1.t⟩ : PK) = some x.2 := lookup_mem hnd hx
  have h1 := hN.amt x hx
  have h2 := hN.lk x.1
  have h3 := hN.bil x hx ht
  have h4 : GL.lk ns (⟨x.1.f, x.1.t⟩ : PK) = GL.lk ns x.1 := rfl
  refine ⟨x.2 - GL.lk ns x.1, ?_, by omega⟩
  rw [broomV, if_neg ht, roomV, GL.lk, hl, h4]
  simp only [Option.isSome_some, if_true, Option.getD_some]
  rw [w64 (by omega) (by omega)]
end GL


/- Ledger: bundles. -/
import Derived.Test.YtlmealnfkadndaaLedS
import Derived.Test.YtlmealnfkadndaaGl28
set_option linter.unusedSimpArgs false
set_option linter.unusedVariables false
set_option linter.unnecessarySimpa false
namespace GL
open Go Go.Proofs
set_option maxRecDepth 8000
abbrev entT : TypeId := 89
abbrev bdT : TypeId := 98
/-- The entries of a bundle: an own slice, or one without room. -/
def Ents (h : Heap) (N : Nat) (ve : Value) (es : List E2) : Prop :=
  Own h N entT 3 ve es.length (es.flatMap entL) ∨ ∃ a, ve = .slice a es.length es.length ∧ SlT entT h a es ∧ ∀ x, a = some x → x.spot = none
section
variable {h h' : Heap} {N : Nat} {ve : Value} {es : List E2}
theorem Ents.sl (he : Ents h N ve es) : ∃ a cap, ve = .slice a es.length cap ∧ es.length ≤ cap ∧ SlT entT h a es ∧ (a = none → cap = 0) ∧ ∀ x, a = some x → x.spot = none := by
  rcases he with ho | ⟨a, hv, hs, hp⟩
  · obtain ⟨a, cap, hv, hc, h1, h2, h3⟩ := Own.slG (f := entL) (sz := 3) (fun _ => rfl) ho rfl
    subst hv
    exact ⟨a, cap, rfl, hc, SlT.own ho rfl, h2, fun x hx => by obtain ⟨g, rfl, _⟩ := h3 x hx; rfl⟩
  · refine ⟨a, _, hv, Nat.le_refl _, hs, fun ha => ?_, hp⟩
    subst ha
    rw [hs.rd.emp]; rfl
theorem Ents.ext (he : Ents h N ve es) (hx : Ext h h') : Ents h' N ve es := he.imp (fun ho => ho.ext hx) (fun ⟨a, hv, hs, hp⟩ => ⟨a, hv, hs.ext hx, hp⟩)
theorem Ents.gsT {S : List Nat} (he : Ents h N ve es) (hg : Gs h h' S) (hS : ∀ x ∈ S, ∀ cur, ¬ Has h x (.cells cur entT)) : Ents h' N ve es := by
  rcases he with ho | ⟨a, hv, hs, hp⟩
  · exact .inl (ho.gs hg fun c hc hm => by obtain ⟨cur, hb⟩ := ho.typ c hc; exact hS c hm cur hb)
  · exact .inr ⟨a, hv, hs.gs hg (fun g off ha hm => by obtain ⟨cur, hb⟩ := hs.ty g off ha; exact hS g hm cur hb), hp⟩
theorem Ents.typ (he : Ents h N ve es) : ∀ c, ve.ownBlock = some c → ∃ cur, Has h c (.cells cur entT) := by
  rcases he with ho | ⟨a, hv, hs, hp⟩
  · exact ho.typ
  · intro c hc
    subst hv
    cases a with
    | none => cases hc
    | some x =>
      obtain ⟨g, off, spot⟩ := x
      have := hp _ rfl
      simp only at this
      subst this
      cases hc
      exact hs.ty g off rfl
theorem Ents.ncell {b : Nat} {c : Array Value} {t : TypeId} (he : Ents h N ve es) (hb : Has h b (.cells c t)) (ht : t ≠ entT) : ve.ownBlock ≠ some b := fun hh => by
  obtain ⟨cur, hc⟩ := he.typ b hh
  exact hb.ncell hc ht rfl
theorem Ents.one (he : Ents h N ve es) : ve.oneCell' = true := by
  obtain ⟨a, cap, rfl, _⟩ := he.sl; rfl
end
/-- A bundle in memory. -/
structure Bd (h : Heap) (N t p : Nat) (ve : Value) (es : List E2) (o : Bool) : Prop where
  blk : Has h t (.cells #[bkP p, ve, .bool o] bdT)
  en : Ents h N ve es
section
variable {h h' : Heap} {N t p : Nat} {ve : Value} {es : List E2} {o : Bool}
theorem Bd.ext (hb : Bd h N t p ve es o) (hx : Ext h h') : Bd h' N t p ve es o := ⟨hb.blk.ext hx, hb.en.ext hx⟩
theorem Bd.gsP {bm fm : Nat} {vo : Value} {ks fs : List E2} {os : List K2} {sq : Int} {q : Nat} (hb : Bd h N t p ve es o) (hk : BkO h q bm fm vo ks os fs sq) (hg : Gs h h' (foot q bm vo)) : Bd h' N t p ve es o :=
  ⟨hb.blk.gs hg (hk.offC hb.blk (by decide) (by decide)), hb.en.gsT hg fun x hx cur hc => hk.offC hc (by decide) (by decide) hx⟩
abbrev bdP (t : Nat) : Value := .pointer (some ⟨t, 0, none⟩)
theorem c_begin {bm fm : Nat} {vo : Value} {ks fs : List E2} {sq : Int} (hk : IsBk h p bm fm vo ks fs sq) :
    HCalls Try.prog 29 #[bkP p] h fun v h' => Ext h h' ∧ ∃ t, v = bdP t ∧ h.size ≤ t ∧ Bd h' h.size t p (.slice none 0 0) [] true := by
  refine hcalls2 Try.func29 rfl (by decide +kernel) (by simp only [Try.ntmps29]; exact of_decide_eq_true rfl) ?_
  intro e hin
  have e0 := hin 0 _ rfl
  refine hx_seq ?_
  refine hx_region ?_
  refine WL.qq (by simp only [EN, Nat.reduceEqDiff, reduceIte, qv_assign]; rfl) ?_
  refine WL.nil ?_
  refine th_norm ?_
  refine hx_seq ?_
  refine hx_seq ?_
  refine hx_region ?_
  refine WL.qq (by simp only [EN, Nat.reduceEqDiff, reduceIte, qv_move, e0]; rfl) ?_
  refine WL.qq (by simp only [EN, Nat.reduceEqDiff, reduceIte, qv_binOp, binv_eql, eqz25, eqn25, eqm25, Option.map_some]; rfl) ?_
  refine WL.nil ?_
  refine th_norm ?_
  refine hx_cond (by simp only [EN, Nat.reduceEqDiff, reduceIte, e0]; rfl) (fun hct4 => ?_) (fun hct4 => ?_)
  ·
    simp at hct4
  ·
    try simp only [BD] at hct4
    refine hx_skip ?_
    refine th_norm ?_
    refine hx_seq ?_
    refine hx_region ?_
    refine WL.qq (by simp only [EN, Nat.reduceEqDiff, reduceIte, qv_move, e0]; rfl) ?_
    refine WL.qq (by refine qv_bld (by simp only [EN, Nat.reduceEqDiff, reduceIte, AR] <;> rfl) (by rw [bl98]; simp [Instr.fill, Value.cells]; rfl)) ?_
    refine WL.box2 (by simp only [EN, Nat.reduceEqDiff, reduceIte, Value.cells]; rfl) ?_
    intro h1 B1 hx1 hlt1 hB1
    refine WL.qq (by simp only [EN, Nat.reduceEqDiff, reduceIte, qv_assign, hB1.cell]; rfl) ?_
    refine WL.nil ?_
    refine th_norm ?_
    refine hx_ret ?_
    refine fin_ret [.tmp 2] rfl rfl (by simp only [EN, Nat.reduceEqDiff, reduceIte, resv, e0, hB1.cell]; rfl) ?_  -- ret 0 r3
    exact ⟨(hx1), B1, rfl, hlt1, hB1, .inl Own.nil⟩
theorem c_ready (hb : Has h t (.cells #[bkP p, ve, .bool o] bdT)) : HCalls Try.prog 55 #[bdP t] h (Pure (iV (if o = true then 0 else 21)) h) := by
  refine hcalls2 Try.func55 rfl (by decide +kernel) (by simp only [Try.ntmps55]; exact of_decide_eq_true rfl) ?_
  intro e hin
  have e0 := hin 0 _ rfl
  refine hx_seq ?_
  refine hx_region ?_
  refine WL.qq (by simp only [EN, Nat.reduceEqDiff, reduceIte, qv_assign, hb.cell]; rfl) ?_
  refine WL.nil ?_
  refine th_norm ?_
  refine hx_seq ?_
  refine hx_block ?_
  refine hx_seq ?_
  refine hx_region ?_
  refine WL.qq (by simp only [EN, Nat.reduceEqDiff, reduceIte, qv_move, e0, hb.cell]; rfl) ?_
  refine WL.qq (by simp only [EN, Nat.reduceEqDiff, reduceIte, qv_binOp, binv_eql, eqz58, eqn58, eqm58, Option.map_some, hb.cell]; rfl) ?_
  refine WL.qq (by simp only [EN, Nat.reduceEqDiff, reduceIte, qv_assign, hb.cell]; rfl) ?_
  refine WL.nil ?_
  refine th_norm ?_
  refine hx_cond (by simp only [EN, Nat.reduceEqDiff, reduceIte, e0, hb.cell]; rfl) (fun hct3 => ?_) (fun hct3 => ?_)
  ·
    simp at hct3
  ·
    try simp only [BD] at hct3
    refine hx_seq ?_
    refine hx_region ?_
    refine WL.qq (by simp only [EN, Nat.reduceEqDiff, reduceIte, qv_move, e0, hb.cell]; rfl) ?_
    refine WL.qq (by simp only [EN, Nat.reduceEqDiff, reduceIte, qv_nilCheck, hb.cell]; rfl) ?_
    refine WL.qq (by simp only [EN, Nat.reduceEqDiff, reduceIte, qv_fieldAddr, fa98_2, Nat.zero_add, Nat.reduceAdd, hb.cell]; rfl) ?_
    refine WL.qq (by simp only [EN, Nat.reduceEqDiff, reduceIte, qv_load, ld4, readN, AR, Nat.zero_add, Nat.reduceAdd, hb.cell]; rfl) ?_
    refine WL.qq (by simp only [EN, Nat.reduceEqDiff, reduceIte, qv_unOp, unv_not, hb.cell]; rfl) ?_
    refine WL.qq (by simp only [EN, Nat.reduceEqDiff, reduceIte, qv_assign, hb.cell]; rfl) ?_
    refine WL.nil ?_
    refine th_norm ?_
    refine hx_cond (by simp only [EN, Nat.reduceEqDiff, reduceIte, e0, hb.cell]; rfl) (fun hct6 => ?_) (fun hct6 => ?_)
    ·
      try simp only [BD] at hct6
      refine hx_seq ?_
      refine hx_region ?_
      refine WL.qq (by simp only [EN, Nat.reduceEqDiff, reduceIte, qv_assign, hb.cell]; rfl) ?_
      refine WL.nil ?_
      refine th_norm ?_
      refine hx_ret ?_
      refine bl_ret ?_
      refine th_ret ?_
      refine fin_ret [.tmp 2] rfl rfl (by simp only [EN, Nat.reduceEqDiff, reduceIte, resv, e0, hb.cell]; rfl) ?_  -- ret 0 r4
      exact ⟨by rw [if_neg (by simpa using hct6)]; rfl, rfl⟩
    ·
      try simp only [BD] at hct6
      refine hx_skip ?_
      refine bl_norm ?_
      refine th_norm ?_
      refine hx_seq ?_
      refine hx_region ?_
      refine WL.qq (by simp only [EN, Nat.reduceEqDiff, reduceIte, qv_assign, hb.cell]; rfl) ?_
      refine WL.nil ?_
      refine th_norm ?_
      refine hx_ret ?_
      refine fin_ret [.tmp 2] rfl rfl (by simp only [EN, Nat.reduceEqDiff, reduceIte, resv, e0, hb.cell]; rfl) ?_  -- ret 1 r5
      exact ⟨by rw [if_pos (by simpa using hct6)]; rfl, rfl⟩
theorem c_add1 (x : E2) (h : Heap) : HCalls Try.prog 57 #[entV x] h (Grow (.bool (!vld x.2)) h) := by
  refine hcalls2 Try.func57 rfl (by decide +kernel) (by simp only [Try.ntmps57]; exact of_decide_eq_true rfl) ?_
  intro e hin
  have e0 := hin 0 _ rfl
  refine hx_seq ?_
  refine hx_region ?_
  refine WL.box2 (by simp only [EN, Nat.reduceEqDiff, reduceIte, Value.cells, e0]; rfl) ?_
  intro h1 B1 hx1 hlt1 hB1
  refine WL.qq (by simp only [EN, Nat.reduceEqDiff, reduceIte, qv_assign, hB1.cell]; rfl) ?_
  refine WL.nil ?_
  refine th_norm ?_
  refine hx_seq ?_
  refine hx_region ?_
  refine WL.qq (by simp only [EN, Nat.reduceEqDiff, reduceIte, qv_fieldAddr, fa89_1, Nat.zero_add, Nat.reduceAdd, hB1.cell]; rfl) ?_
  refine WL.qq (by simp only [EN, Nat.reduceEqDiff, reduceIte, qv_load, ld2, readN, AR, Nat.zero_add, Nat.reduceAdd, hB1.cell]; rfl) ?_
  refine WL.ck Try.call58 (by simp only [EN, Nat.reduceEqDiff, reduceIte, AR, hB1.cell]; exact c_valid13 _ _) ?_
  refine WL.qq (by simp only [EN, Nat.reduceEqDiff, reduceIte, qv_unOp, unv_not, hB1.cell]; rfl) ?_
  refine WL.qq (by simp only [EN, Nat.reduceEqDiff, reduceIte, qv_assign, hB1.cell]; rfl) ?_
  refine WL.nil ?_
  refine th_norm ?_
  refine hx_ret ?_
  refine fin_ret [.tmp 2] rfl rfl (by simp only [EN, Nat.reduceEqDiff, reduceIte, resv, e0, hB1.cell]; rfl) ?_  -- ret 0 r1
  exact ⟨rfl, (hx1)⟩
theorem c_idx (a : Option Addr) (l : List E2) (cap : Nat) (hlen : l.length ≤ 1000000) {h : Heap} (hs : SlG 3 entL h a l) :
    HCalls Try.prog 64 #[.slice a l.length cap, .func (.func 57) #[] #[]] h fun v h' => Ext h h' ∧ ∃ r : Int, v = iV r ∧ (0 ≤ r ↔ ¬ ∀ x ∈ l, vld x.2 = true) := by
  refine hcalls2 Try.func64 rfl (by decide +kernel) (by simp only [Try.ntmps64]; exact of_decide_eq_true rfl) ?_
  intro e hin
  have e0 := hin 0 _ rfl
  have e1 := hin 1 _ rfl
  refine hx_seq ?_
  refine hx_region ?_
  refine WL.qq (by simp only [EN, Nat.reduceEqDiff, reduceIte, qv_assign]; rfl) ?_
  refine WL.nil ?_
  refine th_norm ?_
  refine hx_seq ?_
  refine hx_seq ?_
  refine hx_region ?_
  refine WL.qq (by simp only [EN, Nat.reduceEqDiff, reduceIte, qv_move, e0]; rfl) ?_
  refine WL.qq (by simp only [EN, Nat.reduceEqDiff, reduceIte, qv_len, ln47, AR]; rfl) ?_
  refine WL.qq (by simp only [EN, Nat.reduceEqDiff, reduceIte, qv_move]; rfl) ?_
  refine WL.nil ?_
  refine th_norm ?_
  refine hx_block ?_
  refine hx_loopX [4, 5, 8, 9, 10, 11, 12, 13, 14, 15, 16, 17, 18] (fun k e => ∃ (i : Nat), l.length - i = k ∧ (i ≤ l.length) ∧ (∀ x ∈ l.take i, vld x.2 = true) ∧ e 8 = .int .i64 i) _ ⟨0, rfl, ?_, ?_, ?_⟩ ?_
  · omega
  · simp
  · simp only [EN, Nat.reduceEqDiff, reduceIte, e0, e1] <;> rfl
  ·
    rintro k e0L hL0 hX0 hfr0 ⟨i, rfl, hi, ha, i8_0⟩
    replace hs := hs.ext hX0
    have k0_0 := hfr0 0 rfl; try simp only [EN, Nat.reduceEqDiff, reduceIte, e0, e1] at k0_0
    have k1_0 := hfr0 1 rfl; try simp only [EN, Nat.reduceEqDiff, reduceIte, e0, e1] at k1_0
    have k7_0 := hfr0 7 rfl; try simp only [EN, Nat.reduceEqDiff, reduceIte, e0, e1] at k7_0
    refine hx_seq ?_
    refine hx_region ?_
    refine WL.qq (by simp only [EN, Nat.reduceEqDiff, reduceIte, qv_binOp, binv_lss, k7_0, i8_0]; rfl) ?_
    refine WL.nil ?_
    refine th_norm ?_
    refine hx_seq ?_
    refine hx_cond (by simp only [EN, Nat.reduceEqDiff, reduceIte, k0_0, k1_0, k7_0, i8_0]; rfl) (fun hct9 => ?_) (fun hct9 => ?_)
    ·
      try simp only [BD] at hct9
      obtain ⟨x, hx⟩ := atG (l := l) (i := i) (by omega)
      obtain ⟨b, off, rfl, hr3, hr2, hc0, hc1, hc2⟩ := ent_rd hs hx
      refine hx_skip ?_
      refine th_norm ?_
      refine hx_seq ?_
      refine hx_block ?_
      refine hx_seq ?_
      refine hx_region ?_
      refine WL.qq (by simp only [EN, Nat.reduceEqDiff, reduceIte, qv_move, i8_0]; rfl) ?_
      refine WL.qq (by simp only [EN, Nat.reduceEqDiff, reduceIte, qv_assign]; rfl) ?_
      refine WL.nil ?_
      refine th_norm ?_
      refine hx_seq ?_
      refine hx_region ?_
      refine WL.qq (by simp only [EN, Nat.reduceEqDiff, reduceIte, qv_move, k1_0]; rfl) ?_
      refine WL.qq (by simp only [EN, Nat.reduceEqDiff, reduceIte, qv_move, k0_0]; rfl) ?_
      refine WL.qq (by simp only [EN, Nat.reduceEqDiff, reduceIte, qv_move]; rfl) ?_
      refine WL.qq (by simp only [EN, Nat.reduceEqDiff, reduceIte, qv_indexAddr]; (try simp (disch := omega) only [ix47, Int.toNat_natCast]); rfl) ?_
      refine WL.qq (by simp only [EN, Nat.reduceEqDiff, reduceIte, k0_0, k1_0, k7_0, i8_0, qv_load, ld89, Int.toNat_natCast, hr3]; rfl) ?_
      refine WL.cf (f := 57) (first := #[]) (cap := #[]) (by simp only [EN, Nat.reduceEqDiff, reduceIte, k0_0, k1_0, k7_0, i8_0]) Try.call57 (by simp only [EN, Nat.reduceEqDiff, reduceIte, k0_0, k1_0, k7_0, i8_0, List.map_toArray, List.map_cons, List.map_nil]; exact c_add1 x _) ?_
      rintro _ h1 ⟨rfl, hx1⟩
      simp only [put_some]
      replace hs := hs.ext hx1
      refine WL.nil ?_
      refine th_norm ?_
      refine hx_cond (by simp only [EN, Nat.reduceEqDiff, reduceIte, k0_0, k1_0, k7_0, i8_0]; rfl) (fun hct16 => ?_) (fun hct16 => ?_)
      ·
        try simp only [BD] at hct16
        refine hx_seq ?_
        refine hx_region ?_
        refine WL.qq (by simp only [EN, Nat.reduceEqDiff, reduceIte, qv_move]; rfl) ?_
        refine WL.qq (by simp only [EN, Nat.reduceEqDiff, reduceIte, qv_assign]; rfl) ?_
        refine WL.nil ?_
        refine th_norm ?_
        refine hx_ret ?_
        refine bl_ret ?_
        refine th_ret ?_
        refine th_ret ?_
        refine bl_ret ?_
        refine th_ret ?_
        refine fin_ret [.tmp 4] rfl rfl (by simp only [EN, Nat.reduceEqDiff, reduceIte, resv, k0_0, k1_0, k7_0, i8_0]; rfl) ?_  -- ret 0 r5
        exact ⟨((hX0).trans (hx1)), _, rfl, ⟨fun _ hh => (by rw [hh x (List.mem_of_getElem? hx)] at hct16; cases hct16), fun _ => (by omega)⟩⟩
      ·
        try simp only [BD] at hct16
        refine hx_skip ?_
        refine bl_norm ?_
        refine th_norm ?_
        refine hx_region ?_
        refine WL.qq (by simp only [EN, Nat.reduceEqDiff, reduceIte, qv_binOp, binv_add, i8_0]; (try simp (disch := omega) only [w64, w8, wu64]); rfl) ?_
        refine WL.qq (by simp only [EN, Nat.reduceEqDiff, reduceIte, qv_move]; rfl) ?_
        refine WL.nil ?_
        refine th_norm ?_
        refine ⟨rfl, ?_, ?_, _, ?_, i + 1, rfl, ?_, ?_, ?_⟩  -- again 0 of loop 0
        · exact hx1
        · (repeat (first | exact Fr.refl _ _ | refine Fr.set rfl ?_ | refine Fr.put rfl ?_ | refine Fr.put0 ?_))
        · omega
        · omega
        · exact all_take ha hx (by simpa using hct16)
        · simp only [EN, Nat.reduceEqDiff, reduceIte, k0_0, k1_0, k7_0, i8_0] <;> first | rfl | (congr 1; omega)
    ·
      try simp only [BD] at hct9
      refine hx_exit ?_
      refine th_exit ?_
      refine th_exit ?_
      refine bl_hit ?_
      refine th_norm ?_
      refine hx_seq ?_
      refine hx_region ?_
      refine WL.qq (by simp only [EN, Nat.reduceEqDiff, reduceIte, qv_assign]; rfl) ?_
      refine WL.nil ?_
      refine th_norm ?_
      refine hx_ret ?_
      refine fin_ret [.tmp 4] rfl rfl (by simp only [EN, Nat.reduceEqDiff, reduceIte, resv, k0_0, k1_0, k7_0, i8_0]; rfl) ?_  -- ret 1 r7
      exact ⟨(hX0), _, rfl, ⟨fun hh => by omega, fun hh => absurd (all_end ha (by omega)) hh⟩⟩
theorem c_cont (a : Option Addr) (l : List E2) (cap : Nat) (hlen : l.length ≤ 1000000) {h : Heap} (hs : SlG 3 entL h a l) :
    HCalls Try.prog 56 #[.slice a l.length cap, .func (.func 57) #[] #[]] h (Grow (.bool (decide (¬ ∀ x ∈ l, vld x.2 = true))) h) := by
  refine hcalls2 Try.func56 rfl (by decide +kernel) (by simp only [Try.ntmps56]; exact of_decide_eq_true rfl) ?_
  intro e hin
  have e0 := hin 0 _ rfl
  have e1 := hin 1 _ rfl
  refine hx_seq ?_
  refine hx_region ?_
  refine WL.qq (by simp only [EN, Nat.reduceEqDiff, reduceIte, qv_assign]; rfl) ?_
  refine WL.nil ?_
  refine th_norm ?_
  refine hx_seq ?_
  refine hx_region ?_
  refine WL.qq (by simp only [EN, Nat.reduceEqDiff, reduceIte, qv_move, e0]; rfl) ?_
  refine WL.qq (by simp only [EN, Nat.reduceEqDiff, reduceIte, qv_move, e1]; rfl) ?_
  refine WL.ce Try.call64 (by simp only [EN, Nat.reduceEqDiff, reduceIte, AR]; exact c_idx a l cap hlen hs) ?_
  rintro _ h1 ⟨hx1, r, rfl, hr⟩
  simp only [put_some]
  refine WL.qq (by simp only [EN, Nat.reduceEqDiff, reduceIte, qv_binOp, binv_geq]; rfl) ?_
  refine WL.qq (by simp only [EN, Nat.reduceEqDiff, reduceIte, qv_assign]; rfl) ?_
  refine WL.nil ?_
  refine th_norm ?_
  refine hx_ret ?_
  refine fin_ret [.tmp 4] rfl rfl (by simp only [EN, Nat.reduceEqDiff, reduceIte, resv, e0, e1]; rfl) ?_  -- ret 0 r1
  exact ⟨by simp only [retOf]; congr 1; exact decide_eq_decide.2 hr, (hx1)⟩
def addE (o : Bool) (es l : List E2) : Int := if o = false then 21 else if l.length = 0 then 1 else if 4096 < es.length + l.length then 8 else if ¬ (∀ x ∈ l, vld x.2 = true) then 12 else 0
theorem e_appE {e : Env} {ty : TypeId} {s x : Operand} {al : Option Addr} {l : List E2} {cl : Nat} (hen : Ents h N ve es) (hv : ev e s = ve) (hx : ev e x = .slice al l.length cl) (hl : SlG 3 entL h al l) (hl0 : l ≠ []) (hb : es.length + l.length ≤ 4096) (hN : N ≤ h.size) :
    EOp Try.prog (.call ⟨.builtin .append, #[s, x], #[47, 47]⟩) ty e h fun v' h' => Gr h h' ve.ownBlock ∧ Own h' N entT 3 v' (es.length + l.length) ((es ++ l).flatMap entL) ∧ ∀ c, v'.ownBlock = some c → ve.ownBlock = some c ∨ h.size ≤ c := by
  obtain ⟨y0, l', rfl⟩ : ∃ y l', l = y :: l' := by cases l with | nil => exact absurd rfl hl0 | cons y l' => exact ⟨y, l', rfl⟩
  obtain ⟨b', off', rfl, _⟩ := hl 0 y0 rfl
  rcases hen with ho | ⟨a, hve, hs, hp⟩
  · have := e_append (P := Try.prog) (e := e) (h := h) (ty := ty) (bytes := 16) (news := (y0 :: l').flatMap entL) Try.underlying47 (inf_of Try.type89) rfl rfl rfl rfl (by decide) hv ho hx (flat_len (f := entL) (sz := 3) (fun _ => rfl) _) (fun j u hj => SlG.news (f := entL) (sz := 3) (fun _ => rfl) (by decide) hl _ rfl j u hj) (fun u hu' => by obtain ⟨q, _, hq⟩ := List.mem_flatMap.1 hu'; exact ent_one q u hq) (by simp only [maxLen]; omega) (by omega) hN
    refine this.mono ?_
    rintro v' h' ⟨h1, h2, _, h4⟩
    refine ⟨h2, by rw [List.flatMap_append]; exact h1, fun c hc => ?_⟩
    rcases h4 with h4 | h4
    · rw [h4] at hc; exact .inl hc
    · rw [h4] at hc; cases hc; exact .inr (Nat.le_refl _)
  · have := e_appF2 (P := Try.prog) (e := e) (h := h) (ty := ty) (bytes := 16) (f := entL) Try.underlying47 (inf_of Try.type89) rfl rfl rfl rfl (by decide) (fun _ => rfl) ent_one (hv.trans hve) rfl hs.rd hx rfl hl hl0 (by simp only [maxLen]; omega) (by omega)
    refine this.mono ?_
    rintro v' h' ⟨h1, h2⟩
    exact ⟨(Gr.refl _ _).ex h1, h2.base hN, fun c hc => .inr (h2.block c hc).1⟩
set_option maxHeartbeats 1000000 in
theorem c_add (al : Option Addr) (l : List E2) (cl : Nat) (ll : l.length ≤ 1000000) (le : es.length ≤ 4096) (hN : N ≤ h.size) (hb : Bd h N t p ve es o) (hl : SlG 3 entL h al l) {r : Int} (hr : addE o es l = r) :
    HCalls Try.prog 30 #[bdP t, .slice al l.length cl] h fun v h' => v = iV r ∧ (r ≠ 0 → Ext h h') ∧ (r = 0 → Gs h h' (t :: ve.ownBlock.toList) ∧ ∃ ve', Bd h' N t p ve' (es ++ l) o ∧ ∀ c, ve'.ownBlock = some c → ve.ownBlock = some c ∨ h.size ≤ c) := by
  obtain ⟨ae, ce, rfl, _, hse, _⟩ := hb.en.sl
  refine hcalls2 Try.func30 rfl (by decide +kernel) (by simp only [Try.ntmps30]; exact of_decide_eq_true rfl) ?_
  intro e hin
  have e0 := hin 0 _ rfl
  have e1 := hin 1 _ rfl
  refine hx_seq ?_
  refine hx_region ?_
  refine WL.qq (by simp only [EN, Nat.reduceEqDiff, reduceIte, qv_assign, hb.blk.cell]; rfl) ?_
  refine WL.nil ?_
  refine th_norm ?_
  refine hx_seq ?_
  refine hx_seq ?_
  refine hx_region ?_
  refine WL.qq (by simp only [EN, Nat.reduceEqDiff, reduceIte, qv_move, e0, hb.blk.cell]; rfl) ?_
  refine WL.ck Try.call55 (by simp only [EN, Nat.reduceEqDiff, reduceIte, AR, hb.blk.cell]; exact c_ready hb.blk) ?_
  refine WL.qq (by simp only [EN, Nat.reduceEqDiff, reduceIte, qv_assign, hb.blk.cell]; rfl) ?_
  refine WL.nil ?_
  refine th_norm ?_
  refine hx_seq ?_
  refine hx_region ?_
  refine WL.qq (by simp only [EN, Nat.reduceEqDiff, reduceIte, qv_move, hb.blk.cell]; rfl) ?_
  refine WL.qq (by simp only [EN, Nat.reduceEqDiff, reduceIte, qv_binOp, binv_neq, eq45, Option.map_some, hb.blk.cell]; rfl) ?_
  refine WL.nil ?_
  refine th_norm ?_
  refine hx_cond (by simp only [EN, Nat.reduceEqDiff, reduceIte, e0, e1, hb.blk.cell]; rfl) (fun hct9 => ?_) (fun hct9 => ?_)
  ·
    try simp only [BD] at hct9
    refine hx_seq ?_
    refine hx_region ?_
    refine WL.qq (by simp only [EN, Nat.reduceEqDiff, reduceIte, qv_move, hb.blk.cell]; rfl) ?_
    refine WL.qq (by simp only [EN, Nat.reduceEqDiff, reduceIte, qv_assign, hb.blk.cell]; rfl) ?_
    refine WL.nil ?_
    refine th_norm ?_
    refine hx_ret ?_
    refine th_ret ?_
    refine fin_ret [.tmp 4] rfl rfl (by simp only [EN, Nat.reduceEqDiff, reduceIte, resv, e0, e1, hb.blk.cell]; rfl) ?_  -- ret 0 r3
    have ho : o = false := (by cases o <;> simp at hct9 ⊢)
    subst ho
    simp [addE] at hr
    subst hr
    exact ⟨rfl, fun _ => (Ext.refl _), by simp⟩
  ·
    try simp only [BD] at hct9
    have ho : o = true := (by cases o <;> simp at hct9 ⊢); subst ho
    refine hx_skip ?_
    refine th_norm ?_
    refine hx_seq ?_
    refine hx_block ?_
    refine hx_seq ?_
    refine hx_region ?_
    refine WL.qq (by simp only [EN, Nat.reduceEqDiff, reduceIte, qv_move, e1, hb.blk.cell]; rfl) ?_
    refine WL.qq (by simp only [EN, Nat.reduceEqDiff, reduceIte, qv_len, ln47, AR, hb.blk.cell]; rfl) ?_
    refine WL.qq (by simp only [EN, Nat.reduceEqDiff, reduceIte, qv_binOp, binv_eql, eq3, Option.map_some, hb.blk.cell]; rfl) ?_
    refine WL.qq (by simp only [EN, Nat.reduceEqDiff, reduceIte, qv_assign, hb.blk.cell]; rfl) ?_
    refine WL.nil ?_
    refine th_norm ?_
    refine hx_cond (by simp only [EN, Nat.reduceEqDiff, reduceIte, e0, e1, hb.blk.cell]; rfl) (fun hct11 => ?_) (fun hct11 => ?_)
    ·
      try simp only [BD] at hct11
      refine hx_seq ?_
      refine hx_region ?_
      refine WL.qq (by simp only [EN, Nat.reduceEqDiff, reduceIte, qv_assign, hb.blk.cell]; rfl) ?_
      refine WL.nil ?_
      refine th_norm ?_
      refine hx_ret ?_
      refine bl_ret ?_
      refine th_ret ?_
      refine fin_ret [.tmp 4] rfl rfl (by simp only [EN, Nat.reduceEqDiff, reduceIte, resv, e0, e1, hb.blk.cell]; rfl) ?_  -- ret 1 r5
      have h0 : r = 1 := (by rw [← hr]; unfold addE; rw [if_neg (by simp), if_pos (by omega)])
      subst h0
      exact ⟨rfl, fun _ => (Ext.refl _), by simp⟩
    ·
      try simp only [BD] at hct11
      refine hx_seq ?_
      refine hx_region ?_
      refine WL.qq (by simp only [EN, Nat.reduceEqDiff, reduceIte, qv_move, e0, hb.blk.cell]; rfl) ?_
      refine WL.qq (by simp only [EN, Nat.reduceEqDiff, reduceIte, qv_nilCheck, hb.blk.cell]; rfl) ?_
      refine WL.qq (by simp only [EN, Nat.reduceEqDiff, reduceIte, qv_fieldAddr, fa98_1, Nat.zero_add, Nat.reduceAdd, hb.blk.cell]; rfl) ?_
      refine WL.qq (by simp only [EN, Nat.reduceEqDiff, reduceIte, qv_load, ld47, readN, AR, Nat.zero_add, Nat.reduceAdd, hb.blk.cell]; rfl) ?_
      refine WL.qq (by simp only [EN, Nat.reduceEqDiff, reduceIte, qv_len, ln47, AR, hb.blk.cell]; rfl) ?_
      refine WL.qq (by simp only [EN, Nat.reduceEqDiff, reduceIte, qv_move, e1, hb.blk.cell]; rfl) ?_
      refine WL.qq (by simp only [EN, Nat.reduceEqDiff, reduceIte, qv_len, ln47, AR, hb.blk.cell]; rfl) ?_
      refine WL.qq (by simp only [EN, Nat.reduceEqDiff, reduceIte, qv_binOp, binv_add, hb.blk.cell]; (try simp (disch := omega) only [w64, w8, wu64]); rfl) ?_
      refine WL.qq (by simp only [EN, Nat.reduceEqDiff, reduceIte, qv_binOp, binv_gtr, hb.blk.cell]; rfl) ?_
      refine WL.qq (by simp only [EN, Nat.reduceEqDiff, reduceIte, qv_assign, hb.blk.cell]; rfl) ?_
      refine WL.nil ?_
      refine th_norm ?_
      refine hx_cond (by simp only [EN, Nat.reduceEqDiff, reduceIte, e0, e1, hb.blk.cell]; rfl) (fun hct15 => ?_) (fun hct15 => ?_)
      ·
        try simp only [BD] at hct15
        refine hx_seq ?_
        refine hx_region ?_
        refine WL.qq (by simp only [EN, Nat.reduceEqDiff, reduceIte, qv_assign, hb.blk.cell]; rfl) ?_
        refine WL.nil ?_
        refine th_norm ?_
        refine hx_ret ?_
        refine bl_ret ?_
        refine th_ret ?_
        refine fin_ret [.tmp 4] rfl rfl (by simp only [EN, Nat.reduceEqDiff, reduceIte, resv, e0, e1, hb.blk.cell]; rfl) ?_  -- ret 2 r7
        have h0 : r = 8 := (by rw [← hr]; unfold addE; rw [if_neg (by simp), if_neg (by omega), if_pos (by omega)])
        subst h0
        exact ⟨rfl, fun _ => (Ext.refl _), by simp⟩
      ·
        try simp only [BD] at hct15
        refine hx_seq ?_
        refine hx_region ?_
        refine WL.qq (by simp only [EN, Nat.reduceEqDiff, reduceIte, qv_move, e1, hb.blk.cell]; rfl) ?_
        refine WL.cg Try.call56 (by simp only [EN, Nat.reduceEqDiff, reduceIte, AR, hb.blk.cell]; exact c_cont al l cl ll hl) ?_
        intro h1 hx1
        replace hb := hb.ext hx1
        replace hl := hl.ext hx1
        refine WL.qq (by simp only [EN, Nat.reduceEqDiff, reduceIte, qv_assign, hb.blk.cell]; rfl) ?_
        refine WL.nil ?_
        refine th_norm ?_
        refine hx_cond (by simp only [EN, Nat.reduceEqDiff, reduceIte, e0, e1, hb.blk.cell]; rfl) (fun hct25 => ?_) (fun hct25 => ?_)
        ·
          try simp only [BD] at hct25
          refine hx_seq ?_
          refine hx_region ?_
          refine WL.qq (by simp only [EN, Nat.reduceEqDiff, reduceIte, qv_assign, hb.blk.cell]; rfl) ?_
          refine WL.nil ?_
          refine th_norm ?_
          refine hx_ret ?_
          refine bl_ret ?_
          refine th_ret ?_
          refine fin_ret [.tmp 4] rfl rfl (by simp only [EN, Nat.reduceEqDiff, reduceIte, resv, e0, e1, hb.blk.cell]; rfl) ?_  -- ret 3 r9
          have h0 : r = 12 := (by rw [← hr]; unfold addE; rw [if_neg (by simp), if_neg (by omega), if_neg (by omega), if_pos (by simpa using hct25)])
          subst h0
          exact ⟨rfl, fun _ => (hx1), by simp⟩
        ·
          try simp only [BD] at hct25
          have h0 : r = 0 := (by rw [← hr]; unfold addE; rw [if_neg (by simp), if_neg (by omega), if_neg (by omega), if_neg (by simpa using hct25)])
          refine hx_skip ?_
          refine bl_norm ?_
          refine th_norm ?_
          refine hx_seq ?_
          refine hx_region ?_
          refine WL.qq (by simp only [EN, Nat.reduceEqDiff, reduceIte, qv_move, e0, hb.blk.cell]; rfl) ?_
          refine WL.qq (by simp only [EN, Nat.reduceEqDiff, reduceIte, qv_move, e0, hb.blk.cell]; rfl) ?_
          refine WL.qq (by simp only [EN, Nat.reduceEqDiff, reduceIte, qv_nilCheck, hb.blk.cell]; rfl) ?_
          refine WL.qq (by simp only [EN, Nat.reduceEqDiff, reduceIte, qv_fieldAddr, fa98_1, Nat.zero_add, Nat.reduceAdd, hb.blk.cell]; rfl) ?_
          refine WL.qq (by simp only [EN, Nat.reduceEqDiff, reduceIte, qv_load, ld47, readN, AR, Nat.zero_add, Nat.reduceAdd, hb.blk.cell]; rfl) ?_
          refine WL.qq (by simp only [EN, Nat.reduceEqDiff, reduceIte, qv_move, e1, hb.blk.cell]; rfl) ?_
          refine WL.ef _ (e_appE hb.en (by simp only [EN, Nat.reduceEqDiff, reduceIte, e0, e1, hb.blk.cell]) (by simp only [EN, Nat.reduceEqDiff, reduceIte, e0, e1, hb.blk.cell] <;> rfl) hl (fun hh => by rw [hh] at hct11; simp at hct11) (by omega) (Nat.le_trans hN (Ext.size (hx1)))) ?_
          rintro v40 h40 ⟨hg40, ho40, hn40⟩
          simp only [put_some]
          have hq : Has h40 t _ := hb.blk.gr hg40 (hb.en.ncell hb.blk (by decide))
          refine WL.qq (by simp only [EN, Nat.reduceEqDiff, reduceIte, qv_nilCheck, hb.blk.cell]; rfl) ?_
          refine WL.qq (by simp only [EN, Nat.reduceEqDiff, reduceIte, qv_fieldAddr, fa98_1, Nat.zero_add, Nat.reduceAdd, hb.blk.cell]; rfl) ?_
          refine WL.store (by simp only [EN, Nat.reduceEqDiff, reduceIte, e0, e1, hb.blk.cell] <;> rfl) sz47 (by simp only [EN, Nat.reduceEqDiff, reduceIte, e0, e1, hb.blk.cell]; exact ho40.cells) rfl hq (by simp) (by simp [ho40.one]) ?_
          intro h41 hw41
          have ho41 := ho40.keep (h' := h41) (fun c hc => hw41.same c fun hh => by subst hh; exact ho40.ncell hq (by decide) hc)
          have hb41 := hw41.at_
          try simp only [splc, List.take_succ_cons, List.take_zero, List.take_nil, List.drop_succ_cons, List.drop_zero, List.drop_nil, List.cons_append, List.nil_append, List.length_cons, List.length_nil, Nat.zero_add, Nat.add_zero, Nat.reduceAdd, List.append_nil] at hb41
          refine WL.nil ?_
          refine th_norm ?_
          refine hx_seq ?_
          refine hx_region ?_
          refine WL.qq (by simp only [EN, Nat.reduceEqDiff, reduceIte, qv_assign, hb.blk.cell]; rfl) ?_
          refine WL.nil ?_
          refine th_norm ?_
          refine hx_ret ?_
          refine fin_ret [.tmp 4] rfl rfl (by simp only [EN, Nat.reduceEqDiff, reduceIte, resv, e0, e1, hb.blk.cell]; rfl) ?_  -- ret 4 r11
          exact ⟨by rw [h0]; rfl, fun hh => absurd h0 hh, fun _ => ⟨((Gs.ofExt (hx1)).grb hg40 (fun x hx => .inl (by simp [hx]))).stp (.inr ⟨_, hw41⟩) (.inl (by simp)), v40, ⟨hb41, .inl (by rw [List.length_append]; exact ho41)⟩, fun c hc => (hn40 c hc).imp id (fun h9 => Nat.le_trans (Ext.size (hx1)) h9)⟩⟩
theorem c_save (hb : Bd h N t p ve es o) : HCalls Try.prog 33 #[bdP t] h (Pure (iV es.length) h) := by
  obtain ⟨ae, ce, rfl, _, hse, _⟩ := hb.en.sl
  refine hcalls2 Try.func33 rfl (by decide +kernel) (by simp only [Try.ntmps33]; exact of_decide_eq_true rfl) ?_
  intro e hin
  have e0 := hin 0 _ rfl
  refine hx_seq ?_
  refine hx_region ?_
  refine WL.qq (by simp only [EN, Nat.reduceEqDiff, reduceIte, qv_assign, hb.blk.cell]; rfl) ?_
  refine WL.nil ?_
  refine th_norm ?_
  refine hx_seq ?_
  refine hx_seq ?_
  refine hx_region ?_
  refine WL.qq (by simp only [EN, Nat.reduceEqDiff, reduceIte, qv_move, e0, hb.blk.cell]; rfl) ?_
  refine WL.qq (by simp only [EN, Nat.reduceEqDiff, reduceIte, qv_binOp, binv_eql, eqz58, eqn58, eqm58, Option.map_some, hb.blk.cell]; rfl) ?_
  refine WL.nil ?_
  refine th_norm ?_
  refine hx_cond (by simp only [EN, Nat.reduceEqDiff, reduceIte, e0, hb.blk.cell]; rfl) (fun hct4 => ?_) (fun hct4 => ?_)
  ·
    simp at hct4
  ·
    try simp only [BD] at hct4
    refine hx_skip ?_
    refine th_norm ?_
    refine hx_seq ?_
    refine hx_region ?_
    refine WL.qq (by simp only [EN, Nat.reduceEqDiff, reduceIte, qv_move, e0, hb.blk.cell]; rfl) ?_
    refine WL.qq (by simp only [EN, Nat.reduceEqDiff, reduceIte, qv_nilCheck, hb.blk.cell]; rfl) ?_
    refine WL.qq (by simp only [EN, Nat.reduceEqDiff, reduceIte, qv_fieldAddr, fa98_1, Nat.zero_add, Nat.reduceAdd, hb.blk.cell]; rfl) ?_
    refine WL.qq (by simp only [EN, Nat.reduceEqDiff, reduceIte, qv_load, ld47, readN, AR, Nat.zero_add, Nat.reduceAdd, hb.blk.cell]; rfl) ?_
    refine WL.qq (by simp only [EN, Nat.reduceEqDiff, reduceIte, qv_len, ln47, AR, hb.blk.cell]; rfl) ?_
    refine WL.qq (by simp only [EN, Nat.reduceEqDiff, reduceIte, qv_assign, hb.blk.cell]; rfl) ?_
    refine WL.nil ?_
    refine th_norm ?_
    refine hx_ret ?_
    refine fin_ret [.tmp 2] rfl rfl (by simp only [EN, Nat.reduceEqDiff, reduceIte, resv, e0, hb.blk.cell]; rfl) ?_  -- ret 0 r3
    exact ⟨rfl, rfl⟩
theorem c_ents (le : es.length ≤ 1000000) (hb : Bd h N t p ve es o) : HCalls Try.prog 35 #[bdP t] h fun v h' => Ext h h' ∧ Own h' h.size entT 3 v es.length (es.flatMap entL) := by
  obtain ⟨ae, ce, rfl, _, hse, hn, _⟩ := hb.en.sl
  refine hcalls2 Try.func35 rfl (by decide +kernel) (by simp only [Try.ntmps35]; exact of_decide_eq_true rfl) ?_
  intro e hin
  have e0 := hin 0 _ rfl
  refine hx_seq ?_
  refine hx_region ?_
  refine WL.qq (by simp only [EN, Nat.reduceEqDiff, reduceIte, qv_assign, hb.blk.cell]; rfl) ?_
  refine WL.nil ?_
  refine th_norm ?_
  refine hx_seq ?_
  refine hx_seq ?_
  refine hx_region ?_
  refine WL.qq (by simp only [EN, Nat.reduceEqDiff, reduceIte, qv_move, e0, hb.blk.cell]; rfl) ?_
  refine WL.qq (by simp only [EN, Nat.reduceEqDiff, reduceIte, qv_binOp, binv_eql, eqz58, eqn58, eqm58, Option.map_some, hb.blk.cell]; rfl) ?_
  refine WL.nil ?_
  refine th_norm ?_
  refine hx_cond (by simp only [EN, Nat.reduceEqDiff, reduceIte, e0, hb.blk.cell]; rfl) (fun hct4 => ?_) (fun hct4 => ?_)
  ·
    simp at hct4
  ·
    try simp only [BD] at hct4
    refine hx_skip ?_
    refine th_norm ?_
    refine hx_seq ?_
    refine hx_region ?_
    refine WL.qq (by simp only [EN, Nat.reduceEqDiff, reduceIte, qv_move, e0, hb.blk.cell]; rfl) ?_
    refine WL.qq (by simp only [EN, Nat.reduceEqDiff, reduceIte, qv_nilCheck, hb.blk.cell]; rfl) ?_
    refine WL.qq (by simp only [EN, Nat.reduceEqDiff, reduceIte, qv_fieldAddr, fa98_1, Nat.zero_add, Nat.reduceAdd, hb.blk.cell]; rfl) ?_
    refine WL.qq (by simp only [EN, Nat.reduceEqDiff, reduceIte, qv_load, ld47, readN, AR, Nat.zero_add, Nat.reduceAdd, hb.blk.cell]; rfl) ?_
    refine WL.ce Try.call60 (by simp only [EN, Nat.reduceEqDiff, reduceIte, AR, hb.blk.cell]; exact c_entClone ae ce es le hse.rd hn) ?_
    rintro _ h1 ⟨hx1, ho⟩
    simp only [put_some]
    refine WL.qq (by simp only [EN, Nat.reduceEqDiff, reduceIte, qv_assign, hb.blk.cell]; rfl) ?_
    refine WL.nil ?_
    refine th_norm ?_
    refine hx_ret ?_
    refine fin_ret [.tmp 2] rfl rfl (by simp only [EN, Nat.reduceEqDiff, reduceIte, resv, e0, hb.blk.cell]; rfl) ?_  -- ret 0 r3
    exact ⟨(hx1), ho⟩
/-- The balance of a key behind the entries, as the machine adds. -/
def balF (es : List E2) (q : K2) (b : Int) : Int := es.foldl (fun n x => if x.1 = q then IntKind.i64.wrap (n + x.2) else n) b
theorem balF_step {es : List E2} {i : Nat} {x : E2} (q : K2) (b : Int) (hx : es[i]? = some x) : balF (es.take (i + 1)) q b = if x.1 = q then IntKind.i64.wrap (balF (es.take i) q b + x.2) else balF (es.take i) q b := by
  rw [List.take_add_one, hx, balF, List.foldl_append]
  rfl
theorem c_bbal {bm fm : Nat} {vo : Value} {ks fs : List E2} {sq : Int} (q : K2) (le : es.length ≤ 1000000) (hk : IsBk h p bm fm vo ks fs sq) (hb : Bd h N t p ve es o) :
    HCalls Try.prog 36 #[bdP t, kV q] h (Grow (iV (balF es q (lk ks q))) h) := by
  obtain ⟨ae, ce, rfl, _, hse, hn, _⟩ := hb.en.sl
  have hs := hse.rd
  refine hcalls2 Try.func36 rfl (by decide +kernel) (by simp only [Try.ntmps36]; exact of_decide_eq_true rfl) ?_
  intro e hin
  have e0 := hin 0 _ rfl
  have e1 := hin 1 _ rfl
  refine hx_seq ?_
  refine hx_region ?_
  refine WL.box2 (by simp only [EN, Nat.reduceEqDiff, reduceIte, Value.cells, e1, hb.blk.cell]; rfl) ?_
  intro h1 B1 hx1 hlt1 hB1
  replace hb := hb.ext hx1
  replace hk := hk.ext hx1
  replace hs := hs.ext hx1
  refine WL.qq (by simp only [EN, Nat.reduceEqDiff, reduceIte, qv_assign, hb.blk.cell, hB1.cell]; rfl) ?_
  refine WL.nil ?_
  refine th_norm ?_
  refine hx_seq ?_
  refine hx_seq ?_
  refine hx_region ?_
  refine WL.qq (by simp only [EN, Nat.reduceEqDiff, reduceIte, qv_move, e0, hb.blk.cell, hB1.cell]; rfl) ?_
  refine WL.qq (by simp only [EN, Nat.reduceEqDiff, reduceIte, qv_binOp, binv_eql, eqz58, eqn58, eqm58, Option.map_some, hb.blk.cell, hB1.cell]; rfl) ?_
  refine WL.nil ?_
  refine th_norm ?_
  refine hx_cond (by simp only [EN, Nat.reduceEqDiff, reduceIte, e0, e1, hb.blk.cell, hB1.cell]; rfl) (fun hct9 => ?_) (fun hct9 => ?_)
  ·
    simp at hct9
  ·
    try simp only [BD] at hct9
    refine hx_skip ?_
    refine th_norm ?_
    refine hx_seq ?_
    apply hx_draw2 Rel.grows [] [5] [(5, Spec.is _)] rfl (by decide +kernel) rfl
    refine LD.qq rfl rfl (by simp only [EN, Nat.reduceEqDiff, reduceIte, qv_move, e0, hb.blk.cell, hB1.cell]; rfl) ?_
    refine LD.qq rfl rfl (by simp only [EN, Nat.reduceEqDiff, reduceIte, qv_nilCheck, hb.blk.cell, hB1.cell]; rfl) ?_
    refine LD.qq rfl rfl (by simp only [EN, Nat.reduceEqDiff, reduceIte, qv_fieldAddr, fa98_0, Nat.zero_add, Nat.reduceAdd, hb.blk.cell, hB1.cell]; rfl) ?_
    refine LD.qq rfl rfl (by simp only [EN, Nat.reduceEqDiff, reduceIte, qv_load, ld25, readN, AR, Nat.zero_add, Nat.reduceAdd, hb.blk.cell, hB1.cell]; rfl) ?_
    refine LD.qq rfl rfl (by simp only [EN, Nat.reduceEqDiff, reduceIte, qv_load, ld34, readN, AR, Nat.zero_add, Nat.reduceAdd, hb.blk.cell, hB1.cell]; rfl) ?_
    refine LD.ck rfl rfl Try.call21 (by intro hD hr; have hx : Ext _ _ := hr; have hb := hb.ext hx; have hk := hk.ext hx; have hs := hs.ext hx; have hB1 := hB1.ext hx; simp only [EN, Nat.reduceEqDiff, reduceIte, AR, hb.blk.cell, hB1.cell]; exact c_bkBal q hk) ?_
    refine LD.qq rfl rfl (by simp only [EN, Nat.reduceEqDiff, reduceIte, qv_assign, hb.blk.cell, hB1.cell]; rfl) ?_
    refine LD.nil ?_
    rintro h2 hx2 hF3
    replace hx2 : Ext _ _ := hx2
    replace hb := hb.ext hx2
    replace hk := hk.ext hx2
    replace hs := hs.ext hx2
    replace hB1 := hB1.ext hx2
    refine WL.nil ?_
    refine th_norm ?_
    refine hx_seq ?_
    refine hx_seq ?_
    refine hx_region ?_
    refine WL.qq (by simp only [EN, Nat.reduceEqDiff, reduceIte, qv_move, e0, hb.blk.cell, hB1.cell]; rfl) ?_
    refine WL.qq (by simp only [EN, Nat.reduceEqDiff, reduceIte, qv_nilCheck, hb.blk.cell, hB1.cell]; rfl) ?_
    refine WL.qq (by simp only [EN, Nat.reduceEqDiff, reduceIte, qv_fieldAddr, fa98_1, Nat.zero_add, Nat.reduceAdd, hb.blk.cell, hB1.cell]; rfl) ?_
    refine WL.qq (by simp only [EN, Nat.reduceEqDiff, reduceIte, qv_load, ld47, readN, AR, Nat.zero_add, Nat.reduceAdd, hb.blk.cell, hB1.cell]; rfl) ?_
    refine WL.qq (by simp only [EN, Nat.reduceEqDiff, reduceIte, qv_len, ln47, AR, hb.blk.cell, hB1.cell]; rfl) ?_
    refine WL.qq (by simp only [EN, Nat.reduceEqDiff, reduceIte, qv_move, hb.blk.cell, hB1.cell]; rfl) ?_
    refine WL.nil ?_
    refine th_norm ?_
    refine hx_block ?_
    refine hx_loopX [5, 7, 21, 22, 23, 24, 25, 26, 27, 28, 29, 30, 31, 32, 33] (fun k e => ∃ (i : Nat), es.length - i = k ∧ (i ≤ es.length) ∧ e 21 = .int .i64 i ∧ e 5 = iV (balF (es.take i) q (lk ks q))) _ ⟨0, rfl, ?_, ?_, ?_⟩ ?_
    · omega
    · simp only [EN, Nat.reduceEqDiff, reduceIte, e0, e1, hb.blk.cell, hB1.cell] <;> rfl
    · simp only [EN, Nat.reduceEqDiff, reduceIte, e0, e1, hb.blk.cell, hB1.cell] <;> rfl
    ·
      rintro k e0L hL0 hX0 hfr0 ⟨i, rfl, hi, i21_0, i5_0⟩
      replace hb := hb.ext hX0
      replace hk := hk.ext hX0
      replace hs := hs.ext hX0
      replace hB1 := hB1.ext hX0
      have k3_0 := hfr0 3 rfl; try simp only [EN, Nat.reduceEqDiff, reduceIte, e0, e1, hb.blk.cell, hB1.cell] at k3_0
      have k4_0 := hfr0 4 rfl; try simp only [EN, Nat.reduceEqDiff, reduceIte, e0, e1, hb.blk.cell, hB1.cell] at k4_0
      have k19_0 := hfr0 19 rfl; try simp only [EN, Nat.reduceEqDiff, reduceIte, e0, e1, hb.blk.cell, hB1.cell] at k19_0
      have k20_0 := hfr0 20 rfl; try simp only [EN, Nat.reduceEqDiff, reduceIte, e0, e1, hb.blk.cell, hB1.cell] at k20_0
      refine hx_seq ?_
      refine hx_region ?_
      refine WL.qq (by simp only [EN, Nat.reduceEqDiff, reduceIte, qv_binOp, binv_lss, k20_0, i21_0, hb.blk.cell, hB1.cell]; rfl) ?_
      refine WL.nil ?_
      refine th_norm ?_
      refine hx_seq ?_
      refine hx_cond (by simp only [EN, Nat.reduceEqDiff, reduceIte, k3_0, k4_0, k19_0, k20_0, i21_0, i5_0, hb.blk.cell, hB1.cell]; rfl) (fun hct22 => ?_) (fun hct22 => ?_)
      ·
        try simp only [BD] at hct22
        obtain ⟨x, hx⟩ := atG (l := es) (i := i) (by omega)
        obtain ⟨b, off, rfl, hr3, hr2, hc0, hc1, hc2⟩ := ent_rd hs hx
        refine hx_skip ?_
        refine th_norm ?_
        refine hx_seq ?_
        refine hx_block ?_
        refine hx_seq ?_
        refine hx_region ?_
        refine WL.qq (by simp only [EN, Nat.reduceEqDiff, reduceIte, qv_indexAddr, k19_0, i21_0, hb.blk.cell, hB1.cell]; (try simp (disch := omega) only [ix47, Int.toNat_natCast]); rfl) ?_
        refine WL.qq (by simp only [EN, Nat.reduceEqDiff, reduceIte, k3_0, k4_0, k19_0, k20_0, i21_0, i5_0, hb.blk.cell, hB1.cell, qv_load, ld89, Int.toNat_natCast, hr3]; rfl) ?_
        refine WL.allocSt zr89 sz89 (fun u => by simp only [EN, Nat.reduceEqDiff, reduceIte, Value.cells, hb.blk.cell, hB1.cell]; rfl) ⟨rfl, rfl⟩ (by simp [Value.oneCell']) ?_
        intro h3 B3 hx3 hlt3 hB3
        replace hb := hb.ext hx3
        replace hk := hk.ext hx3
        replace hs := hs.ext hx3
        replace hB1 := hB1.ext hx3
        refine WL.nil ?_
        refine th_norm ?_
        refine hx_seq ?_
        refine hx_region ?_
        refine WL.qq (by simp only [EN, Nat.reduceEqDiff, reduceIte, qv_fieldAddr, fa89_0, Nat.zero_add, Nat.reduceAdd, hb.blk.cell, hB1.cell, hB3.cell]; rfl) ?_
        refine WL.qq (by simp only [EN, Nat.reduceEqDiff, reduceIte, qv_load, ld34, readN, AR, Nat.zero_add, Nat.reduceAdd, hb.blk.cell, hB1.cell, hB3.cell]; rfl) ?_
        refine WL.qq (by simp only [EN, Nat.reduceEqDiff, reduceIte, qv_load, ld34, readN, AR, Nat.zero_add, Nat.reduceAdd, k3_0, hb.blk.cell, hB1.cell, hB3.cell]; rfl) ?_
        refine WL.qq (by simp only [EN, Nat.reduceEqDiff, reduceIte, qv_binOp, binv_eql, eqs34, Option.map_some, hb.blk.cell, hB1.cell, hB3.cell]; rfl) ?_
        refine WL.nil ?_
        refine th_norm ?_
        refine hx_cond (by simp only [EN, Nat.reduceEqDiff, reduceIte, k3_0, k4_0, k19_0, k20_0, i21_0, i5_0, hb.blk.cell, hB1.cell, hB3.cell]; rfl) (fun hct28 => ?_) (fun hct28 => ?_)
        ·
          try simp only [BD] at hct28
          refine hx_region ?_
          refine WL.qq (by simp only [EN, Nat.reduceEqDiff, reduceIte, qv_move, i5_0, hb.blk.cell, hB1.cell, hB3.cell]; rfl) ?_
          refine WL.qq (by simp only [EN, Nat.reduceEqDiff, reduceIte, qv_fieldAddr, fa89_1, Nat.zero_add, Nat.reduceAdd, hb.blk.cell, hB1.cell, hB3.cell]; rfl) ?_
          refine WL.qq (by simp only [EN, Nat.reduceEqDiff, reduceIte, qv_load, ld2, readN, AR, Nat.zero_add, Nat.reduceAdd, hb.blk.cell, hB1.cell, hB3.cell]; rfl) ?_
          refine WL.qq (by simp only [EN, Nat.reduceEqDiff, reduceIte, k3_0, k4_0, k19_0, k20_0, i21_0, i5_0, hb.blk.cell, hB1.cell, hB3.cell, qv_binOp, binv_add]; rfl) ?_
          refine WL.qq (by simp only [EN, Nat.reduceEqDiff, reduceIte, qv_assign, hb.blk.cell, hB1.cell, hB3.cell]; rfl) ?_
          refine WL.nil ?_
          refine bl_norm ?_
          refine th_norm ?_
          refine hx_region ?_
          refine WL.qq (by simp only [EN, Nat.reduceEqDiff, reduceIte, qv_binOp, binv_add, i21_0, hb.blk.cell, hB1.cell, hB3.cell]; (try simp (disch := omega) only [w64, w8, wu64]); rfl) ?_
          refine WL.qq (by simp only [EN, Nat.reduceEqDiff, reduceIte, qv_move, hb.blk.cell, hB1.cell, hB3.cell]; rfl) ?_
          refine WL.nil ?_
          refine th_norm ?_
          refine ⟨rfl, ?_, ?_, _, ?_, i + 1, rfl, ?_, ?_, ?_⟩  -- again 0 of loop 0
          · exact hx3
          · (repeat (first | exact Fr.refl _ _ | refine Fr.set rfl ?_ | refine Fr.put rfl ?_ | refine Fr.put0 ?_))
          · omega
          · omega
          · simp only [EN, Nat.reduceEqDiff, reduceIte, k3_0, k4_0, k19_0, k20_0, i21_0, i5_0, hb.blk.cell, hB1.cell, hB3.cell] <;> first | rfl | (congr 1; omega)
          · simp only [EN, Nat.reduceEqDiff, reduceIte, k3_0, k4_0, k19_0, k20_0, i21_0, i5_0, hb.blk.cell, hB1.cell, hB3.cell] <;> first | rw [balF_step q _ hx, if_pos (k2_eq.2 ⟨hct28.1, hct28.2.1⟩)] | rw [balF_step q _ hx, if_neg (fun hh => by rw [hh] at hct28; simp at hct28)]
        ·
          try simp only [BD] at hct28
          refine hx_skip ?_
          refine bl_norm ?_
          refine th_norm ?_
          refine hx_region ?_
          refine WL.qq (by simp only [EN, Nat.reduceEqDiff, reduceIte, qv_binOp, binv_add, i21_0, hb.blk.cell, hB1.cell, hB3.cell]; (try simp (disch := omega) only [w64, w8, wu64]); rfl) ?_
          refine WL.qq (by simp only [EN, Nat.reduceEqDiff, reduceIte, qv_move, hb.blk.cell, hB1.cell, hB3.cell]; rfl) ?_
          refine WL.nil ?_
          refine th_norm ?_
          refine ⟨rfl, ?_, ?_, _, ?_, i + 1, rfl, ?_, ?_, ?_⟩  -- again 1 of loop 0
          · exact hx3
          · (repeat (first | exact Fr.refl _ _ | refine Fr.set rfl ?_ | refine Fr.put rfl ?_ | refine Fr.put0 ?_))
          · omega
          · omega
          · simp only [EN, Nat.reduceEqDiff, reduceIte, k3_0, k4_0, k19_0, k20_0, i21_0, i5_0, hb.blk.cell, hB1.cell, hB3.cell] <;> first | rfl | (congr 1; omega)
          · simp only [EN, Nat.reduceEqDiff, reduceIte, k3_0, k4_0, k19_0, k20_0, i21_0, i5_0, hb.blk.cell, hB1.cell, hB3.cell] <;> first | rw [balF_step q _ hx, if_pos (k2_eq.2 ⟨hct28.1, hct28.2.1⟩)] | rw [balF_step q _ hx, if_neg (fun hh => by rw [hh] at hct28; simp at hct28)]
      ·
        try simp only [BD] at hct22
        refine hx_exit ?_
        refine th_exit ?_
        refine th_exit ?_
        refine bl_hit ?_
        refine th_norm ?_
        refine hx_seq ?_
        refine hx_region ?_
        refine WL.qq (by simp only [EN, Nat.reduceEqDiff, reduceIte, qv_move, i5_0, hb.blk.cell, hB1.cell]; rfl) ?_
        refine WL.qq (by simp only [EN, Nat.reduceEqDiff, reduceIte, qv_assign, hb.blk.cell, hB1.cell]; rfl) ?_
        refine WL.nil ?_
        refine th_norm ?_
        refine hx_ret ?_
        refine fin_ret [.tmp 4] rfl rfl (by simp only [EN, Nat.reduceEqDiff, reduceIte, resv, k3_0, k4_0, k19_0, k20_0, i21_0, i5_0, hb.blk.cell, hB1.cell]; rfl) ?_  -- ret 0 r10
        have hil : i = es.length := (by omega)
        subst hil
        exact ⟨by rw [List.take_length]; rfl, ((hx1).trans ((hx2).trans (hX0)))⟩
def rollE (o : Bool) (es : List E2) (n : Int) : Int := if o = false then 21 else if n < 0 ∨ (es.length : Int) < n then 2 else 0
theorem c_rollTo (n : Int) (hb : Bd h N t p ve es o) {r : Int} (hr : rollE o es n = r) :
    HCalls Try.prog 32 #[bdP t, iV n] h fun v h' => v = iV r ∧ (r ≠ 0 → h' = h) ∧ (r = 0 → Gs h h' [t] ∧ ∃ ve', Bd h' N t p ve' (es.take n.toNat) o ∧ (ve'.ownBlock = ve.ownBlock)) := by
  obtain ⟨ae, ce, rfl, hce, hse, hn, hsp⟩ := hb.en.sl
  refine hcalls2 Try.func32 rfl (by decide +kernel) (by simp only [Try.ntmps32]; exact of_decide_eq_true rfl) ?_
  intro e hin
  have e0 := hin 0 _ rfl
  have e1 := hin 1 _ rfl
  refine hx_seq ?_
  refine hx_region ?_
  refine WL.qq (by simp only [EN, Nat.reduceEqDiff, reduceIte, qv_assign, hb.blk.cell]; rfl) ?_
  refine WL.nil ?_
  refine th_norm ?_
  refine hx_seq ?_
  refine hx_seq ?_
  refine hx_region ?_
  refine WL.qq (by simp only [EN, Nat.reduceEqDiff, reduceIte, qv_move, e0, hb.blk.cell]; rfl) ?_
  refine WL.ck Try.call55 (by simp only [EN, Nat.reduceEqDiff, reduceIte, AR, hb.blk.cell]; exact c_ready hb.blk) ?_
  refine WL.qq (by simp only [EN, Nat.reduceEqDiff, reduceIte, qv_assign, hb.blk.cell]; rfl) ?_
  refine WL.nil ?_
  refine th_norm ?_
  refine hx_seq ?_
  refine hx_region ?_
  refine WL.qq (by simp only [EN, Nat.reduceEqDiff, reduceIte, qv_move, hb.blk.cell]; rfl) ?_
  refine WL.qq (by simp only [EN, Nat.reduceEqDiff, reduceIte, qv_binOp, binv_neq, eq45, Option.map_some, hb.blk.cell]; rfl) ?_
  refine WL.nil ?_
  refine th_norm ?_
  refine hx_cond (by simp only [EN, Nat.reduceEqDiff, reduceIte, e0, e1, hb.blk.cell]; rfl) (fun hct9 => ?_) (fun hct9 => ?_)
  ·
    try simp only [BD] at hct9
    refine hx_seq ?_
    refine hx_region ?_
    refine WL.qq (by simp only [EN, Nat.reduceEqDiff, reduceIte, qv_move, hb.blk.cell]; rfl) ?_
    refine WL.qq (by simp only [EN, Nat.reduceEqDiff, reduceIte, qv_assign, hb.blk.cell]; rfl) ?_
    refine WL.nil ?_
    refine th_norm ?_
    refine hx_ret ?_
    refine th_ret ?_
    refine fin_ret [.tmp 4] rfl rfl (by simp only [EN, Nat.reduceEqDiff, reduceIte, resv, e0, e1, hb.blk.cell]; rfl) ?_  -- ret 0 r3
    have ho : o = false := (by cases o <;> simp at hct9 ⊢)
    subst ho
    simp [rollE] at hr
    subst hr
    exact ⟨rfl, fun _ => rfl, by simp⟩
  ·
    try simp only [BD] at hct9
    have ho : o = true := (by cases o <;> simp at hct9 ⊢); subst ho
    refine hx_skip ?_
    refine th_norm ?_
    refine hx_seq ?_
    refine hx_seq ?_
    refine hx_region ?_
    refine WL.qq (by simp only [EN, Nat.reduceEqDiff, reduceIte, qv_move, e1, hb.blk.cell]; rfl) ?_
    refine WL.qq (by simp only [EN, Nat.reduceEqDiff, reduceIte, qv_binOp, binv_lss, hb.blk.cell]; rfl) ?_
    refine WL.qq (by simp only [EN, Nat.reduceEqDiff, reduceIte, qv_move, hb.blk.cell]; rfl) ?_
    refine WL.cq (gd_at (t := 13) rfl (by simp only [EN, Nat.reduceEqDiff, reduceIte, e1, hb.blk.cell] <;> rfl)) (fun hg4_3 => by simp only [EN, Nat.reduceEqDiff, reduceIte, qv_move, e1, hb.blk.cell, hg4_3, GR]; rfl) ?_
    refine WL.cq (gd_at (t := 13) rfl (by simp only [EN, Nat.reduceEqDiff, reduceIte, e0, hb.blk.cell] <;> rfl)) (fun hg4_4 => by simp only [EN, Nat.reduceEqDiff, reduceIte, qv_move, e0, hb.blk.cell, hg4_4, GR]; rfl) ?_
    refine WL.cq (gd_at (t := 13) rfl (by simp only [EN, Nat.reduceEqDiff, reduceIte, hb.blk.cell] <;> rfl)) (fun hg4_5 => by simp only [EN, Nat.reduceEqDiff, reduceIte, qv_nilCheck, hb.blk.cell, hg4_5, GR]; rfl) ?_
    refine WL.cq (gd_at (t := 13) rfl (by simp only [EN, Nat.reduceEqDiff, reduceIte, hb.blk.cell] <;> rfl)) (fun hg4_6 => by simp only [EN, Nat.reduceEqDiff, reduceIte, qv_fieldAddr, fa98_1, Nat.zero_add, Nat.reduceAdd, hb.blk.cell, hg4_6, GR]; rfl) ?_
    refine WL.cq (gd_at (t := 13) rfl (by simp only [EN, Nat.reduceEqDiff, reduceIte, hb.blk.cell] <;> rfl)) (fun hg4_7 => by simp only [EN, Nat.reduceEqDiff, reduceIte, qv_load, ld47, readN, AR, Nat.zero_add, Nat.reduceAdd, hb.blk.cell, hg4_7, GR]; rfl) ?_
    refine WL.cq (gd_at (t := 13) rfl (by simp only [EN, Nat.reduceEqDiff, reduceIte, hb.blk.cell] <;> rfl)) (fun hg4_8 => by simp only [EN, Nat.reduceEqDiff, reduceIte, qv_len, ln47, AR, hb.blk.cell, hg4_8, GR]; rfl) ?_
    refine WL.cq (gd_at (t := 13) rfl (by simp only [EN, Nat.reduceEqDiff, reduceIte, hb.blk.cell] <;> rfl)) (fun hg4_9 => by simp only [EN, Nat.reduceEqDiff, reduceIte, qv_binOp, binv_gtr, hb.blk.cell, hg4_9, GR]; rfl) ?_
    refine WL.qq (by simp only [EN, Nat.reduceEqDiff, reduceIte, qv_pick, pk_and, pk_or, GR, hb.blk.cell]; rfl) ?_
    refine WL.nil ?_
    refine th_norm ?_
    refine hx_cond (by simp only [EN, Nat.reduceEqDiff, reduceIte, e0, e1, hb.blk.cell]; rfl) (fun hct21 => ?_) (fun hct21 => ?_)
    ·
      try simp only [BD] at hct21
      refine hx_seq ?_
      refine hx_region ?_
      refine WL.qq (by simp only [EN, Nat.reduceEqDiff, reduceIte, qv_assign, hb.blk.cell]; rfl) ?_
      refine WL.nil ?_
      refine th_norm ?_
      refine hx_ret ?_
      refine th_ret ?_
      refine fin_ret [.tmp 4] rfl rfl (by simp only [EN, Nat.reduceEqDiff, reduceIte, resv, e0, e1, hb.blk.cell]; rfl) ?_  -- ret 1 r5
      have h0 : r = 2 := (by rw [← hr]; unfold rollE; rw [if_neg (by simp), if_pos (by omega)])
      subst h0
      exact ⟨rfl, fun _ => rfl, by simp⟩
    ·
      try simp only [BD] at hct21
      have h0 : r = 0 := (by rw [← hr]; unfold rollE; rw [if_neg (by simp), if_neg (by omega)])
      refine hx_skip ?_
      refine th_norm ?_
      refine hx_seq ?_
      refine hx_region ?_
      refine WL.qq (by simp only [EN, Nat.reduceEqDiff, reduceIte, qv_move, e0, hb.blk.cell]; rfl) ?_
      refine WL.qq (by simp only [EN, Nat.reduceEqDiff, reduceIte, qv_move, e0, hb.blk.cell]; rfl) ?_
      refine WL.qq (by simp only [EN, Nat.reduceEqDiff, reduceIte, qv_nilCheck, hb.blk.cell]; rfl) ?_
      refine WL.qq (by simp only [EN, Nat.reduceEqDiff, reduceIte, qv_fieldAddr, fa98_1, Nat.zero_add, Nat.reduceAdd, hb.blk.cell]; rfl) ?_
      refine WL.qq (by simp only [EN, Nat.reduceEqDiff, reduceIte, qv_load, ld47, readN, AR, Nat.zero_add, Nat.reduceAdd, hb.blk.cell]; rfl) ?_
      refine WL.qq (by simp only [EN, Nat.reduceEqDiff, reduceIte, qv_move, e1, hb.blk.cell]; rfl) ?_
      refine WL.qq (by simp only [EN, Nat.reduceEqDiff, reduceIte, qv_move, e1, hb.blk.cell]; rfl) ?_
      refine WL.qq (by simp only [EN, Nat.reduceEqDiff, reduceIte, e0, e1, hb.blk.cell, qv_slice, Option.map_some, Option.map_none]; rw [slicev_hm Try.underlying47 sz89 _ hsp _ _ _ _ _ (by omega) (by omega)]) ?_
      refine WL.qq (by simp only [EN, Nat.reduceEqDiff, reduceIte, qv_nilCheck, hb.blk.cell]; rfl) ?_
      refine WL.qq (by simp only [EN, Nat.reduceEqDiff, reduceIte, qv_fieldAddr, fa98_1, Nat.zero_add, Nat.reduceAdd, hb.blk.cell]; rfl) ?_
      refine WL.store (by simp only [EN, Nat.reduceEqDiff, reduceIte, e0, e1, hb.blk.cell] <;> rfl) sz47 (by simp only [EN, Nat.reduceEqDiff, reduceIte, e0, e1, hb.blk.cell, Value.cells] <;> rfl) rfl hb.blk (by simp) (by simp [Value.oneCell']) ?_
      intro h41 hw41
      have hb41 := hw41.at_
      try simp only [splc, List.take_succ_cons, List.take_zero, List.take_nil, List.drop_succ_cons, List.drop_zero, List.drop_nil, List.cons_append, List.nil_append, List.length_cons, List.length_nil, Nat.zero_add, Nat.add_zero, Nat.reduceAdd, List.append_nil] at hb41
      refine WL.nil ?_
      refine th_norm ?_
      refine hx_seq ?_
      refine hx_region ?_
      refine WL.qq (by simp only [EN, Nat.reduceEqDiff, reduceIte, qv_assign, hb.blk.cell]; rfl) ?_
      refine WL.nil ?_
      refine th_norm ?_
      refine hx_ret ?_
      refine fin_ret [.tmp 4] rfl rfl (by simp only [EN, Nat.reduceEqDiff, reduceIte, resv, e0, e1, hb.blk.cell]; rfl) ?_  -- ret 2 r7
      have hle : (es.take n.toNat).length = n.toNat := (by rw [List.length_take]; omega)
      have hg41 : Gs h h41 [t] := Gs.ofWr hw41 (by simp)
      have hs41 := hse.gs hg41 (fun g off ha hm => by obtain ⟨cur, hc⟩ := hse.ty g off ha; simp at hm; subst hm; exact hc.ncell hb.blk (by decide) rfl)
      exact ⟨by rw [h0]; rfl, fun hh => absurd h0 hh, fun _ => ⟨hg41, .slice ae n.toNat n.toNat, ⟨hb41, .inr ⟨ae, by rw [hle], ⟨hs41.rd.pre _, hs41.ty⟩, hsp⟩⟩, by cases ae <;> rfl⟩⟩
theorem c_rollback (hb : Bd h N t p ve es o) : HCalls Try.prog 40 #[bdP t] h fun _ h' => Gs h h' [t] ∧ Bd h' N t p (.slice none 0 0) [] false := by
  refine hcalls2 Try.func40 rfl (by decide +kernel) (by simp only [Try.ntmps40]; exact of_decide_eq_true rfl) ?_
  intro e hin
  have e0 := hin 0 _ rfl
  refine hx_seq ?_
  refine hx_region ?_
  refine WL.qq (by simp only [EN, Nat.reduceEqDiff, reduceIte, qv_move, e0, hb.blk.cell]; rfl) ?_
  refine WL.qq (by simp only [EN, Nat.reduceEqDiff, reduceIte, qv_binOp, binv_neq, eqz58, eqn58, eqm58, Option.map_some, hb.blk.cell]; rfl) ?_
  refine WL.nil ?_
  refine th_norm ?_
  refine hx_cond (by simp only [EN, Nat.reduceEqDiff, reduceIte, e0, hb.blk.cell]; rfl) (fun hct3 => ?_) (fun hct3 => ?_)
  ·
    try simp only [BD] at hct3
    refine hx_region ?_
    refine WL.qq (by simp only [EN, Nat.reduceEqDiff, reduceIte, qv_move, e0, hb.blk.cell]; rfl) ?_
    refine WL.qq (by simp only [EN, Nat.reduceEqDiff, reduceIte, qv_move, e0, hb.blk.cell]; rfl) ?_
    refine WL.qq (by simp only [EN, Nat.reduceEqDiff, reduceIte, qv_nilCheck, hb.blk.cell]; rfl) ?_
    refine WL.qq (by simp only [EN, Nat.reduceEqDiff, reduceIte, qv_fieldAddr, fa98_1, Nat.zero_add, Nat.reduceAdd, hb.blk.cell]; rfl) ?_
    refine WL.store (by simp only [EN, Nat.reduceEqDiff, reduceIte, e0, hb.blk.cell] <;> rfl) sz47 (by simp only [EN, Nat.reduceEqDiff, reduceIte, e0, hb.blk.cell, Value.cells] <;> rfl) rfl hb.blk (by simp) (by simp [Value.oneCell']) ?_
    intro h41 hw41
    have hb41 := hw41.at_
    try simp only [splc, List.take_succ_cons, List.take_zero, List.take_nil, List.drop_succ_cons, List.drop_zero, List.drop_nil, List.cons_append, List.nil_append, List.length_cons, List.length_nil, Nat.zero_add, Nat.add_zero, Nat.reduceAdd, List.append_nil] at hb41
    refine WL.qq (by simp only [EN, Nat.reduceEqDiff, reduceIte, qv_nilCheck, hb.blk.cell]; rfl) ?_
    refine WL.qq (by simp only [EN, Nat.reduceEqDiff, reduceIte, qv_fieldAddr, fa98_2, Nat.zero_add, Nat.reduceAdd, hb.blk.cell]; rfl) ?_
    refine WL.store (by simp only [EN, Nat.reduceEqDiff, reduceIte, e0, hb.blk.cell] <;> rfl) sz4 (by simp only [EN, Nat.reduceEqDiff, reduceIte, e0, hb.blk.cell, Value.cells] <;> rfl) rfl hb41 (by simp) (by simp [Value.oneCell']) ?_
    intro h42 hw42
    have hb42 := hw42.at_
    try simp only [splc, List.take_succ_cons, List.take_zero, List.take_nil, List.drop_succ_cons, List.drop_zero, List.drop_nil, List.cons_append, List.nil_append, List.length_cons, List.length_nil, Nat.zero_add, Nat.add_zero, Nat.reduceAdd, List.append_nil] at hb42
    refine WL.nil ?_
    refine fin_end [] rfl rfl (by simp only [EN, Nat.reduceEqDiff, reduceIte, resv, e0, hb.blk.cell]; rfl) ?_  -- ret 0 r1
    exact ⟨(Gs.ofWr hw41 (by simp)).stp (.inr ⟨_, hw42⟩) (.inl (by simp)), hb42, .inl Own.nil⟩
  ·
    simp at hct3
end
end GL


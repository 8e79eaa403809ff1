/- Limits: keys, tables in memory, comparing. -/
import Derived.Test.YtenjmnpefmjdfaaGl29
set_option linter.unusedSimpArgs false
set_option linter.unusedVariables false
set_option linter.unnecessarySimpa false
namespace GL
open Go Go.Proofs
set_option maxRecDepth 8000
abbrev em : ByteArray := ⟨#[]⟩
structure PK where
  f : ByteArray
  t : ByteArray
deriving DecidableEq
abbrev L2 := PK × Int
abbrev iV (n : Int) : Value := .int .i64 n
abbrev pV (k : PK) : Value := .agg #[.string k.f, .string k.t]
abbrev limL (x : L2) : List Value := [.string x.1.f, .string x.1.t, .int .i64 x.2]
abbrev intL (x : Int) : List Value := [.int .i64 x]
theorem pk_eq {a b : PK} : a = b ↔ a.f = b.f ∧ a.t = b.t := by cases a; cases b; simp
theorem pV_inj {a b : PK} (h : pV a = pV b) : a = b := by
  simp [pV] at h
  cases a; cases b; simp_all
theorem ktS : KT Try.prog 9 Value.string := kt_plain Try.underlying9 (fun a => trivial) (fun h => by cases h; rfl)
theorem ktP : KT Try.prog 76 pV := by
  refine kt_struct Try.underlying76 pV_inj (fun a => ⟨_, rfl, ?_⟩) (fun a b => ?_) (fun a => by simp [pV, Instr.sameBits, strEq])
  · intro f hf hn
    simp only [List.mem_cons, List.not_mem_nil, or_false] at hf
    rcases hf with rfl | rfl
    · exact ⟨_, _, (pt9 _ _).trans rfl, Try.underlying9, trivial⟩
    · exact ⟨_, _, (pt9 _ _).trans rfl, Try.underlying9, trivial⟩
  · refine ((eqv_struct Try.underlying76 (by kernel_rfl)).trans (eqFs_c (by decide) ((pt9 _ _).trans rfl) ((pt9 _ _).trans rfl) (eqv_string Try.underlying9) (eqFs_c (by decide) ((pt9 _ _).trans rfl) ((pt9 _ _).trans rfl) (eqv_string Try.underlying9) rfl))).trans ?_
    congr 1
    rw [strEq, strEq, Bool.and_true, ← Bool.decide_and]
    exact decide_eq_decide.2 pk_eq.symm
theorem lim_rd {h : Heap} {a : Option Addr} {L : List L2} {i : Nat} {x : L2} (hs : SlG 3 limL h a L) (hx : L[i]? = some x) :
    ∃ b off, a = some ⟨b, off, none⟩ ∧ GL.readN h b (off + i * 3) 3 = some (limL x) ∧
      GL.cell h b (off + i * 3) = some (.string x.1.f) ∧ GL.cell h b (off + i * 3 + 1) = some (.string x.1.t) ∧ GL.cell h b (off + i * 3 + 2) = some (.int .i64 x.2) := by
  obtain ⟨b, off, ha, hr⟩ := hs i x hx
  have h0 := readN_cell hr 0 _ rfl
  have h1 := readN_cell hr 1 _ rfl
  have h2 := readN_cell hr 2 _ rfl
  rw [Nat.add_zero] at h0
  exact ⟨b, off, ha, hr, h0, h1, h2⟩
/-- A table in memory. -/
structure IsTb (h : Heap) (p bl bn : Nat) (ls ns : List L2) : Prop where
  blk : Has h p (.cells #[.map (some bl), .map (some bn)] 73)
  lim : MapT pV iV h bl ls
  net : MapT pV iV h bn ns
  ne : bl ≠ bn
section
variable {h h' : Heap} {p bl bn : Nat} {ls ns : List L2}
theorem IsTb.ext (hb : IsTb h p bl bn ls ns) (hx : Ext h h') : IsTb h' p bl bn ls ns := ⟨hb.blk.ext hx, hb.lim.ext hx, hb.net.ext hx, hb.ne⟩
theorem lkP {h : Heap} {b : Nat} {l : List L2} (hm : MapT pV iV h b l) (q : PK) : GL.lookv Try.prog 71 (.map (some b)) (pV q) false h = some (iV (lk l q)) := by
  rw [hm.lookv (z := 0) ktP Try.underlying71 zr2 q false]; rfl
theorem lkS {h : Heap} {b : Nat} {l : List (ByteArray × Int)} (hm : MapT Value.string iV h b l) (q : ByteArray) : GL.lookv Try.prog 97 (.map (some b)) (.string q) false h = some (iV (lk l q)) := by
  rw [hm.lookv (z := 0) ktS Try.underlying97 zr2 q false]; rfl
end
/-! Comparing. -/
def cmpS (a b : ByteArray) : Int := if sLt a b = true then -1 else if sLt b a = true then 1 else 0
theorem c_isNaN (a : ByteArray) (h : Heap) : HCalls Try.prog 62 #[.string a] h (Pure (.bool false) h) := by
  refine hcalls2 Try.func62 rfl (by decide +kernel) (by simp only [Try.ntmps62]; exact of_decide_eq_true rfl) ?_
  intro e hin
  have e0 := hin 0 _ rfl
  refine hx_seq ?_
  refine hx_region ?_
  refine WL.qq (by simp only [EN, Nat.reduceEqDiff, reduceIte, qv_assign, strEq]; rfl) ?_
  refine WL.nil ?_
  refine th_norm ?_
  refine hx_seq ?_
  refine hx_region ?_
  refine WL.qq (by simp only [EN, Nat.reduceEqDiff, reduceIte, qv_move, e0, strEq]; rfl) ?_
  refine WL.qq (by simp only [EN, Nat.reduceEqDiff, reduceIte, qv_move, e0, strEq]; rfl) ?_
  refine WL.qq (by simp only [EN, Nat.reduceEqDiff, reduceIte, qv_binOp, binv_neq, eq9, Option.map_some, strEq]; rfl) ?_
  refine WL.qq (by simp only [EN, Nat.reduceEqDiff, reduceIte, qv_assign, strEq]; rfl) ?_
  refine WL.nil ?_
  refine th_norm ?_
  refine hx_ret ?_
  refine fin_ret [.tmp 2] rfl rfl (by simp only [EN, Nat.reduceEqDiff, reduceIte, resv, e0, strEq]; rfl) ?_  -- ret 0 r1
  exact ⟨by simp [retOf], rfl⟩
theorem c_cmpS (a b : ByteArray) (h : Heap) : HCalls Try.prog 44 #[.string a, .string b] h (Pure (iV (cmpS a b)) h) := by
  refine hcalls2 Try.func44 rfl (by decide +kernel) (by simp only [Try.ntmps44]; exact of_decide_eq_true rfl) ?_
  intro e hin
  have e0 := hin 0 _ rfl
  have e1 := hin 1 _ rfl
  refine hx_seq ?_
  refine hx_region ?_
  refine WL.qq (by simp only [EN, Nat.reduceEqDiff, reduceIte, qv_assign]; rfl) ?_
  refine WL.nil ?_
  refine th_norm ?_
  refine hx_seq ?_
  refine hx_region ?_
  refine WL.qq (by simp only [EN, Nat.reduceEqDiff, reduceIte, qv_move, e0]; rfl) ?_
  refine WL.ck Try.call62 (by simp only [EN, Nat.reduceEqDiff, reduceIte, AR]; exact c_isNaN _ _) ?_
  refine WL.qq (by simp only [EN, Nat.reduceEqDiff, reduceIte, qv_assign]; rfl) ?_
  refine WL.nil ?_
  refine th_norm ?_
  refine hx_seq ?_
  refine hx_region ?_
  refine WL.qq (by simp only [EN, Nat.reduceEqDiff, reduceIte, qv_move, e1]; rfl) ?_
  refine WL.ck Try.call62 (by simp only [EN, Nat.reduceEqDiff, reduceIte, AR]; exact c_isNaN _ _) ?_
  refine WL.qq (by simp only [EN, Nat.reduceEqDiff, reduceIte, qv_assign]; rfl) ?_
  refine WL.nil ?_
  refine th_norm ?_
  refine hx_seq ?_
  refine hx_seq ?_
  refine hx_region ?_
  refine WL.qq (by simp only [EN, Nat.reduceEqDiff, reduceIte, qv_move]; rfl) ?_
  refine WL.nil ?_
  refine th_norm ?_
  refine hx_cond (by simp only [EN, Nat.reduceEqDiff, reduceIte]; rfl) (fun hct11 => ?_) (fun hct11 => ?_)
  ·
    simp at hct11
  ·
    try simp only [BD] at hct11
    refine hx_skip ?_
    refine th_norm ?_
    refine hx_seq ?_
    refine hx_seq ?_
    refine hx_region ?_
    refine WL.qq (by simp only [EN, Nat.reduceEqDiff, reduceIte, qv_move]; rfl) ?_
    refine WL.nil ?_
    refine th_norm ?_
    refine hx_cond (by simp only [EN, Nat.reduceEqDiff, reduceIte]; rfl) (fun hct13 => ?_) (fun hct13 => ?_)
    ·
      simp at hct13
    ·
      try simp only [BD] at hct13
      refine hx_skip ?_
      refine th_norm ?_
      refine hx_seq ?_
      refine hx_seq ?_
      refine hx_region ?_
      refine WL.qq (by simp only [EN, Nat.reduceEqDiff, reduceIte, qv_move, e0]; rfl) ?_
      refine WL.qq (by simp only [EN, Nat.reduceEqDiff, reduceIte, qv_move, e1]; rfl) ?_
      refine WL.qq (by simp only [EN, Nat.reduceEqDiff, reduceIte, e0, e1, qv_binOp, binv_lssS]; rfl) ?_
      refine WL.nil ?_
      refine th_norm ?_
      refine hx_cond (by simp only [EN, Nat.reduceEqDiff, reduceIte]; rfl) (fun hct16 => ?_) (fun hct16 => ?_)
      ·
        try simp only [BD] at hct16
        refine hx_seq ?_
        refine hx_region ?_
        refine WL.qq (by simp only [EN, Nat.reduceEqDiff, reduceIte, qv_assign]; rfl) ?_
        refine WL.nil ?_
        refine th_norm ?_
        refine hx_ret ?_
        refine th_ret ?_
        refine fin_ret [.tmp 4] rfl rfl (by simp only [EN, Nat.reduceEqDiff, reduceIte, resv, e0, e1]; rfl) ?_  -- ret 0 r10
        exact ⟨by simp [retOf, cmpS, hct16], rfl⟩
      ·
        try simp only [BD] at hct16
        refine hx_skip ?_
        refine th_norm ?_
        refine hx_seq ?_
        refine hx_seq ?_
        refine hx_region ?_
        refine WL.qq (by simp only [EN, Nat.reduceEqDiff, reduceIte, qv_move, e0]; rfl) ?_
        refine WL.qq (by simp only [EN, Nat.reduceEqDiff, reduceIte, qv_move, e1]; rfl) ?_
        refine WL.qq (by simp only [EN, Nat.reduceEqDiff, reduceIte, e0, e1, qv_binOp, binv_gtrS]; rfl) ?_
        refine WL.nil ?_
        refine th_norm ?_
        refine hx_cond (by simp only [EN, Nat.reduceEqDiff, reduceIte]; rfl) (fun hct19 => ?_) (fun hct19 => ?_)
        ·
          try simp only [BD] at hct19
          refine hx_seq ?_
          refine hx_region ?_
          refine WL.qq (by simp only [EN, Nat.reduceEqDiff, reduceIte, qv_assign]; rfl) ?_
          refine WL.nil ?_
          refine th_norm ?_
          refine hx_ret ?_
          refine th_ret ?_
          refine fin_ret [.tmp 4] rfl rfl (by simp only [EN, Nat.reduceEqDiff, reduceIte, resv, e0, e1]; rfl) ?_  -- ret 1 r12
          exact ⟨by simp [retOf, cmpS, hct16, hct19], rfl⟩
        ·
          try simp only [BD] at hct19
          refine hx_skip ?_
          refine th_norm ?_
          refine hx_seq ?_
          refine hx_region ?_
          refine WL.qq (by simp only [EN, Nat.reduceEqDiff, reduceIte, qv_assign]; rfl) ?_
          refine WL.nil ?_
          refine th_norm ?_
          refine hx_ret ?_
          refine fin_ret [.tmp 4] rfl rfl (by simp only [EN, Nat.reduceEqDiff, reduceIte, resv, e0, e1]; rfl) ?_  -- ret 2 r13
          exact ⟨by simp [retOf, cmpS, hct16, hct19], rfl⟩
/-- The first number that is not 0. -/
def orI : List Int → Int
  | [] => 0
  | x :: l => if x = 0 then orI l else x
theorem orI_drop {l : List Int} {i : Nat} {x : Int} (hx : l[i]? = some x) : orI (l.drop i) = if x = 0 then orI (l.drop (i + 1)) else x := by
  rw [drop_atG hx]; rfl
theorem c_orI (a : Option Addr) (l : List Int) (cap : Nat) (hl : l.length ≤ 1000000) {h : Heap} (hs : SlG 1 intL h a l) :
    HCalls Try.prog 43 #[.slice a l.length cap] h (Pure (iV (orI l)) h) := by
  refine hcalls2 Try.func43 rfl (by decide +kernel) (by simp only [Try.ntmps43]; exact of_decide_eq_true rfl) ?_
  intro e hin
  have e0 := hin 0 _ rfl
  refine hx_seq ?_
  refine hx_region ?_
  refine WL.qq (by simp only [EN, Nat.reduceEqDiff, reduceIte, qv_assign]; rfl) ?_
  refine WL.nil ?_
  refine th_norm ?_
  refine hx_seq ?_
  refine hx_region ?_
  refine WL.qq (by simp only [EN, Nat.reduceEqDiff, reduceIte, qv_assign]; rfl) ?_
  refine WL.nil ?_
  refine th_norm ?_
  refine hx_seq ?_
  refine hx_seq ?_
  refine hx_region ?_
  refine WL.qq (by simp only [EN, Nat.reduceEqDiff, reduceIte, qv_move, e0]; rfl) ?_
  refine WL.qq (by simp only [EN, Nat.reduceEqDiff, reduceIte, qv_len, ln108, AR]; rfl) ?_
  refine WL.qq (by simp only [EN, Nat.reduceEqDiff, reduceIte, qv_move]; rfl) ?_
  refine WL.nil ?_
  refine th_norm ?_
  refine hx_block ?_
  refine hx_loopS [2, 5, 8, 9, 10, 11, 12, 13, 14, 15, 16] (fun k e => ∃ (i : Nat), l.length - i = k ∧ (i ≤ l.length) ∧ (orI (l.drop i) = orI l) ∧ e 8 = .int .i64 i) _ ⟨0, rfl, ?_, ?_, ?_⟩ ?_
  · omega
  · rfl
  · simp only [EN, Nat.reduceEqDiff, reduceIte, e0] <;> rfl
  ·
    rintro k e0L hfr0 ⟨i, rfl, hi, hr, i8_0⟩
    have k3_0 := hfr0 3 rfl; try simp only [EN, Nat.reduceEqDiff, reduceIte] at k3_0
    have k6_0 := hfr0 6 rfl; try simp only [EN, Nat.reduceEqDiff, reduceIte] at k6_0
    have k7_0 := hfr0 7 rfl; try simp only [EN, Nat.reduceEqDiff, reduceIte] at k7_0
    refine hx_seq ?_
    refine hx_region ?_
    refine WL.qq (by simp only [EN, Nat.reduceEqDiff, reduceIte, qv_binOp, binv_lss, k7_0, i8_0]; rfl) ?_
    refine WL.nil ?_
    refine th_norm ?_
    refine hx_seq ?_
    refine hx_cond (by simp only [EN, Nat.reduceEqDiff, reduceIte]; rfl) (fun hct9 => ?_) (fun hct9 => ?_)
    ·
      try simp only [BD] at hct9
      obtain ⟨x, hx⟩ := atG (l := l) (i := i) (by omega)
      obtain ⟨b, off, rfl, hr0⟩ := hs i x hx
      have hc0 := readN_cell hr0 0 _ rfl
      rw [Nat.add_zero, Nat.mul_one] at hc0
      refine hx_skip ?_
      refine th_norm ?_
      refine hx_seq ?_
      refine hx_block ?_
      refine hx_seq ?_
      refine hx_region ?_
      refine WL.qq (by simp only [EN, Nat.reduceEqDiff, reduceIte, qv_indexAddr, k6_0, i8_0]; (try simp (disch := omega) only [ix108, Int.toNat_natCast]); rfl) ?_
      refine WL.qq (by simp only [EN, Nat.reduceEqDiff, reduceIte, k3_0, k6_0, k7_0, i8_0, qv_load, ld3, Int.toNat_natCast, hc0]; rfl) ?_
      refine WL.qq (by simp only [EN, Nat.reduceEqDiff, reduceIte, qv_assign]; rfl) ?_
      refine WL.nil ?_
      refine th_norm ?_
      refine hx_seq ?_
      refine hx_region ?_
      refine WL.qq (by simp only [EN, Nat.reduceEqDiff, reduceIte, qv_move]; rfl) ?_
      refine WL.qq (by simp only [EN, Nat.reduceEqDiff, reduceIte, qv_move, k3_0]; rfl) ?_
      refine WL.qq (by simp only [EN, Nat.reduceEqDiff, reduceIte, qv_binOp, binv_neq, eq3, Option.map_some]; rfl) ?_
      refine WL.nil ?_
      refine th_norm ?_
      refine hx_cond (by simp only [EN, Nat.reduceEqDiff, reduceIte]; rfl) (fun hct14 => ?_) (fun hct14 => ?_)
      ·
        try simp only [BD] at hct14
        refine hx_seq ?_
        refine hx_region ?_
        refine WL.qq (by simp only [EN, Nat.reduceEqDiff, reduceIte, qv_move]; rfl) ?_
        refine WL.qq (by simp only [EN, Nat.reduceEqDiff, reduceIte, qv_assign]; rfl) ?_
        refine WL.nil ?_
        refine th_norm ?_
        refine hx_ret ?_
        refine bl_ret ?_
        refine th_ret ?_
        refine th_ret ?_
        refine bl_ret ?_
        refine th_ret ?_
        refine fin_ret [.tmp 2] rfl rfl (by simp only [EN, Nat.reduceEqDiff, reduceIte, resv, k3_0, k6_0, k7_0, i8_0]; rfl) ?_  -- ret 0 r6
        exact ⟨by have h9 := hr; rw [orI_drop hx, if_neg (by simpa using hct14)] at h9; rw [← h9]; rfl, rfl⟩
      ·
        try simp only [BD] at hct14
        refine hx_skip ?_
        refine bl_norm ?_
        refine th_norm ?_
        refine hx_region ?_
        refine WL.qq (by simp only [EN, Nat.reduceEqDiff, reduceIte, qv_binOp, binv_add, i8_0]; (try simp (disch := omega) only [w64, w8, wu64]); rfl) ?_
        refine WL.qq (by simp only [EN, Nat.reduceEqDiff, reduceIte, qv_move]; rfl) ?_
        refine WL.nil ?_
        refine th_norm ?_
        refine ⟨rfl, rfl, ?_, _, ?_, i + 1, rfl, ?_, ?_, ?_⟩  -- again 0 of loop 0
        · (repeat (first | exact Fr.refl _ _ | refine Fr.set rfl ?_ | refine Fr.put rfl ?_ | with_reducible refine Fr.put0 ?_))
        · omega
        · omega
        · rw [← hr, orI_drop hx, if_pos (by simpa using hct14)]
        · simp only [EN, Nat.reduceEqDiff, reduceIte, k3_0, k6_0, k7_0, i8_0] <;> first | rfl | (congr 1; omega)
    ·
      try simp only [BD] at hct9
      refine hx_exit ?_
      refine th_exit ?_
      refine th_exit ?_
      refine bl_hit ?_
      refine th_norm ?_
      refine hx_seq ?_
      refine hx_region ?_
      refine WL.qq (by simp only [EN, Nat.reduceEqDiff, reduceIte, qv_move, k3_0]; rfl) ?_
      refine WL.qq (by simp only [EN, Nat.reduceEqDiff, reduceIte, qv_assign]; rfl) ?_
      refine WL.nil ?_
      refine th_norm ?_
      refine hx_ret ?_
      refine fin_ret [.tmp 2] rfl rfl (by simp only [EN, Nat.reduceEqDiff, reduceIte, resv, k3_0, k6_0, k7_0, i8_0]; rfl) ?_  -- ret 1 r8
      exact ⟨by rw [← hr, List.drop_eq_nil_of_le (by omega)]; rfl, rfl⟩
/-! The small methods. -/
theorem c_new (h : Heap) : HCalls Try.prog 12 #[] h fun v h' => Ext h h' ∧ ∃ p bl bn, v = .pointer (some ⟨p, 0, none⟩) ∧ IsTb h' p bl bn [] [] ∧ h.size ≤ p ∧ h.size ≤ bl ∧ h.size ≤ bn := by
  refine hcalls2 Try.func12 rfl (by decide +kernel) (by simp only [Try.ntmps12]; exact of_decide_eq_true rfl) ?_
  intro e hin
  refine hx_seq ?_
  refine hx_region ?_
  refine WL.qq (by simp only [EN, Nat.reduceEqDiff, reduceIte, qv_assign]; rfl) ?_
  refine WL.nil ?_
  refine th_norm ?_
  refine hx_seq ?_
  refine hx_region ?_
  refine WL.makeMap2 ?_
  intro h1 B1 hx1 hlt1 hB1
  have hl1 := (Array.getElem?_eq_some_iff.1 hB1).1
  refine WL.makeMap2 ?_
  intro h2 B2 hx2 hlt2 hB2
  replace hB1 := hB1.ext hx2
  refine WL.qq (by refine qv_bld (by simp only [EN, Nat.reduceEqDiff, reduceIte, AR] <;> rfl) (by rw [bl73]; simp [Instr.fill, Value.cells]; rfl)) ?_
  have hs1 := hx1.size; have hs2 := hx2.size
  refine WL.box2 (by simp only [EN, Nat.reduceEqDiff, reduceIte, Value.cells]; rfl) ?_
  intro h3 B3 hx3 hlt3 hB3
  replace hB1 := hB1.ext hx3
  replace hB2 := hB2.ext hx3
  refine WL.qq (by simp only [EN, Nat.reduceEqDiff, reduceIte, qv_assign, hB3.cell]; rfl) ?_
  refine WL.nil ?_
  refine th_norm ?_
  refine hx_ret ?_
  refine fin_ret [.tmp 0] rfl rfl (by simp only [EN, Nat.reduceEqDiff, reduceIte, resv, hB3.cell]; rfl) ?_  -- ret 0 r1
  exact ⟨((hx1).trans ((hx2).trans (hx3))), _, _, _, rfl, ⟨hB3, MapT.new hB1, MapT.new hB2, by omega⟩, by omega, by omega, by omega⟩
section
variable {h h' : Heap} {p bl bn : Nat} {ls ns : List L2}
theorem c_Net (a b : ByteArray) (hb : IsTb h p bl bn ls ns) : HCalls Try.prog 20 #[.pointer (some ⟨p, 0, none⟩), .string a, .string b] h (Pure (iV (lk ns ⟨a, b⟩)) h) := by
  refine hcalls2 Try.func20 rfl (by decide +kernel) (by simp only [Try.ntmps20]; exact of_decide_eq_true rfl) ?_
  intro e hin
  have e0 := hin 0 _ rfl
  have e1 := hin 1 _ rfl
  have e2 := hin 2 _ rfl
  refine hx_seq ?_
  refine hx_region ?_
  refine WL.qq (by simp only [EN, Nat.reduceEqDiff, reduceIte, qv_assign, hb.blk.cell]; rfl) ?_
  refine WL.nil ?_
  refine th_norm ?_
  refine hx_seq ?_
  refine hx_seq ?_
  refine hx_region ?_
  refine WL.qq (by simp only [EN, Nat.reduceEqDiff, reduceIte, qv_move, e0, hb.blk.cell]; rfl) ?_
  refine WL.qq (by simp only [EN, Nat.reduceEqDiff, reduceIte, qv_binOp, binv_eql, eqz24, eqn24, eqm24, Option.map_some, hb.blk.cell]; rfl) ?_
  refine WL.nil ?_
  refine th_norm ?_
  refine hx_cond (by simp only [EN, Nat.reduceEqDiff, reduceIte, hb.blk.cell]; rfl) (fun hct8 => ?_) (fun hct8 => ?_)
  ·
    simp at hct8
  ·
    try simp only [BD] at hct8
    refine hx_skip ?_
    refine th_norm ?_
    refine hx_seq ?_
    refine hx_region ?_
    refine WL.qq (by simp only [EN, Nat.reduceEqDiff, reduceIte, qv_move, e0, hb.blk.cell]; rfl) ?_
    refine WL.qq (by simp only [EN, Nat.reduceEqDiff, reduceIte, qv_nilCheck, hb.blk.cell]; rfl) ?_
    refine WL.qq (by simp only [EN, Nat.reduceEqDiff, reduceIte, qv_fieldAddr, fa73_1, Nat.zero_add, Nat.reduceAdd, hb.blk.cell]; rfl) ?_
    refine WL.qq (by simp only [EN, Nat.reduceEqDiff, reduceIte, qv_load, ld71, readN, AR, Nat.zero_add, Nat.reduceAdd, hb.blk.cell]; rfl) ?_
    refine WL.qq (by simp only [EN, Nat.reduceEqDiff, reduceIte, qv_move, e1, hb.blk.cell]; rfl) ?_
    refine WL.qq (by simp only [EN, Nat.reduceEqDiff, reduceIte, qv_move, e2, hb.blk.cell]; rfl) ?_
    refine WL.qq (by refine qv_bld (by simp only [EN, Nat.reduceEqDiff, reduceIte, AR, hb.blk.cell] <;> rfl) (by rw [bl76]; simp [Instr.fill, Value.cells]; rfl)) ?_
    refine WL.qq (by simp only [EN, Nat.reduceEqDiff, reduceIte, e0, e1, e2, hb.blk.cell, qv_lookup]; exact lkP hb.net ⟨a, b⟩) ?_
    refine WL.qq (by simp only [EN, Nat.reduceEqDiff, reduceIte, qv_assign, hb.blk.cell]; rfl) ?_
    refine WL.nil ?_
    refine th_norm ?_
    refine hx_ret ?_
    refine fin_ret [.tmp 6] rfl rfl (by simp only [EN, Nat.reduceEqDiff, reduceIte, resv, e0, e1, e2, hb.blk.cell]; rfl) ?_  -- ret 0 r3
    exact ⟨rfl, rfl⟩
/-- What a member has paid by an entry. -/
def outV (a : ByteArray) (x : L2) : Int := if x.1.f = a then x.2 else 0
def outW (ns : List L2) (a : ByteArray) : Int := IntKind.i64.wrap (sumF (outV a) ns)
theorem c_outflow (a : ByteArray) {b : Nat} {l : List L2} (hm : MapT pV iV h b l) : HCalls Try.prog 38 #[.map (some b), .string a] h (Grow (iV (outW l a)) h) := by
  refine hcalls2 Try.func38 rfl (by decide +kernel) (by simp only [Try.ntmps38]; exact of_decide_eq_true rfl) ?_
  intro e hin
  have e0 := hin 0 _ rfl
  have e1 := hin 1 _ rfl
  refine hx_seq ?_
  refine hx_region ?_
  refine WL.qq (by simp only [EN, Nat.reduceEqDiff, reduceIte, qv_assign, strEq]; rfl) ?_
  refine WL.nil ?_
  refine th_norm ?_
  refine hx_seq ?_
  refine hx_region ?_
  refine WL.qq (by simp only [EN, Nat.reduceEqDiff, reduceIte, qv_assign, strEq]; rfl) ?_
  refine WL.nil ?_
  refine th_norm ?_
  refine hx_seq ?_
  refine hx_seq ?_
  refine hx_region ?_
  refine WL.qq (by simp only [EN, Nat.reduceEqDiff, reduceIte, qv_move, e0, strEq]; rfl) ?_
  refine WL.ef _ (e_range Try.underlying71 hm (by simp only [EN, Nat.reduceEqDiff, reduceIte, e0, e1, strEq])) ?_
  rintro _ h50 ⟨it, rfl, hit, hx50, hsz50, hI⟩
  simp only [put_some]
  refine WL.nil ?_
  refine th_norm ?_
  refine hx_block ?_
  refine hx_loopG [5, 6, 7, 10, 11, 12, 13, 14, 15, 16, 17, 18, 19, 20, 21] (fun k e hL0 => ∃ (left : List L2), left.length = k ∧ (Ext h hL0) ∧ (IterT pV iV hL0 it b l left) ∧ e 5 = iV (IntKind.i64.wrap (sumF (outV a) l - sumF (outV a) left))) _ ⟨l, rfl, ?_, ?_, ?_⟩ ?_
  · exact hx50
  · exact hI
  · simp only [EN, Nat.reduceEqDiff, reduceIte, e0, e1, strEq] <;> rw [Int.sub_self]; rfl
  ·
    rintro k e0L hL0 hfr0 ⟨left, rfl, hE, hI, i5_0⟩
    have k1_0 := hfr0 1 rfl; try simp only [EN, Nat.reduceEqDiff, reduceIte, e1, strEq] at k1_0
    have k9_0 := hfr0 9 rfl; try simp only [EN, Nat.reduceEqDiff, reduceIte, strEq] at k9_0
    refine hx_seq ?_
    refine hx_region ?_
    refine WL.ef _ (e_next2 ktP hI (by simp only [EN, Nat.reduceEqDiff, reduceIte, k1_0, k9_0, i5_0, strEq])) ?_
    rintro _ h51 ⟨bb1, vs1, rfl, hv1, hst1, hT1, hF1⟩
    simp only [put_some]
    replace hE := ext_step hE hst1 (by rw [hit]; exact Nat.le_refl _)
    refine WL.qq (by simp only [EN, Nat.reduceEqDiff, reduceIte, k1_0, k9_0, i5_0, strEq, qv_extract, hv1]; rfl) ?_
    refine WL.nil ?_
    refine th_norm ?_
    refine hx_seq ?_
    refine hx_cond (by simp only [EN, Nat.reduceEqDiff, reduceIte, strEq]; rfl) (fun hct11 => ?_) (fun hct11 => ?_)
    ·
      try simp only [BD] at hct11
      obtain ⟨q1, left', hp1, hS⟩ := hT1 hct11; have hlen1 := hp1.length_eq; rw [List.length_cons] at hlen1; have hsm := sumF_perm (f := outV a) hp1; simp only [sumF] at hsm
      refine hx_skip ?_
      refine th_norm ?_
      refine hx_block ?_
      refine hx_seq ?_
      refine hx_region ?_
      refine WL.ef _ (e_entry hS (by simp only [EN, Nat.reduceEqDiff, reduceIte, k1_0, k9_0, i5_0, strEq])) ?_
      rintro _ hX ⟨rfl, hq1x⟩
      obtain rfl : h51 = hX := hq1x.symm
      simp only [put_some]
      refine WL.qq (by simp only [EN, Nat.reduceEqDiff, reduceIte, qv_extract, AR, strEq]; rfl) ?_
      refine WL.qq (by simp only [EN, Nat.reduceEqDiff, reduceIte, qv_extract, AR, strEq]; rfl) ?_
      refine WL.allocSt zr76 sz76 (fun u => by simp only [EN, Nat.reduceEqDiff, reduceIte, Value.cells, strEq]; rfl) ⟨rfl, rfl⟩ (by simp [Value.oneCell']) ?_
      intro h1 B1 hx1 hlt1 hB1
      replace hE := hE.ext hx1
      replace hS := hS.ext hx1
      refine WL.qq (by simp only [EN, Nat.reduceEqDiff, reduceIte, qv_assign, strEq, hB1.cell]; rfl) ?_
      refine WL.nil ?_
      refine th_norm ?_
      refine hx_seq ?_
      refine hx_region ?_
      refine WL.qq (by simp only [EN, Nat.reduceEqDiff, reduceIte, qv_fieldAddr, fa76_0, Nat.zero_add, Nat.reduceAdd, strEq, hB1.cell]; rfl) ?_
      refine WL.qq (by simp only [EN, Nat.reduceEqDiff, reduceIte, qv_load, ld9, readN, AR, Nat.zero_add, Nat.reduceAdd, strEq, hB1.cell]; rfl) ?_
      refine WL.qq (by simp only [EN, Nat.reduceEqDiff, reduceIte, qv_move, k1_0, strEq, hB1.cell]; rfl) ?_
      refine WL.qq (by simp only [EN, Nat.reduceEqDiff, reduceIte, qv_binOp, binv_eql, eq9, Option.map_some, strEq, hB1.cell]; rfl) ?_
      refine WL.nil ?_
      refine th_norm ?_
      refine hx_cond (by simp only [EN, Nat.reduceEqDiff, reduceIte, strEq, hB1.cell]; rfl) (fun hct18 => ?_) (fun hct18 => ?_)
      ·
        try simp only [BD] at hct18
        refine hx_region ?_
        refine WL.qq (by simp only [EN, Nat.reduceEqDiff, reduceIte, qv_move, i5_0, strEq, hB1.cell]; rfl) ?_
        refine WL.qq (by simp only [EN, Nat.reduceEqDiff, reduceIte, qv_move, strEq, hB1.cell]; rfl) ?_
        refine WL.qq (by simp only [EN, Nat.reduceEqDiff, reduceIte, k1_0, k9_0, i5_0, strEq, hB1.cell, qv_binOp, binv_add]; rfl) ?_
        refine WL.qq (by simp only [EN, Nat.reduceEqDiff, reduceIte, qv_assign, strEq, hB1.cell]; rfl) ?_
        refine WL.nil ?_
        refine bl_norm ?_
        refine th_norm ?_
        refine ⟨rfl, ?_, _, ?_, left', rfl, ?_, ?_, ?_⟩  -- again 0 of loop 0
        · (repeat (first | exact Fr.refl _ _ | refine Fr.set rfl ?_ | refine Fr.put rfl ?_ | with_reducible refine Fr.put0 ?_))
        · omega
        · exact hE
        · exact hS.iter
        · simp only [EN, Nat.reduceEqDiff, reduceIte, k1_0, k9_0, i5_0, strEq, hB1.cell] <;> first | (rw [wrap_add_l, hsm, show outV a q1 = q1.2 from if_pos (by simpa using hct18)]; congr 2; omega) | (rw [hsm, show outV a q1 = 0 from if_neg (by simpa using hct18)]; congr 2; omega)
      ·
        try simp only [BD] at hct18
        refine hx_skip ?_
        refine bl_norm ?_
        refine th_norm ?_
        refine ⟨rfl, ?_, _, ?_, left', rfl, ?_, ?_, ?_⟩  -- again 1 of loop 0
        · (repeat (first | exact Fr.refl _ _ | refine Fr.set rfl ?_ | refine Fr.put rfl ?_ | with_reducible refine Fr.put0 ?_))
        · omega
        · exact hE
        · exact hS.iter
        · simp only [EN, Nat.reduceEqDiff, reduceIte, k1_0, k9_0, i5_0, strEq, hB1.cell] <;> first | (rw [wrap_add_l, hsm, show outV a q1 = q1.2 from if_pos (by simpa using hct18)]; congr 2; omega) | (rw [hsm, show outV a q1 = 0 from if_neg (by simpa using hct18)]; congr 2; omega)
    ·
      try simp only [BD] at hct11
      obtain ⟨hl0, hmm⟩ := hF1 hct11; subst hl0
      refine hx_exit ?_
      refine th_exit ?_
      refine th_exit ?_
      refine bl_hit ?_
      refine th_norm ?_
      refine hx_seq ?_
      refine hx_region ?_
      refine WL.qq (by simp only [EN, Nat.reduceEqDiff, reduceIte, qv_move, i5_0, strEq]; rfl) ?_
      refine WL.qq (by simp only [EN, Nat.reduceEqDiff, reduceIte, qv_assign, strEq]; rfl) ?_
      refine WL.nil ?_
      refine th_norm ?_
      refine hx_ret ?_
      refine fin_ret [.tmp 4] rfl rfl (by simp only [EN, Nat.reduceEqDiff, reduceIte, resv, k1_0, k9_0, i5_0, strEq]; rfl) ?_  -- ret 0 r7
      exact ⟨by simp [retOf, outW, sumF], hE⟩
theorem c_Outflow (a : ByteArray) (hb : IsTb h p bl bn ls ns) : HCalls Try.prog 21 #[.pointer (some ⟨p, 0, none⟩), .string a] h (Grow (iV (outW ns a)) h) := by
  refine hcalls2 Try.func21 rfl (by decide +kernel) (by simp only [Try.ntmps21]; exact of_decide_eq_true rfl) ?_
  intro e hin
  have e0 := hin 0 _ rfl
  have e1 := hin 1 _ rfl
  refine hx_seq ?_
  refine hx_region ?_
  refine WL.qq (by simp only [EN, Nat.reduceEqDiff, reduceIte, qv_assign, hb.blk.cell]; rfl) ?_
  refine WL.nil ?_
  refine th_norm ?_
  refine hx_seq ?_
  refine hx_seq ?_
  refine hx_region ?_
  refine WL.qq (by simp only [EN, Nat.reduceEqDiff, reduceIte, qv_move, e0, hb.blk.cell]; rfl) ?_
  refine WL.qq (by simp only [EN, Nat.reduceEqDiff, reduceIte, qv_binOp, binv_eql, eqz24, eqn24, eqm24, Option.map_some, hb.blk.cell]; rfl) ?_
  refine WL.nil ?_
  refine th_norm ?_
  refine hx_cond (by simp only [EN, Nat.reduceEqDiff, reduceIte, hb.blk.cell]; rfl) (fun hct6 => ?_) (fun hct6 => ?_)
  ·
    simp at hct6
  ·
    try simp only [BD] at hct6
    refine hx_skip ?_
    refine th_norm ?_
    refine hx_seq ?_
    refine hx_region ?_
    refine WL.qq (by simp only [EN, Nat.reduceEqDiff, reduceIte, qv_move, e0, hb.blk.cell]; rfl) ?_
    refine WL.qq (by simp only [EN, Nat.reduceEqDiff, reduceIte, qv_nilCheck, hb.blk.cell]; rfl) ?_
    refine WL.qq (by simp only [EN, Nat.reduceEqDiff, reduceIte, qv_fieldAddr, fa73_1, Nat.zero_add, Nat.reduceAdd, hb.blk.cell]; rfl) ?_
    refine WL.qq (by simp only [EN, Nat.reduceEqDiff, reduceIte, qv_load, ld71, readN, AR, Nat.zero_add, Nat.reduceAdd, hb.blk.cell]; rfl) ?_
    refine WL.qq (by simp only [EN, Nat.reduceEqDiff, reduceIte, qv_move, e1, hb.blk.cell]; rfl) ?_
    refine WL.cg Try.call38 (by simp only [EN, Nat.reduceEqDiff, reduceIte, AR, hb.blk.cell]; exact c_outflow a hb.net) ?_
    intro h1 hx1
    refine WL.qq (by simp only [EN, Nat.reduceEqDiff, reduceIte, qv_assign, hb.blk.cell]; rfl) ?_
    refine WL.nil ?_
    refine th_norm ?_
    refine hx_ret ?_
    refine fin_ret [.tmp 4] rfl rfl (by simp only [EN, Nat.reduceEqDiff, reduceIte, resv, e0, e1, hb.blk.cell]; rfl) ?_  -- ret 0 r3
    exact ⟨rfl, (hx1)⟩
theorem c_mapsClone {b : Nat} {l : List L2} (hm : MapT pV iV h b l) :
    HCalls Try.prog 39 #[.map (some b)] h fun v h' => v = .map (some h.size) ∧ Ext h h' ∧ MapT pV iV h' h.size l := by
  refine hcalls2 Try.func39 rfl (by decide +kernel) (by simp only [Try.ntmps39]; exact of_decide_eq_true rfl) ?_
  intro e hin
  have e0 := hin 0 _ rfl
  refine hx_seq ?_
  refine hx_region ?_
  refine WL.qq (by simp only [EN, Nat.reduceEqDiff, reduceIte, qv_assign]; rfl) ?_
  refine WL.nil ?_
  refine th_norm ?_
  refine hx_seq ?_
  refine hx_seq ?_
  refine hx_region ?_
  refine WL.qq (by simp only [EN, Nat.reduceEqDiff, reduceIte, qv_move, e0]; rfl) ?_
  refine WL.qq (by simp only [EN, Nat.reduceEqDiff, reduceIte, qv_binOp, binv_eql, eqz71, eqn71, Option.map_some]; rfl) ?_
  refine WL.nil ?_
  refine th_norm ?_
  refine hx_cond (by simp only [EN, Nat.reduceEqDiff, reduceIte]; rfl) (fun hct4 => ?_) (fun hct4 => ?_)
  ·
    cases hct4
  ·
    try simp only [BD] at hct4
    refine hx_skip ?_
    refine th_norm ?_
    refine hx_seq ?_
    refine hx_region ?_
    refine WL.qq (by simp only [EN, Nat.reduceEqDiff, reduceIte, qv_move, e0]; rfl) ?_
    refine WL.qq (by exact qv_mkI (by kernel_rfl)) ?_
    refine WL.ef _ (e_mapsClone (run_callFunc_extern Try.func59 (by kernel_rfl) (by kernel_rfl) (by kernel_rfl) (e := Extern.MapsClone.clone) (by kernel_rfl)) (by simp only [EN, Nat.reduceEqDiff, reduceIte, e0]; rfl) hm) ?_
    rintro _ h1 ⟨rfl, hx1, hB1⟩
    simp only [put_some]
    refine WL.q (q_assertMap Try.underlying71 (by simp only [EN, Nat.reduceEqDiff, reduceIte, e0]; rfl)) ?_
    refine WL.qq (by simp only [EN, Nat.reduceEqDiff, reduceIte, qv_assign]; rfl) ?_
    refine WL.nil ?_
    refine th_norm ?_
    refine hx_ret ?_
    refine fin_ret [.tmp 2] rfl rfl (by simp only [EN, Nat.reduceEqDiff, reduceIte, resv, e0]; rfl) ?_  -- ret 0 r3
    exact ⟨rfl, hx1, hB1⟩
theorem c_mapsEqual {b b' : Nat} {l l' : List L2} (hm : MapT pV iV h b l) (hm' : MapT pV iV h b' l') :
    HCalls Try.prog 40 #[.map (some b), .map (some b')] h (Grow (.bool (decide (mapEq l l'))) h) := by
  refine hcalls2 Try.func40 rfl (by decide +kernel) (by simp only [Try.ntmps40]; exact of_decide_eq_true rfl) ?_
  intro e hin
  have e0 := hin 0 _ rfl
  have e1 := hin 1 _ rfl
  have km := hm; have km' := hm'; have ln := hm.len Try.underlying71; have ln' := hm'.len Try.underlying71
  refine hx_seq ?_
  refine hx_region ?_
  refine WL.qq (by simp only [EN, Nat.reduceEqDiff, reduceIte, qv_assign]; rfl) ?_
  refine WL.nil ?_
  refine th_norm ?_
  refine hx_seq ?_
  refine hx_seq ?_
  refine hx_region ?_
  refine WL.qq (by simp only [EN, Nat.reduceEqDiff, reduceIte, qv_move, e0]; rfl) ?_
  refine WL.qq (by simp only [EN, Nat.reduceEqDiff, reduceIte, e0, e1, qv_len, List.map_toArray, List.map_cons, List.map_nil, List.getElem?_toArray, List.getElem?_cons_zero, ln]; rfl) ?_
  refine WL.qq (by simp only [EN, Nat.reduceEqDiff, reduceIte, qv_move, e1]; rfl) ?_
  refine WL.qq (by simp only [EN, Nat.reduceEqDiff, reduceIte, e0, e1, qv_len, List.map_toArray, List.map_cons, List.map_nil, List.getElem?_toArray, List.getElem?_cons_zero, ln']; rfl) ?_
  refine WL.qq (by simp only [EN, Nat.reduceEqDiff, reduceIte, qv_binOp, binv_neq, eq3, Option.map_some]; rfl) ?_
  refine WL.nil ?_
  refine th_norm ?_
  refine hx_cond (by simp only [EN, Nat.reduceEqDiff, reduceIte]; rfl) (fun hct13 => ?_) (fun hct13 => ?_)
  ·
    try simp only [BD] at hct13
    refine hx_seq ?_
    refine hx_region ?_
    refine WL.qq (by simp only [EN, Nat.reduceEqDiff, reduceIte, qv_assign]; rfl) ?_
    refine WL.nil ?_
    refine th_norm ?_
    refine hx_ret ?_
    refine th_ret ?_
    refine fin_ret [.tmp 4] rfl rfl (by simp only [EN, Nat.reduceEqDiff, reduceIte, resv, e0, e1]; rfl) ?_  -- ret 0 r2
    exact ⟨by have hne : ¬ mapEq l l' := fun hh => hct13 (by rw [hh.1]); simp [retOf, hne], (Ext.refl _)⟩
  ·
    try simp only [BD] at hct13
    have hll : l.length = l'.length := by omega
    refine hx_skip ?_
    refine th_norm ?_
    refine hx_seq ?_
    refine hx_seq ?_
    refine hx_region ?_
    refine WL.qq (by simp only [EN, Nat.reduceEqDiff, reduceIte, qv_move, e0]; rfl) ?_
    refine WL.ef _ (e_range Try.underlying71 hm (by simp only [EN, Nat.reduceEqDiff, reduceIte, e0, e1])) ?_
    rintro _ h50 ⟨it, rfl, hit, hx50, hsz50, hI⟩
    simp only [put_some]
    refine WL.nil ?_
    refine th_norm ?_
    refine hx_block ?_
    refine hx_loopG [4, 5, 6, 7, 8, 16, 17, 18, 19, 20, 21, 22, 23, 24, 25, 26, 27, 28, 29, 30, 31, 32, 33] (fun k e hL0 => ∃ (left : List L2), left.length = k ∧ (Ext h hL0) ∧ (IterT pV iV hL0 it b l left) ∧ (∀ y ∈ left, y ∈ l) ∧ (∀ y ∈ l, y ∈ left ∨ l'.lookup y.1 = some y.2)) _ ⟨l, rfl, ?_, ?_, ?_, ?_⟩ ?_
    · exact hx50
    · exact hI
    · exact fun y hy => hy
    · exact fun y hy => .inl hy
    ·
      rintro k e0L hL0 hfr0 ⟨left, rfl, hE, hI, hsub, hdone⟩
      have k1_0 := hfr0 1 rfl; try simp only [EN, Nat.reduceEqDiff, reduceIte, e1] at k1_0
      have k15_0 := hfr0 15 rfl; try simp only [EN, Nat.reduceEqDiff, reduceIte] at k15_0
      have hm' := km'.ext hE
      refine hx_seq ?_
      refine hx_region ?_
      refine WL.ef _ (e_next2 ktP hI (by simp only [EN, Nat.reduceEqDiff, reduceIte, k1_0, k15_0])) ?_
      rintro _ h51 ⟨bb1, vs1, rfl, hv1, hst1, hT1, hF1⟩
      simp only [put_some]
      replace hE := ext_step hE hst1 (by rw [hit]; exact Nat.le_refl _)
      replace hm' := km'.ext hE
      refine WL.qq (by simp only [EN, Nat.reduceEqDiff, reduceIte, k1_0, k15_0, qv_extract, hv1]; rfl) ?_
      refine WL.nil ?_
      refine th_norm ?_
      refine hx_seq ?_
      refine hx_cond (by simp only [EN, Nat.reduceEqDiff, reduceIte]; rfl) (fun hct17 => ?_) (fun hct17 => ?_)
      ·
        try simp only [BD] at hct17
        obtain ⟨q1, left', hp1, hS⟩ := hT1 hct17; have hlen1 := hp1.length_eq; rw [List.length_cons] at hlen1
        refine hx_skip ?_
        refine th_norm ?_
        refine hx_block ?_
        refine hx_seq ?_
        refine hx_region ?_
        refine WL.ef _ (e_entry hS (by simp only [EN, Nat.reduceEqDiff, reduceIte, k1_0, k15_0])) ?_
        rintro _ hX ⟨rfl, hq1x⟩
        obtain rfl : h51 = hX := hq1x.symm
        simp only [put_some]
        refine WL.qq (by simp only [EN, Nat.reduceEqDiff, reduceIte, qv_extract, AR]; rfl) ?_
        refine WL.qq (by simp only [EN, Nat.reduceEqDiff, reduceIte, qv_extract, AR]; rfl) ?_
        refine WL.allocSt zr76 sz76 (fun u => by simp only [EN, Nat.reduceEqDiff, reduceIte, Value.cells]; rfl) ⟨rfl, rfl⟩ (by simp [Value.oneCell']) ?_
        intro h1 B1 hx1 hlt1 hB1
        replace hE := hE.ext hx1
        replace hS := hS.ext hx1
        replace hm' := hm'.ext hx1
        refine WL.qq (by simp only [EN, Nat.reduceEqDiff, reduceIte, qv_assign, hB1.cell]; rfl) ?_
        refine WL.nil ?_
        refine th_norm ?_
        refine hx_seq ?_
        refine hx_region ?_
        refine WL.qq (by simp only [EN, Nat.reduceEqDiff, reduceIte, qv_move, k1_0, hB1.cell]; rfl) ?_
        refine WL.qq (by simp only [EN, Nat.reduceEqDiff, reduceIte, qv_load, ld76, readN, AR, Nat.zero_add, Nat.reduceAdd, hB1.cell]; rfl) ?_
        refine WL.qq (by simp only [EN, Nat.reduceEqDiff, reduceIte, k1_0, k15_0, hB1.cell, qv_lookup, hm'.lookv (z := 0) ktP Try.underlying71 zr2 _ true]; rfl) ?_
        refine WL.qq (by simp only [EN, Nat.reduceEqDiff, reduceIte, qv_move, hB1.cell]; rfl) ?_
        refine WL.qq (by simp only [EN, Nat.reduceEqDiff, reduceIte, qv_extract, AR, hB1.cell]; rfl) ?_
        refine WL.qq (by simp only [EN, Nat.reduceEqDiff, reduceIte, qv_extract, AR, hB1.cell]; rfl) ?_
        refine WL.qq (by simp only [EN, Nat.reduceEqDiff, reduceIte, qv_assign, hB1.cell]; rfl) ?_
        refine WL.qq (by simp only [EN, Nat.reduceEqDiff, reduceIte, qv_assign, hB1.cell]; rfl) ?_
        refine WL.nil ?_
        refine th_norm ?_
        refine hx_seq ?_
        refine hx_region ?_
        refine WL.qq (by simp only [EN, Nat.reduceEqDiff, reduceIte, qv_move, hB1.cell]; rfl) ?_
        refine WL.qq (by simp only [EN, Nat.reduceEqDiff, reduceIte, qv_unOp, unv_not, hB1.cell]; rfl) ?_
        refine WL.qq (by simp only [EN, Nat.reduceEqDiff, reduceIte, qv_move, hB1.cell]; rfl) ?_
        refine WL.cq (gd_at (t := 29) rfl (by simp only [EN, Nat.reduceEqDiff, reduceIte, hB1.cell] <;> rfl)) (fun hg7_3 => by simp only [EN, Nat.reduceEqDiff, reduceIte, qv_move, hB1.cell, hg7_3, GR]; rfl) ?_
        refine WL.cq (gd_at (t := 29) rfl (by simp only [EN, Nat.reduceEqDiff, reduceIte, hB1.cell] <;> rfl)) (fun hg7_4 => by simp only [EN, Nat.reduceEqDiff, reduceIte, qv_move, hB1.cell, hg7_4, GR]; rfl) ?_
        refine WL.cq (gd_at (t := 29) rfl (by simp only [EN, Nat.reduceEqDiff, reduceIte, hB1.cell] <;> rfl)) (fun hg7_5 => by simp only [EN, Nat.reduceEqDiff, reduceIte, qv_binOp, binv_neq, eq2, Option.map_some, hB1.cell, hg7_5, GR]; rfl) ?_
        refine WL.qq (by simp only [EN, Nat.reduceEqDiff, reduceIte, qv_pick, pk_and, pk_or, GR, hB1.cell]; rfl) ?_
        refine WL.nil ?_
        refine th_norm ?_
        refine hx_cond (by simp only [EN, Nat.reduceEqDiff, reduceIte, hB1.cell]; rfl) (fun hct33 => ?_) (fun hct33 => ?_)
        ·
          try simp only [BD] at hct33
          refine hx_seq ?_
          refine hx_region ?_
          refine WL.qq (by simp only [EN, Nat.reduceEqDiff, reduceIte, qv_assign, hB1.cell]; rfl) ?_
          refine WL.nil ?_
          refine th_norm ?_
          refine hx_ret ?_
          refine bl_ret ?_
          refine th_ret ?_
          refine bl_ret ?_
          refine th_ret ?_
          refine fin_ret [.tmp 4] rfl rfl (by simp only [EN, Nat.reduceEqDiff, reduceIte, resv, k1_0, k15_0, hB1.cell]; rfl) ?_  -- ret 1 r8
          exact ⟨by have hne : ¬ mapEq l l' := (fun hh => by have h9 := hh.2 q1 (hsub q1 (hp1.mem_iff.2 (by simp))); rw [h9] at hct33; simp at hct33); simp [retOf, hne], hE⟩
        ·
          try simp only [BD] at hct33
          refine hx_skip ?_
          refine bl_norm ?_
          refine th_norm ?_
          refine ⟨rfl, ?_, _, ?_, left', rfl, ?_, ?_, ?_, ?_⟩  -- again 0 of loop 0
          · (repeat (first | exact Fr.refl _ _ | refine Fr.set rfl ?_ | refine Fr.put rfl ?_ | with_reducible refine Fr.put0 ?_))
          · omega
          · exact hE
          · exact hS.iter
          · exact fun y hy => hsub y (hp1.mem_iff.2 (by simp [hy]))
          · exact perm_sub (P := fun y => l'.lookup y.1 = some y.2) hp1 hdone (by cases hq : l'.lookup q1.1 <;> rw [hq] at hct33 <;> simp at hct33; rw [hct33])
      ·
        try simp only [BD] at hct17
        obtain ⟨hl0, hmm⟩ := hF1 hct17; subst hl0
        refine hx_exit ?_
        refine th_exit ?_
        refine th_exit ?_
        refine bl_hit ?_
        refine th_norm ?_
        refine hx_seq ?_
        refine hx_region ?_
        refine WL.qq (by simp only [EN, Nat.reduceEqDiff, reduceIte, qv_assign]; rfl) ?_
        refine WL.nil ?_
        refine th_norm ?_
        refine hx_ret ?_
        refine fin_ret [.tmp 4] rfl rfl (by simp only [EN, Nat.reduceEqDiff, reduceIte, resv, k1_0, k15_0]; rfl) ?_  -- ret 2 r9
        exact ⟨by have he : mapEq l l' := ⟨hll, fun p hp => (hdone p hp).resolve_left (by simp)⟩; simp [retOf, he], hE⟩
theorem c_exceeded (n was is : Int) (h : Heap) : HCalls Try.prog 56 #[iV n, iV was, iV is] h (Pure (.bool (decide (was < is) && decide (n < is))) h) := by
  refine hcalls2 Try.func56 rfl (by decide +kernel) (by simp only [Try.ntmps56]; exact of_decide_eq_true rfl) ?_
  intro e hin
  have e0 := hin 0 _ rfl
  have e1 := hin 1 _ rfl
  have e2 := hin 2 _ rfl
  refine hx_seq ?_
  refine hx_region ?_
  refine WL.qq (by simp only [EN, Nat.reduceEqDiff, reduceIte, qv_assign]; rfl) ?_
  refine WL.nil ?_
  refine th_norm ?_
  refine hx_seq ?_
  refine hx_region ?_
  refine WL.qq (by simp only [EN, Nat.reduceEqDiff, reduceIte, qv_move, e2]; rfl) ?_
  refine WL.qq (by simp only [EN, Nat.reduceEqDiff, reduceIte, qv_move, e1]; rfl) ?_
  refine WL.qq (by simp only [EN, Nat.reduceEqDiff, reduceIte, qv_binOp, binv_gtr]; rfl) ?_
  refine WL.qq (by simp only [EN, Nat.reduceEqDiff, reduceIte, qv_move]; rfl) ?_
  refine WL.cq (gd_at (t := 10) rfl (by simp only [EN, Nat.reduceEqDiff, reduceIte, e2] <;> rfl)) (fun hg1_4 => by simp only [EN, Nat.reduceEqDiff, reduceIte, qv_move, e2, hg1_4, GR]; rfl) ?_
  refine WL.cq (gd_at (t := 10) rfl (by simp only [EN, Nat.reduceEqDiff, reduceIte, e0] <;> rfl)) (fun hg1_5 => by simp only [EN, Nat.reduceEqDiff, reduceIte, qv_move, e0, hg1_5, GR]; rfl) ?_
  refine WL.cq (gd_at (t := 10) rfl (by simp only [EN, Nat.reduceEqDiff, reduceIte] <;> rfl)) (fun hg1_6 => by simp only [EN, Nat.reduceEqDiff, reduceIte, qv_binOp, binv_gtr, hg1_6, GR]; rfl) ?_
  refine WL.qq (by simp only [EN, Nat.reduceEqDiff, reduceIte, qv_pick, pk_and, pk_or, GR]; rfl) ?_
  refine WL.qq (by simp only [EN, Nat.reduceEqDiff, reduceIte, qv_assign]; rfl) ?_
  refine WL.nil ?_
  refine th_norm ?_
  refine hx_ret ?_
  refine fin_ret [.tmp 6] rfl rfl (by simp only [EN, Nat.reduceEqDiff, reduceIte, resv, e0, e1, e2]; rfl) ?_  -- ret 0 r1
  exact ⟨rfl, rfl⟩
def wthn (n : Int) : Bool := decide (-1000000000000000 ≤ n) && decide (n ≤ 1000000000000000)
theorem wthn_iff {n : Int} : wthn n = true ↔ -1000000000000000 ≤ n ∧ n ≤ 1000000000000000 := by simp [wthn]
theorem c_within (n : Int) (h : Heap) : HCalls Try.prog 55 #[iV n] h (Pure (.bool (wthn n)) h) := by
  refine hcalls2 Try.func55 rfl (by decide +kernel) (by simp only [Try.ntmps55]; exact of_decide_eq_true rfl) ?_
  intro e hin
  have e0 := hin 0 _ rfl
  refine hx_seq ?_
  refine hx_region ?_
  refine WL.qq (by simp only [EN, Nat.reduceEqDiff, reduceIte, qv_assign]; rfl) ?_
  refine WL.nil ?_
  refine th_norm ?_
  refine hx_seq ?_
  refine hx_region ?_
  refine WL.qq (by simp only [EN, Nat.reduceEqDiff, reduceIte, qv_move, e0]; rfl) ?_
  refine WL.qq (by simp only [EN, Nat.reduceEqDiff, reduceIte, qv_binOp, binv_geq]; rfl) ?_
  refine WL.qq (by simp only [EN, Nat.reduceEqDiff, reduceIte, qv_move]; rfl) ?_
  refine WL.cq (gd_at (t := 5) rfl (by simp only [EN, Nat.reduceEqDiff, reduceIte, e0] <;> rfl)) (fun hg1_3 => by simp only [EN, Nat.reduceEqDiff, reduceIte, qv_move, e0, hg1_3, GR]; rfl) ?_
  refine WL.cq (gd_at (t := 5) rfl (by simp only [EN, Nat.reduceEqDiff, reduceIte] <;> rfl)) (fun hg1_4 => by simp only [EN, Nat.reduceEqDiff, reduceIte, qv_binOp, binv_leq, hg1_4, GR]; rfl) ?_
  refine WL.qq (by simp only [EN, Nat.reduceEqDiff, reduceIte, qv_pick, pk_and, pk_or, GR]; rfl) ?_
  refine WL.qq (by simp only [EN, Nat.reduceEqDiff, reduceIte, qv_assign]; rfl) ?_
  refine WL.nil ?_
  refine th_norm ?_
  refine hx_ret ?_
  refine fin_ret [.tmp 2] rfl rfl (by simp only [EN, Nat.reduceEqDiff, reduceIte, resv, e0]; rfl) ?_  -- ret 0 r1
  exact ⟨rfl, rfl⟩
end
end GL


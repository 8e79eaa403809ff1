/- Ledger: what a book is in memory; its small methods. -/
import Derived.Test.YtlmealnfkadndaaLedB
set_option linter.unusedSimpArgs false
set_option linter.unusedVariables false
set_option linter.unnecessarySimpa false
namespace GL
open Go Go.Proofs
set_option maxRecDepth 8000
abbrev keyL (q : K2) : List Value := [.int .u8 q.o, .int .u8 q.a]
abbrev gV : Value := .func (.func 43) #[] #[]
theorem kV_inj {a b : K2} (h : kV a = kV b) : a = b := by
  simp [kV] at h
  exact k2_eq.2 h
theorem kt34 : KT Try.prog 34 kV := by
  refine kt_struct Try.underlying34 kV_inj (fun a => ⟨_, rfl, ?_⟩) (fun a b => ?_) (fun a => by simp [kV, Instr.sameBits])
  · intro f hf hn
    simp only [List.mem_cons, List.not_mem_nil, or_false] at hf
    rcases hf with rfl | rfl
    · exact ⟨_, _, (pt5 _ _).trans rfl, Try.underlying5, rfl⟩
    · exact ⟨_, _, (pt5 _ _).trans rfl, Try.underlying5, rfl⟩
  · refine ((eqv_struct Try.underlying34 (by kernel_rfl)).trans (eqFs_c (by decide) ((pt5 _ _).trans rfl) ((pt5 _ _).trans rfl) (eqv_int Try.underlying5) (eqFs_c (by decide) ((pt5 _ _).trans rfl) ((pt5 _ _).trans rfl) (eqv_int Try.underlying5) rfl))).trans ?_
    congr 1
    simp only [Bool.and_true, k2_eq, Bool.decide_and]
theorem kt9 : KT Try.prog 9 Value.string := kt_plain Try.underlying9 (fun a => trivial) (fun h => by cases h; rfl)
/-- A book in memory: its balances ks, its order os. -/
structure BkO (h : Heap) (p bm fm : Nat) (vo : Value) (ks : List E2) (os : List K2) (fs : List E2) (sq : Int) : Prop where
  blk : Has h p (.cells #[gV, .map (some bm), .map (some fm), vo, iV sq] 83)
  bal : MapT kV iV h bm ks
  flo : MapT kV iV h fm fs
  ord : Own h 0 34 2 vo os.length (os.flatMap keyL)
  ne : bm ≠ fm
abbrev IsBk (h : Heap) (p bm fm : Nat) (vo : Value) (ks fs : List E2) (sq : Int) : Prop := BkO h p bm fm vo ks (ks.map Prod.fst) fs sq
theorem BkO.ext {h h' : Heap} {p bm fm : Nat} {vo : Value} {ks fs : List E2} {os : List K2} {sq : Int} (hb : BkO h p bm fm vo ks os fs sq) (hx : Ext h h') : BkO h' p bm fm vo ks os fs sq :=
  ⟨hb.blk.ext hx, hb.bal.ext hx, hb.flo.ext hx, hb.ord.ext hx, hb.ne⟩
theorem BkO.lkb {h : Heap} {p bm fm : Nat} {vo : Value} {ks fs : List E2} {os : List K2} {sq : Int} (hb : BkO h p bm fm vo ks os fs sq) (q : K2) : GL.lookv Try.prog 80 (.map (some bm)) (kV q) false h = some (iV (lk ks q)) := by
  rw [hb.bal.lookv (z := 0) kt34 Try.underlying80 zr2 q false]; rfl
theorem BkO.lkf {h : Heap} {p bm fm : Nat} {vo : Value} {ks fs : List E2} {os : List K2} {sq : Int} (hb : BkO h p bm fm vo ks os fs sq) (q : K2) : GL.lookv Try.prog 80 (.map (some fm)) (kV q) false h = some (iV (lk fs q)) := by
  rw [hb.flo.lookv (z := 0) kt34 Try.underlying80 zr2 q false]; rfl
def grpS (a : Int) : ByteArray := ⟨#[UInt8.ofNat a.toNat]⟩
theorem c_group (q : K2) (h : Heap) : HCalls Try.prog 43 #[kV q] h (Grow (.string (grpS q.a)) h) := by
  refine hcalls2 Try.func43 rfl (by decide +kernel) (by simp only [Try.ntmps43]; exact of_decide_eq_true rfl) ?_
  intro e hin
  have e0 := hin 0 _ rfl
  refine hx_seq ?_
  refine hx_region ?_
  refine WL.box2 (by simp only [EN, Nat.reduceEqDiff, reduceIte, Value.cells, e0]; rfl) ?_
  intro h1 B1 hx1 hlt1 hB1
  refine WL.qq (by simp only [EN, Nat.reduceEqDiff, reduceIte, qv_assign, hB1.cell]; rfl) ?_
  refine WL.nil ?_
  refine th_norm ?_
  refine hx_seq ?_
  refine hx_region ?_
  refine WL.qq (by simp only [EN, Nat.reduceEqDiff, reduceIte, qv_fieldAddr, fa34_1, Nat.zero_add, Nat.reduceAdd, hB1.cell]; rfl) ?_
  refine WL.qq (by simp only [EN, Nat.reduceEqDiff, reduceIte, qv_load, ld5, readN, AR, Nat.zero_add, Nat.reduceAdd, hB1.cell]; rfl) ?_
  refine WL.lit2 #[(.int .u8 0)] Try.underlying35 sz5 zr5 (by decide) (by kernel_rfl) ⟨_, (by simp only [EN, Nat.reduceEqDiff, reduceIte, AR, hB1.cell]; simp [Instr.fill, Value.cells]; rfl), rfl⟩ ?_
  intro h2 B2 hx2 hlt2 hB2
  replace hB1 := hB1.ext hx2
  refine WL.qq (by simp only [EN, Nat.reduceEqDiff, reduceIte, e0, hB1.cell, hB2.cell, qv_convert, convv, Try.underlying35, Try.underlying9, Try.underlying5, GL.readN, hB2.cell]; rfl) ?_
  refine WL.qq (by simp only [EN, Nat.reduceEqDiff, reduceIte, qv_assign, hB1.cell, hB2.cell]; rfl) ?_
  refine WL.nil ?_
  refine th_norm ?_
  refine hx_ret ?_
  refine fin_ret [.tmp 2] rfl rfl (by simp only [EN, Nat.reduceEqDiff, reduceIte, resv, e0, hB1.cell, hB2.cell]; rfl) ?_  -- ret 0 r1
  exact ⟨rfl, ((hx1).trans (hx2))⟩
section
variable {h : Heap} {p bm fm : Nat} {vo : Value} {ks fs : List E2} {sq : Int}
theorem c_bkBal (q : K2) (hb : IsBk h p bm fm vo ks fs sq) : HCalls Try.prog 21 #[.pointer (some ⟨p, 0, none⟩), kV q] h (Grow (iV (lk ks q)) h) := by
  refine hcalls2 Try.func21 rfl (by decide +kernel) (by simp only [Try.ntmps21]; exact of_decide_eq_true rfl) ?_
  intro e hin
  have e0 := hin 0 _ rfl
  have e1 := hin 1 _ rfl
  refine hx_seq ?_
  refine hx_region ?_
  refine WL.box2 (by simp only [EN, Nat.reduceEqDiff, reduceIte, Value.cells, e1, hb.blk.cell]; rfl) ?_
  intro h1 B1 hx1 hlt1 hB1
  replace hb := hb.ext hx1
  refine WL.qq (by simp only [EN, Nat.reduceEqDiff, reduceIte, qv_assign, hb.blk.cell, hB1.cell]; rfl) ?_
  refine WL.nil ?_
  refine th_norm ?_
  refine hx_seq ?_
  refine hx_seq ?_
  refine hx_region ?_
  refine WL.qq (by simp only [EN, Nat.reduceEqDiff, reduceIte, qv_move, e0, hb.blk.cell, hB1.cell]; rfl) ?_
  refine WL.qq (by simp only [EN, Nat.reduceEqDiff, reduceIte, qv_binOp, binv_eql, eqz25, eqn25, eqm25, Option.map_some, hb.blk.cell, hB1.cell]; rfl) ?_
  refine WL.nil ?_
  refine th_norm ?_
  refine hx_cond (by simp only [EN, Nat.reduceEqDiff, reduceIte, e0, e1, hb.blk.cell, hB1.cell]; rfl) (fun hct6 => ?_) (fun hct6 => ?_)
  ·
    simp at hct6
  ·
    try simp only [BD] at hct6
    refine hx_skip ?_
    refine th_norm ?_
    refine hx_seq ?_
    apply hx_draw2 Rel.same [] [] [] rfl (by decide +kernel) rfl
    refine LD.qq rfl rfl (by simp only [EN, Nat.reduceEqDiff, reduceIte, qv_move, e0, hb.blk.cell, hB1.cell]; rfl) ?_
    refine LD.qq rfl rfl (by simp only [EN, Nat.reduceEqDiff, reduceIte, qv_nilCheck, hb.blk.cell, hB1.cell]; rfl) ?_
    refine LD.qq rfl rfl (by simp only [EN, Nat.reduceEqDiff, reduceIte, qv_fieldAddr, fa83_1, Nat.zero_add, Nat.reduceAdd, hb.blk.cell, hB1.cell]; rfl) ?_
    refine LD.qq rfl rfl (by simp only [EN, Nat.reduceEqDiff, reduceIte, qv_load, ld80, readN, AR, Nat.zero_add, Nat.reduceAdd, hb.blk.cell, hB1.cell]; rfl) ?_
    refine LD.qq rfl rfl (by simp only [EN, Nat.reduceEqDiff, reduceIte, qv_load, ld34, readN, AR, Nat.zero_add, Nat.reduceAdd, hb.blk.cell, hB1.cell]; rfl) ?_
    refine LD.qq rfl rfl (by simp only [EN, Nat.reduceEqDiff, reduceIte, e0, e1, hb.blk.cell, hB1.cell, qv_lookup, hb.lkb]; rfl) ?_
    refine LD.qq rfl rfl (by simp only [EN, Nat.reduceEqDiff, reduceIte, qv_assign, hb.blk.cell, hB1.cell]; rfl) ?_
    refine LD.nil ?_
    rintro _ rfl -
    refine WL.nil ?_
    refine th_norm ?_
    refine hx_ret ?_
    refine fin_ret [.tmp 4] rfl rfl (by simp only [EN, Nat.reduceEqDiff, reduceIte, resv, e0, e1, hb.blk.cell, hB1.cell]; rfl) ?_  -- ret 0 r3
    exact ⟨rfl, (hx1)⟩
theorem c_bkFlo (q : K2) (hb : IsBk h p bm fm vo ks fs sq) : HCalls Try.prog 16 #[.pointer (some ⟨p, 0, none⟩), kV q] h (Grow (iV (lk fs q)) h) := by
  refine hcalls2 Try.func16 rfl (by decide +kernel) (by simp only [Try.ntmps16]; exact of_decide_eq_true rfl) ?_
  intro e hin
  have e0 := hin 0 _ rfl
  have e1 := hin 1 _ rfl
  refine hx_seq ?_
  refine hx_region ?_
  refine WL.box2 (by simp only [EN, Nat.reduceEqDiff, reduceIte, Value.cells, e1, hb.blk.cell]; rfl) ?_
  intro h1 B1 hx1 hlt1 hB1
  replace hb := hb.ext hx1
  refine WL.qq (by simp only [EN, Nat.reduceEqDiff, reduceIte, qv_assign, hb.blk.cell, hB1.cell]; rfl) ?_
  refine WL.nil ?_
  refine th_norm ?_
  refine hx_seq ?_
  refine hx_seq ?_
  refine hx_region ?_
  refine WL.qq (by simp only [EN, Nat.reduceEqDiff, reduceIte, qv_move, e0, hb.blk.cell, hB1.cell]; rfl) ?_
  refine WL.qq (by simp only [EN, Nat.reduceEqDiff, reduceIte, qv_binOp, binv_eql, eqz25, eqn25, eqm25, Option.map_some, hb.blk.cell, hB1.cell]; rfl) ?_
  refine WL.nil ?_
  refine th_norm ?_
  refine hx_cond (by simp only [EN, Nat.reduceEqDiff, reduceIte, e0, e1, hb.blk.cell, hB1.cell]; rfl) (fun hct6 => ?_) (fun hct6 => ?_)
  ·
    simp at hct6
  ·
    try simp only [BD] at hct6
    refine hx_skip ?_
    refine th_norm ?_
    refine hx_seq ?_
    apply hx_draw2 Rel.same [] [] [] rfl (by decide +kernel) rfl
    refine LD.qq rfl rfl (by simp only [EN, Nat.reduceEqDiff, reduceIte, qv_move, e0, hb.blk.cell, hB1.cell]; rfl) ?_
    refine LD.qq rfl rfl (by simp only [EN, Nat.reduceEqDiff, reduceIte, qv_nilCheck, hb.blk.cell, hB1.cell]; rfl) ?_
    refine LD.qq rfl rfl (by simp only [EN, Nat.reduceEqDiff, reduceIte, qv_fieldAddr, fa83_2, Nat.zero_add, Nat.reduceAdd, hb.blk.cell, hB1.cell]; rfl) ?_
    refine LD.qq rfl rfl (by simp only [EN, Nat.reduceEqDiff, reduceIte, qv_load, ld80, readN, AR, Nat.zero_add, Nat.reduceAdd, hb.blk.cell, hB1.cell]; rfl) ?_
    refine LD.qq rfl rfl (by simp only [EN, Nat.reduceEqDiff, reduceIte, qv_load, ld34, readN, AR, Nat.zero_add, Nat.reduceAdd, hb.blk.cell, hB1.cell]; rfl) ?_
    refine LD.qq rfl rfl (by simp only [EN, Nat.reduceEqDiff, reduceIte, e0, e1, hb.blk.cell, hB1.cell, qv_lookup, hb.lkf]; rfl) ?_
    refine LD.qq rfl rfl (by simp only [EN, Nat.reduceEqDiff, reduceIte, qv_assign, hb.blk.cell, hB1.cell]; rfl) ?_
    refine LD.nil ?_
    rintro _ rfl -
    refine WL.nil ?_
    refine th_norm ?_
    refine hx_ret ?_
    refine fin_ret [.tmp 4] rfl rfl (by simp only [EN, Nat.reduceEqDiff, reduceIte, resv, e0, e1, hb.blk.cell, hB1.cell]; rfl) ?_  -- ret 0 r3
    exact ⟨rfl, (hx1)⟩
theorem c_bkLen (hb : IsBk h p bm fm vo ks fs sq) : HCalls Try.prog 20 #[.pointer (some ⟨p, 0, none⟩)] h (Pure (iV ks.length) h) := by
  obtain ⟨a, cap, rfl⟩ := hb.ord.slice
  refine hcalls2 Try.func20 rfl (by decide +kernel) (by simp only [Try.ntmps20]; exact of_decide_eq_true rfl) ?_
  intro e hin
  have e0 := hin 0 _ rfl
  refine hx_seq ?_
  refine hx_region ?_
  refine WL.qq (by simp only [EN, Nat.reduceEqDiff, reduceIte, qv_assign, hb.blk.cell]; rfl) ?_
  refine WL.nil ?_
  refine th_norm ?_
  refine hx_seq ?_
  refine hx_seq ?_
  refine hx_region ?_
  refine WL.qq (by simp only [EN, Nat.reduceEqDiff, reduceIte, qv_move, e0, hb.blk.cell]; rfl) ?_
  refine WL.qq (by simp only [EN, Nat.reduceEqDiff, reduceIte, qv_binOp, binv_eql, eqz25, eqn25, eqm25, Option.map_some, hb.blk.cell]; rfl) ?_
  refine WL.nil ?_
  refine th_norm ?_
  refine hx_cond (by simp only [EN, Nat.reduceEqDiff, reduceIte, e0, hb.blk.cell]; rfl) (fun hct4 => ?_) (fun hct4 => ?_)
  ·
    simp at hct4
  ·
    try simp only [BD] at hct4
    refine hx_skip ?_
    refine th_norm ?_
    refine hx_seq ?_
    refine hx_region ?_
    refine WL.qq (by simp only [EN, Nat.reduceEqDiff, reduceIte, qv_move, e0, hb.blk.cell]; rfl) ?_
    refine WL.qq (by simp only [EN, Nat.reduceEqDiff, reduceIte, qv_nilCheck, hb.blk.cell]; rfl) ?_
    refine WL.qq (by simp only [EN, Nat.reduceEqDiff, reduceIte, qv_fieldAddr, fa83_3, Nat.zero_add, Nat.reduceAdd, hb.blk.cell]; rfl) ?_
    refine WL.qq (by simp only [EN, Nat.reduceEqDiff, reduceIte, qv_load, ld81, readN, AR, Nat.zero_add, Nat.reduceAdd, hb.blk.cell]; rfl) ?_
    refine WL.qq (by simp only [EN, Nat.reduceEqDiff, reduceIte, qv_len, ln81, AR, hb.blk.cell]; rfl) ?_
    refine WL.qq (by simp only [EN, Nat.reduceEqDiff, reduceIte, qv_assign, hb.blk.cell]; rfl) ?_
    refine WL.nil ?_
    refine th_norm ?_
    refine hx_ret ?_
    refine fin_ret [.tmp 2] rfl rfl (by simp only [EN, Nat.reduceEqDiff, reduceIte, resv, e0, hb.blk.cell]; rfl) ?_  -- ret 0 r3
    exact ⟨by rw [List.length_map]; rfl, rfl⟩
theorem c_bkSeq (hb : IsBk h p bm fm vo ks fs sq) : HCalls Try.prog 24 #[.pointer (some ⟨p, 0, none⟩)] h (Pure (iV sq) h) := by
  refine hcalls2 Try.func24 rfl (by decide +kernel) (by simp only [Try.ntmps24]; exact of_decide_eq_true rfl) ?_
  intro e hin
  have e0 := hin 0 _ rfl
  refine hx_seq ?_
  refine hx_region ?_
  refine WL.qq (by simp only [EN, Nat.reduceEqDiff, reduceIte, qv_assign, hb.blk.cell]; rfl) ?_
  refine WL.nil ?_
  refine th_norm ?_
  refine hx_seq ?_
  refine hx_seq ?_
  refine hx_region ?_
  refine WL.qq (by simp only [EN, Nat.reduceEqDiff, reduceIte, qv_move, e0, hb.blk.cell]; rfl) ?_
  refine WL.qq (by simp only [EN, Nat.reduceEqDiff, reduceIte, qv_binOp, binv_eql, eqz25, eqn25, eqm25, Option.map_some, hb.blk.cell]; rfl) ?_
  refine WL.nil ?_
  refine th_norm ?_
  refine hx_cond (by simp only [EN, Nat.reduceEqDiff, reduceIte, e0, hb.blk.cell]; rfl) (fun hct4 => ?_) (fun hct4 => ?_)
  ·
    simp at hct4
  ·
    try simp only [BD] at hct4
    refine hx_skip ?_
    refine th_norm ?_
    refine hx_seq ?_
    refine hx_region ?_
    refine WL.qq (by simp only [EN, Nat.reduceEqDiff, reduceIte, qv_move, e0, hb.blk.cell]; rfl) ?_
    refine WL.qq (by simp only [EN, Nat.reduceEqDiff, reduceIte, qv_nilCheck, hb.blk.cell]; rfl) ?_
    refine WL.qq (by simp only [EN, Nat.reduceEqDiff, reduceIte, qv_fieldAddr, fa83_4, Nat.zero_add, Nat.reduceAdd, hb.blk.cell]; rfl) ?_
    refine WL.qq (by simp only [EN, Nat.reduceEqDiff, reduceIte, qv_load, ld3, readN, AR, Nat.zero_add, Nat.reduceAdd, hb.blk.cell]; rfl) ?_
    refine WL.qq (by simp only [EN, Nat.reduceEqDiff, reduceIte, qv_assign, hb.blk.cell]; rfl) ?_
    refine WL.nil ?_
    refine th_norm ?_
    refine hx_ret ?_
    refine fin_ret [.tmp 2] rfl rfl (by simp only [EN, Nat.reduceEqDiff, reduceIte, resv, e0, hb.blk.cell]; rfl) ?_  -- ret 0 r3
    exact ⟨rfl, rfl⟩
theorem c_new (h : Heap) : HCalls Try.prog 39 #[gV] h fun v h' => Ext h h' ∧ ∃ p bm fm, v = .tuple #[.pointer (some ⟨p, 0, none⟩), iV 0] ∧ IsBk h' p bm fm (.slice none 0 0) [] [] 0 ∧ h.size ≤ p ∧ h.size ≤ bm ∧ h.size ≤ fm := by
  refine hcalls2 Try.func39 rfl (by decide +kernel) (by simp only [Try.ntmps39]; exact of_decide_eq_true rfl) ?_
  intro e hin
  have e0 := hin 0 _ rfl
  refine hx_seq ?_
  refine hx_region ?_
  refine WL.qq (by simp only [EN, Nat.reduceEqDiff, reduceIte, qv_assign]; rfl) ?_
  refine WL.qq (by simp only [EN, Nat.reduceEqDiff, reduceIte, qv_assign]; rfl) ?_
  refine WL.nil ?_
  refine th_norm ?_
  refine hx_seq ?_
  refine hx_seq ?_
  refine hx_region ?_
  refine WL.qq (by simp only [EN, Nat.reduceEqDiff, reduceIte, qv_move, e0]; rfl) ?_
  refine WL.qq (by simp only [EN, Nat.reduceEqDiff, reduceIte, qv_binOp, binv_eql, eqz78, eqn78, Option.map_some]; rfl) ?_
  refine WL.nil ?_
  refine th_norm ?_
  refine hx_cond (by simp only [EN, Nat.reduceEqDiff, reduceIte, e0]; rfl) (fun hct5 => ?_) (fun hct5 => ?_)
  ·
    simp at hct5
  ·
    try simp only [BD] at hct5
    refine hx_skip ?_
    refine th_norm ?_
    refine hx_seq ?_
    refine hx_region ?_
    refine WL.qq (by simp only [EN, Nat.reduceEqDiff, reduceIte, qv_move, e0]; rfl) ?_
    refine WL.makeMap2 ?_
    intro h1 B1 hx1 hlt1 hB1
    have lt1 := (Array.getElem?_eq_some_iff.1 hB1).1
    refine WL.makeMap2 ?_
    intro h2 B2 hx2 hlt2 hB2
    replace hB1 := hB1.ext hx2
    refine WL.qq (by refine qv_bld (by simp only [EN, Nat.reduceEqDiff, reduceIte, AR] <;> rfl) (by rw [bl83]; simp [Instr.fill, Value.cells]; rfl)) ?_
    refine WL.box2 (by simp only [EN, Nat.reduceEqDiff, reduceIte, Value.cells]; rfl) ?_
    intro h3 B3 hx3 hlt3 hB3
    replace hB1 := hB1.ext hx3
    replace hB2 := hB2.ext hx3
    refine WL.qq (by simp only [EN, Nat.reduceEqDiff, reduceIte, qv_assign, hB3.cell]; rfl) ?_
    refine WL.qq (by simp only [EN, Nat.reduceEqDiff, reduceIte, qv_assign, hB3.cell]; rfl) ?_
    refine WL.nil ?_
    refine th_norm ?_
    refine hx_ret ?_
    refine fin_ret [.tmp 2, .tmp 3] rfl rfl (by simp only [EN, Nat.reduceEqDiff, reduceIte, resv, e0, hB3.cell]; rfl) ?_  -- ret 0 r3
    have s1 := hx1.size
    have s2 := hx2.size
    exact ⟨((hx1).trans ((hx2).trans (hx3))), B3, B1, B2, rfl, ⟨hB3, MapT.new hB1, MapT.new hB2, Own.nil, by omega⟩, by omega, by omega, by omega⟩
end
theorem c_entries (al : Option Addr) (l : List E2) (cl : Nat) (ll : l.length ≤ 1000000) {h : Heap} (hl : SlG 3 entL h al l) :
    HCalls Try.prog 19 #[.slice al l.length cl] h fun v h' => Ext h h' ∧ Own h' h.size 89 3 v l.length (l.flatMap entL) := by
  refine hcalls2 Try.func19 rfl (by decide +kernel) (by simp only [Try.ntmps19]; exact of_decide_eq_true rfl) ?_
  intro e hin
  have e0 := hin 0 _ rfl
  refine hx_seq ?_
  refine hx_region ?_
  refine WL.qq (by simp only [EN, Nat.reduceEqDiff, reduceIte, qv_assign]; rfl) ?_
  refine WL.nil ?_
  refine th_norm ?_
  refine hx_seq ?_
  refine hx_region ?_
  refine WL.qq (by simp only [EN, Nat.reduceEqDiff, reduceIte, qv_assign]; rfl) ?_
  refine WL.nil ?_
  refine th_norm ?_
  refine hx_seq ?_
  refine hx_seq ?_
  refine hx_region ?_
  refine WL.qq (by simp only [EN, Nat.reduceEqDiff, reduceIte, qv_assign]; rfl) ?_
  refine WL.nil ?_
  refine th_norm ?_
  refine hx_block ?_
  refine hx_loopG [3, 4, 5, 6, 7, 8, 9, 10, 11, 12, 13, 14, 15, 16, 17, 18, 19, 20, 21, 22, 23, 24] (fun k e hL0 => ∃ (i : Nat) (v : Value), l.length - i = k ∧ (i ≤ l.length) ∧ (Ext h hL0) ∧ (Own hL0 h.size 89 3 v (l.take i).length ((l.take i).flatMap entL)) ∧ e 4 = .int .i64 i ∧ e 3 = v) _ ⟨0, .slice none 0 0, rfl, ?_, ?_, ?_, ?_, ?_⟩ ?_
  · omega
  · exact Ext.refl _
  · exact Own.nil
  · simp only [EN, Nat.reduceEqDiff, reduceIte, e0] <;> rfl
  · simp only [EN, Nat.reduceEqDiff, reduceIte, e0] <;> rfl
  ·
    rintro k e0L hL0 hfr0 ⟨i, v, rfl, hi, hE, ho, i4_0, i3_0⟩
    have k0_0 := hfr0 0 rfl; try simp only [EN, Nat.reduceEqDiff, reduceIte, e0] at k0_0
    have k2_0 := hfr0 2 rfl; try simp only [EN, Nat.reduceEqDiff, reduceIte, e0] at k2_0
    have hl := hl.ext hE
    refine hx_seq ?_
    refine hx_seq ?_
    refine hx_region ?_
    refine WL.qq (by simp only [EN, Nat.reduceEqDiff, reduceIte, qv_move, i4_0]; rfl) ?_
    refine WL.qq (by simp only [EN, Nat.reduceEqDiff, reduceIte, qv_move, k0_0]; rfl) ?_
    refine WL.qq (by simp only [EN, Nat.reduceEqDiff, reduceIte, qv_len, ln26, AR]; rfl) ?_
    refine WL.qq (by simp only [EN, Nat.reduceEqDiff, reduceIte, qv_binOp, binv_lss]; rfl) ?_
    refine WL.nil ?_
    refine th_norm ?_
    refine hx_cond (by simp only [EN, Nat.reduceEqDiff, reduceIte, k0_0, k2_0, i4_0, i3_0]; rfl) (fun hct8 => ?_) (fun hct8 => ?_)
    ·
      try simp only [BD] at hct8
      obtain ⟨x, hx⟩ := atG (l := l) (i := i) (by omega)
      obtain ⟨b, off, rfl, hr3, hr2, hc0, hc1, hc2⟩ := ent_rd hl hx
      refine hx_skip ?_
      refine th_norm ?_
      refine hx_seq ?_
      refine hx_block ?_
      apply hx_draw2 Rel.grows [13, 14] [12] [(12, Spec.ls h.size _ _ _)] rfl (by decide +kernel) rfl
      refine LD.qq rfl rfl (by simp only [EN, Nat.reduceEqDiff, reduceIte, qv_move, i3_0]; rfl) ?_
      refine LD.qq rfl rfl (by simp only [EN, Nat.reduceEqDiff, reduceIte, qv_move, k0_0]; rfl) ?_
      refine LD.qq rfl rfl (by simp only [EN, Nat.reduceEqDiff, reduceIte, qv_move, i4_0]; rfl) ?_
      refine LD.qq rfl rfl (by simp only [EN, Nat.reduceEqDiff, reduceIte, qv_indexAddr]; (try simp (disch := omega) only [ix26, Int.toNat_natCast]); rfl) ?_
      refine LD.qq rfl rfl (by simp only [EN, Nat.reduceEqDiff, reduceIte, qv_fieldAddr, fa44_0, Nat.zero_add, Nat.reduceAdd]; rfl) ?_
      refine LD.qq rfl rfl (by simp only [EN, Nat.reduceEqDiff, reduceIte, k0_0, k2_0, i4_0, i3_0, qv_load, ld34, Int.toNat_natCast, Nat.add_zero, hr2]; rfl) ?_
      refine LD.qq rfl rfl (by simp only [EN, Nat.reduceEqDiff, reduceIte, qv_move, k0_0]; rfl) ?_
      refine LD.qq rfl rfl (by simp only [EN, Nat.reduceEqDiff, reduceIte, qv_move, i4_0]; rfl) ?_
      refine LD.qq rfl rfl (by simp only [EN, Nat.reduceEqDiff, reduceIte, qv_indexAddr]; (try simp (disch := omega) only [ix26, Int.toNat_natCast]); rfl) ?_
      refine LD.qq rfl rfl (by simp only [EN, Nat.reduceEqDiff, reduceIte, qv_fieldAddr, fa44_1, Nat.zero_add, Nat.reduceAdd]; rfl) ?_
      refine LD.qq rfl rfl (by simp only [EN, Nat.reduceEqDiff, reduceIte, k0_0, k2_0, i4_0, i3_0, qv_load, ld2, Int.toNat_natCast, hc2]; rfl) ?_
      refine LD.qq rfl rfl (by refine qv_bld (by simp only [EN, Nat.reduceEqDiff, reduceIte, AR] <;> rfl) (by rw [bl89]; simp [Instr.fill, Value.cells]; rfl)) ?_
      refine LD.es rfl rfl (by intro hD hr hf; have hx : Ext _ _ := hr; have hl := hl.ext hx; have ho := ho.ext hx; have hE := hE.ext hx; exact e_lit1 hE.size Try.underlying47 sz89 zr89 (by decide) (by simp only [EN, Nat.reduceEqDiff, reduceIte, k0_0, k2_0, i4_0, i3_0, Value.cells]; rfl) rfl) ?_
      intro u5_12 w5_12
      obtain ⟨B12, hlt12, rfl⟩ := w5_12
      refine LD.skip rfl ?_
      refine LD.skip rfl ?_
      refine LD.nil ?_
      rintro h1 hx1 hF5
      replace hx1 : Ext _ _ := hx1
      replace hl := hl.ext hx1
      replace ho := ho.ext hx1
      replace hE := hE.ext hx1
      have hB12 := hF5 (12, .slice (some ⟨B12, 0, none⟩) 1 1) (by simp) _ rfl B12 rfl
      have hil : (l.take i).length ≤ l.length := (by simp; omega)
      refine WL.app1 (bytes := 16) Try.underlying47 (inf_of Try.type89) rfl rfl rfl rfl (by decide) (by simp only [EN, Nat.reduceEqDiff, reduceIte, k0_0, k2_0, i4_0, i3_0]) ho (by simp only [EN, Nat.reduceEqDiff, reduceIte, k0_0, k2_0, i4_0, i3_0]) hB12 rfl (by simp [Value.oneCell']) (by simp only [maxLen]; omega) (by omega) hE.size ?_
      intro h40 v40 ho40 hg40 hp40 hn40
      replace hE := hg40.ext hE (fun c hc => (ho.block c hc).1)
      refine WL.qq (by simp only [EN, Nat.reduceEqDiff, reduceIte, qv_assign]; rfl) ?_
      refine WL.nil ?_
      refine bl_norm ?_
      refine th_norm ?_
      refine hx_region ?_
      refine WL.qq (by simp only [EN, Nat.reduceEqDiff, reduceIte, qv_move, i4_0]; rfl) ?_
      refine WL.qq (by simp only [EN, Nat.reduceEqDiff, reduceIte, qv_binOp, binv_add]; (try simp (disch := omega) only [w64, w8, wu64]); rfl) ?_
      refine WL.qq (by simp only [EN, Nat.reduceEqDiff, reduceIte, qv_assign]; rfl) ?_
      refine WL.nil ?_
      refine th_norm ?_
      refine ⟨rfl, ?_, _, ?_, i + 1, v40, rfl, ?_, ?_, ?_, ?_, ?_⟩  -- again 0 of loop 0
      · (repeat (first | exact Fr.refl _ _ | refine Fr.set rfl ?_ | refine Fr.put rfl ?_ | refine Fr.put0 ?_))
      · omega
      · omega
      · exact hE
      · rw [List.take_add_one, hx, List.flatMap_append, List.length_append]; exact ho40
      · simp only [EN, Nat.reduceEqDiff, reduceIte, k0_0, k2_0, i4_0, i3_0] <;> first | rfl | (congr 1; omega)
      · simp only [EN, Nat.reduceEqDiff, reduceIte, k0_0, k2_0, i4_0, i3_0] <;> first | rfl | (congr 1; omega)
    ·
      try simp only [BD] at hct8
      refine hx_exit ?_
      refine th_exit ?_
      refine th_exit ?_
      refine bl_hit ?_
      refine th_norm ?_
      refine hx_seq ?_
      refine hx_region ?_
      refine WL.qq (by simp only [EN, Nat.reduceEqDiff, reduceIte, qv_move, i3_0]; rfl) ?_
      refine WL.qq (by simp only [EN, Nat.reduceEqDiff, reduceIte, qv_assign]; rfl) ?_
      refine WL.nil ?_
      refine th_norm ?_
      refine hx_ret ?_
      refine fin_ret [.tmp 2] rfl rfl (by simp only [EN, Nat.reduceEqDiff, reduceIte, resv, k0_0, k2_0, i4_0, i3_0]; rfl) ?_  -- ret 0 r6
      have hil : i = l.length := (by omega)
      subst hil
      rw [List.take_length] at ho
      exact ⟨hE, ho⟩
end GL


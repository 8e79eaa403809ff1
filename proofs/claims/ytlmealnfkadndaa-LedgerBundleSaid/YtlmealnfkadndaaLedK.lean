/- Ledger: postings and floors as the statements use them; the chapter's example. -/
import Derived.Test.YtlmealnfkadndaaLedJ
import Derived.Test.YtlmealnfkadndaaGl26
set_option linter.unusedSimpArgs false
set_option linter.unusedVariables false
set_option linter.unnecessarySimpa false
namespace GL
open Go Go.Proofs
set_option maxRecDepth 8000
section
variable {h0 h h' : Heap} {p bm fm : Nat} {vo : Value} {ks fs : List E2} {sq : Int}
def blks (p bm fm : Nat) (vo : Value) : List Nat := p :: bm :: fm :: vo.ownBlock.toList
theorem blks_mem {p bm fm : Nat} {vo : Value} {x : Nat} : x ∈ blks p bm fm vo ↔ x = p ∨ x = bm ∨ x = fm ∨ vo.ownBlock = some x := by
  simp only [blks, List.mem_cons, Option.mem_toList]
theorem foot_blks {p bm fm : Nat} {vo : Value} {x : Nat} (hx : x ∈ foot p bm vo) : x ∈ blks p bm fm vo := by
  simp only [foot, List.mem_cons, Option.mem_toList] at hx
  rw [blks_mem]
  rcases hx with h | h | h
  · exact .inl h
  · exact .inr (.inl h)
  · exact .inr (.inr (.inr h))
theorem BkO.gsA {os : List K2} {S : List Nat} (hb : BkO h p bm fm vo ks os fs sq) (hg : Gs h h' S) (hS : ∀ x ∈ blks p bm fm vo, x ∉ S) : BkO h' p bm fm vo ks os fs sq :=
  ⟨hb.blk.gs hg (hS _ (by simp [blks])), hb.bal.gs hg (hS _ (by simp [blks])), hb.flo.gs hg (hS _ (by simp [blks])), hb.ord.gs hg (fun c hc => hS c (by rw [blks_mem]; exact .inr (.inr (.inr hc)))), hb.ne⟩
theorem BkO.below {os : List K2} (hb : BkO h p bm fm vo ks os fs sq) : ∀ x ∈ blks p bm fm vo, x < h.size := by
  obtain ⟨h1, h2, h3, h4⟩ := hb.lts
  intro x hx
  rw [blks_mem] at hx
  rcases hx with rfl | rfl | rfl | hx
  · exact h1
  · exact h2
  · exact h3
  · exact h4 x hx
theorem Fresh.above {n : Nat} (hf : Fresh n p bm fm vo) : ∀ x ∈ blks p bm fm vo, n ≤ x := by
  intro x hx
  rw [blks_mem] at hx
  rcases hx with rfl | rfl | rfl | hx
  · exact hf.p
  · exact hf.b
  · exact hf.f
  · exact hf.o x hx
/-- What a posting comes to, its error known. -/
theorem c_postFT (al : Option Addr) (l : List E2) (cl : Nat) (ll : l.length ≤ 1000000) (lk' : ks.length ≤ 1000000) (hsq : 0 ≤ sq ∧ sq ≤ 1000000) (hbal : ∀ q, vld (lk ks q) = true) (hu : okE l)
    (hb : IsBk h p bm fm vo ks fs sq) (hl : SlT 89 h al l) {r : Int} (hr : chkE (lk ks) (lk fs) l = r) (hE : Ext h0 h) (hfr : Fresh h0.size p bm fm vo) :
    HCalls Try.prog 18 #[.pointer (some ⟨p, 0, none⟩), .slice al l.length cl] h fun v h' => v = iV r ∧ Ext h0 h' ∧ Gs h h' (foot p bm vo) ∧
      ∃ vo', IsBk h' p bm fm vo' (if r = 0 then putL ks l else ks) fs (if r = 0 then sq + 1 else sq) ∧ Fresh h0.size p bm fm vo' ∧ ∀ c, vo'.ownBlock = some c → vo.ownBlock = some c ∨ h.size ≤ c := by
  refine (c_postT al l cl ll lk' hsq hbal hu hb hl hr).mono ?_
  rintro v h' ⟨rfl, hg, hno, hyes⟩
  refine ⟨rfl, hg.toExt hE hfr.foot, hg, ?_⟩
  by_cases h0 : r = 0
  · obtain ⟨vo', h1, h2⟩ := hyes h0
    refine ⟨vo', by rw [if_pos h0, if_pos h0]; exact h1, ⟨hfr.p, hfr.b, hfr.f, fun c hc => (h2 c hc).elim (hfr.o c) (fun h3 => Nat.le_trans hE.size h3)⟩, h2⟩
  · exact ⟨vo, by rw [if_neg h0, if_neg h0]; exact hb.ext (hno h0), hfr, fun c hc => .inl hc⟩
theorem c_postF (al : Option Addr) (l : List E2) (cl : Nat) (ll : l.length ≤ 1000000) (lk' : ks.length ≤ 1000000) (hsq : 0 ≤ sq ∧ sq ≤ 1000000) (hbal : ∀ q, vld (lk ks q) = true) (hu : okE l)
    (hb : IsBk h p bm fm vo ks fs sq) (hl : Own h 0 89 3 (.slice al l.length cl) l.length (l.flatMap entL)) {r : Int} (hr : chkE (lk ks) (lk fs) l = r) (hE : Ext h0 h) (hfr : Fresh h0.size p bm fm vo) :
    HCalls Try.prog 18 #[.pointer (some ⟨p, 0, none⟩), .slice al l.length cl] h fun v h' => v = iV r ∧ Ext h0 h' ∧ Gs h h' (foot p bm vo) ∧
      ∃ vo', IsBk h' p bm fm vo' (if r = 0 then putL ks l else ks) fs (if r = 0 then sq + 1 else sq) ∧ Fresh h0.size p bm fm vo' ∧ ∀ c, vo'.ownBlock = some c → vo.ownBlock = some c ∨ h.size ≤ c :=
  c_postFT al l cl ll lk' hsq hbal hu hb (SlT.own hl rfl) hr hE hfr
theorem c_setF (q : K2) (fl : Int) (hb : IsBk h p bm fm vo ks fs sq) {r : Int} (hr : setE (lk ks q) fl = r) (hE : Ext h0 h) (hfr : Fresh h0.size p bm fm vo) :
    HCalls Try.prog 41 #[.pointer (some ⟨p, 0, none⟩), kV q, iV fl] h fun v h' => v = iV r ∧ Ext h0 h' ∧ Gs h h' [fm] ∧ IsBk h' p bm fm vo ks (if r = 0 then mset fs q fl else fs) sq := by
  refine (c_setFloor q fl hb hr).mono ?_
  rintro v h' ⟨rfl, hg, hno, hyes⟩
  refine ⟨rfl, hg.toExt hE (fun x hx => by simp at hx; subst hx; exact hfr.f), hg, ?_⟩
  by_cases h0 : r = 0
  · rw [if_pos h0]; exact hyes h0
  · rw [if_neg h0]; exact hb.ext (hno h0)
end
theorem slG_of {h : Heap} {base el n cap : Nat} {a : Option Addr} {L : List E2} (ho : Own h base el 3 (.slice a n cap) n (L.flatMap entL)) (hn : n = L.length := by rfl) : SlG 3 entL h a L := by
  obtain ⟨a', c', h1, _, h2, _⟩ := Own.slG (f := entL) (sz := 3) (fun _ => rfl) ho hn
  cases h1
  exact h2
theorem ent_one (x : E2) : ∀ u ∈ entL x, u.oneCell' = true := fun u hu => by
  simp at hu; rcases hu with rfl | rfl | rfl <;> rfl
abbrev kl1 : List E2 := [(⟨1, 0⟩, -5), (⟨2, 0⟩, 5)]
abbrev kl2 : List E2 := [(⟨1, 0⟩, 1), (⟨2, 1⟩, -1)]
abbrev kfs : List E2 := mset [] ⟨1, 0⟩ (-10)
theorem kc1 : chkE (lk []) (lk []) kl1 = 13 := by decide
theorem kc2 : chkE (lk []) (lk kfs) kl1 = 0 := by decide
theorem kc3 : chkE (lk (putL [] kl1)) (lk kfs) kl2 = 14 := by decide
theorem kb1 : lk (putL [] kl1) ⟨1, 0⟩ = -5 := by decide
theorem kb2 : lk (putL [] kl1) ⟨2, 0⟩ = 5 := by decide
theorem ku1 : okE kl1 := by unfold okE; decide
theorem ku2 : okE kl2 := by unfold okE; decide
theorem kn (q : K2) : vld (lk [] q) = true := by rw [lk_nil]; decide
set_option maxHeartbeats 1000000 in
theorem c_known13 (h : Heap) : HCalls Try.prog 12 #[] h (Grow (.bool true) h) := by
  refine hcalls2 Try.func12 rfl (by decide +kernel) (by simp only [Try.ntmps12]; exact of_decide_eq_true rfl) ?_
  intro e hin
  have hE := Ext.refl h
  refine hx_seq ?_
  refine hx_region ?_
  refine WL.qq (by simp only [EN, Nat.reduceEqDiff, reduceIte, qv_assign, decide_true, Bool.not_true, Bool.not_false, decide_false]; rfl) ?_
  refine WL.nil ?_
  refine th_norm ?_
  refine hx_seq ?_
  refine hx_region ?_
  refine WL.ce Try.call39 (by simp only [EN, Nat.reduceEqDiff, reduceIte, AR, decide_true, Bool.not_true, Bool.not_false, decide_false]; exact c_new _) ?_
  rintro _ h1 ⟨hx1, p, bm, fm, rfl, hbk, hp, hbm, hfm⟩
  simp only [put_some]
  replace hE := hE.ext hx1
  have hfr : Fresh h.size p bm fm (.slice none 0 0) := ⟨hp, hbm, hfm, fun c hc => by cases hc⟩
  refine WL.qq (by simp only [EN, Nat.reduceEqDiff, reduceIte, qv_move, decide_true, Bool.not_true, Bool.not_false, decide_false]; rfl) ?_
  refine WL.qq (by simp only [EN, Nat.reduceEqDiff, reduceIte, qv_extract, AR, decide_true, Bool.not_true, Bool.not_false, decide_false]; rfl) ?_
  refine WL.qq (by simp only [EN, Nat.reduceEqDiff, reduceIte, qv_extract, AR, decide_true, Bool.not_true, Bool.not_false, decide_false]; rfl) ?_
  refine WL.qq (by simp only [EN, Nat.reduceEqDiff, reduceIte, qv_assign, decide_true, Bool.not_true, Bool.not_false, decide_false]; rfl) ?_
  refine WL.qq (by simp only [EN, Nat.reduceEqDiff, reduceIte, qv_assign, decide_true, Bool.not_true, Bool.not_false, decide_false]; rfl) ?_
  refine WL.nil ?_
  refine th_norm ?_
  refine hx_seq ?_
  refine hx_seq ?_
  refine hx_region ?_
  refine WL.qq (by simp only [EN, Nat.reduceEqDiff, reduceIte, qv_move, decide_true, Bool.not_true, Bool.not_false, decide_false]; rfl) ?_
  refine WL.qq (by simp only [EN, Nat.reduceEqDiff, reduceIte, qv_binOp, binv_eql, eqz25, eqn25, eqm25, Option.map_some, decide_true, Bool.not_true, Bool.not_false, decide_false]; rfl) ?_
  refine WL.qq (by simp only [EN, Nat.reduceEqDiff, reduceIte, qv_move, decide_true, Bool.not_true, Bool.not_false, decide_false]; rfl) ?_
  refine WL.cq (gd_at (t := 11) rfl (by simp only [EN, Nat.reduceEqDiff, reduceIte, decide_true, Bool.not_true, Bool.not_false, decide_false] <;> rfl)) (fun hg2_3 => by simp only [EN, Nat.reduceEqDiff, reduceIte, qv_move, decide_true, Bool.not_true, Bool.not_false, decide_false, hg2_3, GR]; rfl) ?_
  refine WL.cq (gd_at (t := 11) rfl (by simp only [EN, Nat.reduceEqDiff, reduceIte, decide_true, Bool.not_true, Bool.not_false, decide_false] <;> rfl)) (fun hg2_4 => by simp only [EN, Nat.reduceEqDiff, reduceIte, qv_binOp, binv_neq, eq45, Option.map_some, decide_true, Bool.not_true, Bool.not_false, decide_false, hg2_4, GR]; rfl) ?_
  refine WL.qq (by simp only [EN, Nat.reduceEqDiff, reduceIte, qv_pick, pk_and, pk_or, GR, decide_true, Bool.not_true, Bool.not_false, decide_false]; rfl) ?_
  refine WL.nil ?_
  refine th_norm ?_
  refine hx_cond (by simp only [EN, Nat.reduceEqDiff, reduceIte, decide_true, Bool.not_true, Bool.not_false, decide_false]; rfl) (fun hct14 => ?_) (fun hct14 => ?_)
  ·
    simp at hct14
  ·
    try simp only [BD] at hct14
    refine hx_skip ?_
    refine th_norm ?_
    refine hx_seq ?_
    refine hx_region ?_
    refine WL.qq (by refine qv_bld (by simp only [EN, Nat.reduceEqDiff, reduceIte, AR, decide_true, Bool.not_true, Bool.not_false, decide_false] <;> rfl) (by rw [bl34]; simp [Instr.fill, Value.cells]; rfl)) ?_
    refine WL.qq (by refine qv_bld (by simp only [EN, Nat.reduceEqDiff, reduceIte, AR, decide_true, Bool.not_true, Bool.not_false, decide_false] <;> rfl) (by rw [bl44]; simp [Instr.fill, Value.cells]; rfl)) ?_
    refine WL.qq (by refine qv_bld (by simp only [EN, Nat.reduceEqDiff, reduceIte, AR, decide_true, Bool.not_true, Bool.not_false, decide_false] <;> rfl) (by rw [bl34]; simp [Instr.fill, Value.cells]; rfl)) ?_
    refine WL.qq (by refine qv_bld (by simp only [EN, Nat.reduceEqDiff, reduceIte, AR, decide_true, Bool.not_true, Bool.not_false, decide_false] <;> rfl) (by rw [bl44]; simp [Instr.fill, Value.cells]; rfl)) ?_
    refine WL.lit2 #[(.int .u8 0), (.int .u8 0), (.int .i64 0), (.int .u8 0), (.int .u8 0), (.int .i64 0)] Try.underlying26 sz44 zr44 (by decide) (by kernel_rfl) ⟨_, (by simp only [EN, Nat.reduceEqDiff, reduceIte, AR, decide_true, Bool.not_true, Bool.not_false, decide_false]; simp [Instr.fill, Value.cells]; rfl), rfl⟩ ?_
    intro h1 B1 hx1 hlt1 hB1
    replace hE := hE.ext hx1
    replace hbk := hbk.ext hx1
    refine WL.qq (by simp only [EN, Nat.reduceEqDiff, reduceIte, qv_assign, decide_true, Bool.not_true, Bool.not_false, decide_false, hB1.cell]; rfl) ?_
    refine WL.nil ?_
    refine th_norm ?_
    refine hx_seq ?_
    refine hx_seq ?_
    refine hx_region ?_
    refine WL.qq (by simp only [EN, Nat.reduceEqDiff, reduceIte, qv_move, decide_true, Bool.not_true, Bool.not_false, decide_false, hB1.cell]; rfl) ?_
    refine WL.qq (by simp only [EN, Nat.reduceEqDiff, reduceIte, qv_move, decide_true, Bool.not_true, Bool.not_false, decide_false, hB1.cell]; rfl) ?_
    have hsl := slG_has (f := entL) (sz := 3) (L := kl1) (fun _ => rfl) hB1 rfl
    refine WL.ce Try.call19 (by simp only [EN, Nat.reduceEqDiff, reduceIte, AR, decide_true, Bool.not_true, Bool.not_false, decide_false, hB1.cell]; exact c_entries (some ⟨B1, 0, none⟩) kl1 2 (by simp) hsl) ?_
    rintro ve h60 ⟨hx60, hoe⟩
    simp only [put_some]
    obtain ⟨ae, ce, rfl, _, hse, _⟩ := Own.slG (f := entL) (sz := 3) (fun _ => rfl) hoe rfl
    replace hE := hE.ext hx60
    replace hbk := hbk.ext hx60
    replace hB1 := hB1.ext hx60
    refine WL.ce Try.call18 (by simp only [EN, Nat.reduceEqDiff, reduceIte, AR, decide_true, Bool.not_true, Bool.not_false, decide_false, hB1.cell]; exact c_postF ae kl1 ce (by simp) (by simp) (by simp) kn ku1 hbk (hoe.base (Nat.zero_le _)) kc1 hE hfr) ?_
    rintro _ h70 ⟨rfl, hE', hg, vo1, hbk', hfr', _⟩
    simp only [put_some]
    replace hB1 := hB1.gs hg (hbk.offC hB1 (by decide) (by decide))
    rw [if_neg (by decide), if_neg (by decide)] at hbk'
    replace hE := hE'
    replace hbk := hbk'
    replace hfr := hfr'
    refine WL.qq (by simp only [EN, Nat.reduceEqDiff, reduceIte, qv_binOp, binv_neq, eq45, Option.map_some, decide_true, Bool.not_true, Bool.not_false, decide_false, hB1.cell]; rfl) ?_
    refine WL.qq (by simp only [EN, Nat.reduceEqDiff, reduceIte, qv_move, decide_true, Bool.not_true, Bool.not_false, decide_false, hB1.cell]; rfl) ?_
    refine WL.cq (gd_at (t := 25) rfl (by simp only [EN, Nat.reduceEqDiff, reduceIte, decide_true, Bool.not_true, Bool.not_false, decide_false, hB1.cell] <;> rfl)) (fun hg5_6 => by simp only [EN, Nat.reduceEqDiff, reduceIte, qv_move, decide_true, Bool.not_true, Bool.not_false, decide_false, hB1.cell, hg5_6, GR]; rfl) ?_
    refine WL.cq (gd_at (t := 25) rfl (by simp only [EN, Nat.reduceEqDiff, reduceIte, decide_true, Bool.not_true, Bool.not_false, decide_false, hB1.cell] <;> rfl)) (fun hg5_7 => by refine qv_bld (by simp only [EN, Nat.reduceEqDiff, reduceIte, AR, decide_true, Bool.not_true, Bool.not_false, decide_false, hB1.cell, hg5_7, GR] <;> rfl) (by rw [bl34]; simp [Instr.fill, Value.cells]; rfl)) ?_
    refine WL.gy _ (gd_at (t := 25) rfl (by simp only [EN, Nat.reduceEqDiff, reduceIte, decide_true, Bool.not_true, Bool.not_false, decide_false, hB1.cell] <;> rfl)) (e_call Try.call41 (by simp only [EN, Nat.reduceEqDiff, reduceIte, AR, decide_true, Bool.not_true, Bool.not_false, decide_false, hB1.cell]; exact c_setF ⟨1, 0⟩ (-10) hbk (r := 0) (by decide) hE hfr)) ?_
    rintro _ h71 ⟨rfl, hE', hg, hbk'⟩
    simp only [put_some]
    replace hB1 := hB1.gs hg (by simp; exact hB1.nmap hbk.flo)
    rw [if_pos rfl] at hbk'
    replace hE := hE'
    replace hbk := hbk'
    have hsl := slG_has (f := entL) (sz := 3) (L := kl1) (fun _ => rfl) hB1 rfl
    refine WL.cq (gd_at (t := 25) rfl (by simp only [EN, Nat.reduceEqDiff, reduceIte, decide_true, Bool.not_true, Bool.not_false, decide_false, hB1.cell] <;> rfl)) (fun hg5_9 => by simp only [EN, Nat.reduceEqDiff, reduceIte, qv_binOp, binv_neq, eq45, Option.map_some, decide_true, Bool.not_true, Bool.not_false, decide_false, hB1.cell, hg5_9, GR]; rfl) ?_
    refine WL.qq (by simp only [EN, Nat.reduceEqDiff, reduceIte, qv_pick, pk_and, pk_or, GR, decide_true, Bool.not_true, Bool.not_false, decide_false, hB1.cell]; rfl) ?_
    refine WL.qq (by simp only [EN, Nat.reduceEqDiff, reduceIte, qv_move, decide_true, Bool.not_true, Bool.not_false, decide_false, hB1.cell]; rfl) ?_
    refine WL.cq (gd_at (t := 31) rfl (by simp only [EN, Nat.reduceEqDiff, reduceIte, decide_true, Bool.not_true, Bool.not_false, decide_false, hB1.cell] <;> rfl)) (fun hg5_12 => by simp only [EN, Nat.reduceEqDiff, reduceIte, qv_move, decide_true, Bool.not_true, Bool.not_false, decide_false, hB1.cell, hg5_12, GR]; rfl) ?_
    refine WL.cq (gd_at (t := 31) rfl (by simp only [EN, Nat.reduceEqDiff, reduceIte, decide_true, Bool.not_true, Bool.not_false, decide_false, hB1.cell] <;> rfl)) (fun hg5_13 => by simp only [EN, Nat.reduceEqDiff, reduceIte, qv_move, decide_true, Bool.not_true, Bool.not_false, decide_false, hB1.cell, hg5_13, GR]; rfl) ?_
    refine WL.gy _ (gd_at (t := 31) rfl (by simp only [EN, Nat.reduceEqDiff, reduceIte, decide_true, Bool.not_true, Bool.not_false, decide_false, hB1.cell] <;> rfl)) (e_call Try.call19 (by simp only [EN, Nat.reduceEqDiff, reduceIte, AR, decide_true, Bool.not_true, Bool.not_false, decide_false, hB1.cell]; exact c_entries (some ⟨B1, 0, none⟩) kl1 2 (by simp) hsl)) ?_
    rintro ve h72 ⟨hx72, hoe⟩
    simp only [put_some]
    obtain ⟨ae2, ce2, rfl, _, hse, _⟩ := Own.slG (f := entL) (sz := 3) (fun _ => rfl) hoe rfl
    replace hE := hE.ext hx72
    replace hbk := hbk.ext hx72
    replace hB1 := hB1.ext hx72
    refine WL.gy _ (gd_at (t := 31) rfl (by simp only [EN, Nat.reduceEqDiff, reduceIte, decide_true, Bool.not_true, Bool.not_false, decide_false, hB1.cell] <;> rfl)) (e_call Try.call18 (by simp only [EN, Nat.reduceEqDiff, reduceIte, AR, decide_true, Bool.not_true, Bool.not_false, decide_false, hB1.cell]; exact c_postF ae2 kl1 ce2 (by simp) (by simp) (by simp) kn ku1 hbk (hoe.base (Nat.zero_le _)) kc2 hE hfr)) ?_
    rintro _ h73 ⟨rfl, hE', hg, vo2, hbk', hfr', _⟩
    simp only [put_some]
    replace hB1 := hB1.gs hg (hbk.offC hB1 (by decide) (by decide))
    rw [if_pos rfl, if_pos rfl] at hbk'
    replace hE := hE'
    replace hbk := hbk'
    replace hfr := hfr'
    refine WL.cq (gd_at (t := 31) rfl (by simp only [EN, Nat.reduceEqDiff, reduceIte, decide_true, Bool.not_true, Bool.not_false, decide_false, hB1.cell] <;> rfl)) (fun hg5_16 => by simp only [EN, Nat.reduceEqDiff, reduceIte, qv_binOp, binv_neq, eq45, Option.map_some, decide_true, Bool.not_true, Bool.not_false, decide_false, hB1.cell, hg5_16, GR]; rfl) ?_
    refine WL.qq (by simp only [EN, Nat.reduceEqDiff, reduceIte, qv_pick, pk_and, pk_or, GR, decide_true, Bool.not_true, Bool.not_false, decide_false, hB1.cell]; rfl) ?_
    refine WL.nil ?_
    refine th_norm ?_
    refine hx_cond (by simp only [EN, Nat.reduceEqDiff, reduceIte, decide_true, Bool.not_true, Bool.not_false, decide_false, hB1.cell]; rfl) (fun hct37 => ?_) (fun hct37 => ?_)
    ·
      simp at hct37
    ·
      try simp only [BD] at hct37
      refine hx_skip ?_
      refine th_norm ?_
      refine hx_seq ?_
      refine hx_region ?_
      refine WL.qq (by refine qv_bld (by simp only [EN, Nat.reduceEqDiff, reduceIte, AR, decide_true, Bool.not_true, Bool.not_false, decide_false, hB1.cell] <;> rfl) (by rw [bl34]; simp [Instr.fill, Value.cells]; rfl)) ?_
      refine WL.qq (by refine qv_bld (by simp only [EN, Nat.reduceEqDiff, reduceIte, AR, decide_true, Bool.not_true, Bool.not_false, decide_false, hB1.cell] <;> rfl) (by rw [bl44]; simp [Instr.fill, Value.cells]; rfl)) ?_
      refine WL.qq (by refine qv_bld (by simp only [EN, Nat.reduceEqDiff, reduceIte, AR, decide_true, Bool.not_true, Bool.not_false, decide_false, hB1.cell] <;> rfl) (by rw [bl34]; simp [Instr.fill, Value.cells]; rfl)) ?_
      refine WL.qq (by refine qv_bld (by simp only [EN, Nat.reduceEqDiff, reduceIte, AR, decide_true, Bool.not_true, Bool.not_false, decide_false, hB1.cell] <;> rfl) (by rw [bl44]; simp [Instr.fill, Value.cells]; rfl)) ?_
      refine WL.lit2 #[(.int .u8 0), (.int .u8 0), (.int .i64 0), (.int .u8 0), (.int .u8 0), (.int .i64 0)] Try.underlying26 sz44 zr44 (by decide) (by kernel_rfl) ⟨_, (by simp only [EN, Nat.reduceEqDiff, reduceIte, AR, decide_true, Bool.not_true, Bool.not_false, decide_false, hB1.cell]; simp [Instr.fill, Value.cells]; rfl), rfl⟩ ?_
      intro h2 B2 hx2 hlt2 hB2
      replace hE := hE.ext hx2
      replace hbk := hbk.ext hx2
      replace hB1 := hB1.ext hx2
      refine WL.qq (by simp only [EN, Nat.reduceEqDiff, reduceIte, qv_assign, decide_true, Bool.not_true, Bool.not_false, decide_false, hB1.cell, hB2.cell]; rfl) ?_
      refine WL.nil ?_
      refine th_norm ?_
      refine hx_seq ?_
      refine hx_region ?_
      refine WL.qq (by simp only [EN, Nat.reduceEqDiff, reduceIte, qv_move, decide_true, Bool.not_true, Bool.not_false, decide_false, hB1.cell, hB2.cell]; rfl) ?_
      refine WL.qq (by simp only [EN, Nat.reduceEqDiff, reduceIte, qv_move, decide_true, Bool.not_true, Bool.not_false, decide_false, hB1.cell, hB2.cell]; rfl) ?_
      have hsl := slG_has (f := entL) (sz := 3) (L := kl2) (fun _ => rfl) hB2 rfl
      refine WL.ce Try.call19 (by simp only [EN, Nat.reduceEqDiff, reduceIte, AR, decide_true, Bool.not_true, Bool.not_false, decide_false, hB1.cell, hB2.cell]; exact c_entries (some ⟨B2, 0, none⟩) kl2 2 (by simp) hsl) ?_
      rintro ve h74 ⟨hx74, hoe⟩
      simp only [put_some]
      obtain ⟨ae3, ce3, rfl, _, hse, _⟩ := Own.slG (f := entL) (sz := 3) (fun _ => rfl) hoe rfl
      replace hE := hE.ext hx74
      replace hbk := hbk.ext hx74
      refine WL.ce Try.call18 (by simp only [EN, Nat.reduceEqDiff, reduceIte, AR, decide_true, Bool.not_true, Bool.not_false, decide_false, hB1.cell, hB2.cell]; exact c_postF ae3 kl2 ce3 (by simp) (by decide) (by simp) (fun q => put_vld kc2 kn q) ku2 hbk (hoe.base (Nat.zero_le _)) kc3 hE hfr) ?_
      rintro _ h75 ⟨rfl, hE', hg, vo3, hbk', hfr', _⟩
      simp only [put_some]
      rw [if_neg (by decide), if_neg (by decide)] at hbk'
      replace hE := hE'
      replace hbk := hbk'
      replace hfr := hfr'
      refine WL.qq (by simp only [EN, Nat.reduceEqDiff, reduceIte, qv_binOp, binv_eql, eq45, Option.map_some, decide_true, Bool.not_true, Bool.not_false, decide_false, hB1.cell, hB2.cell]; rfl) ?_
      refine WL.qq (by simp only [EN, Nat.reduceEqDiff, reduceIte, qv_move, decide_true, Bool.not_true, Bool.not_false, decide_false, hB1.cell, hB2.cell]; rfl) ?_
      refine WL.cq (gd_at (t := 48) rfl (by simp only [EN, Nat.reduceEqDiff, reduceIte, decide_true, Bool.not_true, Bool.not_false, decide_false, hB1.cell, hB2.cell] <;> rfl)) (fun hg8_6 => by simp only [EN, Nat.reduceEqDiff, reduceIte, qv_move, decide_true, Bool.not_true, Bool.not_false, decide_false, hB1.cell, hB2.cell, hg8_6, GR]; rfl) ?_
      refine WL.cq (gd_at (t := 48) rfl (by simp only [EN, Nat.reduceEqDiff, reduceIte, decide_true, Bool.not_true, Bool.not_false, decide_false, hB1.cell, hB2.cell] <;> rfl)) (fun hg8_7 => by refine qv_bld (by simp only [EN, Nat.reduceEqDiff, reduceIte, AR, decide_true, Bool.not_true, Bool.not_false, decide_false, hB1.cell, hB2.cell, hg8_7, GR] <;> rfl) (by rw [bl34]; simp [Instr.fill, Value.cells]; rfl)) ?_
      refine WL.gy _ (gd_at (t := 48) rfl (by simp only [EN, Nat.reduceEqDiff, reduceIte, decide_true, Bool.not_true, Bool.not_false, decide_false, hB1.cell, hB2.cell] <;> rfl)) (e_call Try.call21 (by simp only [EN, Nat.reduceEqDiff, reduceIte, AR, decide_true, Bool.not_true, Bool.not_false, decide_false, hB1.cell, hB2.cell]; exact kb1 ▸ c_bkBal ⟨1, 0⟩ hbk)) ?_
      rintro _ h81 ⟨rfl, hx81⟩
      simp only [put_some]
      replace hE := hE.ext hx81
      replace hbk := hbk.ext hx81
      refine WL.cq (gd_at (t := 48) rfl (by simp only [EN, Nat.reduceEqDiff, reduceIte, decide_true, Bool.not_true, Bool.not_false, decide_false, hB1.cell, hB2.cell] <;> rfl)) (fun hg8_9 => by simp only [EN, Nat.reduceEqDiff, reduceIte, qv_binOp, binv_eql, eq2, Option.map_some, decide_true, Bool.not_true, Bool.not_false, decide_false, hB1.cell, hB2.cell, hg8_9, GR]; rfl) ?_
      refine WL.qq (by simp only [EN, Nat.reduceEqDiff, reduceIte, qv_pick, pk_and, pk_or, GR, decide_true, Bool.not_true, Bool.not_false, decide_false, hB1.cell, hB2.cell]; rfl) ?_
      refine WL.qq (by simp only [EN, Nat.reduceEqDiff, reduceIte, qv_move, decide_true, Bool.not_true, Bool.not_false, decide_false, hB1.cell, hB2.cell]; rfl) ?_
      refine WL.cq (gd_at (t := 54) rfl (by simp only [EN, Nat.reduceEqDiff, reduceIte, decide_true, Bool.not_true, Bool.not_false, decide_false, hB1.cell, hB2.cell] <;> rfl)) (fun hg8_12 => by simp only [EN, Nat.reduceEqDiff, reduceIte, qv_move, decide_true, Bool.not_true, Bool.not_false, decide_false, hB1.cell, hB2.cell, hg8_12, GR]; rfl) ?_
      refine WL.cq (gd_at (t := 54) rfl (by simp only [EN, Nat.reduceEqDiff, reduceIte, decide_true, Bool.not_true, Bool.not_false, decide_false, hB1.cell, hB2.cell] <;> rfl)) (fun hg8_13 => by refine qv_bld (by simp only [EN, Nat.reduceEqDiff, reduceIte, AR, decide_true, Bool.not_true, Bool.not_false, decide_false, hB1.cell, hB2.cell, hg8_13, GR] <;> rfl) (by rw [bl34]; simp [Instr.fill, Value.cells]; rfl)) ?_
      refine WL.gy _ (gd_at (t := 54) rfl (by simp only [EN, Nat.reduceEqDiff, reduceIte, decide_true, Bool.not_true, Bool.not_false, decide_false, hB1.cell, hB2.cell] <;> rfl)) (e_call Try.call21 (by simp only [EN, Nat.reduceEqDiff, reduceIte, AR, decide_true, Bool.not_true, Bool.not_false, decide_false, hB1.cell, hB2.cell]; exact kb2 ▸ c_bkBal ⟨2, 0⟩ hbk)) ?_
      rintro _ h82 ⟨rfl, hx82⟩
      simp only [put_some]
      replace hE := hE.ext hx82
      replace hbk := hbk.ext hx82
      refine WL.cq (gd_at (t := 54) rfl (by simp only [EN, Nat.reduceEqDiff, reduceIte, decide_true, Bool.not_true, Bool.not_false, decide_false, hB1.cell, hB2.cell] <;> rfl)) (fun hg8_15 => by simp only [EN, Nat.reduceEqDiff, reduceIte, qv_binOp, binv_eql, eq2, Option.map_some, decide_true, Bool.not_true, Bool.not_false, decide_false, hB1.cell, hB2.cell, hg8_15, GR]; rfl) ?_
      refine WL.qq (by simp only [EN, Nat.reduceEqDiff, reduceIte, qv_pick, pk_and, pk_or, GR, decide_true, Bool.not_true, Bool.not_false, decide_false, hB1.cell, hB2.cell]; rfl) ?_
      refine WL.qq (by simp only [EN, Nat.reduceEqDiff, reduceIte, qv_move, decide_true, Bool.not_true, Bool.not_false, decide_false, hB1.cell, hB2.cell]; rfl) ?_
      refine WL.cq (gd_at (t := 60) rfl (by simp only [EN, Nat.reduceEqDiff, reduceIte, decide_true, Bool.not_true, Bool.not_false, decide_false, hB1.cell, hB2.cell] <;> rfl)) (fun hg8_18 => by simp only [EN, Nat.reduceEqDiff, reduceIte, qv_move, decide_true, Bool.not_true, Bool.not_false, decide_false, hB1.cell, hB2.cell, hg8_18, GR]; rfl) ?_
      refine WL.gy _ (gd_at (t := 60) rfl (by simp only [EN, Nat.reduceEqDiff, reduceIte, decide_true, Bool.not_true, Bool.not_false, decide_false, hB1.cell, hB2.cell] <;> rfl)) (e_call Try.call24 (by simp only [EN, Nat.reduceEqDiff, reduceIte, AR, decide_true, Bool.not_true, Bool.not_false, decide_false, hB1.cell, hB2.cell]; exact c_bkSeq hbk)) ?_
      rintro _ h76 ⟨rfl, hq76⟩
      obtain rfl : h76 = _ := hq76
      simp only [put_some]
      refine WL.cq (gd_at (t := 60) rfl (by simp only [EN, Nat.reduceEqDiff, reduceIte, decide_true, Bool.not_true, Bool.not_false, decide_false, hB1.cell, hB2.cell] <;> rfl)) (fun hg8_20 => by simp only [EN, Nat.reduceEqDiff, reduceIte, qv_binOp, binv_eql, eq3, Option.map_some, decide_true, Bool.not_true, Bool.not_false, decide_false, hB1.cell, hB2.cell, hg8_20, GR]; rfl) ?_
      refine WL.qq (by simp only [EN, Nat.reduceEqDiff, reduceIte, qv_pick, pk_and, pk_or, GR, decide_true, Bool.not_true, Bool.not_false, decide_false, hB1.cell, hB2.cell]; rfl) ?_
      refine WL.qq (by simp only [EN, Nat.reduceEqDiff, reduceIte, qv_assign, decide_true, Bool.not_true, Bool.not_false, decide_false, hB1.cell, hB2.cell]; rfl) ?_
      refine WL.nil ?_
      refine th_norm ?_
      refine hx_ret ?_
      refine fin_ret [.tmp 0] rfl rfl (by simp only [EN, Nat.reduceEqDiff, reduceIte, resv, decide_true, Bool.not_true, Bool.not_false, decide_false, hB1.cell, hB2.cell]; rfl) ?_  -- ret 0 r8
      exact ⟨by simp [retOf], hE⟩
end GL


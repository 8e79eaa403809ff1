/- Limits: a table of the statement's own; the example. -/
import Derived.Test.YtenjmnpefmjdfaaLimG
set_option linter.unusedSimpArgs false
set_option linter.unusedVariables false
set_option linter.unnecessarySimpa false
namespace GL
open Go Go.Proofs
set_option maxRecDepth 8000
/-- A table that was made behind h0. -/
structure TB (h0 h : Heap) (p : Nat) (ls ns : List L2) : Prop where
  ex : ∃ bl bn, IsTb h p bl bn ls ns ∧ h0.size ≤ bl ∧ h0.size ≤ bn
  E : Ext h0 h
  hp : h0.size ≤ p
section
variable {h0 h h' : Heap} {p : Nat} {ls ns : List L2}
theorem TB.ext (ht : TB h0 h p ls ns) (hx : Ext h h') : TB h0 h' p ls ns := by
  obtain ⟨⟨bl, bn, h1, h2, h3⟩, hE, hp⟩ := ht
  exact ⟨⟨bl, bn, h1.ext hx, h2, h3⟩, hE.trans hx, hp⟩
theorem tb_new (h : Heap) : HCalls Try.prog 12 #[] h fun v h' => ∃ p, v = .pointer (some ⟨p, 0, none⟩) ∧ TB h h' p [] [] :=
  (c_new h).mono fun v h' ⟨hx, p, bl, bn, hv, hb, h1, h2, h3⟩ => ⟨p, hv, ⟨bl, bn, hb, h2, h3⟩, hx, h1⟩
theorem tb_gs {l n : List L2} (hE : Ext h0 h) (hp : h0.size ≤ p) (hg : Gs h h' [p]) (hex : ∃ bl bn, IsTb h' p bl bn l n ∧ h0.size ≤ bl ∧ h0.size ≤ bn) : TB h0 h' p l n :=
  ⟨hex, hg.toExt hE (fun x hx => by simp at hx; subst hx; exact hp), hp⟩
theorem tb_setB (k : PK) (a : Int) (ht : TB h0 h p ls ns) (hcm : cntM (setL ls k a) ns ≤ 9223372036854775807) {r : Int} (hr : setBE ls ns k a = r) :
    HCalls Try.prog 27 #[.pointer (some ⟨p, 0, none⟩), .string k.f, .string k.t, iV a] h fun v h' => v = iV r ∧ TB h0 h' p (if r = 0 then setL ls k a else ls) ns := by
  obtain ⟨⟨bl, bn, h1, h2, h3⟩, hE, hp⟩ := ht
  refine (c_setB k a hcm h1 hr).mono ?_
  rintro v h' ⟨rfl, hg, _, bl', hb', hd⟩
  exact ⟨rfl, tb_gs hE hp hg ⟨bl', bn, hb', hd.elim (fun hh => hh ▸ h2) (fun hh => Nat.le_trans hE.size hh), h3⟩⟩
theorem tb_setM (f : ByteArray) (a : Int) (ht : TB h0 h p ls ns) (hcm : cntM (setL ls ⟨f, em⟩ a) ns ≤ 9223372036854775807) {r : Int} (hr : setME ls ns f a = r) :
    HCalls Try.prog 13 #[.pointer (some ⟨p, 0, none⟩), .string f, iV a] h fun v h' => v = iV r ∧ TB h0 h' p (if r = 0 then setL ls ⟨f, em⟩ a else ls) ns := by
  obtain ⟨⟨bl, bn, h1, h2, h3⟩, hE, hp⟩ := ht
  refine (c_setM f a hcm h1 hr).mono ?_
  rintro v h' ⟨rfl, hg, _, bl', hb', hd⟩
  exact ⟨rfl, tb_gs hE hp hg ⟨bl', bn, hb', hd.elim (fun hh => hh ▸ h2) (fun hh => Nat.le_trans hE.size hh), h3⟩⟩
theorem tb_Record (al : Option Addr) (F : List L2) (cl : Nat) (ll : F.length ≤ 9223372036854775807) (hcm : cntM ls (aftS ns F) ≤ 9223372036854775807) (ht : TB h0 h p ls ns) (hl : SlG 3 limL h al F) {r : Int} (hr : chkS ls ns F = r) :
    HCalls Try.prog 15 #[.pointer (some ⟨p, 0, none⟩), .slice al F.length cl] h fun v h' => v = iV r ∧ TB h0 h' p ls (if r = 0 then aftS ns F else ns) := by
  obtain ⟨⟨bl, bn, h1, h2, h3⟩, hE, hp⟩ := ht
  refine (c_Record al F cl ll hcm h1 hl hr).mono ?_
  rintro v h' ⟨rfl, hg, _, bn', hb', hd⟩
  exact ⟨rfl, tb_gs hE hp hg ⟨bl, bn', hb', h2, hd.elim (fun hh => hh ▸ h3) (fun hh => Nat.le_trans hE.size hh)⟩⟩
theorem tb_Reset (ht : TB h0 h p ls ns) : HCalls Try.prog 32 #[.pointer (some ⟨p, 0, none⟩)] h fun v h' => v = iV 0 ∧ TB h0 h' p ls [] := by
  obtain ⟨⟨bl, bn, h1, h2, h3⟩, hE, hp⟩ := ht
  refine (c_Reset h1).mono ?_
  rintro v h' ⟨rfl, hg, hb⟩
  exact ⟨rfl, ⟨bl, bn, hb, h2, h3⟩, hg.toExt hE (fun x hx => by simp at hx; subst hx; exact h3), hp⟩
theorem tb_Check (al : Option Addr) (F : List L2) (cl : Nat) (ll : F.length ≤ 9223372036854775807) (hcm : cntM ls (aftS ns F) ≤ 9223372036854775807) (ht : TB h0 h p ls ns) (hl : SlG 3 limL h al F) :
    HCalls Try.prog 25 #[.pointer (some ⟨p, 0, none⟩), .slice al F.length cl] h (Grow (iV (chkS ls ns F)) h) := by
  obtain ⟨⟨bl, bn, h1, h2, h3⟩, hE, hp⟩ := ht
  exact c_Check al F cl ll hcm h1 hl
theorem tb_Net (a b : ByteArray) (ht : TB h0 h p ls ns) : HCalls Try.prog 20 #[.pointer (some ⟨p, 0, none⟩), .string a, .string b] h (Pure (iV (lk ns ⟨a, b⟩)) h) := by
  obtain ⟨⟨bl, bn, h1, h2, h3⟩, hE, hp⟩ := ht
  exact c_Net a b h1
theorem tb_Out (a : ByteArray) (ht : TB h0 h p ls ns) : HCalls Try.prog 21 #[.pointer (some ⟨p, 0, none⟩), .string a] h (Grow (iV (outW ns a)) h) := by
  obtain ⟨⟨bl, bn, h1, h2, h3⟩, hE, hp⟩ := ht
  exact c_Outflow a h1
theorem tb_MRoom (a : ByteArray) (ht : TB h0 h p ls ns) : HCalls Try.prog 29 #[.pointer (some ⟨p, 0, none⟩), .string a] h (Grow (roomV ls ⟨a, em⟩ (outW ns a)) h) := by
  obtain ⟨⟨bl, bn, h1, h2, h3⟩, hE, hp⟩ := ht
  exact c_MRoom a h1
theorem tb_BRoom (a b : ByteArray) (ht : TB h0 h p ls ns) : HCalls Try.prog 30 #[.pointer (some ⟨p, 0, none⟩), .string a, .string b] h (Grow (broomV ls ns a b) h) := by
  obtain ⟨⟨bl, bn, h1, h2, h3⟩, hE, hp⟩ := ht
  exact c_BRoom a b h1
theorem tb_Limits (hll : ls.length ≤ 1000000) (ht : TB h0 h p ls ns) :
    HCalls Try.prog 28 #[.pointer (some ⟨p, 0, none⟩)] h fun v h' => Ext h h' ∧ ∃ L a cap, v = .slice a L.length cap ∧ SlG 3 limL h' a L ∧ kSorted L ∧ L.Perm ls := by
  obtain ⟨⟨bl, bn, h1, h2, h3⟩, hE, hp⟩ := ht
  exact c_Limits hll h1
theorem tb_nodup (ht : TB h0 h p ls ns) : (ls.map Prod.fst).Nodup ∧ (ns.map Prod.fst).Nodup := by
  obtain ⟨⟨bl, bn, h1, h2, h3⟩, hE, hp⟩ := ht
  exact ⟨h1.lim.nodup, h1.net.nodup⟩
end
/-! The example. -/
abbrev nA : ByteArray := ⟨#[65]⟩
abbrev nB : ByteArray := ⟨#[66]⟩
abbrev kf1 : List L2 := [(⟨nA, nB⟩, 7)]
abbrev kf2 : List L2 := [(⟨nA, nB⟩, 7), (⟨nB, nA⟩, 3)]
abbrev kl : List L2 := [(⟨nA, nB⟩, 5)]
theorem ks1 : setBE [] [] ⟨nA, nB⟩ 5 = 0 := by decide +kernel
theorem ks2 : setL [] ⟨nA, nB⟩ 5 = kl := by decide +kernel
theorem ks3 : chkS kl [] kf1 = 15 := by decide +kernel
theorem ks4 : chkS kl [] kf2 = 0 := by decide +kernel
theorem ks5 : lk (aftS [] kf2) ⟨nA, nB⟩ = 4 := by decide +kernel
theorem ks6 : broomV kl (aftS [] kf2) nA nB = .tuple #[iV 1, .bool true] := by
  have h1 : (kl.lookup ⟨nA, nB⟩).isSome = true := by decide +kernel
  have h2 : ¬ nB = em := by decide +kernel
  have h3 : lk kl ⟨nA, nB⟩ = 5 := by decide +kernel
  have h4 : IntKind.i64.wrap (5 - 4) = 1 := by decide +kernel
  rw [broomV, if_neg h2, roomV, h1, if_pos rfl, ks5, h3, h4]
theorem kc1 : cntM (setL [] ⟨nA, nB⟩ 5) [] ≤ 9223372036854775807 := by decide +kernel
theorem kc2 : cntM kl (aftS [] kf1) ≤ 9223372036854775807 := by decide +kernel
theorem kc3 : cntM kl (aftS [] kf2) ≤ 9223372036854775807 := by decide +kernel
set_option maxHeartbeats 1000000 in
theorem c_known16 (h : Heap) : HCalls Try.prog 11 #[] h (Grow (.bool true) h) := by
  refine hcalls2 Try.func11 rfl (by decide +kernel) (by simp only [Try.ntmps11]; exact of_decide_eq_true rfl) ?_
  intro e hin
  refine hx_seq ?_
  refine hx_region ?_
  refine WL.qq (by simp only [EN, Nat.reduceEqDiff, reduceIte, qv_assign, decide_true, Bool.not_true, Bool.not_false, decide_false, eq_self, if_true, if_false, Bool.or_true, Bool.and_true]; rfl) ?_
  refine WL.nil ?_
  refine th_norm ?_
  refine hx_seq ?_
  refine hx_region ?_
  refine WL.ce Try.call12 (by simp only [EN, Nat.reduceEqDiff, reduceIte, AR, decide_true, Bool.not_true, Bool.not_false, decide_false, eq_self, if_true, if_false, Bool.or_true, Bool.and_true]; exact tb_new h) ?_
  rintro _ h1 ⟨p, rfl, hT⟩
  simp only [put_some]
  refine WL.qq (by simp only [EN, Nat.reduceEqDiff, reduceIte, qv_assign, decide_true, Bool.not_true, Bool.not_false, decide_false, eq_self, if_true, if_false, Bool.or_true, Bool.and_true]; rfl) ?_
  refine WL.nil ?_
  refine th_norm ?_
  refine hx_seq ?_
  refine hx_seq ?_
  refine hx_region ?_
  refine WL.qq (by simp only [EN, Nat.reduceEqDiff, reduceIte, qv_move, decide_true, Bool.not_true, Bool.not_false, decide_false, eq_self, if_true, if_false, Bool.or_true, Bool.and_true]; rfl) ?_
  refine WL.ce Try.call27 (by simp only [EN, Nat.reduceEqDiff, reduceIte, AR, decide_true, Bool.not_true, Bool.not_false, decide_false, eq_self, if_true, if_false, Bool.or_true, Bool.and_true]; exact tb_setB ⟨nA, nB⟩ 5 hT kc1 ks1) ?_
  rintro _ h2 ⟨rfl, hT2⟩
  simp only [put_some]
  replace hT : TB h h2 p kl [] := by rw [if_pos rfl, ks2] at hT2; exact hT2
  refine WL.qq (by simp only [EN, Nat.reduceEqDiff, reduceIte, qv_binOp, binv_neq, eq26, Option.map_some, decide_true, Bool.not_true, Bool.not_false, decide_false, eq_self, if_true, if_false, Bool.or_true, Bool.and_true]; rfl) ?_
  refine WL.qq (by simp only [EN, Nat.reduceEqDiff, reduceIte, qv_move, decide_true, Bool.not_true, Bool.not_false, decide_false, eq_self, if_true, if_false, Bool.or_true, Bool.and_true]; rfl) ?_
  refine WL.cq (gd_at (t := 9) rfl (by simp only [EN, Nat.reduceEqDiff, reduceIte, decide_true, Bool.not_true, Bool.not_false, decide_false, eq_self, if_true, if_false, Bool.or_true, Bool.and_true] <;> rfl)) (fun hg2_4 => by simp only [EN, Nat.reduceEqDiff, reduceIte, qv_move, decide_true, Bool.not_true, Bool.not_false, decide_false, eq_self, if_true, if_false, Bool.or_true, Bool.and_true, hg2_4, GR]; rfl) ?_
  refine WL.cq (gd_at (t := 9) rfl (by simp only [EN, Nat.reduceEqDiff, reduceIte, decide_true, Bool.not_true, Bool.not_false, decide_false, eq_self, if_true, if_false, Bool.or_true, Bool.and_true] <;> rfl)) (fun hg2_5 => by refine qv_bld (by simp only [EN, Nat.reduceEqDiff, reduceIte, AR, decide_true, Bool.not_true, Bool.not_false, decide_false, eq_self, if_true, if_false, Bool.or_true, Bool.and_true, hg2_5, GR] <;> rfl) (by rw [bl31]; simp [Instr.fill, Value.cells]; rfl)) ?_
  refine WL.gy _ (gd_at (t := 9) rfl (by simp only [EN, Nat.reduceEqDiff, reduceIte, decide_true, Bool.not_true, Bool.not_false, decide_false, eq_self, if_true, if_false, Bool.or_true, Bool.and_true] <;> rfl)) (e_lit1 (N := 0) (Nat.zero_le _) Try.underlying32 sz31 zr31 (by decide) (by simp only [EN, Nat.reduceEqDiff, reduceIte, decide_true, Bool.not_true, Bool.not_false, decide_false, eq_self, if_true, if_false, Bool.or_true, Bool.and_true, Value.cells]; rfl) rfl) ?_
  rintro _ h3 ⟨hx3, ⟨B3, _, rfl⟩, hm3⟩
  simp only [put_some]
  have hB3 := hm3 B3 rfl
  replace hx3 : Ext _ _ := hx3
  replace hT := hT.ext hx3
  refine WL.gy _ (gd_at (t := 9) rfl (by simp only [EN, Nat.reduceEqDiff, reduceIte, decide_true, Bool.not_true, Bool.not_false, decide_false, eq_self, if_true, if_false, Bool.or_true, Bool.and_true] <;> rfl)) (e_call Try.call15 (by simp only [EN, Nat.reduceEqDiff, reduceIte, AR, decide_true, Bool.not_true, Bool.not_false, decide_false, eq_self, if_true, if_false, Bool.or_true, Bool.and_true]; exact tb_Record (some ⟨B3, 0, none⟩) kf1 1 (by simp) kc2 hT (slG_has (f := limL) (sz := 3) (L := kf1) (fun _ => rfl) hB3 rfl) ks3)) ?_
  rintro _ h4 ⟨rfl, hT4⟩
  simp only [put_some]
  replace hT : TB h h4 p kl [] := by rw [if_neg (by decide)] at hT4; exact hT4
  refine WL.cq (gd_at (t := 9) rfl (by simp only [EN, Nat.reduceEqDiff, reduceIte, decide_true, Bool.not_true, Bool.not_false, decide_false, eq_self, if_true, if_false, Bool.or_true, Bool.and_true] <;> rfl)) (fun hg2_8 => by simp only [EN, Nat.reduceEqDiff, reduceIte, qv_binOp, binv_neq, eq26, Option.map_some, decide_true, Bool.not_true, Bool.not_false, decide_false, eq_self, if_true, if_false, Bool.or_true, Bool.and_true, hg2_8, GR]; rfl) ?_
  refine WL.qq (by simp only [EN, Nat.reduceEqDiff, reduceIte, qv_pick, pk_and, pk_or, GR, decide_true, Bool.not_true, Bool.not_false, decide_false, eq_self, if_true, if_false, Bool.or_true, Bool.and_true]; rfl) ?_
  refine WL.nil ?_
  refine th_norm ?_
  refine hx_cond (by simp only [EN, Nat.reduceEqDiff, reduceIte, decide_true, Bool.not_true, Bool.not_false, decide_false, eq_self, if_true, if_false, Bool.or_true, Bool.and_true]; rfl) (fun hct15 => ?_) (fun hct15 => ?_)
  ·
    simp at hct15
  ·
    try simp only [BD] at hct15
    refine hx_skip ?_
    refine th_norm ?_
    refine hx_seq ?_
    refine hx_region ?_
    refine WL.qq (by simp only [EN, Nat.reduceEqDiff, reduceIte, qv_move, decide_true, Bool.not_true, Bool.not_false, decide_false, eq_self, if_true, if_false, Bool.or_true, Bool.and_true]; rfl) ?_
    refine WL.qq (by refine qv_bld (by simp only [EN, Nat.reduceEqDiff, reduceIte, AR, decide_true, Bool.not_true, Bool.not_false, decide_false, eq_self, if_true, if_false, Bool.or_true, Bool.and_true] <;> rfl) (by rw [bl31]; simp [Instr.fill, Value.cells]; rfl)) ?_
    refine WL.qq (by refine qv_bld (by simp only [EN, Nat.reduceEqDiff, reduceIte, AR, decide_true, Bool.not_true, Bool.not_false, decide_false, eq_self, if_true, if_false, Bool.or_true, Bool.and_true] <;> rfl) (by rw [bl31]; simp [Instr.fill, Value.cells]; rfl)) ?_
    refine WL.lit2 #[.string em, .string em, iV 0, .string em, .string em, iV 0] Try.underlying32 sz31 zr31 (by decide) (by kernel_rfl) ⟨_, (by simp only [EN, Nat.reduceEqDiff, reduceIte, decide_true, Bool.not_true, Bool.not_false, decide_false, eq_self, if_true, if_false, Bool.or_true, Bool.and_true, AR]; simp [Instr.fill, Value.cells] <;> rfl), rfl⟩ ?_
    intro h5 B5 hx5 hlt5 hB5
    replace hT := hT.ext hx5
    refine WL.ce Try.call15 (by simp only [EN, Nat.reduceEqDiff, reduceIte, AR, decide_true, Bool.not_true, Bool.not_false, decide_false, eq_self, if_true, if_false, Bool.or_true, Bool.and_true]; exact tb_Record (some ⟨B5, 0, none⟩) kf2 2 (by simp) kc3 hT (slG_has (f := limL) (sz := 3) (L := kf2) (fun _ => rfl) hB5 rfl) ks4) ?_
    rintro _ h6 ⟨rfl, hT6⟩
    simp only [put_some]
    replace hT : TB h h6 p kl (aftS [] kf2) := by rw [if_pos rfl] at hT6; exact hT6
    refine WL.qq (by simp only [EN, Nat.reduceEqDiff, reduceIte, qv_assign, decide_true, Bool.not_true, Bool.not_false, decide_false, eq_self, if_true, if_false, Bool.or_true, Bool.and_true]; rfl) ?_
    refine WL.nil ?_
    refine th_norm ?_
    refine hx_seq ?_
    refine hx_region ?_
    refine WL.qq (by simp only [EN, Nat.reduceEqDiff, reduceIte, qv_move, decide_true, Bool.not_true, Bool.not_false, decide_false, eq_self, if_true, if_false, Bool.or_true, Bool.and_true]; rfl) ?_
    refine WL.cg Try.call30 (by simp only [EN, Nat.reduceEqDiff, reduceIte, AR, decide_true, Bool.not_true, Bool.not_false, decide_false, eq_self, if_true, if_false, Bool.or_true, Bool.and_true]; exact ks6 ▸ tb_BRoom nA nB hT) ?_
    intro h1 hx1
    replace hT := hT.ext hx1
    refine WL.qq (by simp only [EN, Nat.reduceEqDiff, reduceIte, qv_move, decide_true, Bool.not_true, Bool.not_false, decide_false, eq_self, if_true, if_false, Bool.or_true, Bool.and_true]; rfl) ?_
    refine WL.qq (by simp only [EN, Nat.reduceEqDiff, reduceIte, qv_extract, AR, decide_true, Bool.not_true, Bool.not_false, decide_false, eq_self, if_true, if_false, Bool.or_true, Bool.and_true]; rfl) ?_
    refine WL.qq (by simp only [EN, Nat.reduceEqDiff, reduceIte, qv_extract, AR, decide_true, Bool.not_true, Bool.not_false, decide_false, eq_self, if_true, if_false, Bool.or_true, Bool.and_true]; rfl) ?_
    refine WL.qq (by simp only [EN, Nat.reduceEqDiff, reduceIte, qv_assign, decide_true, Bool.not_true, Bool.not_false, decide_false, eq_self, if_true, if_false, Bool.or_true, Bool.and_true]; rfl) ?_
    refine WL.qq (by simp only [EN, Nat.reduceEqDiff, reduceIte, qv_assign, decide_true, Bool.not_true, Bool.not_false, decide_false, eq_self, if_true, if_false, Bool.or_true, Bool.and_true]; rfl) ?_
    refine WL.nil ?_
    refine th_norm ?_
    refine hx_seq ?_
    refine hx_region ?_
    refine WL.qq (by simp only [EN, Nat.reduceEqDiff, reduceIte, qv_move, decide_true, Bool.not_true, Bool.not_false, decide_false, eq_self, if_true, if_false, Bool.or_true, Bool.and_true]; rfl) ?_
    refine WL.qq (by simp only [EN, Nat.reduceEqDiff, reduceIte, qv_binOp, binv_eql, eq26, Option.map_some, decide_true, Bool.not_true, Bool.not_false, decide_false, eq_self, if_true, if_false, Bool.or_true, Bool.and_true]; rfl) ?_
    refine WL.qq (by simp only [EN, Nat.reduceEqDiff, reduceIte, qv_move, decide_true, Bool.not_true, Bool.not_false, decide_false, eq_self, if_true, if_false, Bool.or_true, Bool.and_true]; rfl) ?_
    refine WL.cq (gd_at (t := 28) rfl (by simp only [EN, Nat.reduceEqDiff, reduceIte, decide_true, Bool.not_true, Bool.not_false, decide_false, eq_self, if_true, if_false, Bool.or_true, Bool.and_true] <;> rfl)) (fun hg6_3 => by simp only [EN, Nat.reduceEqDiff, reduceIte, qv_move, decide_true, Bool.not_true, Bool.not_false, decide_false, eq_self, if_true, if_false, Bool.or_true, Bool.and_true, hg6_3, GR]; rfl) ?_
    refine WL.cck (gd_at (t := 28) rfl (by simp only [EN, Nat.reduceEqDiff, reduceIte, decide_true, Bool.not_true, Bool.not_false, decide_false, eq_self, if_true, if_false, Bool.or_true, Bool.and_true] <;> rfl)) Try.call20 (fun hg6_4 => by simp only [EN, Nat.reduceEqDiff, reduceIte, AR, decide_true, Bool.not_true, Bool.not_false, decide_false, eq_self, if_true, if_false, Bool.or_true, Bool.and_true, hg6_4, GR]; exact ks5 ▸ tb_Net nA nB hT) ?_
    refine WL.cq (gd_at (t := 28) rfl (by simp only [EN, Nat.reduceEqDiff, reduceIte, decide_true, Bool.not_true, Bool.not_false, decide_false, eq_self, if_true, if_false, Bool.or_true, Bool.and_true] <;> rfl)) (fun hg6_5 => by simp only [EN, Nat.reduceEqDiff, reduceIte, qv_binOp, binv_eql, eq2, Option.map_some, decide_true, Bool.not_true, Bool.not_false, decide_false, eq_self, if_true, if_false, Bool.or_true, Bool.and_true, hg6_5, GR]; rfl) ?_
    refine WL.qq (by simp only [EN, Nat.reduceEqDiff, reduceIte, qv_pick, pk_and, pk_or, GR, decide_true, Bool.not_true, Bool.not_false, decide_false, eq_self, if_true, if_false, Bool.or_true, Bool.and_true]; rfl) ?_
    refine WL.qq (by simp only [EN, Nat.reduceEqDiff, reduceIte, qv_move, decide_true, Bool.not_true, Bool.not_false, decide_false, eq_self, if_true, if_false, Bool.or_true, Bool.and_true]; rfl) ?_
    refine WL.cq (gd_at (t := 33) rfl (by simp only [EN, Nat.reduceEqDiff, reduceIte, decide_true, Bool.not_true, Bool.not_false, decide_false, eq_self, if_true, if_false, Bool.or_true, Bool.and_true] <;> rfl)) (fun hg6_8 => by simp only [EN, Nat.reduceEqDiff, reduceIte, qv_move, decide_true, Bool.not_true, Bool.not_false, decide_false, eq_self, if_true, if_false, Bool.or_true, Bool.and_true, hg6_8, GR]; rfl) ?_
    refine WL.cq (gd_at (t := 33) rfl (by simp only [EN, Nat.reduceEqDiff, reduceIte, decide_true, Bool.not_true, Bool.not_false, decide_false, eq_self, if_true, if_false, Bool.or_true, Bool.and_true] <;> rfl)) (fun hg6_9 => by simp only [EN, Nat.reduceEqDiff, reduceIte, qv_binOp, binv_eql, eq2, Option.map_some, decide_true, Bool.not_true, Bool.not_false, decide_false, eq_self, if_true, if_false, Bool.or_true, Bool.and_true, hg6_9, GR]; rfl) ?_
    refine WL.qq (by simp only [EN, Nat.reduceEqDiff, reduceIte, qv_pick, pk_and, pk_or, GR, decide_true, Bool.not_true, Bool.not_false, decide_false, eq_self, if_true, if_false, Bool.or_true, Bool.and_true]; rfl) ?_
    refine WL.qq (by simp only [EN, Nat.reduceEqDiff, reduceIte, qv_move, decide_true, Bool.not_true, Bool.not_false, decide_false, eq_self, if_true, if_false, Bool.or_true, Bool.and_true]; rfl) ?_
    refine WL.cq (gd_at (t := 37) rfl (by simp only [EN, Nat.reduceEqDiff, reduceIte, decide_true, Bool.not_true, Bool.not_false, decide_false, eq_self, if_true, if_false, Bool.or_true, Bool.and_true] <;> rfl)) (fun hg6_12 => by simp only [EN, Nat.reduceEqDiff, reduceIte, qv_move, decide_true, Bool.not_true, Bool.not_false, decide_false, eq_self, if_true, if_false, Bool.or_true, Bool.and_true, hg6_12, GR]; rfl) ?_
    refine WL.qq (by simp only [EN, Nat.reduceEqDiff, reduceIte, qv_pick, pk_and, pk_or, GR, decide_true, Bool.not_true, Bool.not_false, decide_false, eq_self, if_true, if_false, Bool.or_true, Bool.and_true]; rfl) ?_
    refine WL.qq (by simp only [EN, Nat.reduceEqDiff, reduceIte, qv_assign, decide_true, Bool.not_true, Bool.not_false, decide_false, eq_self, if_true, if_false, Bool.or_true, Bool.and_true]; rfl) ?_
    refine WL.nil ?_
    refine th_norm ?_
    refine hx_ret ?_
    refine fin_ret [.tmp 0] rfl rfl (by simp only [EN, Nat.reduceEqDiff, reduceIte, resv, decide_true, Bool.not_true, Bool.not_false, decide_false, eq_self, if_true, if_false, Bool.or_true, Bool.and_true]; rfl) ?_  -- ret 0 r6
    exact ⟨by simp [retOf], hT.E⟩
end GL


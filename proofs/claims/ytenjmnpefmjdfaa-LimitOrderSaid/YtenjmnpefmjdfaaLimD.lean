/- Limits: checking and recording flows, setting limits. -/
import Derived.Test.YtenjmnpefmjdfaaLimC
set_option linter.unusedSimpArgs false
set_option linter.unusedVariables false
set_option linter.unnecessarySimpa false
namespace GL
open Go Go.Proofs
set_option maxRecDepth 8000
abbrev excd (n was is : Int) : Bool := decide (was < is) && decide (n < is)
/-- The error with which flows are rejected. -/
def chkS (ls ns F : List L2) : Int :=
  if valE F ≠ 0 then valE F else
  if 256 < cntM ls (aftS ns F) then 8 else
  if ¬ (∀ x ∈ aftS ns F, wthn x.2 = true) then 12 else
  if ¬ (∀ x ∈ aftS ns F, wthn (outW (aftS ns F) x.1.f) = true) then 12 else
  if ∃ x ∈ ls, x.1.t ≠ em ∧ excd x.2 (lk ns x.1) (lk (aftS ns F) x.1) = true then 15 else
  if ∃ x ∈ ls, x.1.t = em ∧ excd x.2 (outW ns x.1.f) (outW (aftS ns F) x.1.f) = true then 16 else 0
/-- The maps that a check looks at. -/
structure CK (h0 : Heap) (p bl bn b7 b8 b9 : Nat) (ls ns n7 : List L2) (o8 o9 : List (ByteArray × Int)) (hx : Heap) : Prop where
  E : Ext h0 hx
  tb : IsTb hx p bl bn ls ns
  m7 : MapT pV iV hx b7 n7
  m8 : MapT Value.string iV hx b8 o8
  m9 : MapT Value.string iV hx b9 o9
structure CKlt (n p bl bn b7 b8 b9 : Nat) : Prop where
  a : p < n
  b : bl < n
  c : bn < n
  d : b7 < n
  e : b8 < n
  f : b9 < n
section
variable {h0 hx hy : Heap} {p bl bn b7 b8 b9 : Nat} {ls ns n7 : List L2} {o8 o9 : List (ByteArray × Int)}
theorem CK.ext (hC : CK h0 p bl bn b7 b8 b9 ls ns n7 o8 o9 hx) (hE : Ext hx hy) : CK h0 p bl bn b7 b8 b9 ls ns n7 o8 o9 hy := ⟨hC.E.trans hE, hC.tb.ext hE, hC.m7.ext hE, hC.m8.ext hE, hC.m9.ext hE⟩
theorem CK.lts (hC : CK h0 p bl bn b7 b8 b9 ls ns n7 o8 o9 hx) : CKlt hx.size p bl bn b7 b8 b9 := ⟨(Array.getElem?_eq_some_iff.1 hC.tb.blk).1, hC.tb.lim.lt, hC.tb.net.lt, hC.m7.lt, hC.m8.lt, hC.m9.lt⟩
theorem CK.step {it : Nat} (hC : CK h0 p bl bn b7 b8 b9 ls ns n7 o8 o9 hx) (hs : hy = hx ∨ ∃ o, Wr hx hy it o) (hi : CKlt it p bl bn b7 b8 b9) (h0i : h0.size ≤ it) : CK h0 p bl bn b7 b8 b9 ls ns n7 o8 o9 hy :=
  ⟨ext_step hC.E hs h0i, ⟨hC.tb.blk.st hs (Nat.ne_of_lt hi.a), hC.tb.lim.step hs (Nat.ne_of_lt hi.b), hC.tb.net.step hs (Nat.ne_of_lt hi.c), hC.tb.ne⟩, hC.m7.step hs (Nat.ne_of_lt hi.d), hC.m8.step hs (Nat.ne_of_lt hi.e), hC.m9.step hs (Nat.ne_of_lt hi.f)⟩
end
theorem c_check16 {h : Heap} {p bl bn : Nat} {ls ns : List L2} (al : Option Addr) (F : List L2) (cl : Nat) (ll : F.length ≤ 9223372036854775807) (hcm : cntM ls (aftS ns F) ≤ 9223372036854775807) (hb : IsTb h p bl bn ls ns) (hl : SlG 3 limL h al F) {r : Int} (hr : chkS ls ns F = r) :
    HCalls Try.prog 35 #[.pointer (some ⟨p, 0, none⟩), .slice al F.length cl] h fun v h' => Ext h h' ∧ ∃ m, v = .tuple #[m, iV r] ∧ (r = 0 → ∃ b, m = .map (some b) ∧ h.size ≤ b ∧ MapT pV iV h' b (aftS ns F)) := by
  refine hcalls2 Try.func35 rfl (by decide +kernel) (by simp only [Try.ntmps35]; exact of_decide_eq_true rfl) ?_
  intro e hin
  have e0 := hin 0 _ rfl
  have e1 := hin 1 _ rfl
  have kl := hl; have kb := hb
  refine hx_seq ?_
  refine hx_region ?_
  refine WL.qq (by simp only [EN, Nat.reduceEqDiff, reduceIte, qv_assign, hb.blk.cell, strEq]; rfl) ?_
  refine WL.qq (by simp only [EN, Nat.reduceEqDiff, reduceIte, qv_assign, hb.blk.cell, strEq]; rfl) ?_
  refine WL.nil ?_
  refine th_norm ?_
  refine hx_seq ?_
  refine hx_seq ?_
  refine hx_region ?_
  refine WL.qq (by simp only [EN, Nat.reduceEqDiff, reduceIte, qv_move, e1, hb.blk.cell, strEq]; rfl) ?_
  refine WL.cg Try.call52 (by simp only [EN, Nat.reduceEqDiff, reduceIte, AR, hb.blk.cell, strEq]; exact c_valid16 al F cl ll hl) ?_
  intro h1 hx1
  replace hb := hb.ext hx1
  replace hl := hl.ext hx1
  refine WL.qq (by simp only [EN, Nat.reduceEqDiff, reduceIte, qv_assign, hb.blk.cell, strEq]; rfl) ?_
  refine WL.nil ?_
  refine th_norm ?_
  refine hx_seq ?_
  refine hx_region ?_
  refine WL.qq (by simp only [EN, Nat.reduceEqDiff, reduceIte, qv_move, hb.blk.cell, strEq]; rfl) ?_
  refine WL.qq (by simp only [EN, Nat.reduceEqDiff, reduceIte, qv_binOp, binv_neq, eq26, Option.map_some, hb.blk.cell, strEq]; rfl) ?_
  refine WL.nil ?_
  refine th_norm ?_
  refine hx_cond (by simp only [EN, Nat.reduceEqDiff, reduceIte, hb.blk.cell, strEq]; rfl) (fun hct21 => ?_) (fun hct21 => ?_)
  ·
    try simp only [BD] at hct21
    refine hx_seq ?_
    refine hx_region ?_
    refine WL.qq (by simp only [EN, Nat.reduceEqDiff, reduceIte, qv_move, hb.blk.cell, strEq]; rfl) ?_
    refine WL.qq (by simp only [EN, Nat.reduceEqDiff, reduceIte, qv_assign, hb.blk.cell, strEq]; rfl) ?_
    refine WL.qq (by simp only [EN, Nat.reduceEqDiff, reduceIte, qv_assign, hb.blk.cell, strEq]; rfl) ?_
    refine WL.nil ?_
    refine th_norm ?_
    refine hx_ret ?_
    refine th_ret ?_
    refine fin_ret [.tmp 4, .tmp 5] rfl rfl (by simp only [EN, Nat.reduceEqDiff, reduceIte, resv, e0, e1, hb.blk.cell, strEq]; rfl) ?_  -- ret 0 r3
    have h9 : valE F ≠ 0 := (by simpa using hct21)
    rw [chkS, if_pos h9] at hr
    subst hr
    exact ⟨(hx1), _, rfl, fun hh => absurd hh h9⟩
  ·
    try simp only [BD] at hct21
    have h9 : valE F = 0 := (by simpa using hct21)
    rw [chkS, if_neg (by simpa using h9)] at hr
    refine hx_skip ?_
    refine th_norm ?_
    refine hx_seq ?_
    refine hx_region ?_
    refine WL.qq (by simp only [EN, Nat.reduceEqDiff, reduceIte, qv_move, e0, hb.blk.cell, strEq]; rfl) ?_
    refine WL.qq (by simp only [EN, Nat.reduceEqDiff, reduceIte, qv_move, e1, hb.blk.cell, strEq]; rfl) ?_
    refine WL.ce Try.call53 (by simp only [EN, Nat.reduceEqDiff, reduceIte, AR, hb.blk.cell, strEq]; exact c_after al F cl ll hb hl) ?_
    rintro _ h2 ⟨hx2, b7, rfl, hlb7, hm7⟩
    replace hb := hb.ext hx2
    replace hl := hl.ext hx2
    simp only [put_some]
    refine WL.qq (by simp only [EN, Nat.reduceEqDiff, reduceIte, qv_assign, hb.blk.cell, strEq]; rfl) ?_
    refine WL.nil ?_
    refine th_norm ?_
    refine hx_seq ?_
    refine hx_seq ?_
    refine hx_region ?_
    refine WL.qq (by simp only [EN, Nat.reduceEqDiff, reduceIte, qv_move, e0, hb.blk.cell, strEq]; rfl) ?_
    refine WL.qq (by simp only [EN, Nat.reduceEqDiff, reduceIte, qv_nilCheck, hb.blk.cell, strEq]; rfl) ?_
    refine WL.qq (by simp only [EN, Nat.reduceEqDiff, reduceIte, qv_fieldAddr, fa73_0, Nat.zero_add, Nat.reduceAdd, hb.blk.cell, strEq]; rfl) ?_
    refine WL.qq (by simp only [EN, Nat.reduceEqDiff, reduceIte, qv_load, ld71, readN, AR, Nat.zero_add, Nat.reduceAdd, hb.blk.cell, strEq]; rfl) ?_
    refine WL.qq (by simp only [EN, Nat.reduceEqDiff, reduceIte, qv_move, hb.blk.cell, strEq]; rfl) ?_
    refine WL.cg Try.call51 (by simp only [EN, Nat.reduceEqDiff, reduceIte, AR, hb.blk.cell, strEq]; exact c_mentioned hb.lim hm7) ?_
    intro h3 hx3
    replace hb := hb.ext hx3
    replace hl := hl.ext hx3
    replace hm7 := hm7.ext hx3
    refine WL.qq (by simp only [EN, Nat.reduceEqDiff, reduceIte, qv_binOp, binv_gtr, hb.blk.cell, strEq]; rfl) ?_
    refine WL.nil ?_
    refine th_norm ?_
    refine hx_cond (by simp only [EN, Nat.reduceEqDiff, reduceIte, hb.blk.cell, strEq]; rfl) (fun hct32 => ?_) (fun hct32 => ?_)
    ·
      try simp only [BD] at hct32
      refine hx_seq ?_
      refine hx_region ?_
      refine WL.qq (by simp only [EN, Nat.reduceEqDiff, reduceIte, qv_assign, hb.blk.cell, strEq]; rfl) ?_
      refine WL.qq (by simp only [EN, Nat.reduceEqDiff, reduceIte, qv_assign, hb.blk.cell, strEq]; rfl) ?_
      refine WL.nil ?_
      refine th_norm ?_
      refine hx_ret ?_
      refine th_ret ?_
      refine fin_ret [.tmp 4, .tmp 5] rfl rfl (by simp only [EN, Nat.reduceEqDiff, reduceIte, resv, e0, e1, hb.blk.cell, strEq]; rfl) ?_  -- ret 1 r6
      rw [if_pos (by omega)] at hr
      subst hr
      exact ⟨((hx1).trans ((hx2).trans (hx3))), _, rfl, fun hh => by cases hh⟩
    ·
      try simp only [BD] at hct32
      rw [if_neg (by omega)] at hr
      refine hx_skip ?_
      refine th_norm ?_
      refine hx_seq ?_
      refine hx_region ?_
      refine WL.qq (by simp only [EN, Nat.reduceEqDiff, reduceIte, qv_move, e0, hb.blk.cell, strEq]; rfl) ?_
      refine WL.qq (by simp only [EN, Nat.reduceEqDiff, reduceIte, qv_nilCheck, hb.blk.cell, strEq]; rfl) ?_
      refine WL.qq (by simp only [EN, Nat.reduceEqDiff, reduceIte, qv_fieldAddr, fa73_1, Nat.zero_add, Nat.reduceAdd, hb.blk.cell, strEq]; rfl) ?_
      refine WL.qq (by simp only [EN, Nat.reduceEqDiff, reduceIte, qv_load, ld71, readN, AR, Nat.zero_add, Nat.reduceAdd, hb.blk.cell, strEq]; rfl) ?_
      refine WL.ce Try.call54 (by simp only [EN, Nat.reduceEqDiff, reduceIte, AR, hb.blk.cell, strEq]; exact c_outflows hb.net) ?_
      rintro _ h4 ⟨hx4, b8, o8, rfl, hlb8, hm8, hv8, hk8⟩
      replace hb := hb.ext hx4
      replace hl := hl.ext hx4
      replace hm7 := hm7.ext hx4
      simp only [put_some]
      refine WL.qq (by simp only [EN, Nat.reduceEqDiff, reduceIte, qv_move, hb.blk.cell, strEq]; rfl) ?_
      refine WL.ce Try.call54 (by simp only [EN, Nat.reduceEqDiff, reduceIte, AR, hb.blk.cell, strEq]; exact c_outflows hm7) ?_
      rintro _ h5 ⟨hx5, b9, o9, rfl, hlb9, hm9, hv9, hk9⟩
      replace hb := hb.ext hx5
      replace hl := hl.ext hx5
      replace hm7 := hm7.ext hx5
      replace hm8 := hm8.ext hx5
      simp only [put_some]
      refine WL.qq (by simp only [EN, Nat.reduceEqDiff, reduceIte, qv_assign, hb.blk.cell, strEq]; rfl) ?_
      refine WL.qq (by simp only [EN, Nat.reduceEqDiff, reduceIte, qv_assign, hb.blk.cell, strEq]; rfl) ?_
      refine WL.nil ?_
      refine th_norm ?_
      refine hx_seq ?_
      refine hx_seq ?_
      refine hx_region ?_
      have hC : CK h p bl bn b7 b8 b9 ls ns (aftS ns F) o8 o9 h5 := ⟨((hx1).trans ((hx2).trans ((hx3).trans ((hx4).trans (hx5))))), hb, hm7, hm8, hm9⟩
      refine WL.qq (by simp only [EN, Nat.reduceEqDiff, reduceIte, qv_move, hb.blk.cell, strEq]; rfl) ?_
      refine WL.ef _ (e_range Try.underlying71 hC.m7 (by simp only [EN, Nat.reduceEqDiff, reduceIte, e0, e1, hb.blk.cell, strEq])) ?_
      rintro _ h50 ⟨it, rfl, hit, hx50, hsz50, hI⟩
      simp only [put_some]
      have hlt := hC.lts; rw [← hit] at hlt
      have h0t := hC.E.size; rw [← hit] at h0t
      replace hC := hC.ext hx50
      refine WL.nil ?_
      refine th_norm ?_
      refine hx_block ?_
      refine hx_loopG [4, 5, 11, 42, 43, 44, 45, 46, 47, 48] (fun k e hL0 => ∃ (left : List L2), left.length = k ∧ (CK h p bl bn b7 b8 b9 ls ns (aftS ns F) o8 o9 hL0) ∧ (IterT pV iV hL0 it b7 (aftS ns F) left) ∧ (∀ y ∈ left, y ∈ aftS ns F) ∧ (∀ y ∈ aftS ns F, y ∈ left ∨ wthn y.2 = true)) _ ⟨aftS ns F, rfl, ?_, ?_, ?_, ?_⟩ ?_
      · exact hC
      · exact hI
      · exact fun y hy => hy
      · exact fun y hy => .inl hy
      ·
        rintro k e0L hL0 hfr0 ⟨left, rfl, hC, hI, hsub, hdone⟩
        have k0_0 := hfr0 0 rfl; try simp only [EN, Nat.reduceEqDiff, reduceIte, e0, hb.blk.cell, strEq] at k0_0
        have k7_0 := hfr0 7 rfl; try simp only [EN, Nat.reduceEqDiff, reduceIte, hb.blk.cell, strEq] at k7_0
        have k8_0 := hfr0 8 rfl; try simp only [EN, Nat.reduceEqDiff, reduceIte, hb.blk.cell, strEq] at k8_0
        have k9_0 := hfr0 9 rfl; try simp only [EN, Nat.reduceEqDiff, reduceIte, hb.blk.cell, strEq] at k9_0
        have k41_0 := hfr0 41 rfl; try simp only [EN, Nat.reduceEqDiff, reduceIte, hb.blk.cell, strEq] at k41_0
        refine hx_seq ?_
        refine hx_region ?_
        refine WL.ef _ (e_next2 ktP hI (by simp only [EN, Nat.reduceEqDiff, reduceIte, k0_0, k7_0, k8_0, k9_0, k41_0, hb.blk.cell, strEq])) ?_
        rintro _ h51 ⟨bb1, vs1, rfl, hv1, hst1, hT1, hF1⟩
        simp only [put_some]
        replace hC := hC.step hst1 hlt h0t
        refine WL.qq (by simp only [EN, Nat.reduceEqDiff, reduceIte, k0_0, k7_0, k8_0, k9_0, k41_0, hb.blk.cell, strEq, qv_extract, hv1]; rfl) ?_
        refine WL.nil ?_
        refine th_norm ?_
        refine hx_seq ?_
        refine hx_cond (by simp only [EN, Nat.reduceEqDiff, reduceIte, hb.blk.cell, strEq]; rfl) (fun hct43 => ?_) (fun hct43 => ?_)
        ·
          try simp only [BD] at hct43
          obtain ⟨q1, left', hp1, hS⟩ := hT1 hct43; have hlen1 := hp1.length_eq; rw [List.length_cons] at hlen1; have hql := hsub q1 (hp1.mem_iff.2 (by simp))
          refine hx_skip ?_
          refine th_norm ?_
          refine hx_block ?_
          refine hx_seq ?_
          refine hx_region ?_
          refine WL.ef _ (e_entry hS (by simp only [EN, Nat.reduceEqDiff, reduceIte, k0_0, k7_0, k8_0, k9_0, k41_0, hb.blk.cell, strEq])) ?_
          rintro _ hX ⟨rfl, hq1x⟩
          obtain rfl : h51 = hX := hq1x.symm
          simp only [put_some]
          refine WL.qq (by simp only [EN, Nat.reduceEqDiff, reduceIte, qv_extract, AR, hb.blk.cell, strEq]; rfl) ?_
          refine WL.qq (by simp only [EN, Nat.reduceEqDiff, reduceIte, qv_assign, hb.blk.cell, strEq]; rfl) ?_
          refine WL.nil ?_
          refine th_norm ?_
          refine hx_seq ?_
          refine hx_region ?_
          refine WL.qq (by simp only [EN, Nat.reduceEqDiff, reduceIte, qv_move, hb.blk.cell, strEq]; rfl) ?_
          refine WL.ck Try.call55 (by simp only [EN, Nat.reduceEqDiff, reduceIte, AR, hb.blk.cell, strEq]; exact c_within _ _) ?_
          refine WL.qq (by simp only [EN, Nat.reduceEqDiff, reduceIte, qv_unOp, unv_not, hb.blk.cell, strEq]; rfl) ?_
          refine WL.nil ?_
          refine th_norm ?_
          refine hx_cond (by simp only [EN, Nat.reduceEqDiff, reduceIte, hb.blk.cell, strEq]; rfl) (fun hct48 => ?_) (fun hct48 => ?_)
          ·
            try simp only [BD] at hct48
            refine hx_seq ?_
            refine hx_region ?_
            refine WL.qq (by simp only [EN, Nat.reduceEqDiff, reduceIte, qv_assign, hb.blk.cell, strEq]; rfl) ?_
            refine WL.qq (by simp only [EN, Nat.reduceEqDiff, reduceIte, qv_assign, hb.blk.cell, strEq]; rfl) ?_
            refine WL.nil ?_
            refine th_norm ?_
            refine hx_ret ?_
            refine bl_ret ?_
            refine th_ret ?_
            refine bl_ret ?_
            refine th_ret ?_
            refine fin_ret [.tmp 4, .tmp 5] rfl rfl (by simp only [EN, Nat.reduceEqDiff, reduceIte, resv, k0_0, k7_0, k8_0, k9_0, k41_0, hb.blk.cell, strEq]; rfl) ?_  -- ret 2 r12
            rw [if_pos (fun hh => by rw [hh q1 hql] at hct48; simp at hct48)] at hr
            subst hr
            exact ⟨hC.E, _, rfl, fun hh => by cases hh⟩
          ·
            try simp only [BD] at hct48
            refine hx_skip ?_
            refine bl_norm ?_
            refine th_norm ?_
            refine ⟨rfl, ?_, _, ?_, left', rfl, ?_, ?_, ?_, ?_⟩  -- again 0 of loop 0
            · (repeat (first | exact Fr.refl _ _ | refine Fr.set rfl ?_ | refine Fr.put rfl ?_ | with_reducible refine Fr.put0 ?_))
            · omega
            · exact hC
            · exact hS.iter
            · exact fun y hy => hsub y (hp1.mem_iff.2 (by simp [hy]))
            · exact perm_sub (P := fun y => wthn y.2 = true) hp1 hdone (by simpa using hct48)
        ·
          try simp only [BD] at hct43
          obtain ⟨hl0, -⟩ := hF1 hct43; subst hl0
          rw [if_neg (fun hh => hh (fun y hy => (hdone y hy).resolve_left (by simp)))] at hr
          refine hx_exit ?_
          refine th_exit ?_
          refine th_exit ?_
          refine bl_hit ?_
          refine th_norm ?_
          refine hx_seq ?_
          refine hx_seq ?_
          refine hx_fresh (fun eF13 hfcf13 => ?_)
          have k0_f13 := hfcf13 0 rfl; try simp only [EN, Nat.reduceEqDiff, reduceIte, k0_0, hb.blk.cell, strEq] at k0_f13
          have k7_f13 := hfcf13 7 rfl; try simp only [EN, Nat.reduceEqDiff, reduceIte, k7_0, hb.blk.cell, strEq] at k7_f13
          have k8_f13 := hfcf13 8 rfl; try simp only [EN, Nat.reduceEqDiff, reduceIte, k8_0, hb.blk.cell, strEq] at k8_f13
          have k9_f13 := hfcf13 9 rfl; try simp only [EN, Nat.reduceEqDiff, reduceIte, k9_0, hb.blk.cell, strEq] at k9_f13
          refine hx_region ?_
          refine WL.qq (by simp only [EN, Nat.reduceEqDiff, reduceIte, qv_move, k9_f13, hb.blk.cell, strEq]; rfl) ?_
          refine WL.ef _ (e_range Try.underlying97 hC.m9 (by simp only [EN, Nat.reduceEqDiff, reduceIte, k0_f13, k7_f13, k8_f13, k9_f13, hb.blk.cell, strEq])) ?_
          rintro _ h52 ⟨it2, rfl, hit2, hx52, hsz52, hI2⟩
          simp only [put_some]
          have hlt2 := hC.lts; rw [← hit2] at hlt2
          have h0t2 := hC.E.size; rw [← hit2] at h0t2
          replace hC := hC.ext hx52
          refine WL.nil ?_
          refine th_norm ?_
          refine hx_block ?_
          refine hx_loopG [4, 5, 13, 51, 52, 53, 54, 55, 56, 57] (fun k e hL1 => ∃ (left : List (ByteArray × Int)), left.length = k ∧ (CK h p bl bn b7 b8 b9 ls ns (aftS ns F) o8 o9 hL1) ∧ (IterT Value.string iV hL1 it2 b9 o9 left) ∧ (∀ y ∈ left, y ∈ o9) ∧ (∀ y ∈ o9, y ∈ left ∨ wthn y.2 = true)) _ ⟨o9, rfl, ?_, ?_, ?_, ?_⟩ ?_
          · exact hC
          · exact hI2
          · exact fun y hy => hy
          · exact fun y hy => .inl hy
          ·
            rintro k e1L hL1 hfr1 ⟨left, rfl, hC, hI2, hsub, hdone⟩
            have k0_1 := hfr1 0 rfl; try simp only [EN, Nat.reduceEqDiff, reduceIte, k0_f13, hb.blk.cell, strEq] at k0_1
            have k7_1 := hfr1 7 rfl; try simp only [EN, Nat.reduceEqDiff, reduceIte, k7_f13, hb.blk.cell, strEq] at k7_1
            have k8_1 := hfr1 8 rfl; try simp only [EN, Nat.reduceEqDiff, reduceIte, k8_f13, hb.blk.cell, strEq] at k8_1
            have k9_1 := hfr1 9 rfl; try simp only [EN, Nat.reduceEqDiff, reduceIte, k9_f13, hb.blk.cell, strEq] at k9_1
            have k50_1 := hfr1 50 rfl; try simp only [EN, Nat.reduceEqDiff, reduceIte, hb.blk.cell, strEq] at k50_1
            refine hx_seq ?_
            refine hx_region ?_
            refine WL.ef _ (e_next2 ktS hI2 (by simp only [EN, Nat.reduceEqDiff, reduceIte, k0_1, k7_1, k8_1, k9_1, k50_1, hb.blk.cell, strEq])) ?_
            rintro _ h53 ⟨bb2, vs2, rfl, hv2, hst2, hT2, hF2⟩
            simp only [put_some]
            replace hC := hC.step hst2 hlt2 h0t2
            refine WL.qq (by simp only [EN, Nat.reduceEqDiff, reduceIte, k0_1, k7_1, k8_1, k9_1, k50_1, hb.blk.cell, strEq, qv_extract, hv2]; rfl) ?_
            refine WL.nil ?_
            refine th_norm ?_
            refine hx_seq ?_
            refine hx_cond (by simp only [EN, Nat.reduceEqDiff, reduceIte, hb.blk.cell, strEq]; rfl) (fun hct52 => ?_) (fun hct52 => ?_)
            ·
              try simp only [BD] at hct52
              obtain ⟨q2, left', hp2, hS2⟩ := hT2 hct52; have hlen2 := hp2.length_eq; rw [List.length_cons] at hlen2; have hql2 := hsub q2 (hp2.mem_iff.2 (by simp))
              refine hx_skip ?_
              refine th_norm ?_
              refine hx_block ?_
              refine hx_seq ?_
              refine hx_region ?_
              refine WL.ef _ (e_entry hS2 (by simp only [EN, Nat.reduceEqDiff, reduceIte, k0_1, k7_1, k8_1, k9_1, k50_1, hb.blk.cell, strEq])) ?_
              rintro _ hX ⟨rfl, hq1x⟩
              obtain rfl : h53 = hX := hq1x.symm
              simp only [put_some]
              refine WL.qq (by simp only [EN, Nat.reduceEqDiff, reduceIte, qv_extract, AR, hb.blk.cell, strEq]; rfl) ?_
              refine WL.qq (by simp only [EN, Nat.reduceEqDiff, reduceIte, qv_assign, hb.blk.cell, strEq]; rfl) ?_
              refine WL.nil ?_
              refine th_norm ?_
              refine hx_seq ?_
              refine hx_region ?_
              refine WL.qq (by simp only [EN, Nat.reduceEqDiff, reduceIte, qv_move, hb.blk.cell, strEq]; rfl) ?_
              refine WL.ck Try.call55 (by simp only [EN, Nat.reduceEqDiff, reduceIte, AR, hb.blk.cell, strEq]; exact c_within _ _) ?_
              refine WL.qq (by simp only [EN, Nat.reduceEqDiff, reduceIte, qv_unOp, unv_not, hb.blk.cell, strEq]; rfl) ?_
              refine WL.nil ?_
              refine th_norm ?_
              refine hx_cond (by simp only [EN, Nat.reduceEqDiff, reduceIte, hb.blk.cell, strEq]; rfl) (fun hct57 => ?_) (fun hct57 => ?_)
              ·
                try simp only [BD] at hct57
                refine hx_seq ?_
                refine hx_region ?_
                refine WL.qq (by simp only [EN, Nat.reduceEqDiff, reduceIte, qv_assign, hb.blk.cell, strEq]; rfl) ?_
                refine WL.qq (by simp only [EN, Nat.reduceEqDiff, reduceIte, qv_assign, hb.blk.cell, strEq]; rfl) ?_
                refine WL.nil ?_
                refine th_norm ?_
                refine hx_ret ?_
                refine bl_ret ?_
                refine th_ret ?_
                refine bl_ret ?_
                refine th_ret ?_
                refine fin_ret [.tmp 4, .tmp 5] rfl rfl (by simp only [EN, Nat.reduceEqDiff, reduceIte, resv, k0_1, k7_1, k8_1, k9_1, k50_1, hb.blk.cell, strEq]; rfl) ?_  -- ret 3 r17
                obtain ⟨x9, hx9, hx8⟩ := (hk9 q2.1).1 (List.mem_map_of_mem (f := Prod.fst) hql2)
                rw [if_pos (fun hh => by have h7 := hh x9 hx9; rw [hx8, ← hv9, lk_mem hC.m9.nodup hql2] at h7; rw [h7] at hct57; simp at hct57)] at hr
                subst hr
                exact ⟨hC.E, _, rfl, fun hh => by cases hh⟩
              ·
                try simp only [BD] at hct57
                refine hx_skip ?_
                refine bl_norm ?_
                refine th_norm ?_
                refine ⟨rfl, ?_, _, ?_, left', rfl, ?_, ?_, ?_, ?_⟩  -- again 0 of loop 1
                · (repeat (first | exact Fr.refl _ _ | refine Fr.set rfl ?_ | refine Fr.put rfl ?_ | with_reducible refine Fr.put0 ?_))
                · omega
                · exact hC
                · exact hS2.iter
                · exact fun y hy => hsub y (hp2.mem_iff.2 (by simp [hy]))
                · exact perm_sub (P := fun y => wthn y.2 = true) hp2 hdone (by simpa using hct57)
            ·
              try simp only [BD] at hct52
              obtain ⟨hl0, -⟩ := hF2 hct52; subst hl0
              rw [if_neg (fun hh => hh (fun y hy => by obtain ⟨p9, hp9, hp8⟩ := List.mem_map.1 ((hk9 y.1.f).2 ⟨y, hy, rfl⟩); have h7 := (hdone p9 hp9).resolve_left (by simp); rw [← lk_mem hC.m9.nodup hp9, hv9, hp8] at h7; exact h7))] at hr
              refine hx_exit ?_
              refine th_exit ?_
              refine th_exit ?_
              refine bl_hit ?_
              refine th_norm ?_
              refine hx_seq ?_
              refine hx_seq ?_
              refine hx_fresh (fun eF18 hfcf18 => ?_)
              have k0_f18 := hfcf18 0 rfl; try simp only [EN, Nat.reduceEqDiff, reduceIte, k0_1, hb.blk.cell, strEq] at k0_f18
              have k7_f18 := hfcf18 7 rfl; try simp only [EN, Nat.reduceEqDiff, reduceIte, k7_1, hb.blk.cell, strEq] at k7_f18
              have k8_f18 := hfcf18 8 rfl; try simp only [EN, Nat.reduceEqDiff, reduceIte, k8_1, hb.blk.cell, strEq] at k8_f18
              have k9_f18 := hfcf18 9 rfl; try simp only [EN, Nat.reduceEqDiff, reduceIte, k9_1, hb.blk.cell, strEq] at k9_f18
              refine hx_region ?_
              refine WL.qq (by simp only [EN, Nat.reduceEqDiff, reduceIte, qv_move, k0_f18, hb.blk.cell, strEq]; rfl) ?_
              refine WL.qq (by simp only [EN, Nat.reduceEqDiff, reduceIte, qv_nilCheck, hb.blk.cell, strEq]; rfl) ?_
              refine WL.qq (by simp only [EN, Nat.reduceEqDiff, reduceIte, qv_fieldAddr, fa73_0, Nat.zero_add, Nat.reduceAdd, hb.blk.cell, strEq]; rfl) ?_
              refine WL.qq (by simp only [EN, Nat.reduceEqDiff, reduceIte, k0_f18, k7_f18, k8_f18, k9_f18, hb.blk.cell, strEq, qv_load, ld71, hC.tb.blk.cell, AR, Nat.zero_add, Nat.add_zero]; rfl) ?_
              refine WL.ef _ (e_range Try.underlying71 hC.tb.lim (by simp only [EN, Nat.reduceEqDiff, reduceIte, k0_f18, k7_f18, k8_f18, k9_f18, hb.blk.cell, strEq])) ?_
              rintro _ h54 ⟨it3, rfl, hit3, hx54, hsz54, hI3⟩
              simp only [put_some]
              have hlt3 := hC.lts; rw [← hit3] at hlt3
              have h0t3 := hC.E.size; rw [← hit3] at h0t3
              replace hC := hC.ext hx54
              refine WL.nil ?_
              refine th_norm ?_
              refine hx_block ?_
              refine hx_loopG [4, 5, 14, 15, 63, 64, 65, 66, 67, 68, 69, 70, 71, 72, 73, 74, 75, 76, 77, 78, 79, 80, 81, 82, 83] (fun k e hL2 => ∃ (left : List L2), left.length = k ∧ (CK h p bl bn b7 b8 b9 ls ns (aftS ns F) o8 o9 hL2) ∧ (IterT pV iV hL2 it3 bl ls left) ∧ (∀ y ∈ left, y ∈ ls) ∧ (∀ y ∈ ls, y ∈ left ∨ ¬ (y.1.t ≠ em ∧ excd y.2 (lk ns y.1) (lk (aftS ns F) y.1) = true))) _ ⟨ls, rfl, ?_, ?_, ?_, ?_⟩ ?_
              · exact hC
              · exact hI3
              · exact fun y hy => hy
              · exact fun y hy => .inl hy
              ·
                rintro k e2L hL2 hfr2 ⟨left, rfl, hC, hI3, hsub, hdone⟩
                have k0_2 := hfr2 0 rfl; try simp only [EN, Nat.reduceEqDiff, reduceIte, k0_f18, hb.blk.cell, strEq] at k0_2
                have k7_2 := hfr2 7 rfl; try simp only [EN, Nat.reduceEqDiff, reduceIte, k7_f18, hb.blk.cell, strEq] at k7_2
                have k8_2 := hfr2 8 rfl; try simp only [EN, Nat.reduceEqDiff, reduceIte, k8_f18, hb.blk.cell, strEq] at k8_2
                have k9_2 := hfr2 9 rfl; try simp only [EN, Nat.reduceEqDiff, reduceIte, k9_f18, hb.blk.cell, strEq] at k9_2
                have k62_2 := hfr2 62 rfl; try simp only [EN, Nat.reduceEqDiff, reduceIte, hb.blk.cell, strEq] at k62_2
                refine hx_seq ?_
                refine hx_region ?_
                refine WL.ef _ (e_next2 ktP hI3 (by simp only [EN, Nat.reduceEqDiff, reduceIte, k0_2, k7_2, k8_2, k9_2, k62_2, hb.blk.cell, strEq])) ?_
                rintro _ h55 ⟨bb3, vs3, rfl, hv3, hst3, hT3, hF3⟩
                simp only [put_some]
                replace hC := hC.step hst3 hlt3 h0t3
                refine WL.qq (by simp only [EN, Nat.reduceEqDiff, reduceIte, k0_2, k7_2, k8_2, k9_2, k62_2, hb.blk.cell, strEq, qv_extract, hv3]; rfl) ?_
                refine WL.nil ?_
                refine th_norm ?_
                refine hx_seq ?_
                refine hx_cond (by simp only [EN, Nat.reduceEqDiff, reduceIte, hb.blk.cell, strEq]; rfl) (fun hct64 => ?_) (fun hct64 => ?_)
                ·
                  try simp only [BD] at hct64
                  obtain ⟨q3, left', hp3, hS3⟩ := hT3 hct64; have hlen3 := hp3.length_eq; rw [List.length_cons] at hlen3; have hql3 := hsub q3 (hp3.mem_iff.2 (by simp))
                  refine hx_skip ?_
                  refine th_norm ?_
                  refine hx_block ?_
                  refine hx_seq ?_
                  refine hx_region ?_
                  refine WL.ef _ (e_entry hS3 (by simp only [EN, Nat.reduceEqDiff, reduceIte, k0_2, k7_2, k8_2, k9_2, k62_2, hb.blk.cell, strEq])) ?_
                  rintro _ hX ⟨rfl, hq1x⟩
                  obtain rfl : h55 = hX := hq1x.symm
                  simp only [put_some]
                  refine WL.qq (by simp only [EN, Nat.reduceEqDiff, reduceIte, qv_extract, AR, hb.blk.cell, strEq]; rfl) ?_
                  refine WL.qq (by simp only [EN, Nat.reduceEqDiff, reduceIte, qv_extract, AR, hb.blk.cell, strEq]; rfl) ?_
                  refine WL.allocSt zr76 sz76 (fun u => by simp only [EN, Nat.reduceEqDiff, reduceIte, Value.cells, hb.blk.cell, strEq]; rfl) ⟨rfl, rfl⟩ (by simp [Value.oneCell']) ?_
                  intro h6 B6 hx6 hlt6 hB6
                  replace hC := hC.ext hx6
                  replace hS3 := hS3.ext hx6
                  refine WL.qq (by simp only [EN, Nat.reduceEqDiff, reduceIte, qv_assign, hb.blk.cell, strEq, hB6.cell]; rfl) ?_
                  refine WL.nil ?_
                  refine th_norm ?_
                  refine hx_seq ?_
                  apply hx_draw2 Rel.same [] [14] [(14, Spec.is _)] rfl (by decide +kernel) rfl
                  refine LD.qq rfl rfl (by simp only [EN, Nat.reduceEqDiff, reduceIte, qv_fieldAddr, fa76_1, Nat.zero_add, Nat.reduceAdd, hb.blk.cell, strEq, hB6.cell]; rfl) ?_
                  refine LD.qq rfl rfl (by simp only [EN, Nat.reduceEqDiff, reduceIte, qv_load, ld9, readN, AR, Nat.zero_add, Nat.reduceAdd, hb.blk.cell, strEq, hB6.cell]; rfl) ?_
                  refine LD.qq rfl rfl (by simp only [EN, Nat.reduceEqDiff, reduceIte, qv_binOp, binv_neq, eq9, Option.map_some, hb.blk.cell, strEq, hB6.cell]; rfl) ?_
                  refine LD.qq rfl rfl (by simp only [EN, Nat.reduceEqDiff, reduceIte, qv_move, hb.blk.cell, strEq, hB6.cell]; rfl) ?_
                  refine LD.cq rfl rfl (gd_at (t := 71) rfl (by simp only [EN, Nat.reduceEqDiff, reduceIte, hb.blk.cell, strEq, hB6.cell] <;> rfl)) (fun hg21_4 => by simp only [EN, Nat.reduceEqDiff, reduceIte, qv_move, hb.blk.cell, strEq, hB6.cell, hg21_4, GR]; rfl) ?_
                  refine LD.cq rfl rfl (gd_at (t := 71) rfl (by simp only [EN, Nat.reduceEqDiff, reduceIte, k0_2, hb.blk.cell, strEq, hB6.cell] <;> rfl)) (fun hg21_5 => by simp only [EN, Nat.reduceEqDiff, reduceIte, qv_move, k0_2, hb.blk.cell, strEq, hB6.cell, hg21_5, GR]; rfl) ?_
                  refine LD.cq rfl rfl (gd_at (t := 71) rfl (by simp only [EN, Nat.reduceEqDiff, reduceIte, hb.blk.cell, strEq, hB6.cell] <;> rfl)) (fun hg21_6 => by simp only [EN, Nat.reduceEqDiff, reduceIte, qv_nilCheck, hb.blk.cell, strEq, hB6.cell, hg21_6, GR]; rfl) ?_
                  refine LD.cq rfl rfl (gd_at (t := 71) rfl (by simp only [EN, Nat.reduceEqDiff, reduceIte, hb.blk.cell, strEq, hB6.cell] <;> rfl)) (fun hg21_7 => by simp only [EN, Nat.reduceEqDiff, reduceIte, qv_fieldAddr, fa73_1, Nat.zero_add, Nat.reduceAdd, hb.blk.cell, strEq, hB6.cell, hg21_7, GR]; rfl) ?_
                  refine LD.cq rfl rfl (gd_at (t := 71) rfl (by simp only [EN, Nat.reduceEqDiff, reduceIte, hb.blk.cell, strEq, hB6.cell] <;> rfl)) (fun hg21_8 => by simp only [EN, Nat.reduceEqDiff, reduceIte, k0_2, k7_2, k8_2, k9_2, k62_2, hb.blk.cell, strEq, hB6.cell, GR, hg21_8, qv_load, ld71, hC.tb.blk.cell, AR, Nat.zero_add, Nat.add_zero]; rfl) ?_
                  refine LD.cq rfl rfl (gd_at (t := 71) rfl (by simp only [EN, Nat.reduceEqDiff, reduceIte, hb.blk.cell, strEq, hB6.cell] <;> rfl)) (fun hg21_9 => by simp only [EN, Nat.reduceEqDiff, reduceIte, qv_load, ld76, readN, AR, Nat.zero_add, Nat.reduceAdd, hb.blk.cell, strEq, hB6.cell, hg21_9, GR]; rfl) ?_
                  refine LD.cq rfl rfl (gd_at (t := 71) rfl (by simp only [EN, Nat.reduceEqDiff, reduceIte, hb.blk.cell, strEq, hB6.cell] <;> rfl)) (fun hg21_10 => by simp only [EN, Nat.reduceEqDiff, reduceIte, k0_2, k7_2, k8_2, k9_2, k62_2, hb.blk.cell, strEq, hB6.cell, GR, hg21_10, qv_lookup]; exact lkP hC.tb.net q3.1) ?_
                  refine LD.cq rfl rfl (gd_at (t := 71) rfl (by simp only [EN, Nat.reduceEqDiff, reduceIte, k7_2, hb.blk.cell, strEq, hB6.cell] <;> rfl)) (fun hg21_11 => by simp only [EN, Nat.reduceEqDiff, reduceIte, qv_move, k7_2, hb.blk.cell, strEq, hB6.cell, hg21_11, GR]; rfl) ?_
                  refine LD.cq rfl rfl (gd_at (t := 71) rfl (by simp only [EN, Nat.reduceEqDiff, reduceIte, hb.blk.cell, strEq, hB6.cell] <;> rfl)) (fun hg21_12 => by simp only [EN, Nat.reduceEqDiff, reduceIte, qv_load, ld76, readN, AR, Nat.zero_add, Nat.reduceAdd, hb.blk.cell, strEq, hB6.cell, hg21_12, GR]; rfl) ?_
                  refine LD.cq rfl rfl (gd_at (t := 71) rfl (by simp only [EN, Nat.reduceEqDiff, reduceIte, hb.blk.cell, strEq, hB6.cell] <;> rfl)) (fun hg21_13 => by simp only [EN, Nat.reduceEqDiff, reduceIte, k0_2, k7_2, k8_2, k9_2, k62_2, hb.blk.cell, strEq, hB6.cell, GR, hg21_13, qv_lookup]; exact lkP hC.m7 q3.1) ?_
                  refine LD.cck rfl rfl (gd_at (t := 71) rfl (by simp only [EN, Nat.reduceEqDiff, reduceIte, hb.blk.cell, strEq, hB6.cell] <;> rfl)) Try.call56 (fun hg21_14 => by intro hD hr; obtain rfl : hD = _ := hr; simp only [EN, Nat.reduceEqDiff, reduceIte, AR, hb.blk.cell, strEq, hB6.cell, hg21_14, GR]; exact c_exceeded _ _ _ _) ?_
                  refine LD.qq rfl rfl (by simp only [EN, Nat.reduceEqDiff, reduceIte, qv_pick, pk_and, pk_or, GR, hb.blk.cell, strEq, hB6.cell]; rfl) ?_
                  refine LD.nil ?_
                  rintro _ rfl -
                  refine WL.nil ?_
                  refine th_norm ?_
                  refine hx_cond (by simp only [EN, Nat.reduceEqDiff, reduceIte, hb.blk.cell, strEq, hB6.cell]; rfl) (fun hct83 => ?_) (fun hct83 => ?_)
                  ·
                    try simp only [BD] at hct83
                    refine hx_seq ?_
                    refine hx_region ?_
                    refine WL.qq (by simp only [EN, Nat.reduceEqDiff, reduceIte, qv_assign, hb.blk.cell, strEq, hB6.cell]; rfl) ?_
                    refine WL.qq (by simp only [EN, Nat.reduceEqDiff, reduceIte, qv_assign, hb.blk.cell, strEq, hB6.cell]; rfl) ?_
                    refine WL.nil ?_
                    refine th_norm ?_
                    refine hx_ret ?_
                    refine bl_ret ?_
                    refine th_ret ?_
                    refine bl_ret ?_
                    refine th_ret ?_
                    refine fin_ret [.tmp 4, .tmp 5] rfl rfl (by simp only [EN, Nat.reduceEqDiff, reduceIte, resv, k0_2, k7_2, k8_2, k9_2, k62_2, hb.blk.cell, strEq, hB6.cell]; rfl) ?_  -- ret 4 r22
                    rw [if_pos ⟨q3, hql3, by simpa [excd] using hct83⟩] at hr
                    subst hr
                    exact ⟨hC.E, _, rfl, fun hh => by cases hh⟩
                  ·
                    try simp only [BD] at hct83
                    refine hx_skip ?_
                    refine bl_norm ?_
                    refine th_norm ?_
                    refine ⟨rfl, ?_, _, ?_, left', rfl, ?_, ?_, ?_, ?_⟩  -- again 0 of loop 2
                    · (repeat (first | exact Fr.refl _ _ | refine Fr.set rfl ?_ | refine Fr.put rfl ?_ | with_reducible refine Fr.put0 ?_))
                    · omega
                    · exact hC
                    · exact hS3.iter
                    · exact fun y hy => hsub y (hp3.mem_iff.2 (by simp [hy]))
                    · exact perm_sub (P := fun y => ¬ (y.1.t ≠ em ∧ excd y.2 (lk ns y.1) (lk (aftS ns F) y.1) = true)) hp3 hdone (fun hh => by obtain ⟨h8, h9⟩ := hh; simp [h8] at hct83; simp [excd] at h9; omega)
                ·
                  try simp only [BD] at hct64
                  obtain ⟨hl0, -⟩ := hF3 hct64; subst hl0
                  rw [if_neg (fun hh => by obtain ⟨y, hy, h8⟩ := hh; exact (hdone y hy).resolve_left (by simp) h8)] at hr
                  refine hx_exit ?_
                  refine th_exit ?_
                  refine th_exit ?_
                  refine bl_hit ?_
                  refine th_norm ?_
                  refine hx_seq ?_
                  refine hx_seq ?_
                  refine hx_fresh (fun eF23 hfcf23 => ?_)
                  have k0_f23 := hfcf23 0 rfl; try simp only [EN, Nat.reduceEqDiff, reduceIte, k0_2, hb.blk.cell, strEq] at k0_f23
                  have k7_f23 := hfcf23 7 rfl; try simp only [EN, Nat.reduceEqDiff, reduceIte, k7_2, hb.blk.cell, strEq] at k7_f23
                  have k8_f23 := hfcf23 8 rfl; try simp only [EN, Nat.reduceEqDiff, reduceIte, k8_2, hb.blk.cell, strEq] at k8_f23
                  have k9_f23 := hfcf23 9 rfl; try simp only [EN, Nat.reduceEqDiff, reduceIte, k9_2, hb.blk.cell, strEq] at k9_f23
                  refine hx_region ?_
                  refine WL.qq (by simp only [EN, Nat.reduceEqDiff, reduceIte, qv_move, k0_f23, hb.blk.cell, strEq]; rfl) ?_
                  refine WL.qq (by simp only [EN, Nat.reduceEqDiff, reduceIte, qv_nilCheck, hb.blk.cell, strEq]; rfl) ?_
                  refine WL.qq (by simp only [EN, Nat.reduceEqDiff, reduceIte, qv_fieldAddr, fa73_0, Nat.zero_add, Nat.reduceAdd, hb.blk.cell, strEq]; rfl) ?_
                  refine WL.qq (by simp only [EN, Nat.reduceEqDiff, reduceIte, k0_f23, k7_f23, k8_f23, k9_f23, hb.blk.cell, strEq, qv_load, ld71, hC.tb.blk.cell, AR, Nat.zero_add, Nat.add_zero]; rfl) ?_
                  refine WL.ef _ (e_range Try.underlying71 hC.tb.lim (by simp only [EN, Nat.reduceEqDiff, reduceIte, k0_f23, k7_f23, k8_f23, k9_f23, hb.blk.cell, strEq])) ?_
                  rintro _ h56 ⟨it4, rfl, hit4, hx56, hsz56, hI4⟩
                  simp only [put_some]
                  have hlt4 := hC.lts; rw [← hit4] at hlt4
                  have h0t4 := hC.E.size; rw [← hit4] at h0t4
                  replace hC := hC.ext hx56
                  refine WL.nil ?_
                  refine th_norm ?_
                  refine hx_block ?_
                  refine hx_loopG [4, 5, 16, 17, 89, 90, 91, 92, 93, 94, 95, 96, 97, 98, 99, 100, 101, 102, 103, 104, 105, 106, 107, 108] (fun k e hL3 => ∃ (left : List L2), left.length = k ∧ (CK h p bl bn b7 b8 b9 ls ns (aftS ns F) o8 o9 hL3) ∧ (IterT pV iV hL3 it4 bl ls left) ∧ (∀ y ∈ left, y ∈ ls) ∧ (∀ y ∈ ls, y ∈ left ∨ ¬ (y.1.t = em ∧ excd y.2 (outW ns y.1.f) (outW (aftS ns F) y.1.f) = true))) _ ⟨ls, rfl, ?_, ?_, ?_, ?_⟩ ?_
                  · exact hC
                  · exact hI4
                  · exact fun y hy => hy
                  · exact fun y hy => .inl hy
                  ·
                    rintro k e3L hL3 hfr3 ⟨left, rfl, hC, hI4, hsub, hdone⟩
                    have k7_3 := hfr3 7 rfl; try simp only [EN, Nat.reduceEqDiff, reduceIte, k7_f23, hb.blk.cell, strEq] at k7_3
                    have k8_3 := hfr3 8 rfl; try simp only [EN, Nat.reduceEqDiff, reduceIte, k8_f23, hb.blk.cell, strEq] at k8_3
                    have k9_3 := hfr3 9 rfl; try simp only [EN, Nat.reduceEqDiff, reduceIte, k9_f23, hb.blk.cell, strEq] at k9_3
                    have k88_3 := hfr3 88 rfl; try simp only [EN, Nat.reduceEqDiff, reduceIte, hb.blk.cell, strEq] at k88_3
                    refine hx_seq ?_
                    refine hx_region ?_
                    refine WL.ef _ (e_next2 ktP hI4 (by simp only [EN, Nat.reduceEqDiff, reduceIte, k7_3, k8_3, k9_3, k88_3, hb.blk.cell, strEq])) ?_
                    rintro _ h57 ⟨bb4, vs4, rfl, hv4, hst4, hT4, hF4⟩
                    simp only [put_some]
                    replace hC := hC.step hst4 hlt4 h0t4
                    refine WL.qq (by simp only [EN, Nat.reduceEqDiff, reduceIte, k7_3, k8_3, k9_3, k88_3, hb.blk.cell, strEq, qv_extract, hv4]; rfl) ?_
                    refine WL.nil ?_
                    refine th_norm ?_
                    refine hx_seq ?_
                    refine hx_cond (by simp only [EN, Nat.reduceEqDiff, reduceIte, hb.blk.cell, strEq]; rfl) (fun hct90 => ?_) (fun hct90 => ?_)
                    ·
                      try simp only [BD] at hct90
                      obtain ⟨q4, left', hp4, hS4⟩ := hT4 hct90; have hlen4 := hp4.length_eq; rw [List.length_cons] at hlen4; have hql4 := hsub q4 (hp4.mem_iff.2 (by simp))
                      refine hx_skip ?_
                      refine th_norm ?_
                      refine hx_block ?_
                      refine hx_seq ?_
                      refine hx_region ?_
                      refine WL.ef _ (e_entry hS4 (by simp only [EN, Nat.reduceEqDiff, reduceIte, k7_3, k8_3, k9_3, k88_3, hb.blk.cell, strEq])) ?_
                      rintro _ hX ⟨rfl, hq1x⟩
                      obtain rfl : h57 = hX := hq1x.symm
                      simp only [put_some]
                      refine WL.qq (by simp only [EN, Nat.reduceEqDiff, reduceIte, qv_extract, AR, hb.blk.cell, strEq]; rfl) ?_
                      refine WL.qq (by simp only [EN, Nat.reduceEqDiff, reduceIte, qv_extract, AR, hb.blk.cell, strEq]; rfl) ?_
                      refine WL.allocSt zr76 sz76 (fun u => by simp only [EN, Nat.reduceEqDiff, reduceIte, Value.cells, hb.blk.cell, strEq]; rfl) ⟨rfl, rfl⟩ (by simp [Value.oneCell']) ?_
                      intro h7 B7 hx7 hlt7 hB7
                      replace hC := hC.ext hx7
                      replace hS4 := hS4.ext hx7
                      refine WL.qq (by simp only [EN, Nat.reduceEqDiff, reduceIte, qv_assign, hb.blk.cell, strEq, hB7.cell]; rfl) ?_
                      refine WL.nil ?_
                      refine th_norm ?_
                      refine hx_seq ?_
                      refine hx_region ?_
                      refine WL.qq (by simp only [EN, Nat.reduceEqDiff, reduceIte, qv_fieldAddr, fa76_1, Nat.zero_add, Nat.reduceAdd, hb.blk.cell, strEq, hB7.cell]; rfl) ?_
                      refine WL.qq (by simp only [EN, Nat.reduceEqDiff, reduceIte, qv_load, ld9, readN, AR, Nat.zero_add, Nat.reduceAdd, hb.blk.cell, strEq, hB7.cell]; rfl) ?_
                      refine WL.qq (by simp only [EN, Nat.reduceEqDiff, reduceIte, qv_binOp, binv_eql, eq9, Option.map_some, hb.blk.cell, strEq, hB7.cell]; rfl) ?_
                      refine WL.qq (by simp only [EN, Nat.reduceEqDiff, reduceIte, qv_move, hb.blk.cell, strEq, hB7.cell]; rfl) ?_
                      refine WL.cq (gd_at (t := 97) rfl (by simp only [EN, Nat.reduceEqDiff, reduceIte, hb.blk.cell, strEq, hB7.cell] <;> rfl)) (fun hg26_4 => by simp only [EN, Nat.reduceEqDiff, reduceIte, qv_move, hb.blk.cell, strEq, hB7.cell, hg26_4, GR]; rfl) ?_
                      refine WL.cq (gd_at (t := 97) rfl (by simp only [EN, Nat.reduceEqDiff, reduceIte, k8_3, hb.blk.cell, strEq, hB7.cell] <;> rfl)) (fun hg26_5 => by simp only [EN, Nat.reduceEqDiff, reduceIte, qv_move, k8_3, hb.blk.cell, strEq, hB7.cell, hg26_5, GR]; rfl) ?_
                      refine WL.cq (gd_at (t := 97) rfl (by simp only [EN, Nat.reduceEqDiff, reduceIte, hb.blk.cell, strEq, hB7.cell] <;> rfl)) (fun hg26_6 => by simp only [EN, Nat.reduceEqDiff, reduceIte, qv_fieldAddr, fa76_0, Nat.zero_add, Nat.reduceAdd, hb.blk.cell, strEq, hB7.cell, hg26_6, GR]; rfl) ?_
                      refine WL.cq (gd_at (t := 97) rfl (by simp only [EN, Nat.reduceEqDiff, reduceIte, hb.blk.cell, strEq, hB7.cell] <;> rfl)) (fun hg26_7 => by simp only [EN, Nat.reduceEqDiff, reduceIte, qv_load, ld9, readN, AR, Nat.zero_add, Nat.reduceAdd, hb.blk.cell, strEq, hB7.cell, hg26_7, GR]; rfl) ?_
                      refine WL.cq (gd_at (t := 97) rfl (by simp only [EN, Nat.reduceEqDiff, reduceIte, hb.blk.cell, strEq, hB7.cell] <;> rfl)) (fun hg26_8 => by simp only [EN, Nat.reduceEqDiff, reduceIte, k7_3, k8_3, k9_3, k88_3, hb.blk.cell, strEq, hB7.cell, GR, hg26_8, qv_lookup]; rw [lkS hC.m8 q4.1.f, hv8]) ?_
                      refine WL.cq (gd_at (t := 97) rfl (by simp only [EN, Nat.reduceEqDiff, reduceIte, k9_3, hb.blk.cell, strEq, hB7.cell] <;> rfl)) (fun hg26_9 => by simp only [EN, Nat.reduceEqDiff, reduceIte, qv_move, k9_3, hb.blk.cell, strEq, hB7.cell, hg26_9, GR]; rfl) ?_
                      refine WL.cq (gd_at (t := 97) rfl (by simp only [EN, Nat.reduceEqDiff, reduceIte, hb.blk.cell, strEq, hB7.cell] <;> rfl)) (fun hg26_10 => by simp only [EN, Nat.reduceEqDiff, reduceIte, qv_fieldAddr, fa76_0, Nat.zero_add, Nat.reduceAdd, hb.blk.cell, strEq, hB7.cell, hg26_10, GR]; rfl) ?_
                      refine WL.cq (gd_at (t := 97) rfl (by simp only [EN, Nat.reduceEqDiff, reduceIte, hb.blk.cell, strEq, hB7.cell] <;> rfl)) (fun hg26_11 => by simp only [EN, Nat.reduceEqDiff, reduceIte, qv_load, ld9, readN, AR, Nat.zero_add, Nat.reduceAdd, hb.blk.cell, strEq, hB7.cell, hg26_11, GR]; rfl) ?_
                      refine WL.cq (gd_at (t := 97) rfl (by simp only [EN, Nat.reduceEqDiff, reduceIte, hb.blk.cell, strEq, hB7.cell] <;> rfl)) (fun hg26_12 => by simp only [EN, Nat.reduceEqDiff, reduceIte, k7_3, k8_3, k9_3, k88_3, hb.blk.cell, strEq, hB7.cell, GR, hg26_12, qv_lookup]; rw [lkS hC.m9 q4.1.f, hv9]) ?_
                      refine WL.cck (gd_at (t := 97) rfl (by simp only [EN, Nat.reduceEqDiff, reduceIte, hb.blk.cell, strEq, hB7.cell] <;> rfl)) Try.call56 (fun hg26_13 => by simp only [EN, Nat.reduceEqDiff, reduceIte, AR, hb.blk.cell, strEq, hB7.cell, hg26_13, GR]; exact c_exceeded _ _ _ _) ?_
                      refine WL.qq (by simp only [EN, Nat.reduceEqDiff, reduceIte, qv_pick, pk_and, pk_or, GR, hb.blk.cell, strEq, hB7.cell]; rfl) ?_
                      refine WL.nil ?_
                      refine th_norm ?_
                      refine hx_cond (by simp only [EN, Nat.reduceEqDiff, reduceIte, hb.blk.cell, strEq, hB7.cell]; rfl) (fun hct108 => ?_) (fun hct108 => ?_)
                      ·
                        try simp only [BD] at hct108
                        refine hx_seq ?_
                        refine hx_region ?_
                        refine WL.qq (by simp only [EN, Nat.reduceEqDiff, reduceIte, qv_assign, hb.blk.cell, strEq, hB7.cell]; rfl) ?_
                        refine WL.qq (by simp only [EN, Nat.reduceEqDiff, reduceIte, qv_assign, hb.blk.cell, strEq, hB7.cell]; rfl) ?_
                        refine WL.nil ?_
                        refine th_norm ?_
                        refine hx_ret ?_
                        refine bl_ret ?_
                        refine th_ret ?_
                        refine bl_ret ?_
                        refine th_ret ?_
                        refine fin_ret [.tmp 4, .tmp 5] rfl rfl (by simp only [EN, Nat.reduceEqDiff, reduceIte, resv, k7_3, k8_3, k9_3, k88_3, hb.blk.cell, strEq, hB7.cell]; rfl) ?_  -- ret 5 r27
                        rw [if_pos ⟨q4, hql4, by simpa [excd] using hct108⟩] at hr
                        subst hr
                        exact ⟨hC.E, _, rfl, fun hh => by cases hh⟩
                      ·
                        try simp only [BD] at hct108
                        refine hx_skip ?_
                        refine bl_norm ?_
                        refine th_norm ?_
                        refine ⟨rfl, ?_, _, ?_, left', rfl, ?_, ?_, ?_, ?_⟩  -- again 0 of loop 3
                        · (repeat (first | exact Fr.refl _ _ | refine Fr.set rfl ?_ | refine Fr.put rfl ?_ | with_reducible refine Fr.put0 ?_))
                        · omega
                        · exact hC
                        · exact hS4.iter
                        · exact fun y hy => hsub y (hp4.mem_iff.2 (by simp [hy]))
                        · exact perm_sub (P := fun y => ¬ (y.1.t = em ∧ excd y.2 (outW ns y.1.f) (outW (aftS ns F) y.1.f) = true)) hp4 hdone (fun hh => by obtain ⟨h8, h9⟩ := hh; simp [h8] at hct108; simp [excd] at h9; omega)
                    ·
                      try simp only [BD] at hct90
                      obtain ⟨hl0, -⟩ := hF4 hct90; subst hl0
                      rw [if_neg (fun hh => by obtain ⟨y, hy, h8⟩ := hh; exact (hdone y hy).resolve_left (by simp) h8)] at hr
                      refine hx_exit ?_
                      refine th_exit ?_
                      refine th_exit ?_
                      refine bl_hit ?_
                      refine th_norm ?_
                      refine hx_seq ?_
                      refine hx_region ?_
                      refine WL.qq (by simp only [EN, Nat.reduceEqDiff, reduceIte, qv_move, k7_3, hb.blk.cell, strEq]; rfl) ?_
                      refine WL.qq (by simp only [EN, Nat.reduceEqDiff, reduceIte, qv_assign, hb.blk.cell, strEq]; rfl) ?_
                      refine WL.qq (by simp only [EN, Nat.reduceEqDiff, reduceIte, qv_assign, hb.blk.cell, strEq]; rfl) ?_
                      refine WL.nil ?_
                      refine th_norm ?_
                      refine hx_ret ?_
                      refine fin_ret [.tmp 4, .tmp 5] rfl rfl (by simp only [EN, Nat.reduceEqDiff, reduceIte, resv, k7_3, k8_3, k9_3, k88_3, hb.blk.cell, strEq]; rfl) ?_  -- ret 6 r28
                      subst hr
                      exact ⟨hC.E, _, rfl, fun _ => ⟨_, rfl, Nat.le_trans hx1.size hlb7, hC.m7⟩⟩
end GL


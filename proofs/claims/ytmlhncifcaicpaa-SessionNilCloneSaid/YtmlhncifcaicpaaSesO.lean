/- Session: Acknowledge and Resend. -/
import Derived.Test.YtmlhncifcaicpaaSesN
set_option linter.unusedSimpArgs false
set_option linter.unusedVariables false
set_option linter.unnecessarySimpa false
namespace GL
open Go Go.Proofs
set_option maxRecDepth 8000
theorem mid_shr (i j : Nat) : ((i : Int) + j).fdiv (2 ^ (min (1 : Int).toNat IntKind.u64.bits)) = (((i + j) / 2 : Nat) : Int) := by
  have h1 : (min (1 : Int).toNat IntKind.u64.bits) = 1 := by decide
  rw [h1, Int.fdiv_eq_ediv_of_nonneg _ (by decide)]
  simp only [Int.pow_succ, Int.pow_zero, Int.one_mul]
  omega
/-- A part with its own room. -/
theorem slicev_3 {P : Program} {t el : TypeId} {sz : Nat} (hu : P.underlying t = some (.slice el)) (hs : sizeB P el = some sz) (a : Option Addr) (len cap : Nat) (k k' k'' : IntKind) (lo : Int) (l m : Nat) (hlo : lo = (l : Int)) (h1 : l ≤ m) (h2 : m ≤ cap) :
    slicev P t (.slice a len cap) (some (.int k lo)) (some (.int k' (m : Int))) (some (.int k'' (m : Int))) = some (.slice (if m = l then a else a.map (·.add (l * sz))) (m - l) (m - l)) := by
  subst hlo
  have e1 : (0 ≤ (m : Int) ∧ (m : Int) ≤ (cap : Int)) := ⟨by omega, by omega⟩
  have e2 : (0 ≤ (m : Int) ∧ (m : Int) ≤ (m : Int)) := ⟨by omega, by omega⟩
  have e3 : (0 ≤ (l : Int) ∧ (l : Int) ≤ (m : Int)) := ⟨by omega, by omega⟩
  have c1 : (((cap : Nat) : Int) ≤ (cap : Int)) := Int.le_refl _
  simp only [slicev, hu, hs, bnd, e1, e2, e3, and_self, if_true, Int.toNat_natCast]
theorem KO.dropb {h : Heap} {N cap : Nat} {al : Option Addr} {K : List M2} (hk : KO h N al cap K) {l c off : Nat} (hl : l ≤ K.length) (hh : (if K.length = l then al else al.map (·.add (l * 2))) = some ⟨c, off, none⟩) : ∃ off', al = some ⟨c, off', none⟩ := by
  by_cases hq : K.length = l
  · rw [if_pos hq] at hh
    exact ⟨off, hh⟩
  · rw [if_neg hq] at hh
    obtain ⟨y, hy⟩ := atG (l := K) (i := 0) (by omega)
    obtain ⟨b', off', ha, _⟩ := hk.rd.rd 0 y hy
    rw [ha, Option.map_some, addr_add] at hh
    cases hh
    exact ⟨off', ha⟩
theorem KO.drop {h : Heap} {N cap : Nat} {al : Option Addr} {K : List M2} (hk : KO h N al cap K) (l : Nat) (hl : l ≤ K.length) : KO h N (if K.length = l then al else al.map (·.add (l * 2))) (K.length - l) (K.drop l) := by
  refine ⟨⟨fun i x hx => ?_, fun g off ha => ?_⟩, by rw [List.length_drop]; omega, .inr (by rw [List.length_drop])⟩
  · rw [List.getElem?_drop] at hx
    have h1 := (List.getElem?_eq_some_iff.1 hx).1
    obtain ⟨b', off', ha, hr⟩ := hk.rd.rd (l + i) x hx
    refine ⟨b', off' + l * 2, ?_, ?_⟩
    · rw [if_neg (by omega), ha]; simp only [Option.map_some, addr_add]
    · rw [Nat.add_mul, ← Nat.add_assoc] at hr; exact hr
  · obtain ⟨o9, h9⟩ := hk.dropb hl ha
    exact hk.rd.ty g o9 h9
def ackE (n a x : Int) : Int := if x < 1 ∨ n < x then 2 else if x < a then 20 else 0
def ackA (n a x : Int) : Int := if ackE n a x = 0 then x else a
def ackK (n a x : Int) (K : List M2) : List M2 := if ackE n a x = 0 then K.drop (x - a).toNat else K
theorem ackE_ok {n a x : Int} (h : ackE n a x = 0) : 1 ≤ x ∧ x ≤ n ∧ a ≤ x := by
  unfold ackE at h
  by_cases h1 : x < 1 ∨ n < x
  · rw [if_pos h1] at h; cases h
  rw [if_neg h1] at h
  by_cases h2 : x < a
  · rw [if_pos h2] at h; cases h
  omega
theorem SG.ack {w n a : Int} {K : List M2} (x : Int) (hS : SG w n a K) : SG w n (ackA n a x) (ackK n a x K) := by
  unfold ackA ackK
  by_cases h : ackE n a x = 0
  · rw [if_pos h, if_pos h]
    obtain ⟨h1, h2, h3⟩ := ackE_ok h
    have h4 := hS.kw
    have h5 := hS.an
    refine ⟨hS.w1, hS.w2, by omega, by rw [List.length_drop]; omega, hS.n2, by rw [List.length_drop]; omega, fun i y hy => ?_⟩
    rw [List.getElem?_drop] at hy
    have := hS.sq _ y hy
    omega
  · rw [if_neg h, if_neg h]; exact hS
def resE (n a f t : Int) : Int := if f < 1 ∨ t < f ∨ n ≤ t then 2 else if f < a then 20 else 0
def resL (n a f t : Int) (K : List M2) : List M2 := if resE n a f t = 0 then (K.drop (f - a).toNat).take ((t - f).toNat + 1) else []
section
variable {h0 h h' : Heap} {p cap : Nat} {w n a : Int} {al : Option Addr} {K : List M2}
theorem c_ack1 (m : M2) (x : Int) (h1 : 0 ≤ m.1 ∧ m.1 ≤ 2000000000) (h2 : 0 ≤ x ∧ x ≤ 2000000000) : HCalls Try.prog 41 #[.agg (msgL m).toArray, iV x] h (Grow (iV (m.1 - x)) h) := by
  refine hcalls2 Try.func41 rfl (by decide +kernel) (by simp only [Try.ntmps41]; exact of_decide_eq_true rfl) ?_
  intro e hin
  have e0 := hin 0 _ rfl
  have e1 := hin 1 _ rfl
  refine hx_seq ?_
  refine hx_region ?_
  refine WL.box2 (by simp only [EN, Nat.reduceEqDiff, reduceIte, Value.cells, e0]; rfl) ?_
  intro h1 B1 hx1 hlt1 hB1
  refine WL.qq (by simp only [EN, Nat.reduceEqDiff, reduceIte, qv_assign, hB1.cell]; rfl) ?_
  refine WL.nil ?_
  refine th_norm ?_
  refine hx_seq ?_
  refine hx_region ?_
  refine WL.qq (by simp only [EN, Nat.reduceEqDiff, reduceIte, qv_fieldAddr, fa43_0, Nat.zero_add, Nat.reduceAdd, hB1.cell]; rfl) ?_
  refine WL.qq (by simp only [EN, Nat.reduceEqDiff, reduceIte, qv_load, ld3, readN, AR, Nat.zero_add, Nat.reduceAdd, hB1.cell]; rfl) ?_
  refine WL.qq (by simp only [EN, Nat.reduceEqDiff, reduceIte, qv_move, e1, hB1.cell]; rfl) ?_
  refine WL.qq (by simp only [EN, Nat.reduceEqDiff, reduceIte, qv_binOp, binv_sub, hB1.cell]; (try simp (disch := omega) only [w64, w8, wu64]); rfl) ?_
  refine WL.qq (by simp only [EN, Nat.reduceEqDiff, reduceIte, qv_assign, hB1.cell]; rfl) ?_
  refine WL.nil ?_
  refine th_norm ?_
  refine hx_ret ?_
  refine fin_ret [.tmp 4] rfl rfl (by simp only [EN, Nat.reduceEqDiff, reduceIte, resv, e0, e1, hB1.cell]; rfl) ?_  -- ret 0 r1
  exact ⟨by simp [retOf], (hx1)⟩
theorem c_bs (al : Option Addr) (cb : Nat) (K : List M2) (a x : Int) (hK : K.length ≤ 1000) (h1 : 1 ≤ a ∧ a ≤ 1000000001) (hx1 : a ≤ x ∧ x ≤ a + K.length) (hs : SlG 2 msgL h al K) (hsq : ∀ (i : Nat) (y : M2), K[i]? = some y → y.1 = a + (i : Int)) :
    HCalls Try.prog 40 #[.slice al K.length cb, iV x, .func (.func 41) #[] #[]] h fun v h' => (∃ b, v = .tuple #[iV (x - a), b]) ∧ Ext h h' := by
  obtain ⟨t, ht⟩ : ∃ t : Nat, x - a = (t : Int) := ⟨(x - a).toNat, by omega⟩
  rw [ht]
  refine hcalls2 Try.func40 rfl (by decide +kernel) (by simp only [Try.ntmps40]; exact of_decide_eq_true rfl) ?_
  intro e hin
  have e0 := hin 0 _ rfl
  have e1 := hin 1 _ rfl
  have e2 := hin 2 _ rfl
  have kE := Ext.refl h
  refine hx_seq ?_
  refine hx_region ?_
  refine WL.qq (by simp only [EN, Nat.reduceEqDiff, reduceIte, qv_assign, e2]; rfl) ?_
  refine WL.qq (by simp only [EN, Nat.reduceEqDiff, reduceIte, qv_assign, e2]; rfl) ?_
  refine WL.nil ?_
  refine th_norm ?_
  refine hx_seq ?_
  refine hx_region ?_
  refine WL.qq (by simp only [EN, Nat.reduceEqDiff, reduceIte, qv_move, e0, e2]; rfl) ?_
  refine WL.qq (by simp only [EN, Nat.reduceEqDiff, reduceIte, qv_len, ln34, AR, e2]; rfl) ?_
  refine WL.qq (by simp only [EN, Nat.reduceEqDiff, reduceIte, qv_assign, e2]; rfl) ?_
  refine WL.nil ?_
  refine th_norm ?_
  refine hx_seq ?_
  refine hx_region ?_
  refine WL.qq (by simp only [EN, Nat.reduceEqDiff, reduceIte, qv_move, e2]; rfl) ?_
  refine WL.qq (by simp only [EN, Nat.reduceEqDiff, reduceIte, qv_assign, e2]; rfl) ?_
  refine WL.qq (by simp only [EN, Nat.reduceEqDiff, reduceIte, qv_assign, e2]; rfl) ?_
  refine WL.nil ?_
  refine th_norm ?_
  refine hx_seq ?_
  refine hx_block ?_
  refine hx_loopG [9, 10, 11, 15, 16, 17, 18, 19, 20, 21, 22, 23, 24, 25, 26, 27, 28, 29, 30, 31, 32, 33, 34] (fun k e hL0 => ∃ (i : Nat) (j : Nat), j - i = k ∧ (i ≤ t) ∧ (t ≤ j) ∧ (j ≤ K.length) ∧ (Ext h hL0) ∧ e 9 = .int .i64 i ∧ e 10 = .int .i64 j) _ ⟨0, K.length, rfl, ?_, ?_, ?_, ?_, ?_, ?_⟩ ?_
  · omega
  · omega
  · omega
  · exact Ext.refl _
  · simp only [EN, Nat.reduceEqDiff, reduceIte, e0, e1, e2, e2] <;> rfl
  · simp only [EN, Nat.reduceEqDiff, reduceIte, e0, e1, e2, e2] <;> rfl
  ·
    rintro k e0L hL0 hfr0 ⟨i, j, rfl, hij, hij2, hjK, hE, i9_0, i10_0⟩
    have k0_0 := hfr0 0 rfl; try simp only [EN, Nat.reduceEqDiff, reduceIte, e0, e2] at k0_0
    have k1_0 := hfr0 1 rfl; try simp only [EN, Nat.reduceEqDiff, reduceIte, e1, e2] at k1_0
    have k2_0 := hfr0 2 rfl; try simp only [EN, Nat.reduceEqDiff, reduceIte, e2, e2] at k2_0
    have k8_0 := hfr0 8 rfl; try simp only [EN, Nat.reduceEqDiff, reduceIte, e2] at k8_0
    refine hx_seq ?_
    refine hx_seq ?_
    refine hx_region ?_
    refine WL.qq (by simp only [EN, Nat.reduceEqDiff, reduceIte, qv_move, i9_0, e2]; rfl) ?_
    refine WL.qq (by simp only [EN, Nat.reduceEqDiff, reduceIte, qv_move, i10_0, e2]; rfl) ?_
    refine WL.qq (by simp only [EN, Nat.reduceEqDiff, reduceIte, qv_binOp, binv_lss, e2]; rfl) ?_
    refine WL.nil ?_
    refine th_norm ?_
    refine hx_cond (by simp only [EN, Nat.reduceEqDiff, reduceIte, e2]; rfl) (fun hct17 => ?_) (fun hct17 => ?_)
    ·
      try simp only [BD] at hct17
      obtain ⟨y, hy⟩ := atG (l := K) (i := (i + j) / 2) (by omega)
      have hyv := hsq _ y hy
      obtain ⟨b, off, rfl, hr1, _⟩ := msg_rd (hs.ext hE) hy
      refine hx_skip ?_
      refine th_norm ?_
      refine hx_block ?_
      refine hx_seq ?_
      refine hx_region ?_
      refine WL.qq (by simp only [EN, Nat.reduceEqDiff, reduceIte, qv_move, i9_0, e2]; rfl) ?_
      refine WL.qq (by simp only [EN, Nat.reduceEqDiff, reduceIte, qv_move, i10_0, e2]; rfl) ?_
      refine WL.qq (by simp only [EN, Nat.reduceEqDiff, reduceIte, qv_binOp, binv_add, e2]; (try simp (disch := omega) only [w64, w8, wu64]); rfl) ?_
      refine WL.qq (by simp only [EN, Nat.reduceEqDiff, reduceIte, qv_convert, convv, Try.underlying3, Try.underlying107, e2]; (try simp (disch := omega) only [w64, w8, wu64]); rfl) ?_
      refine WL.qq (by simp only [EN, Nat.reduceEqDiff, reduceIte, k0_0, k1_0, k2_0, k8_0, i9_0, i10_0, e2, qv_binOp]; rw [binv_shr (by decide), mid_shr]) ?_
      refine WL.qq (by simp only [EN, Nat.reduceEqDiff, reduceIte, qv_convert, convv, Try.underlying107, Try.underlying3, e2]; (try simp (disch := omega) only [w64, w8, wu64]); rfl) ?_
      refine WL.qq (by simp only [EN, Nat.reduceEqDiff, reduceIte, qv_assign, e2]; rfl) ?_
      refine WL.nil ?_
      refine th_norm ?_
      refine hx_seq ?_
      refine hx_region ?_
      refine WL.qq (by simp only [EN, Nat.reduceEqDiff, reduceIte, qv_move, k2_0, e2]; rfl) ?_
      refine WL.qq (by simp only [EN, Nat.reduceEqDiff, reduceIte, qv_move, k0_0, e2]; rfl) ?_
      refine WL.qq (by simp only [EN, Nat.reduceEqDiff, reduceIte, qv_move, e2]; rfl) ?_
      refine WL.qq (by simp only [EN, Nat.reduceEqDiff, reduceIte, qv_indexAddr, e2]; (try simp (disch := omega) only [ix34, Int.toNat_natCast]); rfl) ?_
      refine WL.qq (by simp only [EN, Nat.reduceEqDiff, reduceIte, k0_0, k1_0, k2_0, k8_0, i9_0, i10_0, e2, qv_load, ld43, Int.toNat_natCast, hr1]; rfl) ?_
      refine WL.qq (by simp only [EN, Nat.reduceEqDiff, reduceIte, qv_move, k1_0, e2]; rfl) ?_
      refine WL.cf (f := 41) (first := #[]) (cap := #[]) (by simp only [EN, Nat.reduceEqDiff, reduceIte, k0_0, k1_0, k2_0, k8_0, i9_0, i10_0, e2]) Try.call41 (by simp only [EN, Nat.reduceEqDiff, reduceIte, k0_0, k1_0, k2_0, k8_0, i9_0, i10_0, e2, List.map_toArray, List.map_cons, List.map_nil]; exact c_ack1 y x (by omega) (by omega)) ?_
      rintro _ h9 ⟨rfl, hx9⟩
      simp only [put_some]
      replace hE := hE.trans hx9
      refine WL.qq (by simp only [EN, Nat.reduceEqDiff, reduceIte, qv_binOp, binv_lss, e2]; rfl) ?_
      refine WL.nil ?_
      refine th_norm ?_
      refine hx_cond (by simp only [EN, Nat.reduceEqDiff, reduceIte, e2]; rfl) (fun hct31 => ?_) (fun hct31 => ?_)
      ·
        try simp only [BD] at hct31
        refine hx_region ?_
        refine WL.qq (by simp only [EN, Nat.reduceEqDiff, reduceIte, qv_move, e2]; rfl) ?_
        refine WL.qq (by simp only [EN, Nat.reduceEqDiff, reduceIte, qv_binOp, binv_add, e2]; (try simp (disch := omega) only [w64, w8, wu64]); rfl) ?_
        refine WL.qq (by simp only [EN, Nat.reduceEqDiff, reduceIte, qv_assign, e2]; rfl) ?_
        refine WL.nil ?_
        refine bl_norm ?_
        refine th_norm ?_
        refine ⟨rfl, ?_, _, ?_, (i + j) / 2 + 1, j, rfl, ?_, ?_, ?_, ?_, ?_, ?_⟩  -- again 0 of loop 0
        · (repeat (first | exact Fr.refl _ _ | refine Fr.set rfl ?_ | refine Fr.put rfl ?_ | with_reducible refine Fr.put0 ?_))
        · omega
        · omega
        · omega
        · omega
        · exact hE
        · simp only [EN, Nat.reduceEqDiff, reduceIte, k0_0, k1_0, k2_0, k8_0, i9_0, i10_0, e2] <;> first | rfl | (congr 1; omega)
        · simp only [EN, Nat.reduceEqDiff, reduceIte, k0_0, k1_0, k2_0, k8_0, i9_0, i10_0, e2] <;> first | rfl | (congr 1; omega)
      ·
        try simp only [BD] at hct31
        refine hx_region ?_
        refine WL.qq (by simp only [EN, Nat.reduceEqDiff, reduceIte, qv_move, e2]; rfl) ?_
        refine WL.qq (by simp only [EN, Nat.reduceEqDiff, reduceIte, qv_assign, e2]; rfl) ?_
        refine WL.nil ?_
        refine bl_norm ?_
        refine th_norm ?_
        refine ⟨rfl, ?_, _, ?_, i, (i + j) / 2, rfl, ?_, ?_, ?_, ?_, ?_, ?_⟩  -- again 1 of loop 0
        · (repeat (first | exact Fr.refl _ _ | refine Fr.set rfl ?_ | refine Fr.put rfl ?_ | with_reducible refine Fr.put0 ?_))
        · omega
        · omega
        · omega
        · omega
        · exact hE
        · simp only [EN, Nat.reduceEqDiff, reduceIte, k0_0, k1_0, k2_0, k8_0, i9_0, i10_0, e2] <;> first | rfl | (congr 1; omega)
        · simp only [EN, Nat.reduceEqDiff, reduceIte, k0_0, k1_0, k2_0, k8_0, i9_0, i10_0, e2] <;> first | rfl | (congr 1; omega)
    ·
      try simp only [BD] at hct17
      obtain rfl : i = t := by omega
      obtain ⟨b, off, y, hq⟩ : ∃ b off y, i < K.length → al = some ⟨b, off, none⟩ ∧ readN hL0 b (off + i * 2) 2 = some (msgL y) ∧ K[i]? = some y := by { exact if hlt : i < K.length then (by obtain ⟨y, hy⟩ := atG (l := K) (i := i) hlt; obtain ⟨b, off, ha, hr, _⟩ := msg_rd (hs.ext hE) hy; exact ⟨b, off, y, fun _ => ⟨ha, hr, hy⟩⟩) else ⟨0, 0, (0, em), fun hh => absurd hh hlt⟩ }
      refine hx_exit ?_
      refine th_exit ?_
      refine th_exit ?_
      refine bl_hit ?_
      refine th_norm ?_
      refine hx_seq ?_
      refine hx_region ?_
      refine WL.qq (by simp only [EN, Nat.reduceEqDiff, reduceIte, qv_move, i9_0, e2]; rfl) ?_
      refine WL.qq (by simp only [EN, Nat.reduceEqDiff, reduceIte, qv_move, i9_0, e2]; rfl) ?_
      refine WL.qq (by simp only [EN, Nat.reduceEqDiff, reduceIte, qv_move, k8_0, e2]; rfl) ?_
      refine WL.qq (by simp only [EN, Nat.reduceEqDiff, reduceIte, qv_binOp, binv_lss, e2]; rfl) ?_
      refine WL.qq (by simp only [EN, Nat.reduceEqDiff, reduceIte, qv_move, e2]; rfl) ?_
      refine WL.cq (gd_at (t := 39) rfl (by simp only [EN, Nat.reduceEqDiff, reduceIte, k2_0, e2] <;> rfl)) (fun hg8_5 => by simp only [EN, Nat.reduceEqDiff, reduceIte, qv_move, k2_0, e2, hg8_5, GR]; rfl) ?_
      refine WL.cq (gd_at (t := 39) rfl (by simp only [EN, Nat.reduceEqDiff, reduceIte, k0_0, e2] <;> rfl)) (fun hg8_6 => by simp only [EN, Nat.reduceEqDiff, reduceIte, qv_move, k0_0, e2, hg8_6, GR]; rfl) ?_
      refine WL.cq (gd_at (t := 39) rfl (by simp only [EN, Nat.reduceEqDiff, reduceIte, i9_0, e2] <;> rfl)) (fun hg8_7 => by simp only [EN, Nat.reduceEqDiff, reduceIte, qv_move, i9_0, e2, hg8_7, GR]; rfl) ?_
      refine WL.cq (gd_at (t := 39) rfl (by simp only [EN, Nat.reduceEqDiff, reduceIte, e2] <;> rfl)) (fun hg8_8 => by have hlt : i < K.length := by { simpa using hg8_8 }; have hh9 := hq hlt; simp only [EN, Nat.reduceEqDiff, reduceIte, k0_0, k1_0, k2_0, k8_0, i9_0, i10_0, e2, qv_indexAddr, hg8_8, hh9.1, if_true]; simp (disch := omega) only [ix34, Int.toNat_natCast]; rfl) ?_
      refine WL.cq (gd_at (t := 39) rfl (by simp only [EN, Nat.reduceEqDiff, reduceIte, e2] <;> rfl)) (fun hg8_9 => by have hlt : i < K.length := by { simpa using hg8_9 }; have hh9 := hq hlt; simp only [EN, Nat.reduceEqDiff, reduceIte, k0_0, k1_0, k2_0, k8_0, i9_0, i10_0, e2, qv_load, ld43, hg8_9, hh9.2.1, if_true]; rfl) ?_
      refine WL.cq (gd_at (t := 39) rfl (by simp only [EN, Nat.reduceEqDiff, reduceIte, k1_0, e2] <;> rfl)) (fun hg8_10 => by simp only [EN, Nat.reduceEqDiff, reduceIte, qv_move, k1_0, e2, hg8_10, GR]; rfl) ?_
      refine WL.geX (gd_at (t := 39) rfl (by simp only [EN, Nat.reduceEqDiff, reduceIte, k0_0, k1_0, k2_0, k8_0, i9_0, i10_0, e2] <;> rfl)) (S := fun v _ => v = iV (y.1 - x)) (fun hg => by have hlt : i < K.length := (by simpa using hg); have hyv := hsq _ y (hq hlt).2.2; exact EOp.mono (R := Grow (iV (y.1 - x)) hL0) (e_callf Try.call41 (first := #[]) (cap := #[]) (by simp only [EN, Nat.reduceEqDiff, reduceIte, k0_0, k1_0, k2_0, k8_0, i9_0, i10_0, e2, hg, if_true]) (by simp only [EN, Nat.reduceEqDiff, reduceIte, k0_0, k1_0, k2_0, k8_0, i9_0, i10_0, e2, List.map_toArray, List.map_cons, List.map_nil, hg, if_true]; exact c_ack1 y x (by omega) (by omega))) (fun v h' hh => ⟨hh.2, hh.1⟩)) ?_
      intro v8_11 h10 hx10 w8_11 n8_11
      replace hE := hE.trans hx10
      refine WL.cq (gd_at (t := 39) rfl (by simp only [EN, Nat.reduceEqDiff, reduceIte, e2] <;> rfl)) (fun hg8_12 => by have hw := w8_11 hg8_12; simp only [EN, Nat.reduceEqDiff, reduceIte, k0_0, k1_0, k2_0, k8_0, i9_0, i10_0, e2, hw, qv_binOp, binv_eql, hg8_12, if_true]; rfl) ?_
      refine WL.qq (by simp only [EN, Nat.reduceEqDiff, reduceIte, qv_pick, pk_and, pk_or, GR, e2]; rfl) ?_
      refine WL.qq (by simp only [EN, Nat.reduceEqDiff, reduceIte, qv_assign, e2]; rfl) ?_
      refine WL.qq (by simp only [EN, Nat.reduceEqDiff, reduceIte, qv_assign, e2]; rfl) ?_
      refine WL.nil ?_
      refine th_norm ?_
      refine hx_ret ?_
      refine fin_ret [.tmp 6, .tmp 7] rfl rfl (by simp only [EN, Nat.reduceEqDiff, reduceIte, resv, k0_0, k1_0, k2_0, k8_0, i9_0, i10_0, e2]; rfl) ?_  -- ret 0 r8
      exact ⟨⟨_, by simp [retOf]; rfl⟩, hE⟩
set_option maxHeartbeats 1000000 in
theorem c_Acknowledge (x : Int) (hS : SG w n a K) (ht : TS h0 h p w n a al cap K) :
    HCalls Try.prog 23 #[.pointer (some ⟨p, 0, none⟩), iV x] h fun v h' => v = iV (ackE n a x) ∧ ∃ al' cap', TS h0 h' p w n (ackA n a x) al' cap' (ackK n a x K) ∧ Sf p al h h' ∧ (∀ c off, al' = some ⟨c, off, none⟩ → (∃ off', al = some ⟨c, off', none⟩) ∨ h.size ≤ c) := by
  have hkw := hS.kw; have hw2 := hS.w2; have hn2 := hS.n2; have han := hS.an; have ha1 := hS.a1
  refine hcalls2 Try.func23 rfl (by decide +kernel) (by simp only [Try.ntmps23]; exact of_decide_eq_true rfl) ?_
  intro e hin
  have e0 := hin 0 _ rfl
  have e1 := hin 1 _ rfl
  have kt := ht
  refine hx_seq ?_
  refine hx_region ?_
  refine WL.qq (by simp only [EN, Nat.reduceEqDiff, reduceIte, qv_assign, ht.blk.cell]; rfl) ?_
  refine WL.nil ?_
  refine th_norm ?_
  refine hx_seq ?_
  refine hx_block ?_
  refine hx_seq ?_
  refine hx_region ?_
  refine WL.qq (by simp only [EN, Nat.reduceEqDiff, reduceIte, qv_move, e0, ht.blk.cell]; rfl) ?_
  refine WL.qq (by simp only [EN, Nat.reduceEqDiff, reduceIte, qv_binOp, binv_eql, eqz33, eqn33, eqm33, Option.map_some, ht.blk.cell]; rfl) ?_
  refine WL.qq (by simp only [EN, Nat.reduceEqDiff, reduceIte, qv_assign, ht.blk.cell]; rfl) ?_
  refine WL.nil ?_
  refine th_norm ?_
  refine hx_cond (by simp only [EN, Nat.reduceEqDiff, reduceIte, ht.blk.cell]; rfl) (fun hct7 => ?_) (fun hct7 => ?_)
  ·
    simp at hct7
  ·
    try simp only [BD] at hct7
    refine hx_seq ?_
    refine hx_region ?_
    refine WL.qq (by simp only [EN, Nat.reduceEqDiff, reduceIte, qv_move, e1, ht.blk.cell]; rfl) ?_
    refine WL.qq (by simp only [EN, Nat.reduceEqDiff, reduceIte, qv_binOp, binv_lss, ht.blk.cell]; rfl) ?_
    refine WL.qq (by simp only [EN, Nat.reduceEqDiff, reduceIte, qv_move, ht.blk.cell]; rfl) ?_
    refine WL.cq (gd_at (t := 13) rfl (by simp only [EN, Nat.reduceEqDiff, reduceIte, e1, ht.blk.cell] <;> rfl)) (fun hg3_3 => by simp only [EN, Nat.reduceEqDiff, reduceIte, qv_move, e1, ht.blk.cell, hg3_3, GR]; rfl) ?_
    refine WL.cq (gd_at (t := 13) rfl (by simp only [EN, Nat.reduceEqDiff, reduceIte, e0, ht.blk.cell] <;> rfl)) (fun hg3_4 => by simp only [EN, Nat.reduceEqDiff, reduceIte, qv_move, e0, ht.blk.cell, hg3_4, GR]; rfl) ?_
    refine WL.cq (gd_at (t := 13) rfl (by simp only [EN, Nat.reduceEqDiff, reduceIte, ht.blk.cell] <;> rfl)) (fun hg3_5 => by simp only [EN, Nat.reduceEqDiff, reduceIte, qv_nilCheck, ht.blk.cell, hg3_5, GR]; rfl) ?_
    refine WL.cq (gd_at (t := 13) rfl (by simp only [EN, Nat.reduceEqDiff, reduceIte, ht.blk.cell] <;> rfl)) (fun hg3_6 => by simp only [EN, Nat.reduceEqDiff, reduceIte, qv_fieldAddr, fa88_1, Nat.zero_add, Nat.reduceAdd, ht.blk.cell, hg3_6, GR]; rfl) ?_
    refine WL.cq (gd_at (t := 13) rfl (by simp only [EN, Nat.reduceEqDiff, reduceIte, ht.blk.cell] <;> rfl)) (fun hg3_7 => by simp only [EN, Nat.reduceEqDiff, reduceIte, qv_load, ld3, readN, AR, Nat.zero_add, Nat.reduceAdd, ht.blk.cell, hg3_7, GR]; rfl) ?_
    refine WL.cq (gd_at (t := 13) rfl (by simp only [EN, Nat.reduceEqDiff, reduceIte, ht.blk.cell] <;> rfl)) (fun hg3_8 => by simp only [EN, Nat.reduceEqDiff, reduceIte, qv_binOp, binv_gtr, ht.blk.cell, hg3_8, GR]; rfl) ?_
    refine WL.qq (by simp only [EN, Nat.reduceEqDiff, reduceIte, qv_pick, pk_and, pk_or, GR, ht.blk.cell]; rfl) ?_
    refine WL.qq (by simp only [EN, Nat.reduceEqDiff, reduceIte, qv_assign, ht.blk.cell]; rfl) ?_
    refine WL.nil ?_
    refine th_norm ?_
    refine hx_cond (by simp only [EN, Nat.reduceEqDiff, reduceIte, ht.blk.cell]; rfl) (fun hct10 => ?_) (fun hct10 => ?_)
    ·
      try simp only [BD] at hct10
      refine hx_seq ?_
      refine hx_region ?_
      refine WL.qq (by simp only [EN, Nat.reduceEqDiff, reduceIte, qv_assign, ht.blk.cell]; rfl) ?_
      refine WL.nil ?_
      refine th_norm ?_
      refine hx_ret ?_
      refine bl_ret ?_
      refine th_ret ?_
      refine fin_ret [.tmp 4] rfl rfl (by simp only [EN, Nat.reduceEqDiff, reduceIte, resv, e0, e1, ht.blk.cell]; rfl) ?_  -- ret 0 r4
      have he : ackE n a x = 2 := (if_pos (by omega))
      have hne : ¬ ackE n a x = 0 := (by rw [he]; decide)
      rw [ackA, ackK, if_neg hne, if_neg hne, he]
      exact ⟨rfl, _, _, ht, Sf.ext (Ext.refl _), fun c off q => .inl ⟨off, q⟩⟩
    ·
      try simp only [BD] at hct10
      have q1 : ¬ (x < 1 ∨ n < x) := (by omega)
      refine hx_seq ?_
      refine hx_region ?_
      refine WL.qq (by simp only [EN, Nat.reduceEqDiff, reduceIte, qv_move, e1, ht.blk.cell]; rfl) ?_
      refine WL.qq (by simp only [EN, Nat.reduceEqDiff, reduceIte, qv_move, e0, ht.blk.cell]; rfl) ?_
      refine WL.qq (by simp only [EN, Nat.reduceEqDiff, reduceIte, qv_nilCheck, ht.blk.cell]; rfl) ?_
      refine WL.qq (by simp only [EN, Nat.reduceEqDiff, reduceIte, qv_fieldAddr, fa88_2, Nat.zero_add, Nat.reduceAdd, ht.blk.cell]; rfl) ?_
      refine WL.qq (by simp only [EN, Nat.reduceEqDiff, reduceIte, qv_load, ld3, readN, AR, Nat.zero_add, Nat.reduceAdd, ht.blk.cell]; rfl) ?_
      refine WL.qq (by simp only [EN, Nat.reduceEqDiff, reduceIte, qv_binOp, binv_lss, ht.blk.cell]; rfl) ?_
      refine WL.qq (by simp only [EN, Nat.reduceEqDiff, reduceIte, qv_assign, ht.blk.cell]; rfl) ?_
      refine WL.nil ?_
      refine th_norm ?_
      refine hx_cond (by simp only [EN, Nat.reduceEqDiff, reduceIte, ht.blk.cell]; rfl) (fun hct21 => ?_) (fun hct21 => ?_)
      ·
        try simp only [BD] at hct21
        refine hx_seq ?_
        refine hx_region ?_
        refine WL.qq (by simp only [EN, Nat.reduceEqDiff, reduceIte, qv_assign, ht.blk.cell]; rfl) ?_
        refine WL.nil ?_
        refine th_norm ?_
        refine hx_ret ?_
        refine bl_ret ?_
        refine th_ret ?_
        refine fin_ret [.tmp 4] rfl rfl (by simp only [EN, Nat.reduceEqDiff, reduceIte, resv, e0, e1, ht.blk.cell]; rfl) ?_  -- ret 1 r6
        have he : ackE n a x = 20 := ((if_neg q1).trans (if_pos (by omega)))
        have hne : ¬ ackE n a x = 0 := (by rw [he]; decide)
        rw [ackA, ackK, if_neg hne, if_neg hne, he]
        exact ⟨rfl, _, _, ht, Sf.ext (Ext.refl _), fun c off q => .inl ⟨off, q⟩⟩
      ·
        try simp only [BD] at hct21
        have he : ackE n a x = 0 := ((if_neg q1).trans (if_neg (by omega)))
        rw [ackA, ackK, if_pos he, if_pos he, he]
        refine hx_skip ?_
        refine bl_norm ?_
        refine th_norm ?_
        refine hx_seq ?_
        refine hx_region ?_
        refine WL.qq (by simp only [EN, Nat.reduceEqDiff, reduceIte, qv_move, e0, ht.blk.cell]; rfl) ?_
        refine WL.qq (by simp only [EN, Nat.reduceEqDiff, reduceIte, qv_nilCheck, ht.blk.cell]; rfl) ?_
        refine WL.qq (by simp only [EN, Nat.reduceEqDiff, reduceIte, qv_fieldAddr, fa88_3, Nat.zero_add, Nat.reduceAdd, ht.blk.cell]; rfl) ?_
        refine WL.qq (by simp only [EN, Nat.reduceEqDiff, reduceIte, qv_load, ld34, readN, AR, Nat.zero_add, Nat.reduceAdd, ht.blk.cell]; rfl) ?_
        refine WL.qq (by simp only [EN, Nat.reduceEqDiff, reduceIte, qv_move, e1, ht.blk.cell]; rfl) ?_
        refine WL.ce Try.call40 (by simp only [EN, Nat.reduceEqDiff, reduceIte, AR, ht.blk.cell]; exact c_bs al cap K a x (by omega) (by omega) (by omega) ht.ko.rd.rd hS.sq) ?_
        rintro _ h30 ⟨⟨bb, rfl⟩, hE30⟩
        simp only [put_some]
        replace ht := kt.ext hE30
        have hlc := kt.ko.le
        refine WL.qq (by simp only [EN, Nat.reduceEqDiff, reduceIte, qv_move, ht.blk.cell]; rfl) ?_
        refine WL.qq (by simp only [EN, Nat.reduceEqDiff, reduceIte, qv_extract, AR, ht.blk.cell]; rfl) ?_
        refine WL.qq (by simp only [EN, Nat.reduceEqDiff, reduceIte, qv_extract, AR, ht.blk.cell]; rfl) ?_
        refine WL.qq (by simp only [EN, Nat.reduceEqDiff, reduceIte, qv_assign, ht.blk.cell]; rfl) ?_
        refine WL.qq (by simp only [EN, Nat.reduceEqDiff, reduceIte, qv_assign, ht.blk.cell]; rfl) ?_
        refine WL.nil ?_
        refine th_norm ?_
        refine hx_seq ?_
        apply hx_draw2 Rel.same [19] [] [] rfl (by decide +kernel) rfl
        refine LD.qq rfl rfl (by simp only [EN, Nat.reduceEqDiff, reduceIte, qv_move, e0, ht.blk.cell]; rfl) ?_
        refine LD.qq rfl rfl (by simp only [EN, Nat.reduceEqDiff, reduceIte, qv_move, e0, ht.blk.cell]; rfl) ?_
        refine LD.qq rfl rfl (by simp only [EN, Nat.reduceEqDiff, reduceIte, qv_nilCheck, ht.blk.cell]; rfl) ?_
        refine LD.qq rfl rfl (by simp only [EN, Nat.reduceEqDiff, reduceIte, qv_fieldAddr, fa88_3, Nat.zero_add, Nat.reduceAdd, ht.blk.cell]; rfl) ?_
        refine LD.qq rfl rfl (by simp only [EN, Nat.reduceEqDiff, reduceIte, qv_load, ld34, readN, AR, Nat.zero_add, Nat.reduceAdd, ht.blk.cell]; rfl) ?_
        refine LD.qq rfl rfl (by simp only [EN, Nat.reduceEqDiff, reduceIte, qv_move, ht.blk.cell]; rfl) ?_
        refine LD.qq rfl rfl (by simp only [EN, Nat.reduceEqDiff, reduceIte, qv_move, e0, ht.blk.cell]; rfl) ?_
        refine LD.qq rfl rfl (by simp only [EN, Nat.reduceEqDiff, reduceIte, qv_nilCheck, ht.blk.cell]; rfl) ?_
        refine LD.qq rfl rfl (by simp only [EN, Nat.reduceEqDiff, reduceIte, qv_fieldAddr, fa88_3, Nat.zero_add, Nat.reduceAdd, ht.blk.cell]; rfl) ?_
        refine LD.qq rfl rfl (by simp only [EN, Nat.reduceEqDiff, reduceIte, qv_load, ld34, readN, AR, Nat.zero_add, Nat.reduceAdd, ht.blk.cell]; rfl) ?_
        refine LD.qq rfl rfl (by simp only [EN, Nat.reduceEqDiff, reduceIte, qv_len, ln34, AR, ht.blk.cell]; rfl) ?_
        refine LD.qq rfl rfl (by simp only [EN, Nat.reduceEqDiff, reduceIte, qv_move, e0, ht.blk.cell]; rfl) ?_
        refine LD.qq rfl rfl (by simp only [EN, Nat.reduceEqDiff, reduceIte, qv_nilCheck, ht.blk.cell]; rfl) ?_
        refine LD.qq rfl rfl (by simp only [EN, Nat.reduceEqDiff, reduceIte, qv_fieldAddr, fa88_3, Nat.zero_add, Nat.reduceAdd, ht.blk.cell]; rfl) ?_
        refine LD.qq rfl rfl (by simp only [EN, Nat.reduceEqDiff, reduceIte, qv_load, ld34, readN, AR, Nat.zero_add, Nat.reduceAdd, ht.blk.cell]; rfl) ?_
        refine LD.qq rfl rfl (by simp only [EN, Nat.reduceEqDiff, reduceIte, qv_len, ln34, AR, ht.blk.cell]; rfl) ?_
        refine LD.qq rfl rfl (by simp only [EN, Nat.reduceEqDiff, reduceIte, e0, e1, ht.blk.cell, qv_slice, Option.map_some, Option.map_none]; rw [slicev_3 Try.underlying34 sz43 al K.length cap .i64 .i64 .i64 (x - a) (x - a).toNat K.length (by omega) (by omega) hlc]) ?_
        refine LD.qq rfl rfl (by simp only [EN, Nat.reduceEqDiff, reduceIte, qv_nilCheck, ht.blk.cell]; rfl) ?_
        refine LD.qq rfl rfl (by simp only [EN, Nat.reduceEqDiff, reduceIte, qv_fieldAddr, fa88_3, Nat.zero_add, Nat.reduceAdd, ht.blk.cell]; rfl) ?_
        refine LD.skip rfl ?_
        refine LD.nil ?_
        rintro _ rfl -
        refine WL.store (by simp only [EN, Nat.reduceEqDiff, reduceIte, ht.blk.cell] <;> rfl) sz34 (by simp only [EN, Nat.reduceEqDiff, reduceIte, Value.cells, ht.blk.cell] <;> rfl) rfl ht.blk (by first | (simp [true_and]; done) | (simp [true_and]; omega) | omega) (by simp [Value.oneCell']) ?_
        intro h1 hw1
        have hkd := ht.ko.drop (x - a).toNat (by omega)
        have hnp : ∀ off, al ≠ some ⟨p, off, none⟩ := fun off hh => (by obtain ⟨cu, hcu⟩ := ht.ko.rd.ty p off hh; have := hcu.un ht.blk; cases this)
        replace hkd := hkd.wrb hw1 (fun off hh => by obtain ⟨o9, hh9⟩ := ht.ko.dropb (l := (x - a).toNat) (by omega) hh; exact hnp o9 hh9)
        have hSf := (Sf.ext (p := p) (al := al) hE30).wrn hw1 (.inl rfl)
        have hE40 := hw1.ext ht.E kt.hp
        have hbk := hw1.at_
        simp only [splc, List.take_succ_cons, List.take_zero, List.take_nil, List.drop_succ_cons, List.drop_zero, List.drop_nil, List.cons_append, List.nil_append, List.length_cons, List.length_nil, Nat.zero_add, Nat.add_zero, Nat.reduceAdd, List.append_nil] at hbk
        refine WL.nil ?_
        refine th_norm ?_
        refine hx_seq ?_
        refine hx_region ?_
        refine WL.qq (by simp only [EN, Nat.reduceEqDiff, reduceIte, qv_move, e0, ht.blk.cell]; rfl) ?_
        refine WL.qq (by simp only [EN, Nat.reduceEqDiff, reduceIte, qv_move, e1, ht.blk.cell]; rfl) ?_
        refine WL.qq (by simp only [EN, Nat.reduceEqDiff, reduceIte, qv_nilCheck, ht.blk.cell]; rfl) ?_
        refine WL.qq (by simp only [EN, Nat.reduceEqDiff, reduceIte, qv_fieldAddr, fa88_2, Nat.zero_add, Nat.reduceAdd, ht.blk.cell]; rfl) ?_
        refine WL.store (by simp only [EN, Nat.reduceEqDiff, reduceIte, ht.blk.cell] <;> rfl) sz3 (by simp only [EN, Nat.reduceEqDiff, reduceIte, Value.cells, ht.blk.cell] <;> rfl) rfl hbk (by first | (simp [true_and]; done) | (simp [true_and]; omega) | omega) (by simp [Value.oneCell']) ?_
        intro h2 hw2
        replace hkd := hkd.wrb hw2 (fun off hh => by obtain ⟨o9, hh9⟩ := ht.ko.dropb (l := (x - a).toNat) (by omega) hh; exact hnp o9 hh9)
        replace hSf := hSf.wrn hw2 (.inl rfl)
        replace hE40 := hw2.ext hE40 kt.hp
        replace hbk := hw2.at_
        simp only [splc, List.take_succ_cons, List.take_zero, List.take_nil, List.drop_succ_cons, List.drop_zero, List.drop_nil, List.cons_append, List.nil_append, List.length_cons, List.length_nil, Nat.zero_add, Nat.add_zero, Nat.reduceAdd, List.append_nil] at hbk
        refine WL.nil ?_
        refine th_norm ?_
        refine hx_seq ?_
        refine hx_region ?_
        refine WL.qq (by simp only [EN, Nat.reduceEqDiff, reduceIte, qv_assign, ht.blk.cell]; rfl) ?_
        refine WL.nil ?_
        refine th_norm ?_
        refine hx_ret ?_
        refine fin_ret [.tmp 4] rfl rfl (by simp only [EN, Nat.reduceEqDiff, reduceIte, resv, e0, e1, ht.blk.cell]; rfl) ?_  -- ret 2 r10
        exact ⟨rfl, _, _, ⟨(by rw [List.length_drop]; exact hbk), hkd, hE40, kt.hp, fun c off q => (by obtain ⟨o9, hh9⟩ := kt.ko.dropb (l := (x - a).toNat) (by omega) q; exact kt.hb c o9 hh9)⟩, hSf, fun c off q => .inl (kt.ko.dropb (l := (x - a).toNat) (by omega) q)⟩
theorem resE_ok {f t : Int} (h : resE n a f t = 0) : 1 ≤ f ∧ f ≤ t ∧ t < n ∧ a ≤ f := by
  unfold resE at h
  by_cases h1 : f < 1 ∨ t < f ∨ n ≤ t
  · rw [if_pos h1] at h; cases h
  rw [if_neg h1] at h
  by_cases h2 : f < a
  · rw [if_pos h2] at h; cases h
  omega
set_option maxHeartbeats 1000000 in
theorem c_Resend (f t : Int) (hS : SG w n a K) (ht : TS h0 h p w n a al cap K) :
    HCalls Try.prog 28 #[.pointer (some ⟨p, 0, none⟩), .agg #[iV f, iV t]] h fun v h' => Ext h h' ∧ ∃ b' c', v = .tuple #[.slice b' (resL n a f t K).length c', iV (resE n a f t)] ∧ SlR 43 2 msgL h' b' (resL n a f t K) := by
  have hkw := hS.kw; have hw2 := hS.w2; have hn2 := hS.n2; have han := hS.an; have ha1 := hS.a1
  refine hcalls2 Try.func28 rfl (by decide +kernel) (by simp only [Try.ntmps28]; exact of_decide_eq_true rfl) ?_
  intro e hin
  have e0 := hin 0 _ rfl
  have e1 := hin 1 _ rfl
  refine hx_seq ?_
  refine hx_region ?_
  refine WL.box2 (by simp only [EN, Nat.reduceEqDiff, reduceIte, Value.cells, e1, ht.blk.cell]; rfl) ?_
  intro h1 B1 hx1 hlt1 hB1
  replace ht := ht.ext hx1
  refine WL.qq (by simp only [EN, Nat.reduceEqDiff, reduceIte, qv_assign, ht.blk.cell, hB1.cell]; rfl) ?_
  refine WL.qq (by simp only [EN, Nat.reduceEqDiff, reduceIte, qv_assign, ht.blk.cell, hB1.cell]; rfl) ?_
  refine WL.nil ?_
  refine th_norm ?_
  refine hx_seq ?_
  refine hx_block ?_
  refine hx_seq ?_
  refine hx_region ?_
  refine WL.qq (by simp only [EN, Nat.reduceEqDiff, reduceIte, qv_move, e0, ht.blk.cell, hB1.cell]; rfl) ?_
  refine WL.qq (by simp only [EN, Nat.reduceEqDiff, reduceIte, qv_binOp, binv_eql, eqz33, eqn33, eqm33, Option.map_some, ht.blk.cell, hB1.cell]; rfl) ?_
  refine WL.qq (by simp only [EN, Nat.reduceEqDiff, reduceIte, qv_assign, ht.blk.cell, hB1.cell]; rfl) ?_
  refine WL.nil ?_
  refine th_norm ?_
  refine hx_cond (by simp only [EN, Nat.reduceEqDiff, reduceIte, ht.blk.cell, hB1.cell]; rfl) (fun hct7 => ?_) (fun hct7 => ?_)
  ·
    simp at hct7
  ·
    try simp only [BD] at hct7
    refine hx_seq ?_
    apply hx_draw2 Rel.same [] [] [] rfl (by decide +kernel) rfl
    refine LD.qq rfl rfl (by simp only [EN, Nat.reduceEqDiff, reduceIte, qv_fieldAddr, fa70_0, Nat.zero_add, Nat.reduceAdd, ht.blk.cell, hB1.cell]; rfl) ?_
    refine LD.qq rfl rfl (by simp only [EN, Nat.reduceEqDiff, reduceIte, qv_load, ld3, readN, AR, Nat.zero_add, Nat.reduceAdd, ht.blk.cell, hB1.cell]; rfl) ?_
    refine LD.qq rfl rfl (by simp only [EN, Nat.reduceEqDiff, reduceIte, qv_binOp, binv_lss, ht.blk.cell, hB1.cell]; rfl) ?_
    refine LD.qq rfl rfl (by simp only [EN, Nat.reduceEqDiff, reduceIte, qv_move, ht.blk.cell, hB1.cell]; rfl) ?_
    refine LD.cq rfl rfl (gd_at (t := 14) rfl (by simp only [EN, Nat.reduceEqDiff, reduceIte, ht.blk.cell, hB1.cell] <;> rfl)) (fun hg3_4 => by simp only [EN, Nat.reduceEqDiff, reduceIte, qv_fieldAddr, fa70_1, Nat.zero_add, Nat.reduceAdd, ht.blk.cell, hB1.cell, hg3_4, GR]; rfl) ?_
    refine LD.cq rfl rfl (gd_at (t := 14) rfl (by simp only [EN, Nat.reduceEqDiff, reduceIte, ht.blk.cell, hB1.cell] <;> rfl)) (fun hg3_5 => by simp only [EN, Nat.reduceEqDiff, reduceIte, qv_load, ld3, readN, AR, Nat.zero_add, Nat.reduceAdd, ht.blk.cell, hB1.cell, hg3_5, GR]; rfl) ?_
    refine LD.cq rfl rfl (gd_at (t := 14) rfl (by simp only [EN, Nat.reduceEqDiff, reduceIte, ht.blk.cell, hB1.cell] <;> rfl)) (fun hg3_6 => by simp only [EN, Nat.reduceEqDiff, reduceIte, qv_fieldAddr, fa70_0, Nat.zero_add, Nat.reduceAdd, ht.blk.cell, hB1.cell, hg3_6, GR]; rfl) ?_
    refine LD.cq rfl rfl (gd_at (t := 14) rfl (by simp only [EN, Nat.reduceEqDiff, reduceIte, ht.blk.cell, hB1.cell] <;> rfl)) (fun hg3_7 => by simp only [EN, Nat.reduceEqDiff, reduceIte, qv_load, ld3, readN, AR, Nat.zero_add, Nat.reduceAdd, ht.blk.cell, hB1.cell, hg3_7, GR]; rfl) ?_
    refine LD.cq rfl rfl (gd_at (t := 14) rfl (by simp only [EN, Nat.reduceEqDiff, reduceIte, ht.blk.cell, hB1.cell] <;> rfl)) (fun hg3_8 => by simp only [EN, Nat.reduceEqDiff, reduceIte, qv_binOp, binv_lss, ht.blk.cell, hB1.cell, hg3_8, GR]; rfl) ?_
    refine LD.qq rfl rfl (by simp only [EN, Nat.reduceEqDiff, reduceIte, qv_pick, pk_and, pk_or, GR, ht.blk.cell, hB1.cell]; rfl) ?_
    refine LD.qq rfl rfl (by simp only [EN, Nat.reduceEqDiff, reduceIte, qv_move, ht.blk.cell, hB1.cell]; rfl) ?_
    refine LD.cq rfl rfl (gd_at (t := 21) rfl (by simp only [EN, Nat.reduceEqDiff, reduceIte, ht.blk.cell, hB1.cell] <;> rfl)) (fun hg3_11 => by simp only [EN, Nat.reduceEqDiff, reduceIte, qv_fieldAddr, fa70_1, Nat.zero_add, Nat.reduceAdd, ht.blk.cell, hB1.cell, hg3_11, GR]; rfl) ?_
    refine LD.cq rfl rfl (gd_at (t := 21) rfl (by simp only [EN, Nat.reduceEqDiff, reduceIte, ht.blk.cell, hB1.cell] <;> rfl)) (fun hg3_12 => by simp only [EN, Nat.reduceEqDiff, reduceIte, qv_load, ld3, readN, AR, Nat.zero_add, Nat.reduceAdd, ht.blk.cell, hB1.cell, hg3_12, GR]; rfl) ?_
    refine LD.cq rfl rfl (gd_at (t := 21) rfl (by simp only [EN, Nat.reduceEqDiff, reduceIte, e0, ht.blk.cell, hB1.cell] <;> rfl)) (fun hg3_13 => by simp only [EN, Nat.reduceEqDiff, reduceIte, qv_move, e0, ht.blk.cell, hB1.cell, hg3_13, GR]; rfl) ?_
    refine LD.cq rfl rfl (gd_at (t := 21) rfl (by simp only [EN, Nat.reduceEqDiff, reduceIte, ht.blk.cell, hB1.cell] <;> rfl)) (fun hg3_14 => by simp only [EN, Nat.reduceEqDiff, reduceIte, qv_nilCheck, ht.blk.cell, hB1.cell, hg3_14, GR]; rfl) ?_
    refine LD.cq rfl rfl (gd_at (t := 21) rfl (by simp only [EN, Nat.reduceEqDiff, reduceIte, ht.blk.cell, hB1.cell] <;> rfl)) (fun hg3_15 => by simp only [EN, Nat.reduceEqDiff, reduceIte, qv_fieldAddr, fa88_1, Nat.zero_add, Nat.reduceAdd, ht.blk.cell, hB1.cell, hg3_15, GR]; rfl) ?_
    refine LD.cq rfl rfl (gd_at (t := 21) rfl (by simp only [EN, Nat.reduceEqDiff, reduceIte, ht.blk.cell, hB1.cell] <;> rfl)) (fun hg3_16 => by simp only [EN, Nat.reduceEqDiff, reduceIte, qv_load, ld3, readN, AR, Nat.zero_add, Nat.reduceAdd, ht.blk.cell, hB1.cell, hg3_16, GR]; rfl) ?_
    refine LD.cq rfl rfl (gd_at (t := 21) rfl (by simp only [EN, Nat.reduceEqDiff, reduceIte, ht.blk.cell, hB1.cell] <;> rfl)) (fun hg3_17 => by simp only [EN, Nat.reduceEqDiff, reduceIte, qv_binOp, binv_geq, ht.blk.cell, hB1.cell, hg3_17, GR]; rfl) ?_
    refine LD.qq rfl rfl (by simp only [EN, Nat.reduceEqDiff, reduceIte, qv_pick, pk_and, pk_or, GR, ht.blk.cell, hB1.cell]; rfl) ?_
    refine LD.qq rfl rfl (by simp only [EN, Nat.reduceEqDiff, reduceIte, qv_assign, ht.blk.cell, hB1.cell]; rfl) ?_
    refine LD.nil ?_
    rintro h1 rfl -
    refine WL.nil ?_
    refine th_norm ?_
    refine hx_cond (by simp only [EN, Nat.reduceEqDiff, reduceIte, ht.blk.cell, hB1.cell]; rfl) (fun hct10 => ?_) (fun hct10 => ?_)
    ·
      try simp only [BD] at hct10
      refine hx_seq ?_
      refine hx_region ?_
      refine WL.qq (by simp only [EN, Nat.reduceEqDiff, reduceIte, qv_assign, ht.blk.cell, hB1.cell]; rfl) ?_
      refine WL.qq (by simp only [EN, Nat.reduceEqDiff, reduceIte, qv_assign, ht.blk.cell, hB1.cell]; rfl) ?_
      refine WL.nil ?_
      refine th_norm ?_
      refine hx_ret ?_
      refine bl_ret ?_
      refine th_ret ?_
      refine fin_ret [.tmp 4, .tmp 5] rfl rfl (by simp only [EN, Nat.reduceEqDiff, reduceIte, resv, e0, e1, ht.blk.cell, hB1.cell]; rfl) ?_  -- ret 0 r4
      have he : resE n a f t = 2 := (if_pos (by omega))
      have hne : ¬ resE n a f t = 0 := (by rw [he]; decide)
      rw [resL, if_neg hne, he]
      exact ⟨(hx1), none, 0, rfl, slR_nil⟩
    ·
      try simp only [BD] at hct10
      have q1 : ¬ (f < 1 ∨ t < f ∨ n ≤ t) := (by omega)
      obtain ⟨b, off, y, hq⟩ : ∃ b off y, 0 < K.length → al = some ⟨b, off, none⟩ ∧ readN h1 b off 2 = some (msgL y) ∧ cell h1 b off = some (iV y.1) ∧ K[0]? = some y := by { exact if hlt : 0 < K.length then (by obtain ⟨y, hy⟩ := atG (l := K) (i := 0) hlt; obtain ⟨b, off, ha, hr, hc0, _⟩ := msg_rd ht.ko.rd.rd hy; rw [Nat.zero_mul, Nat.add_zero] at hr hc0; exact ⟨b, off, y, fun _ => ⟨ha, hr, hc0, hy⟩⟩) else ⟨0, 0, (0, em), fun hh => absurd hh hlt⟩ }
      refine hx_seq ?_
      apply hx_draw2 Rel.same [] [] [] rfl (by decide +kernel) rfl
      refine LD.qq rfl rfl (by simp only [EN, Nat.reduceEqDiff, reduceIte, qv_move, e0, ht.blk.cell, hB1.cell]; rfl) ?_
      refine LD.qq rfl rfl (by simp only [EN, Nat.reduceEqDiff, reduceIte, qv_nilCheck, ht.blk.cell, hB1.cell]; rfl) ?_
      refine LD.qq rfl rfl (by simp only [EN, Nat.reduceEqDiff, reduceIte, qv_fieldAddr, fa88_3, Nat.zero_add, Nat.reduceAdd, ht.blk.cell, hB1.cell]; rfl) ?_
      refine LD.qq rfl rfl (by simp only [EN, Nat.reduceEqDiff, reduceIte, qv_load, ld34, readN, AR, Nat.zero_add, Nat.reduceAdd, ht.blk.cell, hB1.cell]; rfl) ?_
      refine LD.qq rfl rfl (by simp only [EN, Nat.reduceEqDiff, reduceIte, qv_len, ln34, AR, ht.blk.cell, hB1.cell]; rfl) ?_
      refine LD.qq rfl rfl (by simp only [EN, Nat.reduceEqDiff, reduceIte, qv_binOp, binv_eql, eq3, Option.map_some, ht.blk.cell, hB1.cell]; rfl) ?_
      refine LD.qq rfl rfl (by simp only [EN, Nat.reduceEqDiff, reduceIte, qv_move, ht.blk.cell, hB1.cell]; rfl) ?_
      refine LD.cq rfl rfl (gd_at (t := 37) rfl (by simp only [EN, Nat.reduceEqDiff, reduceIte, ht.blk.cell, hB1.cell] <;> rfl)) (fun hg5_7 => by simp only [EN, Nat.reduceEqDiff, reduceIte, qv_fieldAddr, fa70_0, Nat.zero_add, Nat.reduceAdd, ht.blk.cell, hB1.cell, hg5_7, GR]; rfl) ?_
      refine LD.cq rfl rfl (gd_at (t := 37) rfl (by simp only [EN, Nat.reduceEqDiff, reduceIte, ht.blk.cell, hB1.cell] <;> rfl)) (fun hg5_8 => by simp only [EN, Nat.reduceEqDiff, reduceIte, qv_load, ld3, readN, AR, Nat.zero_add, Nat.reduceAdd, ht.blk.cell, hB1.cell, hg5_8, GR]; rfl) ?_
      refine LD.cq rfl rfl (gd_at (t := 37) rfl (by simp only [EN, Nat.reduceEqDiff, reduceIte, e0, ht.blk.cell, hB1.cell] <;> rfl)) (fun hg5_9 => by simp only [EN, Nat.reduceEqDiff, reduceIte, qv_move, e0, ht.blk.cell, hB1.cell, hg5_9, GR]; rfl) ?_
      refine LD.cq rfl rfl (gd_at (t := 37) rfl (by simp only [EN, Nat.reduceEqDiff, reduceIte, ht.blk.cell, hB1.cell] <;> rfl)) (fun hg5_10 => by simp only [EN, Nat.reduceEqDiff, reduceIte, qv_nilCheck, ht.blk.cell, hB1.cell, hg5_10, GR]; rfl) ?_
      refine LD.cq rfl rfl (gd_at (t := 37) rfl (by simp only [EN, Nat.reduceEqDiff, reduceIte, ht.blk.cell, hB1.cell] <;> rfl)) (fun hg5_11 => by simp only [EN, Nat.reduceEqDiff, reduceIte, qv_fieldAddr, fa88_3, Nat.zero_add, Nat.reduceAdd, ht.blk.cell, hB1.cell, hg5_11, GR]; rfl) ?_
      refine LD.cq rfl rfl (gd_at (t := 37) rfl (by simp only [EN, Nat.reduceEqDiff, reduceIte, ht.blk.cell, hB1.cell] <;> rfl)) (fun hg5_12 => by simp only [EN, Nat.reduceEqDiff, reduceIte, qv_load, ld34, readN, AR, Nat.zero_add, Nat.reduceAdd, ht.blk.cell, hB1.cell, hg5_12, GR]; rfl) ?_
      refine LD.cq rfl rfl (gd_at (t := 37) rfl (by simp only [EN, Nat.reduceEqDiff, reduceIte, ht.blk.cell, hB1.cell] <;> rfl)) (fun hg5_13 => by have hlt : 0 < K.length := by { have hh8 := hg5_13; simp at hh8; have := List.length_pos_iff.2 hh8; omega }; have hh9 := hq hlt; simp only [EN, Nat.reduceEqDiff, reduceIte, e0, e1, ht.blk.cell, hB1.cell, qv_indexAddr, hg5_13, hh9.1, Bool.false_eq_true, Bool.true_eq_false, eq_self, if_true, if_false]; simp (disch := omega) only [ix34, Int.toNat_natCast]; rfl) ?_
      refine LD.cq rfl rfl (gd_at (t := 37) rfl (by simp only [EN, Nat.reduceEqDiff, reduceIte, ht.blk.cell, hB1.cell] <;> rfl)) (fun hg5_14 => by have hlt : 0 < K.length := by { have hh8 := hg5_14; simp at hh8; have := List.length_pos_iff.2 hh8; omega }; simp only [EN, Nat.reduceEqDiff, reduceIte, e0, e1, ht.blk.cell, hB1.cell, qv_fieldAddr, hg5_14, Bool.false_eq_true, Bool.true_eq_false, eq_self, if_true, if_false, fa43_0]; rfl) ?_
      refine LD.cq rfl rfl (gd_at (t := 37) rfl (by simp only [EN, Nat.reduceEqDiff, reduceIte, ht.blk.cell, hB1.cell] <;> rfl)) (fun hg5_15 => by have hlt : 0 < K.length := by { have hh8 := hg5_15; simp at hh8; have := List.length_pos_iff.2 hh8; omega }; have hh9 := hq hlt; simp only [EN, Nat.reduceEqDiff, reduceIte, e0, e1, ht.blk.cell, hB1.cell, qv_load, ld3, hg5_15, hh9.2.2.1, Bool.false_eq_true, Bool.true_eq_false, eq_self, if_true, if_false, Int.toNat_zero, Nat.zero_mul, Nat.mul_zero, Nat.add_zero, Nat.zero_add]; rfl) ?_
      refine LD.cq rfl rfl (gd_at (t := 37) rfl (by simp only [EN, Nat.reduceEqDiff, reduceIte, ht.blk.cell, hB1.cell] <;> rfl)) (fun hg5_16 => by simp only [EN, Nat.reduceEqDiff, reduceIte, qv_binOp, binv_lss, ht.blk.cell, hB1.cell, hg5_16, GR]; rfl) ?_
      refine LD.qq rfl rfl (by simp only [EN, Nat.reduceEqDiff, reduceIte, qv_pick, pk_and, pk_or, GR, ht.blk.cell, hB1.cell]; rfl) ?_
      refine LD.qq rfl rfl (by simp only [EN, Nat.reduceEqDiff, reduceIte, qv_assign, ht.blk.cell, hB1.cell]; rfl) ?_
      refine LD.nil ?_
      rintro h1 rfl -
      refine WL.nil ?_
      refine th_norm ?_
      refine hx_cond (by simp only [EN, Nat.reduceEqDiff, reduceIte, ht.blk.cell, hB1.cell]; rfl) (fun hct30 => ?_) (fun hct30 => ?_)
      ·
        try simp only [BD] at hct30
        refine hx_seq ?_
        refine hx_region ?_
        refine WL.qq (by simp only [EN, Nat.reduceEqDiff, reduceIte, qv_assign, ht.blk.cell, hB1.cell]; rfl) ?_
        refine WL.qq (by simp only [EN, Nat.reduceEqDiff, reduceIte, qv_assign, ht.blk.cell, hB1.cell]; rfl) ?_
        refine WL.nil ?_
        refine th_norm ?_
        refine hx_ret ?_
        refine bl_ret ?_
        refine th_ret ?_
        refine fin_ret [.tmp 4, .tmp 5] rfl rfl (by simp only [EN, Nat.reduceEqDiff, reduceIte, resv, e0, e1, ht.blk.cell, hB1.cell]; rfl) ?_  -- ret 1 r6
        have hfa : f < a := (by rcases Nat.eq_zero_or_pos K.length with hz | hz; omega; have := hS.sq 0 y (hq hz).2.2.2; omega)
        have he : resE n a f t = 20 := ((if_neg q1).trans (if_pos hfa))
        have hne : ¬ resE n a f t = 0 := (by rw [he]; decide)
        rw [resL, if_neg hne, he]
        exact ⟨(hx1), none, 0, rfl, slR_nil⟩
      ·
        try simp only [BD] at hct30
        have hlt : 0 < K.length := (by omega)
        obtain ⟨rfl, hr0, hc0, hy0⟩ := hq hlt
        have hya := hS.sq 0 y hy0
        have he : resE n a f t = 0 := ((if_neg q1).trans (if_neg (by omega)))
        rw [resL, if_pos he, he]
        obtain ⟨l1, hl1⟩ : ∃ l1 : Nat, f - a = (l1 : Int) := ⟨(f - a).toNat, by omega⟩
        obtain ⟨l2, hl2⟩ : ∃ l2 : Nat, t - f = (l2 : Int) := ⟨(t - f).toNat, by omega⟩
        rw [hl1, hl2, Int.toNat_natCast, Int.toNat_natCast]
        have hll : ((K.drop l1).take (l2 + 1)).length = l2 + 1 := (by rw [List.length_take, List.length_drop]; omega)
        have hcl := ht.ko.le
        have hsl : slicev Try.prog 34 (.slice (some ⟨b, off, none⟩) K.length cap) (some (.int .i64 (f - y.1))) (some (.int .i64 (t - y.1 + 1))) none = some (.slice (some ⟨b, if cap = l1 then off else off + l1 * 2, none⟩) ((K.drop l1).take (l2 + 1)).length (cap - l1)) := (by rw [show f - y.1 = (l1 : Int) by omega, show t - y.1 + 1 = ((l1 + l2 + 1 : Nat) : Int) by omega, slicev_full Try.underlying34 sz43 b off K.length cap .i64 .i64 (l1 : Int) ((l1 + l2 + 1 : Nat) : Int) (by omega) (by omega) (by omega), Int.toNat_natCast, Int.toNat_natCast, hll, show l1 + l2 + 1 - l1 = l2 + 1 by omega]; by_cases hcc : cap = l1; (rw [if_pos hcc, if_pos (by omega)]); (rw [if_neg hcc, if_neg (by omega)]))
        refine hx_skip ?_
        refine bl_norm ?_
        refine th_norm ?_
        refine hx_seq ?_
        refine hx_region ?_
        refine WL.qq (by simp only [EN, Nat.reduceEqDiff, reduceIte, qv_move, e0, ht.blk.cell, hB1.cell]; rfl) ?_
        refine WL.qq (by simp only [EN, Nat.reduceEqDiff, reduceIte, qv_nilCheck, ht.blk.cell, hB1.cell]; rfl) ?_
        refine WL.qq (by simp only [EN, Nat.reduceEqDiff, reduceIte, qv_fieldAddr, fa88_3, Nat.zero_add, Nat.reduceAdd, ht.blk.cell, hB1.cell]; rfl) ?_
        refine WL.qq (by simp only [EN, Nat.reduceEqDiff, reduceIte, qv_load, ld34, readN, AR, Nat.zero_add, Nat.reduceAdd, ht.blk.cell, hB1.cell]; rfl) ?_
        refine WL.qq (by simp only [EN, Nat.reduceEqDiff, reduceIte, qv_indexAddr, ht.blk.cell, hB1.cell]; (try simp (disch := omega) only [ix34, Int.toNat_natCast]); rfl) ?_
        refine WL.qq (by simp only [EN, Nat.reduceEqDiff, reduceIte, qv_fieldAddr, fa43_0, Nat.zero_add, Nat.reduceAdd, ht.blk.cell, hB1.cell]; rfl) ?_
        refine WL.qq (by simp only [EN, Nat.reduceEqDiff, reduceIte, e0, e1, ht.blk.cell, hB1.cell, qv_load, ld3, Int.toNat_zero, Nat.zero_mul, Nat.add_zero, hc0]; rfl) ?_
        refine WL.qq (by simp only [EN, Nat.reduceEqDiff, reduceIte, qv_assign, ht.blk.cell, hB1.cell]; rfl) ?_
        refine WL.nil ?_
        refine th_norm ?_
        refine hx_seq ?_
        apply hx_draw2 Rel.grows [] [14] [(14, Spec.own (Array.size h1) 43 2 ((K.drop l1).take (l2 + 1)).length (((K.drop l1).take (l2 + 1)).flatMap msgL))] rfl (by decide +kernel) rfl
        refine LD.qq rfl rfl (by simp only [EN, Nat.reduceEqDiff, reduceIte, qv_move, e0, ht.blk.cell, hB1.cell]; rfl) ?_
        refine LD.qq rfl rfl (by simp only [EN, Nat.reduceEqDiff, reduceIte, qv_nilCheck, ht.blk.cell, hB1.cell]; rfl) ?_
        refine LD.qq rfl rfl (by simp only [EN, Nat.reduceEqDiff, reduceIte, qv_fieldAddr, fa88_3, Nat.zero_add, Nat.reduceAdd, ht.blk.cell, hB1.cell]; rfl) ?_
        refine LD.qq rfl rfl (by simp only [EN, Nat.reduceEqDiff, reduceIte, qv_load, ld34, readN, AR, Nat.zero_add, Nat.reduceAdd, ht.blk.cell, hB1.cell]; rfl) ?_
        refine LD.qq rfl rfl (by simp only [EN, Nat.reduceEqDiff, reduceIte, qv_fieldAddr, fa70_0, Nat.zero_add, Nat.reduceAdd, ht.blk.cell, hB1.cell]; rfl) ?_
        refine LD.qq rfl rfl (by simp only [EN, Nat.reduceEqDiff, reduceIte, qv_load, ld3, readN, AR, Nat.zero_add, Nat.reduceAdd, ht.blk.cell, hB1.cell]; rfl) ?_
        refine LD.qq rfl rfl (by simp only [EN, Nat.reduceEqDiff, reduceIte, qv_move, ht.blk.cell, hB1.cell]; rfl) ?_
        refine LD.qq rfl rfl (by simp only [EN, Nat.reduceEqDiff, reduceIte, qv_binOp, binv_sub, ht.blk.cell, hB1.cell]; (try simp (disch := omega) only [w64, w8, wu64]); rfl) ?_
        refine LD.qq rfl rfl (by simp only [EN, Nat.reduceEqDiff, reduceIte, qv_fieldAddr, fa70_1, Nat.zero_add, Nat.reduceAdd, ht.blk.cell, hB1.cell]; rfl) ?_
        refine LD.qq rfl rfl (by simp only [EN, Nat.reduceEqDiff, reduceIte, qv_load, ld3, readN, AR, Nat.zero_add, Nat.reduceAdd, ht.blk.cell, hB1.cell]; rfl) ?_
        refine LD.qq rfl rfl (by simp only [EN, Nat.reduceEqDiff, reduceIte, qv_move, ht.blk.cell, hB1.cell]; rfl) ?_
        refine LD.qq rfl rfl (by simp only [EN, Nat.reduceEqDiff, reduceIte, qv_binOp, binv_sub, ht.blk.cell, hB1.cell]; (try simp (disch := omega) only [w64, w8, wu64]); rfl) ?_
        refine LD.qq rfl rfl (by simp only [EN, Nat.reduceEqDiff, reduceIte, qv_binOp, binv_add, ht.blk.cell, hB1.cell]; (try simp (disch := omega) only [w64, w8, wu64]); rfl) ?_
        refine LD.qq rfl rfl (by simp only [EN, Nat.reduceEqDiff, reduceIte, e0, e1, ht.blk.cell, hB1.cell, qv_slice, Option.map_some, Option.map_none]; exact hsl) ?_
        refine LD.es rfl rfl (by intro hD hr hf; have hx : Ext _ _ := hr; have ht := ht.ext hx; have hB1 := hB1.ext hx; exact EOp.mono (e_call Try.call39 (by simp only [EN, Nat.reduceEqDiff, reduceIte, e0, e1, ht.blk.cell, hB1.cell, List.map_toArray, List.map_cons, List.map_nil]; exact c_cloneM _ ((K.drop l1).take (l2 + 1)) _ (by simp; omega) (((ht.ko.rd.rd.drop l1 ht.ko.le).take (l2 + 1))))) (fun v h' hh => by obtain ⟨h1, h2⟩ := hh; exact ⟨h1, h2.slice, h2.base hx.size⟩)) ?_
        intro u8_14 w8_14
        obtain ⟨a5, c5, rfl⟩ := w8_14
        refine LD.qq rfl rfl (by simp only [EN, Nat.reduceEqDiff, reduceIte, qv_assign, ht.blk.cell, hB1.cell]; rfl) ?_
        refine LD.qq rfl rfl (by simp only [EN, Nat.reduceEqDiff, reduceIte, qv_assign, ht.blk.cell, hB1.cell]; rfl) ?_
        refine LD.nil ?_
        rintro h2 hx2 hF8
        replace hx2 : Ext _ _ := hx2
        replace ht := ht.ext hx2
        replace hB1 := hB1.ext hx2
        refine WL.nil ?_
        refine th_norm ?_
        refine hx_ret ?_
        refine fin_ret [.tmp 4, .tmp 5] rfl rfl (by simp only [EN, Nat.reduceEqDiff, reduceIte, resv, e0, e1, ht.blk.cell, hB1.cell]; rfl) ?_  -- ret 2 r8
        have ho5 := hF8 (14, .slice a5 ((K.drop l1).take (l2 + 1)).length c5) (by simp) _ rfl
        exact ⟨((hx1).trans (hx2)), a5, c5, rfl, SlR.own (f := msgL) (sz := 2) (fun _ => rfl) ho5 rfl⟩
end
end GL


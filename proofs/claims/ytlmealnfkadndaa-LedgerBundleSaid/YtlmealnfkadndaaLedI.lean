/- Ledger: few, made. -/
import Derived.Test.YtlmealnfkadndaaLedH
set_option linter.unusedSimpArgs false
set_option linter.unusedVariables false
set_option linter.unnecessarySimpa false
namespace GL
open Go Go.Proofs
set_option maxRecDepth 8000
theorem op_rd {h : Heap} {a : Option Addr} {L : List LOp} {i : Nat} {o : LOp} (hs : SlG 5 opL h a L) (hx : L[i]? = some o) :
    ∃ b off, a = some ⟨b, off, none⟩ ∧ GL.cell h b (off + i * 5) = some (.int .u8 o.k) ∧ GL.cell h b (off + i * 5 + 1) = some (.slice o.a o.L.length o.c) ∧
      GL.readN h b (off + i * 5 + 2) 2 = some [.int .u8 o.q.o, .int .u8 o.q.a] ∧ GL.cell h b (off + i * 5 + 4) = some (iV o.fl) := by
  obtain ⟨b, off, ha, hr⟩ := hs i o hx
  have h0 := readN_cell hr 0 _ rfl
  have h1 := readN_cell hr 1 _ rfl
  have h2 := readN_cell hr 2 _ rfl
  have h3 := readN_cell hr 3 _ rfl
  have h4 := readN_cell hr 4 _ rfl
  rw [Nat.add_zero] at h0
  refine ⟨b, off, ha, h0, h1, ?_, h4⟩
  have h3' : GL.cell h b (off + i * 5 + 2 + 1) = some (.int .u8 o.q.a) := h3
  simp only [GL.readN, h2, h3']
def fewB (l : List LOp) : Bool := l.all (fun o => decide (o.L.length ≤ 12)) && decide (l.length ≤ 12)
theorem c_few (al : Option Addr) (l : List LOp) (cl : Nat) (ll : l.length ≤ 9223372036854775807) {h : Heap} (hl : SlG 5 opL h al l) :
    HCalls Try.prog 11 #[.slice al l.length cl] h (Grow (.bool (fewB l)) h) := by
  refine hcalls2 Try.func11 rfl (by decide +kernel) (by simp only [Try.ntmps11]; exact of_decide_eq_true rfl) ?_
  intro e hin
  have e0 := hin 0 _ rfl
  refine hx_seq ?_
  refine hx_region ?_
  refine WL.qq (by simp only [EN, Nat.reduceEqDiff, reduceIte, qv_assign]; rfl) ?_
  refine WL.nil ?_
  refine th_norm ?_
  refine hx_seq ?_
  refine hx_seq ?_
  refine hx_region ?_
  refine WL.qq (by simp only [EN, Nat.reduceEqDiff, reduceIte, qv_assign]; rfl) ?_
  refine WL.nil ?_
  refine th_norm ?_
  refine hx_block ?_
  refine hx_loopS [2, 3, 4, 5, 6, 7, 8, 9, 10, 11, 12, 13, 14, 15, 16] (fun k e => ∃ (i : Nat), l.length - i = k ∧ (i ≤ l.length) ∧ (∀ o ∈ l.take i, o.L.length ≤ 12) ∧ e 3 = .int .i64 i) _ ⟨0, rfl, ?_, ?_, ?_⟩ ?_
  · omega
  · simp
  · simp only [EN, Nat.reduceEqDiff, reduceIte, e0] <;> rfl
  ·
    rintro k e0L hfr0 ⟨i, rfl, hi, ha, i3_0⟩
    have k0_0 := hfr0 0 rfl; try simp only [EN, Nat.reduceEqDiff, reduceIte, e0] at k0_0
    refine hx_seq ?_
    refine hx_seq ?_
    refine hx_region ?_
    refine WL.qq (by simp only [EN, Nat.reduceEqDiff, reduceIte, qv_move, i3_0]; rfl) ?_
    refine WL.qq (by simp only [EN, Nat.reduceEqDiff, reduceIte, qv_move, k0_0]; rfl) ?_
    refine WL.qq (by simp only [EN, Nat.reduceEqDiff, reduceIte, qv_len, ln22, AR]; rfl) ?_
    refine WL.qq (by simp only [EN, Nat.reduceEqDiff, reduceIte, qv_binOp, binv_lss]; rfl) ?_
    refine WL.nil ?_
    refine th_norm ?_
    refine hx_cond (by simp only [EN, Nat.reduceEqDiff, reduceIte, k0_0, i3_0]; rfl) (fun hct7 => ?_) (fun hct7 => ?_)
    ·
      try simp only [BD] at hct7
      obtain ⟨x, hx⟩ := atG (l := l) (i := i) (by omega)
      obtain ⟨b, off, rfl, hr0, hr1, hr2, hr4⟩ := op_rd hl hx
      refine hx_skip ?_
      refine th_norm ?_
      refine hx_seq ?_
      refine hx_block ?_
      refine hx_seq ?_
      refine hx_region ?_
      refine WL.qq (by simp only [EN, Nat.reduceEqDiff, reduceIte, qv_move, k0_0]; rfl) ?_
      refine WL.qq (by simp only [EN, Nat.reduceEqDiff, reduceIte, qv_move, i3_0]; rfl) ?_
      refine WL.qq (by simp only [EN, Nat.reduceEqDiff, reduceIte, qv_indexAddr]; (try simp (disch := omega) only [ix22, Int.toNat_natCast]); rfl) ?_
      refine WL.qq (by simp only [EN, Nat.reduceEqDiff, reduceIte, qv_fieldAddr, fa77_1, Nat.zero_add, Nat.reduceAdd]; rfl) ?_
      refine WL.qq (by simp only [EN, Nat.reduceEqDiff, reduceIte, k0_0, i3_0, qv_load, ld26, Int.toNat_natCast, hr1]; rfl) ?_
      refine WL.qq (by simp only [EN, Nat.reduceEqDiff, reduceIte, qv_len, ln26, AR]; rfl) ?_
      refine WL.qq (by simp only [EN, Nat.reduceEqDiff, reduceIte, qv_binOp, binv_gtr]; rfl) ?_
      refine WL.nil ?_
      refine th_norm ?_
      refine hx_cond (by simp only [EN, Nat.reduceEqDiff, reduceIte, k0_0, i3_0]; rfl) (fun hct16 => ?_) (fun hct16 => ?_)
      ·
        try simp only [BD] at hct16
        refine hx_seq ?_
        refine hx_region ?_
        refine WL.qq (by simp only [EN, Nat.reduceEqDiff, reduceIte, qv_assign]; rfl) ?_
        refine WL.nil ?_
        refine th_norm ?_
        refine hx_ret ?_
        refine bl_ret ?_
        refine th_ret ?_
        refine th_ret ?_
        refine bl_ret ?_
        refine th_ret ?_
        refine fin_ret [.tmp 2] rfl rfl (by simp only [EN, Nat.reduceEqDiff, reduceIte, resv, k0_0, i3_0]; rfl) ?_  -- ret 0 r5
        exact ⟨by unfold fewB; rw [show (l.all fun o => decide (o.L.length ≤ 12)) = false by rw [List.all_eq_false]; exact ⟨x, List.mem_of_getElem? hx, by simp; omega⟩]; rfl, (Ext.refl _)⟩
      ·
        try simp only [BD] at hct16
        refine hx_skip ?_
        refine bl_norm ?_
        refine th_norm ?_
        refine hx_region ?_
        refine WL.qq (by simp only [EN, Nat.reduceEqDiff, reduceIte, qv_move, i3_0]; rfl) ?_
        refine WL.qq (by simp only [EN, Nat.reduceEqDiff, reduceIte, qv_binOp, binv_add]; (try simp (disch := omega) only [w64, w8, wu64]); rfl) ?_
        refine WL.qq (by simp only [EN, Nat.reduceEqDiff, reduceIte, qv_assign]; rfl) ?_
        refine WL.nil ?_
        refine th_norm ?_
        refine ⟨rfl, rfl, ?_, _, ?_, i + 1, rfl, ?_, ?_, ?_⟩  -- again 0 of loop 0
        · (repeat (first | exact Fr.refl _ _ | refine Fr.set rfl ?_ | refine Fr.put rfl ?_ | refine Fr.put0 ?_))
        · omega
        · omega
        · intro o ho; rw [List.take_add_one, hx] at ho; rcases List.mem_append.1 ho with ho | ho; (exact ha o ho); (simp at ho; subst ho; omega)
        · simp only [EN, Nat.reduceEqDiff, reduceIte, k0_0, i3_0] <;> first | rfl | (congr 1; omega)
    ·
      try simp only [BD] at hct7
      refine hx_exit ?_
      refine th_exit ?_
      refine th_exit ?_
      refine bl_hit ?_
      refine th_norm ?_
      refine hx_seq ?_
      refine hx_region ?_
      refine WL.qq (by simp only [EN, Nat.reduceEqDiff, reduceIte, qv_move, k0_0]; rfl) ?_
      refine WL.qq (by simp only [EN, Nat.reduceEqDiff, reduceIte, qv_len, ln22, AR]; rfl) ?_
      refine WL.qq (by simp only [EN, Nat.reduceEqDiff, reduceIte, qv_binOp, binv_leq]; rfl) ?_
      refine WL.qq (by simp only [EN, Nat.reduceEqDiff, reduceIte, qv_assign]; rfl) ?_
      refine WL.nil ?_
      refine th_norm ?_
      refine hx_ret ?_
      refine fin_ret [.tmp 2] rfl rfl (by simp only [EN, Nat.reduceEqDiff, reduceIte, resv, k0_0, i3_0]; rfl) ?_  -- ret 1 r6
      exact ⟨by unfold fewB; rw [show (l.all fun o => decide (o.L.length ≤ 12)) = true by rw [List.all_eq_true]; intro o ho; exact decide_eq_true (ha o (by rw [List.take_of_length_le (by omega)]; exact ho))]; simp [retOf]; omega, (Ext.refl _)⟩
section
variable {h h' : Heap} {p bm fm : Nat} {vo : Value} {ks fs : List E2} {os : List K2} {sq : Int}
theorem BkO.offC {d : Nat} {c : Array Value} {t : TypeId} (hb : BkO h p bm fm vo ks os fs sq) (hd : Has h d (.cells c t)) (h1 : t ≠ 83) (h2 : t ≠ 34) : d ∉ foot p bm vo := by
  intro hh
  simp only [foot, List.mem_cons, Option.mem_toList] at hh
  rcases hh with hh | hh | hh
  · exact hd.ncell hb.blk h1 hh
  · exact hd.nmap hb.bal hh
  · exact hb.ord.ncell hd h2 hh
theorem IsRef.gsP {w vk vf : Value} {ks' gs' : List E2} {sq' : Int} (hr : IsRef h w ks' gs' sq' vk vf) (hb : BkO h p bm fm vo ks os fs sq) (hg : Gs h h' (foot p bm vo)) : IsRef h' w ks' gs' sq' vk vf :=
  ⟨hr.val, hr.ks.gs hg (hr.ks.off hb (by decide) (by decide)), hr.fs.gs hg (hr.fs.off hb (by decide) (by decide))⟩
theorem IsRef.gsF {w vk vf : Value} {ks' gs' : List E2} {sq' : Int} (hr : IsRef h w ks' gs' sq' vk vf) (hb : BkO h p bm fm vo ks os fs sq) (hg : Gs h h' [fm]) : IsRef h' w ks' gs' sq' vk vf :=
  ⟨hr.val, hr.ks.gs hg (fun c hc hh => by simp at hh; subst hh; exact hr.ks.nmap hb.flo hc), hr.fs.gs hg (fun c hc hh => by simp at hh; subst hh; exact hr.fs.nmap hb.flo hc)⟩
end
/-- What a call of the reference gives that hands back a book and an error. -/
def Spec.rf (ks fs : List E2) (sq r : Int) : Spec := ⟨fun v => ∃ w, v = .tuple #[w, iV r], fun v h => ∀ w, v = .tuple #[w, iV r] → ∃ vk vf, IsRef h w ks fs sq vk vf, ⟨.tuple #[undef, iV r], _, rfl⟩,
  fun v h h' hx hm w hw => by obtain ⟨vk, vf, hr⟩ := hm w hw; exact ⟨vk, vf, hr.ext hx⟩⟩
theorem setE_or (bal fl : Int) : setE bal fl = 0 ∨ setE bal fl = 2 ∨ setE bal fl = 13 := by
  unfold setE
  split
  · exact .inr (.inl rfl)
  · split
    · exact .inr (.inr rfl)
    · exact .inl rfl
theorem stp_post {s : BS} {o : LOp} {r : Int} (hk : o.k.tmod 2 = 0) (hr : chkE (lk s.ks) (lk s.fs) o.L = r) : stp s o = ⟨if r = 0 then putL s.ks o.L else s.ks, s.gs, s.fs, if r = 0 then s.sq + 1 else s.sq⟩ := by
  unfold stp
  rw [if_pos hk, hr]
  by_cases h : r = 0
  · simp only [if_pos h]
  · simp only [if_neg h]
theorem stp_set {s : BS} {o : LOp} {r : Int} (hk : o.k.tmod 2 ≠ 0) (hr : setE (lk s.ks o.q) o.fl = r) : stp s o = ⟨s.ks, if r = 0 then refF s.gs o.q o.fl else s.gs, if r = 0 then mset s.fs o.q o.fl else s.fs, s.sq⟩ := by
  unfold stp
  rw [if_neg hk, hr]
  by_cases h : r = 0
  · simp only [if_pos h]
  · simp only [if_neg h]
structure Fresh (n p bm fm : Nat) (vo : Value) : Prop where
  p : n ≤ p
  b : n ≤ bm
  f : n ≤ fm
  o : ∀ c, vo.ownBlock = some c → n ≤ c
theorem Fresh.foot {n p bm fm : Nat} {vo : Value} (hf : Fresh n p bm fm vo) : ∀ x ∈ GL.foot p bm vo, n ≤ x := by
  intro x hx
  simp only [GL.foot, List.mem_cons, Option.mem_toList] at hx
  rcases hx with rfl | rfl | hx
  · exact hf.p
  · exact hf.b
  · exact hf.o x hx
set_option maxHeartbeats 1000000 in
theorem c_made (al : Option Addr) (l : List LOp) (cl : Nat) (ok : OkO l) {h : Heap} (hl : SlO h al l) :
    HCalls Try.prog 13 #[.slice al l.length cl] h fun v h' => Ext h h' ∧ ∃ p bm fm vo w vk vf, v = .tuple #[.pointer (some ⟨p, 0, none⟩), w] ∧ IsBk h' p bm fm vo (runB l).ks (runB l).fs (runB l).sq ∧
      IsRef h' w (runB l).ks (runB l).gs (runB l).sq vk vf ∧ Fresh h.size p bm fm vo := by
  refine hcalls2 Try.func13 rfl (by decide +kernel) (by simp only [Try.ntmps13]; exact of_decide_eq_true rfl) ?_
  intro e hin
  have e0 := hin 0 _ rfl
  have hE : Ext h h := Ext.refl h
  have kl := hl
  refine hx_seq ?_
  refine hx_region ?_
  refine WL.qq (by simp only [EN, Nat.reduceEqDiff, reduceIte, qv_assign]; rfl) ?_
  refine WL.alloc2 zr29 ?_
  intro h1 B1 hx1 hlt1 hB1
  have hb0_1 := Nat.le_trans hE.size hlt1
  have hl_s1 := hl
  replace hE := hE.trans hx1
  replace hl := hl.ext hx1
  have hEo1 := hx1
  simp only [Value.cells] at hB1
  refine WL.nil ?_
  refine th_norm ?_
  refine hx_seq ?_
  refine hx_region ?_
  refine WL.ce Try.call39 (by simp only [EN, Nat.reduceEqDiff, reduceIte, AR, hB1.cell]; exact c_new _) ?_
  rintro _ h2 ⟨hx2, p, bm, fm, rfl, hbk, hp, hbm, hfm⟩
  replace hE := hE.trans hx2
  replace hEo1 := hEo1.trans hx2
  replace hl := hl.ext hx2
  replace hB1 := hB1.ext hx2
  simp only [put_some]
  refine WL.qq (by simp only [EN, Nat.reduceEqDiff, reduceIte, qv_move, hB1.cell]; rfl) ?_
  refine WL.qq (by simp only [EN, Nat.reduceEqDiff, reduceIte, qv_extract, AR, hB1.cell]; rfl) ?_
  refine WL.qq (by simp only [EN, Nat.reduceEqDiff, reduceIte, qv_extract, AR, hB1.cell]; rfl) ?_
  refine WL.qq (by simp only [EN, Nat.reduceEqDiff, reduceIte, qv_assign, hB1.cell]; rfl) ?_
  refine WL.qq (by simp only [EN, Nat.reduceEqDiff, reduceIte, qv_assign, hB1.cell]; rfl) ?_
  refine WL.nil ?_
  refine th_norm ?_
  refine hx_seq ?_
  refine hx_region ?_
  refine WL.qq (by refine qv_bld (by simp only [EN, Nat.reduceEqDiff, reduceIte, AR, hB1.cell] <;> rfl) (by rw [bl29]; simp [Instr.fill, Value.cells]; rfl)) ?_
  refine WL.allocSt zr29 sz29 (fun u => by simp only [EN, Nat.reduceEqDiff, reduceIte, Value.cells, hB1.cell]; rfl) ⟨rfl, rfl⟩ (by simp [Value.oneCell']) ?_
  intro h3 B3 hx3 hlt3 hB3
  have hne1_3 : B3 ≠ B1 := by have := (Array.getElem?_eq_some_iff.1 hB1).1; omega
  have hb0_3 := Nat.le_trans hE.size hlt3
  have hbo1_3 := Nat.le_trans hEo1.size hlt3
  have hl_s3 := hl
  have hB1_s3 := hB1
  have hbk_s3 := hbk
  replace hE := hE.trans hx3
  replace hEo1 := hEo1.trans hx3
  replace hl := hl.ext hx3
  replace hB1 := hB1.ext hx3
  replace hbk := hbk.ext hx3
  have hEo3 := hx3
  refine WL.nil ?_
  refine th_norm ?_
  refine hx_seq ?_
  refine hx_seq ?_
  refine hx_region ?_
  refine WL.qq (by simp only [EN, Nat.reduceEqDiff, reduceIte, qv_move, hB1.cell, hB3.cell]; rfl) ?_
  refine WL.qq (by simp only [EN, Nat.reduceEqDiff, reduceIte, qv_binOp, binv_eql, eqz25, eqn25, eqm25, Option.map_some, hB1.cell, hB3.cell]; rfl) ?_
  refine WL.qq (by simp only [EN, Nat.reduceEqDiff, reduceIte, qv_move, hB1.cell, hB3.cell]; rfl) ?_
  refine WL.cq (gd_at (t := 17) rfl (by simp only [EN, Nat.reduceEqDiff, reduceIte, hB1.cell, hB3.cell] <;> rfl)) (fun hg3_3 => by simp only [EN, Nat.reduceEqDiff, reduceIte, qv_move, hB1.cell, hB3.cell, hg3_3, GR]; rfl) ?_
  refine WL.cq (gd_at (t := 17) rfl (by simp only [EN, Nat.reduceEqDiff, reduceIte, hB1.cell, hB3.cell] <;> rfl)) (fun hg3_4 => by simp only [EN, Nat.reduceEqDiff, reduceIte, qv_binOp, binv_neq, eq45, Option.map_some, hB1.cell, hB3.cell, hg3_4, GR]; rfl) ?_
  refine WL.qq (by simp only [EN, Nat.reduceEqDiff, reduceIte, qv_pick, pk_and, pk_or, GR, hB1.cell, hB3.cell]; rfl) ?_
  refine WL.nil ?_
  refine th_norm ?_
  refine hx_cond (by simp only [EN, Nat.reduceEqDiff, reduceIte, e0, hB1.cell, hB3.cell]; rfl) (fun hct20 => ?_) (fun hct20 => ?_)
  ·
    simp at hct20
  ·
    try simp only [BD] at hct20
    refine hx_skip ?_
    refine th_norm ?_
    refine hx_seq ?_
    refine hx_seq ?_
    refine hx_region ?_
    refine WL.qq (by simp only [EN, Nat.reduceEqDiff, reduceIte, qv_assign, hB1.cell, hB3.cell]; rfl) ?_
    refine WL.nil ?_
    refine th_norm ?_
    refine hx_block ?_
    refine hx_loopG [2, 7, 8, 9, 22, 23, 24, 25, 26, 27, 28, 29, 30, 31, 32, 33, 34, 35, 36, 37, 38, 39, 40, 41, 42, 43, 44, 45, 46, 47, 48, 49, 50, 51, 52, 53, 54, 55, 56, 57, 58, 59, 60, 61, 62, 63, 64, 65, 66, 67, 68, 69, 70, 71, 72, 73, 74, 75, 76, 77, 78, 79, 80, 81, 82, 83] (fun k e hL0 => ∃ (i : Nat) (vo : Value) (vk : Value) (vf : Value) (s : BS), l.length - i = k ∧ (i ≤ l.length) ∧ (runB (l.take i) = s) ∧ (Ext h hL0) ∧ (Has hL0 B1 (.cells #[.slice none 0 0, .slice none 0 0, .int .i64 0] 29)) ∧ (Has hL0 B3 (.cells #[vk, vf, iV s.sq] 29)) ∧ (IsBk hL0 p bm fm vo s.ks s.fs s.sq) ∧ (IsRef hL0 (.agg #[vk, vf, iV s.sq]) s.ks s.gs s.sq vk vf) ∧ (Fresh h.size p bm fm vo) ∧ e 7 = .int .i64 i) _ ⟨0, .slice none 0 0, .slice none 0 0, .slice none 0 0, ⟨[], [], [], 0⟩, rfl, ?_, ?_, ?_, ?_, ?_, ?_, ?_, ?_, ?_⟩ ?_
    · omega
    · rfl
    · exact hE
    · exact hB1
    · exact hB3
    · exact hbk
    · exact ⟨rfl, Own.nil, Own.nil⟩
    · exact ⟨Nat.le_trans hx1.size hp, Nat.le_trans hx1.size hbm, Nat.le_trans hx1.size hfm, fun c hc => by cases hc⟩
    · simp only [EN, Nat.reduceEqDiff, reduceIte, e0, hB1.cell, hB3.cell] <;> rfl
    ·
      rintro k e0L hL0 hfr0 ⟨i, vo, vk, vf, s, rfl, hi, hs, hE, hB1, hB3, hbk, hrk, hfr, i7_0⟩
      have k0_0 := hfr0 0 rfl; try simp only [EN, Nat.reduceEqDiff, reduceIte, e0, hB1.cell, hB3.cell] at k0_0
      have k3_0 := hfr0 3 rfl; try simp only [EN, Nat.reduceEqDiff, reduceIte, e0, hB1.cell, hB3.cell] at k3_0
      have k4_0 := hfr0 4 rfl; try simp only [EN, Nat.reduceEqDiff, reduceIte, e0, hB1.cell, hB3.cell] at k4_0
      have k6_0 := hfr0 6 rfl; try simp only [EN, Nat.reduceEqDiff, reduceIte, e0, hB1.cell, hB3.cell] at k6_0
      have hl := kl.ext hE
      have hg : GoodB s i := hs ▸ good_run ok i hi
      refine hx_seq ?_
      refine hx_seq ?_
      refine hx_region ?_
      refine WL.qq (by simp only [EN, Nat.reduceEqDiff, reduceIte, qv_move, i7_0, hB1.cell, hB3.cell, hB1.cell, hB3.cell]; rfl) ?_
      refine WL.qq (by simp only [EN, Nat.reduceEqDiff, reduceIte, qv_move, k0_0, hB1.cell, hB3.cell, hB1.cell, hB3.cell]; rfl) ?_
      refine WL.qq (by simp only [EN, Nat.reduceEqDiff, reduceIte, qv_len, ln22, AR, hB1.cell, hB3.cell, hB1.cell, hB3.cell]; rfl) ?_
      refine WL.qq (by simp only [EN, Nat.reduceEqDiff, reduceIte, qv_binOp, binv_lss, hB1.cell, hB3.cell, hB1.cell, hB3.cell]; rfl) ?_
      refine WL.nil ?_
      refine th_norm ?_
      refine hx_cond (by simp only [EN, Nat.reduceEqDiff, reduceIte, k0_0, k3_0, k4_0, k6_0, i7_0, hB1.cell, hB3.cell, hB1.cell, hB3.cell]; rfl) (fun hct25 => ?_) (fun hct25 => ?_)
      ·
        try simp only [BD] at hct25
        obtain ⟨o, ho⟩ := atG (l := l) (i := i) (by omega)
        have hom := List.mem_of_getElem? ho; have hofew := ok.few o hom; have horng := ok.rng o hom; have hgl := hg.lk_; have hgs := hg.sq_; have hgg := hg.lg; have hlen := ok.len
        obtain ⟨b, off, rfl, hr0, hr1, hr2, hr4⟩ := op_rd hl.ops ho
        refine hx_skip ?_
        refine th_norm ?_
        refine hx_seq ?_
        refine hx_block ?_
        refine hx_seq ?_
        refine hx_region ?_
        refine WL.qq (by simp only [EN, Nat.reduceEqDiff, reduceIte, qv_assign, hB1.cell, hB3.cell, hB1.cell, hB3.cell]; rfl) ?_
        refine WL.qq (by simp only [EN, Nat.reduceEqDiff, reduceIte, qv_assign, hB1.cell, hB3.cell, hB1.cell, hB3.cell]; rfl) ?_
        refine WL.nil ?_
        refine th_norm ?_
        refine hx_cutG [8, 9, 28, 29, 30, 31, 32, 33, 34, 35, 36, 37, 38, 39, 40, 41, 42, 43, 44, 45, 46, 47, 48, 49, 50, 51, 52, 53, 54, 55, 56, 57, 58, 59, 60, 61, 62, 63, 64, 65, 66, 67, 68, 69, 70, 71, 72, 73, 74, 75, 76, 77, 78, 79] (fun e hC9 => ∃ (r2 : Int) (vo2 : Value) (vk2 : Value) (vf2 : Value) (s2 : BS), (stp s o = s2) ∧ (Ext h hC9) ∧ (Has hC9 B1 (.cells #[.slice none 0 0, .slice none 0 0, .int .i64 0] 29)) ∧ (Has hC9 B3 (.cells #[vk2, vf2, iV s2.sq] 29)) ∧ (IsBk hC9 p bm fm vo2 s2.ks s2.fs s2.sq) ∧ (IsRef hC9 (.agg #[vk2, vf2, iV s2.sq]) s2.ks s2.gs s2.sq vk2 vf2) ∧ (Fresh h.size p bm fm vo2) ∧ e 8 = .int .i64 r2 ∧ e 9 = .int .i64 r2) ?_ ?_
        ·
          refine hx_seq ?_
          refine hx_region ?_
          refine WL.qq (by simp only [EN, Nat.reduceEqDiff, reduceIte, qv_move, k0_0, hB1.cell, hB3.cell, hB1.cell, hB3.cell]; rfl) ?_
          refine WL.qq (by simp only [EN, Nat.reduceEqDiff, reduceIte, qv_move, i7_0, hB1.cell, hB3.cell, hB1.cell, hB3.cell]; rfl) ?_
          refine WL.qq (by simp only [EN, Nat.reduceEqDiff, reduceIte, qv_indexAddr, hB1.cell, hB3.cell, hB1.cell, hB3.cell]; (try simp (disch := omega) only [ix22, Int.toNat_natCast]); rfl) ?_
          refine WL.qq (by simp only [EN, Nat.reduceEqDiff, reduceIte, qv_fieldAddr, fa77_0, Nat.zero_add, Nat.reduceAdd, hB1.cell, hB3.cell, hB1.cell, hB3.cell]; rfl) ?_
          refine WL.qq (by simp only [EN, Nat.reduceEqDiff, reduceIte, k0_0, k3_0, k4_0, k6_0, i7_0, hB1.cell, hB3.cell, hB1.cell, hB3.cell, qv_load, ld5, Int.toNat_natCast, hr0]; rfl) ?_
          refine WL.qq (by simp only [EN, Nat.reduceEqDiff, reduceIte, qv_binOp, hB1.cell, hB3.cell, hB1.cell, hB3.cell]; (try simp (disch := omega) only [binv_rem, w64, w8, wu64]); rfl) ?_
          refine WL.qq (by simp only [EN, Nat.reduceEqDiff, reduceIte, qv_binOp, binv_eql, eq5, Option.map_some, hB1.cell, hB3.cell, hB1.cell, hB3.cell]; rfl) ?_
          refine WL.nil ?_
          refine th_norm ?_
          refine hx_cond (by simp only [EN, Nat.reduceEqDiff, reduceIte, k0_0, k3_0, k4_0, k6_0, i7_0, hB1.cell, hB3.cell, hB1.cell, hB3.cell]; rfl) (fun hct34 => ?_) (fun hct34 => ?_)
          ·
            try simp only [BD] at hct34
            obtain ⟨r, hck⟩ : ∃ r, chkE (lk s.ks) (lk s.fs) o.L = r := ⟨_, rfl⟩
            have hst := stp_post hct34 hck
            refine hx_seq ?_
            refine hx_region ?_
            refine WL.qq (by simp only [EN, Nat.reduceEqDiff, reduceIte, qv_move, k4_0, hB1.cell, hB3.cell, hB1.cell, hB3.cell]; rfl) ?_
            refine WL.qq (by simp only [EN, Nat.reduceEqDiff, reduceIte, qv_move, k0_0, hB1.cell, hB3.cell, hB1.cell, hB3.cell]; rfl) ?_
            refine WL.qq (by simp only [EN, Nat.reduceEqDiff, reduceIte, qv_move, i7_0, hB1.cell, hB3.cell, hB1.cell, hB3.cell]; rfl) ?_
            refine WL.qq (by simp only [EN, Nat.reduceEqDiff, reduceIte, qv_indexAddr, hB1.cell, hB3.cell, hB1.cell, hB3.cell]; (try simp (disch := omega) only [ix22, Int.toNat_natCast]); rfl) ?_
            refine WL.qq (by simp only [EN, Nat.reduceEqDiff, reduceIte, qv_fieldAddr, fa77_1, Nat.zero_add, Nat.reduceAdd, hB1.cell, hB3.cell, hB1.cell, hB3.cell]; rfl) ?_
            refine WL.qq (by simp only [EN, Nat.reduceEqDiff, reduceIte, k0_0, k3_0, k4_0, k6_0, i7_0, hB1.cell, hB3.cell, hB1.cell, hB3.cell, qv_load, ld26, Int.toNat_natCast, hr1]; rfl) ?_
            refine WL.ce Try.call19 (by simp only [EN, Nat.reduceEqDiff, reduceIte, AR, hB1.cell, hB3.cell, hB1.cell, hB3.cell]; exact c_entries o.a o.L o.c (by omega) (hl.ins o hom)) ?_
            rintro ve h60 ⟨hx60, hoe⟩
            simp only [put_some]
            obtain ⟨ae, ce, rfl, _, hse, _⟩ := Own.slG (f := entL) (sz := 3) (fun _ => rfl) hoe rfl
            replace hE := hE.trans hx60
            replace hB1 := hB1.ext hx60
            replace hB3 := hB3.ext hx60
            replace hbk := hbk.ext hx60
            replace hrk := hrk.ext hx60
            have hE60 := hE
            refine WL.ce Try.call18 (by simp only [EN, Nat.reduceEqDiff, reduceIte, AR, hB1.cell, hB3.cell, hB1.cell, hB3.cell]; exact c_post ae o.L ce (by omega) (by omega) (by omega) hg.val horng hbk (hoe.base (Nat.zero_le _)) hck) ?_
            rintro _ h70 ⟨rfl, hgs70, hno, hyes⟩
            simp only [put_some]
            replace hE := hgs70.toExt hE hfr.foot
            have nB1 := hbk.offC hB1 (by decide) (by decide)
            have nB3 := hbk.offC hB3 (by decide) (by decide)
            replace hB1 := hB1.gs hgs70 nB1
            replace hB3 := hB3.gs hgs70 nB3
            replace hrk := hrk.gsP hbk hgs70
            have hs60 := hx60.size
            obtain ⟨vo3, hbk, hvo3⟩ : ∃ vo3, IsBk h70 p bm fm vo3 (if r = 0 then putL s.ks o.L else s.ks) s.fs (if r = 0 then s.sq + 1 else s.sq) ∧ ∀ c, vo3.ownBlock = some c → h.size ≤ c := (by by_cases h0 : r = 0; (obtain ⟨vo3, h1, h2⟩ := hyes h0; exact ⟨vo3, by rw [if_pos h0, if_pos h0]; exact h1, fun c hc => (h2 c hc).elim (fun h3 => hfr.o c h3) (fun h3 => Nat.le_trans hE60.size h3)⟩); exact ⟨vo, by rw [if_neg h0, if_neg h0]; exact hbk.ext (hno h0), hfr.o⟩)
            replace hl := kl.ext hE
            obtain ⟨b', off', hbo, hr0, hr1, hr2, hr4⟩ := op_rd hl.ops ho
            cases hbo
            refine WL.qq (by simp only [EN, Nat.reduceEqDiff, reduceIte, qv_assign, hB1.cell, hB3.cell, hB1.cell, hB3.cell]; rfl) ?_
            refine WL.nil ?_
            refine th_norm ?_
            apply hx_draw2 Rel.grows [10, 11] [6] [(6, Spec.rf (if r = 0 then putL s.ks o.L else s.ks) s.gs (if r = 0 then s.sq + 1 else s.sq) r)] rfl (by decide +kernel) rfl
            have hF0 := hE
            refine LD.qq rfl rfl (by simp only [EN, Nat.reduceEqDiff, reduceIte, qv_load, ld29, readN, AR, Nat.zero_add, Nat.reduceAdd, k6_0, hB1.cell, hB3.cell, hB1.cell, hB3.cell]; rfl) ?_
            refine LD.qq rfl rfl (by simp only [EN, Nat.reduceEqDiff, reduceIte, qv_move, k0_0, hB1.cell, hB3.cell, hB1.cell, hB3.cell]; rfl) ?_
            refine LD.qq rfl rfl (by simp only [EN, Nat.reduceEqDiff, reduceIte, qv_move, i7_0, hB1.cell, hB3.cell, hB1.cell, hB3.cell]; rfl) ?_
            refine LD.qq rfl rfl (by simp only [EN, Nat.reduceEqDiff, reduceIte, qv_indexAddr, hB1.cell, hB3.cell, hB1.cell, hB3.cell]; (try simp (disch := omega) only [ix22, Int.toNat_natCast]); rfl) ?_
            refine LD.qq rfl rfl (by simp only [EN, Nat.reduceEqDiff, reduceIte, qv_fieldAddr, fa77_1, Nat.zero_add, Nat.reduceAdd, hB1.cell, hB3.cell, hB1.cell, hB3.cell]; rfl) ?_
            refine LD.qq rfl rfl (by simp only [EN, Nat.reduceEqDiff, reduceIte, k0_0, k3_0, k4_0, k6_0, i7_0, hB1.cell, hB3.cell, hB1.cell, hB3.cell, qv_load, ld26, Int.toNat_natCast, hr1]; rfl) ?_
            refine LD.es rfl rfl (by intro hD hr hf; have hx : Ext _ _ := hr; have hB1 := hB1.ext hx; have hB3 := hB3.ext hx; have hbk := hbk.ext hx; have hrk := hrk.ext hx; exact EOp.mono (e_call Try.call28 (by simp only [EN, Nat.reduceEqDiff, reduceIte, k0_0, k3_0, k4_0, k6_0, i7_0, hB1.cell, hB3.cell, hB1.cell, hB3.cell, List.map_toArray, List.map_cons, List.map_nil]; exact c_rpost o.a o.L o.c (by omega) (by omega) (by omega) (by omega) hg.val hg.nd hrk ((hl.ins o hom).ext hx) ((chkE_congr (fun _ => rfl) (fun q => (hg.same q).symm) _).trans hck))) (fun u h' hh => by obtain ⟨h1, w, vk', vf', rfl, h2⟩ := hh; exact ⟨h1, ⟨w, rfl⟩, fun w' hw => by cases hw; exact ⟨vk', vf', h2⟩⟩)) ?_
            intro u11_6 w11_6
            obtain ⟨w11, rfl⟩ := w11_6
            refine LD.qq rfl rfl (by simp only [EN, Nat.reduceEqDiff, reduceIte, qv_move, hB1.cell, hB3.cell, hB1.cell, hB3.cell]; rfl) ?_
            refine LD.qq rfl rfl (by simp only [EN, Nat.reduceEqDiff, reduceIte, qv_extract, AR, hB1.cell, hB3.cell, hB1.cell, hB3.cell]; rfl) ?_
            refine LD.qq rfl rfl (by simp only [EN, Nat.reduceEqDiff, reduceIte, qv_extract, AR, hB1.cell, hB3.cell, hB1.cell, hB3.cell]; rfl) ?_
            refine LD.skip rfl ?_
            refine LD.skip rfl ?_
            refine LD.nil ?_
            rintro h4 hx4 hF11
            replace hx4 : Ext _ _ := hx4
            replace hE := hE.trans hx4
            replace hB1 := hB1.ext hx4
            replace hB3 := hB3.ext hx4
            replace hbk := hbk.ext hx4
            replace hrk := hrk.ext hx4
            obtain ⟨vk3, vf3, hrk3⟩ := hF11 (6, .tuple #[w11, iV r]) (by simp) _ rfl w11 rfl
            obtain rfl := hrk3.val
            refine WL.store (by simp only [EN, Nat.reduceEqDiff, reduceIte, k0_0, k3_0, k4_0, k6_0, i7_0, hB1.cell, hB3.cell, hB1.cell, hB3.cell] <;> rfl) sz29 (by simp only [EN, Nat.reduceEqDiff, reduceIte, k0_0, k3_0, k4_0, k6_0, i7_0, hB1.cell, hB3.cell, hB1.cell, hB3.cell, Value.cells]; rfl) rfl hB3 (by simp) (by have h8 := hrk3.ks.one; have h9 := hrk3.fs.one; intro u hu; simp at hu; rcases hu with rfl | rfl | rfl <;> first | exact h8 | exact h9 | rfl) ?_
            intro h80 hw80
            replace hE := hw80.ext hE hb0_3
            replace hB1 := hB1.wr hw80 hne1_3.symm
            replace hbk := hbk.st (.inr ⟨_, hw80⟩) hB3 (by decide) (by decide)
            have hrk4 : IsRef h80 (.agg #[vk3, vf3, iV (if r = 0 then s.sq + 1 else s.sq)]) _ _ _ vk3 vf3 := ⟨rfl, hrk3.ks.keep (fun c hc => hw80.same c fun hh => by subst hh; exact hrk3.ks.ncell hB3 (by decide) hc), hrk3.fs.keep (fun c hc => hw80.same c fun hh => by subst hh; exact hrk3.fs.ncell hB3 (by decide) hc)⟩
            replace hB3 := hw80.at_
            refine WL.qq (by simp only [EN, Nat.reduceEqDiff, reduceIte, qv_assign, hB1.cell, hB3.cell, hB1.cell, hB3.cell]; rfl) ?_
            refine WL.nil ?_
            refine th_norm ?_
            refine ⟨rfl, ?_, r, vo3, vk3, vf3, ⟨if r = 0 then putL s.ks o.L else s.ks, s.gs, s.fs, if r = 0 then s.sq + 1 else s.sq⟩, ?_, ?_, ?_, ?_, ?_, ?_, ?_, ?_, ?_⟩  -- meet 0 of cut 9
            · (repeat (first | exact Fr.refl _ _ | refine Fr.set rfl ?_ | refine Fr.put rfl ?_ | refine Fr.put0 ?_ | refine Fr.trans ?_ (Fr.of hfr0 rfl) | refine Fr.trans ?_ (Fr.of hfc9 rfl)))
            · exact hst
            · exact hE
            · exact hB1
            · exact hB3
            · exact hbk
            · exact hrk4
            · exact ⟨hfr.p, hfr.b, hfr.f, hvo3⟩
            · simp only [EN, Nat.reduceEqDiff, reduceIte, k0_0, k3_0, k4_0, k6_0, i7_0, hB1.cell, hB3.cell, hB1.cell, hB3.cell] <;> first | rfl | (congr 1; omega)
            · simp only [EN, Nat.reduceEqDiff, reduceIte, k0_0, k3_0, k4_0, k6_0, i7_0, hB1.cell, hB3.cell, hB1.cell, hB3.cell] <;> first | rfl | (congr 1; omega)
          ·
            try simp only [BD] at hct34
            obtain ⟨r, hck⟩ : ∃ r, setE (lk s.ks o.q) o.fl = r := ⟨_, rfl⟩
            have hst := stp_set hct34 hck
            refine hx_seq ?_
            apply hx_draw2 Rel.same [11, 12] [] [] rfl (by decide +kernel) rfl
            refine LD.qq rfl rfl (by simp only [EN, Nat.reduceEqDiff, reduceIte, qv_move, k4_0, hB1.cell, hB3.cell, hB1.cell, hB3.cell]; rfl) ?_
            refine LD.qq rfl rfl (by simp only [EN, Nat.reduceEqDiff, reduceIte, qv_move, k0_0, hB1.cell, hB3.cell, hB1.cell, hB3.cell]; rfl) ?_
            refine LD.qq rfl rfl (by simp only [EN, Nat.reduceEqDiff, reduceIte, qv_move, i7_0, hB1.cell, hB3.cell, hB1.cell, hB3.cell]; rfl) ?_
            refine LD.qq rfl rfl (by simp only [EN, Nat.reduceEqDiff, reduceIte, qv_indexAddr, hB1.cell, hB3.cell, hB1.cell, hB3.cell]; (try simp (disch := omega) only [ix22, Int.toNat_natCast]); rfl) ?_
            refine LD.qq rfl rfl (by simp only [EN, Nat.reduceEqDiff, reduceIte, qv_fieldAddr, fa77_2, Nat.zero_add, Nat.reduceAdd, hB1.cell, hB3.cell, hB1.cell, hB3.cell]; rfl) ?_
            refine LD.qq rfl rfl (by simp only [EN, Nat.reduceEqDiff, reduceIte, k0_0, k3_0, k4_0, k6_0, i7_0, hB1.cell, hB3.cell, hB1.cell, hB3.cell, qv_load, ld34, Int.toNat_natCast, hr2]; rfl) ?_
            refine LD.qq rfl rfl (by simp only [EN, Nat.reduceEqDiff, reduceIte, qv_move, k0_0, hB1.cell, hB3.cell, hB1.cell, hB3.cell]; rfl) ?_
            refine LD.qq rfl rfl (by simp only [EN, Nat.reduceEqDiff, reduceIte, qv_move, i7_0, hB1.cell, hB3.cell, hB1.cell, hB3.cell]; rfl) ?_
            refine LD.qq rfl rfl (by simp only [EN, Nat.reduceEqDiff, reduceIte, qv_indexAddr, hB1.cell, hB3.cell, hB1.cell, hB3.cell]; (try simp (disch := omega) only [ix22, Int.toNat_natCast]); rfl) ?_
            refine LD.qq rfl rfl (by simp only [EN, Nat.reduceEqDiff, reduceIte, qv_fieldAddr, fa77_3, Nat.zero_add, Nat.reduceAdd, hB1.cell, hB3.cell, hB1.cell, hB3.cell]; rfl) ?_
            refine LD.qq rfl rfl (by simp only [EN, Nat.reduceEqDiff, reduceIte, k0_0, k3_0, k4_0, k6_0, i7_0, hB1.cell, hB3.cell, hB1.cell, hB3.cell, qv_load, ld2, Int.toNat_natCast, hr4]; rfl) ?_
            refine LD.skip rfl ?_
            refine LD.skip rfl ?_
            refine LD.nil ?_
            rintro _ rfl -
            refine WL.ce Try.call41 (by simp only [EN, Nat.reduceEqDiff, reduceIte, AR, hB1.cell, hB3.cell, hB1.cell, hB3.cell]; exact c_setFloor o.q o.fl hbk hck) ?_
            rintro _ h70 ⟨rfl, hgs70, hno, hyes⟩
            simp only [put_some]
            replace hE := hgs70.toExt hE (fun x hx => by simp at hx; subst hx; exact hfr.f)
            replace hrk := hrk.gsF hbk hgs70
            have nB1 : B1 ∉ [fm] := (by simp; exact hB1.nmap hbk.flo)
            have nB3 : B3 ∉ [fm] := (by simp; exact hB3.nmap hbk.flo)
            replace hB1 := hB1.gs hgs70 nB1
            replace hB3 := hB3.gs hgs70 nB3
            replace hbk : IsBk h70 p bm fm vo s.ks (if r = 0 then mset s.fs o.q o.fl else s.fs) s.sq := (by by_cases h0 : r = 0; (rw [if_pos h0]; exact hyes h0); rw [if_neg h0]; exact hbk.ext (hno h0))
            replace hl := kl.ext hE
            obtain ⟨b', off', hbo, hr0, hr1, hr2, hr4⟩ := op_rd hl.ops ho
            cases hbo
            refine WL.qq (by simp only [EN, Nat.reduceEqDiff, reduceIte, qv_assign, hB1.cell, hB3.cell, hB1.cell, hB3.cell]; rfl) ?_
            refine WL.nil ?_
            refine th_norm ?_
            apply hx_draw2 Rel.grows [15, 16] [11] [(11, Spec.rf s.ks (if r = 0 then refF s.gs o.q o.fl else s.gs) s.sq r)] rfl (by decide +kernel) rfl
            refine LD.qq rfl rfl (by simp only [EN, Nat.reduceEqDiff, reduceIte, qv_load, ld29, readN, AR, Nat.zero_add, Nat.reduceAdd, k6_0, hB1.cell, hB3.cell, hB1.cell, hB3.cell]; rfl) ?_
            refine LD.qq rfl rfl (by simp only [EN, Nat.reduceEqDiff, reduceIte, qv_move, k0_0, hB1.cell, hB3.cell, hB1.cell, hB3.cell]; rfl) ?_
            refine LD.qq rfl rfl (by simp only [EN, Nat.reduceEqDiff, reduceIte, qv_move, i7_0, hB1.cell, hB3.cell, hB1.cell, hB3.cell]; rfl) ?_
            refine LD.qq rfl rfl (by simp only [EN, Nat.reduceEqDiff, reduceIte, qv_indexAddr, hB1.cell, hB3.cell, hB1.cell, hB3.cell]; (try simp (disch := omega) only [ix22, Int.toNat_natCast]); rfl) ?_
            refine LD.qq rfl rfl (by simp only [EN, Nat.reduceEqDiff, reduceIte, qv_fieldAddr, fa77_2, Nat.zero_add, Nat.reduceAdd, hB1.cell, hB3.cell, hB1.cell, hB3.cell]; rfl) ?_
            refine LD.qq rfl rfl (by simp only [EN, Nat.reduceEqDiff, reduceIte, k0_0, k3_0, k4_0, k6_0, i7_0, hB1.cell, hB3.cell, hB1.cell, hB3.cell, qv_load, ld34, Int.toNat_natCast, hr2]; rfl) ?_
            refine LD.qq rfl rfl (by simp only [EN, Nat.reduceEqDiff, reduceIte, qv_move, k0_0, hB1.cell, hB3.cell, hB1.cell, hB3.cell]; rfl) ?_
            refine LD.qq rfl rfl (by simp only [EN, Nat.reduceEqDiff, reduceIte, qv_move, i7_0, hB1.cell, hB3.cell, hB1.cell, hB3.cell]; rfl) ?_
            refine LD.qq rfl rfl (by simp only [EN, Nat.reduceEqDiff, reduceIte, qv_indexAddr, hB1.cell, hB3.cell, hB1.cell, hB3.cell]; (try simp (disch := omega) only [ix22, Int.toNat_natCast]); rfl) ?_
            refine LD.qq rfl rfl (by simp only [EN, Nat.reduceEqDiff, reduceIte, qv_fieldAddr, fa77_3, Nat.zero_add, Nat.reduceAdd, hB1.cell, hB3.cell, hB1.cell, hB3.cell]; rfl) ?_
            refine LD.qq rfl rfl (by simp only [EN, Nat.reduceEqDiff, reduceIte, k0_0, k3_0, k4_0, k6_0, i7_0, hB1.cell, hB3.cell, hB1.cell, hB3.cell, qv_load, ld2, Int.toNat_natCast, hr4]; rfl) ?_
            refine LD.es rfl rfl (by intro hD hr hf; have hx : Ext _ _ := hr; have hB1 := hB1.ext hx; have hB3 := hB3.ext hx; have hbk := hbk.ext hx; have hrk := hrk.ext hx; exact EOp.mono (e_call Try.call44 (by simp only [EN, Nat.reduceEqDiff, reduceIte, k0_0, k3_0, k4_0, k6_0, i7_0, hB1.cell, hB3.cell, hB1.cell, hB3.cell, List.map_toArray, List.map_cons, List.map_nil]; exact c_rsetFloor o.q o.fl (by omega) (by omega) hrk hck)) (fun u h' hh => by obtain ⟨h1, w, vk', vf', rfl, h2⟩ := hh; exact ⟨h1, ⟨w, rfl⟩, fun w' hw => by cases hw; exact ⟨vk', vf', h2⟩⟩)) ?_
            intro u13_11 w13_11
            obtain ⟨w13, rfl⟩ := w13_11
            refine LD.qq rfl rfl (by simp only [EN, Nat.reduceEqDiff, reduceIte, qv_move, hB1.cell, hB3.cell, hB1.cell, hB3.cell]; rfl) ?_
            refine LD.qq rfl rfl (by simp only [EN, Nat.reduceEqDiff, reduceIte, qv_extract, AR, hB1.cell, hB3.cell, hB1.cell, hB3.cell]; rfl) ?_
            refine LD.qq rfl rfl (by simp only [EN, Nat.reduceEqDiff, reduceIte, qv_extract, AR, hB1.cell, hB3.cell, hB1.cell, hB3.cell]; rfl) ?_
            refine LD.skip rfl ?_
            refine LD.skip rfl ?_
            refine LD.nil ?_
            rintro h5 hx5 hF13
            replace hx5 : Ext _ _ := hx5
            replace hE := hE.trans hx5
            replace hB1 := hB1.ext hx5
            replace hB3 := hB3.ext hx5
            replace hbk := hbk.ext hx5
            replace hrk := hrk.ext hx5
            obtain ⟨vk3, vf3, hrk3⟩ := hF13 (11, .tuple #[w13, iV r]) (by simp) _ rfl w13 rfl
            obtain rfl := hrk3.val
            refine WL.store (by simp only [EN, Nat.reduceEqDiff, reduceIte, k0_0, k3_0, k4_0, k6_0, i7_0, hB1.cell, hB3.cell, hB1.cell, hB3.cell] <;> rfl) sz29 (by simp only [EN, Nat.reduceEqDiff, reduceIte, k0_0, k3_0, k4_0, k6_0, i7_0, hB1.cell, hB3.cell, hB1.cell, hB3.cell, Value.cells]; rfl) rfl hB3 (by simp) (by have h8 := hrk3.ks.one; have h9 := hrk3.fs.one; intro u hu; simp at hu; rcases hu with rfl | rfl | rfl <;> first | exact h8 | exact h9 | rfl) ?_
            intro h80 hw80
            replace hE := hw80.ext hE hb0_3
            replace hB1 := hB1.wr hw80 hne1_3.symm
            replace hbk := hbk.st (.inr ⟨_, hw80⟩) hB3 (by decide) (by decide)
            have hrk4 : IsRef h80 (.agg #[vk3, vf3, iV s.sq]) _ _ _ vk3 vf3 := ⟨rfl, hrk3.ks.keep (fun c hc => hw80.same c fun hh => by subst hh; exact hrk3.ks.ncell hB3 (by decide) hc), hrk3.fs.keep (fun c hc => hw80.same c fun hh => by subst hh; exact hrk3.fs.ncell hB3 (by decide) hc)⟩
            replace hB3 := hw80.at_
            refine WL.qq (by simp only [EN, Nat.reduceEqDiff, reduceIte, qv_assign, hB1.cell, hB3.cell, hB1.cell, hB3.cell]; rfl) ?_
            refine WL.nil ?_
            refine th_norm ?_
            refine ⟨rfl, ?_, r, vo, vk3, vf3, ⟨s.ks, if r = 0 then refF s.gs o.q o.fl else s.gs, if r = 0 then mset s.fs o.q o.fl else s.fs, s.sq⟩, ?_, ?_, ?_, ?_, ?_, ?_, ?_, ?_, ?_⟩  -- meet 1 of cut 9
            · (repeat (first | exact Fr.refl _ _ | refine Fr.set rfl ?_ | refine Fr.put rfl ?_ | refine Fr.put0 ?_ | refine Fr.trans ?_ (Fr.of hfr0 rfl) | refine Fr.trans ?_ (Fr.of hfc9 rfl)))
            · exact hst
            · exact hE
            · exact hB1
            · exact hB3
            · exact hbk
            · exact hrk4
            · exact hfr
            · simp only [EN, Nat.reduceEqDiff, reduceIte, k0_0, k3_0, k4_0, k6_0, i7_0, hB1.cell, hB3.cell, hB1.cell, hB3.cell] <;> first | rfl | (congr 1; omega)
            · simp only [EN, Nat.reduceEqDiff, reduceIte, k0_0, k3_0, k4_0, k6_0, i7_0, hB1.cell, hB3.cell, hB1.cell, hB3.cell] <;> first | rfl | (congr 1; omega)
        ·
          rintro ec9 hC9 hfc9 ⟨r2, vo2, vk2, vf2, s2, hs2, hE, hB1, hB3, hbk, hrk, hfr, i8_c9, i9_c9⟩
          have k0_c9 := hfc9 0 rfl; try simp only [EN, Nat.reduceEqDiff, reduceIte, k0_0, k3_0, k4_0, k6_0, i7_0, hB1.cell, hB3.cell, hB1.cell, hB3.cell] at k0_c9
          have k2_c9 := hfc9 2 rfl; try simp only [EN, Nat.reduceEqDiff, reduceIte, k0_0, k3_0, k4_0, k6_0, i7_0, hB1.cell, hB3.cell, hB1.cell, hB3.cell] at k2_c9
          have k3_c9 := hfc9 3 rfl; try simp only [EN, Nat.reduceEqDiff, reduceIte, k0_0, k3_0, k4_0, k6_0, i7_0, hB1.cell, hB3.cell, hB1.cell, hB3.cell] at k3_c9
          have k4_c9 := hfc9 4 rfl; try simp only [EN, Nat.reduceEqDiff, reduceIte, k0_0, k3_0, k4_0, k6_0, i7_0, hB1.cell, hB3.cell, hB1.cell, hB3.cell] at k4_c9
          have k6_c9 := hfc9 6 rfl; try simp only [EN, Nat.reduceEqDiff, reduceIte, k0_0, k3_0, k4_0, k6_0, i7_0, hB1.cell, hB3.cell, hB1.cell, hB3.cell] at k6_c9
          have k7_c9 := hfc9 7 rfl; try simp only [EN, Nat.reduceEqDiff, reduceIte, k0_0, k3_0, k4_0, k6_0, i7_0, hB1.cell, hB3.cell, hB1.cell, hB3.cell] at k7_c9
          have k22_c9 := hfc9 22 rfl; try simp only [EN, Nat.reduceEqDiff, reduceIte, k0_0, k3_0, k4_0, k6_0, i7_0, hB1.cell, hB3.cell, hB1.cell, hB3.cell] at k22_c9
          have k23_c9 := hfc9 23 rfl; try simp only [EN, Nat.reduceEqDiff, reduceIte, k0_0, k3_0, k4_0, k6_0, i7_0, hB1.cell, hB3.cell, hB1.cell, hB3.cell] at k23_c9
          have k24_c9 := hfc9 24 rfl; try simp only [EN, Nat.reduceEqDiff, reduceIte, k0_0, k3_0, k4_0, k6_0, i7_0, hB1.cell, hB3.cell, hB1.cell, hB3.cell] at k24_c9
          have k25_c9 := hfc9 25 rfl; try simp only [EN, Nat.reduceEqDiff, reduceIte, k0_0, k3_0, k4_0, k6_0, i7_0, hB1.cell, hB3.cell, hB1.cell, hB3.cell] at k25_c9
          refine hx_seq ?_
          refine hx_region ?_
          refine WL.qq (by simp only [EN, Nat.reduceEqDiff, reduceIte, qv_move, i8_c9, hB1.cell, hB3.cell, hB1.cell, hB3.cell, hB1.cell, hB3.cell]; rfl) ?_
          refine WL.qq (by simp only [EN, Nat.reduceEqDiff, reduceIte, qv_move, i9_c9, hB1.cell, hB3.cell, hB1.cell, hB3.cell, hB1.cell, hB3.cell]; rfl) ?_
          refine WL.qq (by simp only [EN, Nat.reduceEqDiff, reduceIte, qv_binOp, binv_neq, eq3, Option.map_some, hB1.cell, hB3.cell, hB1.cell, hB3.cell, hB1.cell, hB3.cell]; rfl) ?_
          refine WL.nil ?_
          refine th_norm ?_
          refine hx_cond (by simp only [EN, Nat.reduceEqDiff, reduceIte, k0_c9, k2_c9, k3_c9, k4_c9, k6_c9, k7_c9, k22_c9, k23_c9, k24_c9, k25_c9, i8_c9, i9_c9, hB1.cell, hB3.cell, hB1.cell, hB3.cell, hB1.cell, hB3.cell]; rfl) (fun hct82 => ?_) (fun hct82 => ?_)
          ·
            simp at hct82
          ·
            try simp only [BD] at hct82
            refine hx_skip ?_
            refine bl_norm ?_
            refine th_norm ?_
            refine hx_region ?_
            refine WL.qq (by simp only [EN, Nat.reduceEqDiff, reduceIte, qv_move, k7_c9, hB1.cell, hB3.cell, hB1.cell, hB3.cell, hB1.cell, hB3.cell]; rfl) ?_
            refine WL.qq (by simp only [EN, Nat.reduceEqDiff, reduceIte, qv_binOp, binv_add, hB1.cell, hB3.cell, hB1.cell, hB3.cell, hB1.cell, hB3.cell]; (try simp (disch := omega) only [w64, w8, wu64]); rfl) ?_
            refine WL.qq (by simp only [EN, Nat.reduceEqDiff, reduceIte, qv_assign, hB1.cell, hB3.cell, hB1.cell, hB3.cell, hB1.cell, hB3.cell]; rfl) ?_
            refine WL.nil ?_
            refine th_norm ?_
            refine ⟨rfl, ?_, _, ?_, i + 1, vo2, vk2, vf2, s2, rfl, ?_, ?_, ?_, ?_, ?_, ?_, ?_, ?_, ?_⟩  -- again 0 of loop 0
            · (repeat (first | exact Fr.refl _ _ | refine Fr.set rfl ?_ | refine Fr.put rfl ?_ | refine Fr.put0 ?_ | refine Fr.trans ?_ (Fr.of hfc9 rfl)))
            · omega
            · omega
            · rw [runB_step ho, hs, hs2]
            · exact hE
            · exact hB1
            · exact hB3
            · exact hbk
            · exact hrk
            · exact hfr
            · simp only [EN, Nat.reduceEqDiff, reduceIte, k0_c9, k2_c9, k3_c9, k4_c9, k6_c9, k7_c9, k22_c9, k23_c9, k24_c9, k25_c9, i8_c9, i9_c9, hB1.cell, hB3.cell, hB1.cell, hB3.cell, hB1.cell, hB3.cell] <;> first | rfl | (congr 1; omega)
      ·
        try simp only [BD] at hct25
        have hil : i = l.length := (by omega); subst hil; rw [List.take_length] at hs; subst hs
        refine hx_exit ?_
        refine th_exit ?_
        refine th_exit ?_
        refine bl_hit ?_
        refine th_norm ?_
        refine hx_seq ?_
        apply hx_draw2 Rel.same [3] [] [] rfl (by decide +kernel) rfl
        refine LD.qq rfl rfl (by simp only [EN, Nat.reduceEqDiff, reduceIte, qv_move, k4_0, hB1.cell, hB3.cell, hB1.cell, hB3.cell]; rfl) ?_
        refine LD.qq rfl rfl (by simp only [EN, Nat.reduceEqDiff, reduceIte, qv_load, ld29, readN, AR, Nat.zero_add, Nat.reduceAdd, k6_0, hB1.cell, hB3.cell, hB1.cell, hB3.cell]; rfl) ?_
        refine LD.qq rfl rfl (by simp only [EN, Nat.reduceEqDiff, reduceIte, qv_assign, hB1.cell, hB3.cell, hB1.cell, hB3.cell]; rfl) ?_
        refine LD.skip rfl ?_
        refine LD.nil ?_
        rintro _ rfl -
        have hv8 := hrk.ks.one; have hv9 := hrk.fs.one
        refine WL.store (by simp only [EN, Nat.reduceEqDiff, reduceIte, k0_0, k3_0, k4_0, k6_0, i7_0, hB1.cell, hB3.cell, hB1.cell, hB3.cell] <;> rfl) sz29 (by simp only [EN, Nat.reduceEqDiff, reduceIte, k0_0, k3_0, k4_0, k6_0, i7_0, hB1.cell, hB3.cell, hB1.cell, hB3.cell, Value.cells]; rfl) rfl hB1 (by simp) (by intro u hu; simp at hu; rcases hu with rfl | rfl | rfl <;> first | exact hv8 | exact hv9 | rfl) ?_
        intro h80 hw80
        replace hE := hw80.ext hE hb0_1
        replace hbk := hbk.st (.inr ⟨_, hw80⟩) hB1 (by decide) (by decide)
        replace hrk : IsRef h80 _ _ _ _ _ _ := ⟨hrk.val, hrk.ks.keep (fun c hc => hw80.same c fun hh => by subst hh; exact hrk.ks.ncell hB1 (by decide) hc), hrk.fs.keep (fun c hc => hw80.same c fun hh => by subst hh; exact hrk.fs.ncell hB1 (by decide) hc)⟩
        replace hB1 := hw80.at_
        refine WL.nil ?_
        refine th_norm ?_
        refine hx_ret ?_
        refine fin_ret [.tmp 2, .cell 3 29] rfl rfl (by simp only [EN, Nat.reduceEqDiff, reduceIte, resv, ld29, readN, AR, Nat.zero_add, Nat.reduceAdd, k0_0, k3_0, k4_0, k6_0, i7_0, hB1.cell, hB3.cell, hB1.cell, hB3.cell]; rfl) ?_  -- ret 0 r16
        exact ⟨hE, p, bm, fm, vo, _, vk, vf, rfl, hbk, hrk, hfr⟩
end GL


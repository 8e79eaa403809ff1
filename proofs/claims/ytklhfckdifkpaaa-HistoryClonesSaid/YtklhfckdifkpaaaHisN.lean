/- History: a history beside the reference's bundles; the reference's Turnover. -/
import Derived.Test.YtklhfckdifkpaaaHisL
set_option linter.unusedSimpArgs false
set_option linter.unusedVariables false
set_option linter.unnecessarySimpa false
namespace GL
open Go Go.Proofs
set_option maxRecDepth 8000
section
variable {F : Nat → Prop} {h0 h h' : Heap} {p : Nat} {l : List HB}
theorem HI.gro {N n sz : Nat} {el : TypeId} {v : Value} {ys : List Value} (hi : HI h0 h F p l) (hg : Gr h h' v.ownBlock) (ho : Own h N el sz v n ys) (hN : h0.size ≤ N) (h1 : el ≠ tyH) (h2 : el ≠ tyB) (h3 : el ≠ tyPt) (h4 : el ≠ tyPo) : HI h0 h' F p l := by
  obtain ⟨u, xs, q1, q2, q3, q4⟩ := hi.ex
  refine ⟨⟨u, xs, q1.gr hg (ho.ncell q1 (Ne.symm h1)), q2.keep fun c hc => hg.same c (q2.block c hc).2 fun hh => ?_, q3, q4.gro hg ho h4 h3⟩, hg.ext hi.E (fun c hc => Nat.le_trans hN (ho.block c hc).1), hi.hp⟩
  obtain ⟨cu, hcu⟩ := ho.typ c hh
  exact q2.ncell hcu h2 hc
theorem HI.wr {b : Nat} {o : Obj} {c : Array Value} {T : TypeId} (hi : HI h0 h F p l) (hw : Wr h h' b o) (hb : Has h b (.cells c T)) (hN : h0.size ≤ b) (h1 : T ≠ tyH) (h2 : T ≠ tyB) (h3 : T ≠ tyPt) (h4 : T ≠ tyPo) : HI h0 h' F p l := by
  obtain ⟨u, xs, q1, q2, q3, q4⟩ := hi.ex
  refine ⟨⟨u, xs, q1.wr hw (fun hh => by subst hh; exact q1.ncell hb (Ne.symm h1) rfl), q2.keep fun c hc => hw.same c fun hh => ?_, q3, q4.wr hw hb h4 h3⟩, hw.ext hi.E hN, hi.hp⟩
  subst hh
  exact q2.ncell hb h2 hc
end
theorem c_newH (h : Heap) : HCalls Try.prog 39 #[] h fun v h' => Ext h h' ∧ ∃ p, v = ptr p ∧ HI h h' (fun _ => True) p [] := by
  refine hcalls2 Try.func39 rfl (by decide +kernel) (by simp only [Try.ntmps39]; exact of_decide_eq_true rfl) ?_
  intro e hin
  refine hx_seq ?_
  refine hx_region ?_
  refine WL.qq (by simp only [EN, Nat.reduceEqDiff, reduceIte, qv_assign]; rfl) ?_
  refine WL.nil ?_
  refine th_norm ?_
  refine hx_seq ?_
  refine hx_region ?_
  refine WL.qq (by refine qv_bld (by simp only [EN, Nat.reduceEqDiff, reduceIte, AR] <;> rfl) (by rw [bl93]; simp [Instr.fill, Value.cells]; rfl)) ?_
  refine WL.box2 (by simp only [EN, Nat.reduceEqDiff, reduceIte, Value.cells]; rfl) ?_
  intro h1 B1 hx1 hlt1 hB1
  refine WL.qq (by simp only [EN, Nat.reduceEqDiff, reduceIte, qv_assign, hB1.cell]; rfl) ?_
  refine WL.nil ?_
  refine th_norm ?_
  refine hx_ret ?_
  refine fin_ret [.tmp 0] rfl rfl (by simp only [EN, Nat.reduceEqDiff, reduceIte, resv, hB1.cell]; rfl) ?_  -- ret 0 r1
  exact ⟨(hx1), B1, rfl, ⟨⟨_, [], hB1, Own.nil, rfl, fun x hx => by cases hx⟩, (hx1), hlt1⟩⟩
theorem runB_step {L : List HB} {i : Nat} {b : HB} (h : L[i]? = some b) : runB (L.take (i + 1)) = stp (runB (L.take i)) b := by
  rw [List.take_add_one, h, runB, List.foldl_append]; rfl
/-- A history and the bundles of the reference that it holds. -/
structure HS (h0 h : Heap) (p : Nat) (a : Option Addr) (c : Nat) (xs : List BX) (l : List HB) : Prop where
  I : HI h0 h (fun _ => True) p l
  o : Own h h0.size 45 4 (.slice a xs.length c) xs.length (xs.flatMap bdL)
  m : xs.map BX.bd = l
  b : BXs h0 xs
  g : GS l
theorem HS.ext {h0 h h' : Heap} {p : Nat} {a : Option Addr} {c : Nat} {xs : List BX} {l : List HB} (hs : HS h0 h p a c xs l) (hx : Ext h h') : HS h0 h' p a c xs l := ⟨hs.I.ext hx, hs.o.ext hx, hs.m, hs.b, hs.g⟩
theorem HS.sl {h0 h : Heap} {p : Nat} {a : Option Addr} {c : Nat} {xs : List BX} {l : List HB} (hs : HS h0 h p a c xs l) : SlG 4 bdL h a xs := slG_own (f := bdL) (sz := 4) (fun _ => rfl) hs.o rfl
theorem HS.bx {h0 h : Heap} {p : Nat} {a : Option Addr} {c : Nat} {xs : List BX} {l : List HB} (hs : HS h0 h p a c xs l) : BXs h xs := hs.b.ext hs.I.E
theorem HS.n {h0 h : Heap} {p : Nat} {a : Option Addr} {c : Nat} {xs : List BX} {l : List HB} (hs : HS h0 h p a c xs l) : xs.length = l.length ∧ l.length ≤ 12 := ⟨by rw [← hs.m, List.length_map], hs.g.n⟩
theorem HS.fb {h0 h : Heap} {p : Nat} {a : Option Addr} {c : Nat} {xs : List BX} {l : List HB} (hs : HS h0 h p a c xs l) : ∀ x ∈ xs, FB x.bd := fun x hx => hs.g.f _ (by rw [← hs.m]; exact List.mem_map.2 ⟨x, hx, rfl⟩)
set_option maxHeartbeats 4000000 in
theorem c_build (al : Option Addr) (L : List BX) (cl : Nat) (hF : FW L) {h : Heap} (hs : SlG 4 bdL h al L) (hb : BXs h L) :
    HCalls Try.prog 14 #[.slice al L.length cl] h fun v h' => Ext h h' ∧ ∃ p a c xs, v = .tuple #[ptr p, .slice a xs.length c] ∧ HS h h' p a c xs (runB (L.map BX.bd)) := by
  obtain ⟨hFb, hF12⟩ := hF
  refine hcalls2 Try.func14 rfl (by decide +kernel) (by simp only [Try.ntmps14]; exact of_decide_eq_true rfl) ?_
  intro e hin
  have e0 := hin 0 _ rfl
  refine hx_seq ?_
  refine hx_region ?_
  refine WL.qq (by simp only [EN, Nat.reduceEqDiff, reduceIte, qv_assign]; rfl) ?_
  refine WL.qq (by simp only [EN, Nat.reduceEqDiff, reduceIte, qv_assign]; rfl) ?_
  refine WL.nil ?_
  refine th_norm ?_
  refine hx_seq ?_
  refine hx_region ?_
  refine WL.ce Try.call39 (by simp only [EN, Nat.reduceEqDiff, reduceIte, AR]; exact c_newH _) ?_
  rintro _ h1 ⟨hx1, p, rfl, hI0⟩
  simp only [put_some]
  refine WL.qq (by simp only [EN, Nat.reduceEqDiff, reduceIte, qv_assign]; rfl) ?_
  refine WL.nil ?_
  refine th_norm ?_
  refine hx_seq ?_
  refine hx_region ?_
  refine WL.qq (by simp only [EN, Nat.reduceEqDiff, reduceIte, qv_assign]; rfl) ?_
  refine WL.nil ?_
  refine th_norm ?_
  refine hx_seq ?_
  refine hx_seq ?_
  refine hx_region ?_
  refine WL.qq (by simp only [EN, Nat.reduceEqDiff, reduceIte, qv_assign]; rfl) ?_
  refine WL.nil ?_
  refine th_norm ?_
  refine hx_block ?_
  refine hx_loopG [2, 3, 5, 6, 7, 9, 10, 11, 12, 13, 14, 15, 16, 17, 18, 19, 20, 21, 22, 23, 24, 25, 26, 27, 28, 29, 30, 31, 32, 33, 34, 35, 36, 37, 38] (fun k e hL0 => ∃ (i : Nat) (l : List HB) (xs : List BX) (v : Value), L.length - i = k ∧ (i ≤ L.length) ∧ (HI h hL0 (fun _ => True) p l) ∧ (Own hL0 h.size 45 4 v xs.length (xs.flatMap bdL)) ∧ (xs.map BX.bd = l) ∧ ((∀ x ∈ xs, x ∈ L)) ∧ (GS l) ∧ (l.length ≤ i) ∧ (l = runB ((L.map BX.bd).take i)) ∧ e 5 = v ∧ e 6 = .int .i64 i) _ ⟨0, [], [], .slice none 0 0, rfl, ?_, ?_, ?_, ?_, ?_, ?_, ?_, ?_, ?_, ?_⟩ ?_
  · omega
  · exact hI0
  · exact Own.nil
  · rfl
  · intro x hx; cases hx
  · exact ⟨GH.nil, by simp, fun b hb => by cases hb⟩
  · simp
  · rfl
  · simp only [EN, Nat.reduceEqDiff, reduceIte, e0] <;> rfl
  · simp only [EN, Nat.reduceEqDiff, reduceIte, e0] <;> rfl
  ·
    rintro k e0L hL0 hfr0 ⟨i, l, xs, v, rfl, hi, hI, ho, hxl, hsub, hg, hll, hrun, i5_0, i6_0⟩
    have k0_0 := hfr0 0 rfl; try simp only [EN, Nat.reduceEqDiff, reduceIte, e0] at k0_0
    have k4_0 := hfr0 4 rfl; try simp only [EN, Nat.reduceEqDiff, reduceIte] at k4_0
    refine hx_seq ?_
    refine hx_seq ?_
    refine hx_region ?_
    refine WL.qq (by simp only [EN, Nat.reduceEqDiff, reduceIte, qv_move, i6_0]; rfl) ?_
    refine WL.qq (by simp only [EN, Nat.reduceEqDiff, reduceIte, qv_move, k0_0]; rfl) ?_
    refine WL.qq (by simp only [EN, Nat.reduceEqDiff, reduceIte, qv_len, ln22, AR]; rfl) ?_
    refine WL.qq (by simp only [EN, Nat.reduceEqDiff, reduceIte, qv_binOp, binv_lss]; rfl) ?_
    refine WL.nil ?_
    refine th_norm ?_
    refine hx_cond (by simp only [EN, Nat.reduceEqDiff, reduceIte]; rfl) (fun hct12 => ?_) (fun hct12 => ?_)
    ·
      try simp only [BD] at hct12
      obtain ⟨x, hx⟩ := atG (l := L) (i := i) (by omega)
      have hxm := List.mem_of_getElem? hx; have hfb := hFb x hxm
      have hst := runB_step (bd_at hx); rw [← hrun] at hst
      obtain ⟨b1, o1, hae, hr4, _⟩ := bd_rd (hs.ext hI.E) hx
      obtain ⟨a9, c9, rfl, hle9, _⟩ := ho.shape
      have hsl := slG_own (f := bdL) (sz := 4) (fun _ => rfl) ho rfl
      have hbL : BXs hL0 xs := fun y hy => (hb y (hsub y hy)).ext hI.E
      have hbx := (hb x hxm).ext hI.E
      have hlx : xs.length = l.length := (by rw [← hxl, List.length_map])
      refine hx_skip ?_
      refine th_norm ?_
      refine hx_seq ?_
      refine hx_block ?_
      refine hx_seq ?_
      refine hx_region ?_
      refine WL.qq (by simp only [EN, Nat.reduceEqDiff, reduceIte, qv_move, i5_0]; rfl) ?_
      refine WL.qq (by simp only [EN, Nat.reduceEqDiff, reduceIte, qv_move, k0_0]; rfl) ?_
      refine WL.qq (by simp only [EN, Nat.reduceEqDiff, reduceIte, qv_move, i6_0]; rfl) ?_
      refine WL.qq (by simp only [EN, Nat.reduceEqDiff, reduceIte, qv_indexAddr, hae]; (try simp (disch := omega) only [ix22, Int.toNat_natCast]); rfl) ?_
      refine WL.qq (by simp only [EN, Nat.reduceEqDiff, reduceIte, k0_0, k4_0, i5_0, i6_0, qv_load, ld45, Int.toNat_natCast, hr4]; rfl) ?_
      refine WL.cg Try.call40 (by simp only [EN, Nat.reduceEqDiff, reduceIte, AR]; exact c_rCheck a9 xs c9 x hxl hg hfb hsl hbL hbx) ?_
      intro h2 hx2
      replace hI := hI.ext hx2
      replace ho := ho.ext hx2
      replace hbx := hbx.ext hx2
      refine WL.qq (by simp only [EN, Nat.reduceEqDiff, reduceIte, qv_assign]; rfl) ?_
      refine WL.nil ?_
      refine th_norm ?_
      refine hx_seq ?_
      refine hx_seq ?_
      refine hx_region ?_
      obtain ⟨_, _, hae2, hr5, _⟩ := bd_rd (hs.ext hI.E) hx; rw [hae] at hae2; cases hae2
      refine WL.qq (by simp only [EN, Nat.reduceEqDiff, reduceIte, qv_move, k4_0]; rfl) ?_
      refine WL.qq (by simp only [EN, Nat.reduceEqDiff, reduceIte, qv_move, k0_0]; rfl) ?_
      refine WL.qq (by simp only [EN, Nat.reduceEqDiff, reduceIte, qv_move, i6_0]; rfl) ?_
      refine WL.qq (by simp only [EN, Nat.reduceEqDiff, reduceIte, qv_indexAddr, hae]; (try simp (disch := omega) only [ix22, Int.toNat_natCast]); rfl) ?_
      refine WL.qq (by simp only [EN, Nat.reduceEqDiff, reduceIte, k0_0, k4_0, i5_0, i6_0, qv_load, ld45, Int.toNat_natCast, hr5]; rfl) ?_
      refine WL.ce Try.call34 (by simp only [EN, Nat.reduceEqDiff, reduceIte, AR]; exact c_own x hfb.lens hbx) ?_
      rintro _ h3 ⟨hx3, y, rfl, hyb, hyr⟩
      replace hI := hI.ext hx3
      replace ho := ho.ext hx3
      replace hbx := hbx.ext hx3
      simp only [put_some]
      refine WL.ce Try.call35 (by simp only [EN, Nat.reduceEqDiff, reduceIte, k0_0, k4_0, i5_0, i6_0, AR]; exact c_append y hg hI hyr.in_ (by rw [hyb]; exact hfb)) ?_
      rintro v9 h9 ⟨hv9, hI9, hty9, -⟩
      rw [hyb] at hv9 hI9
      subst hv9
      simp only [put_some]
      replace hI := hI9.mono (F' := fun _ => True) (fun _ _ => trivial)
      replace ho := hty9.own ho (by decide) (by decide)
      refine WL.qq (by simp only [EN, Nat.reduceEqDiff, reduceIte, qv_move]; rfl) ?_
      refine WL.qq (by simp only [EN, Nat.reduceEqDiff, reduceIte, qv_binOp, binv_neq, eq3, Option.map_some]; rfl) ?_
      refine WL.nil ?_
      refine th_norm ?_
      refine hx_cond (by simp only [EN, Nat.reduceEqDiff, reduceIte]; rfl) (fun hct29 => ?_) (fun hct29 => ?_)
      ·
        simp at hct29
      ·
        try simp only [BD] at hct29
        refine hx_skip ?_
        refine th_norm ?_
        refine hx_seq ?_
        refine hx_region ?_
        refine WL.qq (by simp only [EN, Nat.reduceEqDiff, reduceIte, qv_move]; rfl) ?_
        refine WL.qq (by simp only [EN, Nat.reduceEqDiff, reduceIte, qv_binOp, binv_eql, eq3, Option.map_some]; rfl) ?_
        refine WL.nil ?_
        refine th_norm ?_
        refine hx_cond (by simp only [EN, Nat.reduceEqDiff, reduceIte]; rfl) (fun hct31 => ?_) (fun hct31 => ?_)
        ·
          try simp only [BD] at hct31
          have h0e : bdE l x.bd = 0 := (by simpa using hct31)
          rw [show stp l x.bd = l ++ [x.bd] from if_pos h0e] at hI hst
          have hgn : GS (l ++ [x.bd]) := ⟨hg.g.step h0e, by rw [List.length_append, List.length_singleton]; omega, fun b hb2 => by rcases List.mem_append.1 hb2 with h9 | h9; exact hg.f b h9; (simp at h9; subst h9; exact hfb)⟩
          refine hx_region ?_
          obtain ⟨_, _, hae3, hr6, _⟩ := bd_rd (hs.ext hI.E) hx; rw [hae] at hae3; cases hae3
          refine WL.qq (by simp only [EN, Nat.reduceEqDiff, reduceIte, qv_move, i5_0]; rfl) ?_
          refine WL.qq (by simp only [EN, Nat.reduceEqDiff, reduceIte, qv_move, k0_0]; rfl) ?_
          refine WL.qq (by simp only [EN, Nat.reduceEqDiff, reduceIte, qv_move, i6_0]; rfl) ?_
          refine WL.qq (by simp only [EN, Nat.reduceEqDiff, reduceIte, qv_indexAddr, hae]; (try simp (disch := omega) only [ix22, Int.toNat_natCast]); rfl) ?_
          refine WL.qq (by simp only [EN, Nat.reduceEqDiff, reduceIte, k0_0, k4_0, i5_0, i6_0, qv_load, ld45, Int.toNat_natCast, hr6]; rfl) ?_
          refine WL.push (bytes := 48) Try.underlying22 (inf_of Try.type45) rfl rfl rfl rfl (by decide) (by decide) sz45 zr45 (fun u => by simp only [EN, Nat.reduceEqDiff, reduceIte, k0_0, k4_0, i5_0, i6_0]) ho (c := (bdL x).toArray) (by simp only [EN, Nat.reduceEqDiff, reduceIte, k0_0, k4_0, i5_0, i6_0, Value.cells] <;> rfl) rfl (by simp [Value.oneCell']) (by simp only [maxLen]; omega) (by omega) hI.E.size ?_
          intro h40 v40 B40 ho40 hg40 hpl40 hn40
          skip
          refine WL.qq (by simp only [EN, Nat.reduceEqDiff, reduceIte, qv_assign]; rfl) ?_
          refine WL.nil ?_
          refine bl_norm ?_
          refine th_norm ?_
          refine hx_region ?_
          refine WL.qq (by simp only [EN, Nat.reduceEqDiff, reduceIte, qv_move, i6_0]; rfl) ?_
          refine WL.qq (by simp only [EN, Nat.reduceEqDiff, reduceIte, qv_binOp, binv_add]; (try simp (disch := omega) only [w64, w8, wu64]); rfl) ?_
          refine WL.qq (by simp only [EN, Nat.reduceEqDiff, reduceIte, qv_assign]; rfl) ?_
          refine WL.nil ?_
          refine th_norm ?_
          refine ⟨rfl, ?_, _, ?_, i + 1, l ++ [x.bd], xs ++ [x], v40, rfl, ?_, ?_, ?_, ?_, ?_, ?_, ?_, ?_, ?_, ?_⟩  -- again 0 of loop 0
          · (repeat (first | exact Fr.refl _ _ | refine Fr.set rfl ?_ | refine Fr.put rfl ?_ | with_reducible refine Fr.put0 ?_))
          · omega
          · omega
          · exact hI.gro hg40 ho (Nat.le_refl _) (by decide) (by decide) (by decide) (by decide)
          · rw [List.length_append, List.flatMap_append]; exact ho40
          · rw [List.map_append, hxl]; rfl
          · intro z hz; rcases List.mem_append.1 hz with h9 | h9; exact hsub z h9; (simp at h9; subst h9; exact hxm)
          · exact hgn
          · rw [List.length_append, List.length_singleton]; omega
          · exact hst.symm
          · simp only [EN, Nat.reduceEqDiff, reduceIte, k0_0, k4_0, i5_0, i6_0] <;> first | rfl | (congr 1; omega)
          · simp only [EN, Nat.reduceEqDiff, reduceIte, k0_0, k4_0, i5_0, i6_0] <;> first | rfl | (congr 1; omega)
        ·
          try simp only [BD] at hct31
          have h0e : bdE l x.bd ≠ 0 := (by simpa using hct31)
          rw [show stp l x.bd = l from if_neg h0e] at hI hst
          refine hx_skip ?_
          refine bl_norm ?_
          refine th_norm ?_
          refine hx_region ?_
          refine WL.qq (by simp only [EN, Nat.reduceEqDiff, reduceIte, qv_move, i6_0]; rfl) ?_
          refine WL.qq (by simp only [EN, Nat.reduceEqDiff, reduceIte, qv_binOp, binv_add]; (try simp (disch := omega) only [w64, w8, wu64]); rfl) ?_
          refine WL.qq (by simp only [EN, Nat.reduceEqDiff, reduceIte, qv_assign]; rfl) ?_
          refine WL.nil ?_
          refine th_norm ?_
          refine ⟨rfl, ?_, _, ?_, i + 1, l, xs, .slice a9 xs.length c9, rfl, ?_, ?_, ?_, ?_, ?_, ?_, ?_, ?_, ?_, ?_⟩  -- again 1 of loop 0
          · (repeat (first | exact Fr.refl _ _ | refine Fr.set rfl ?_ | refine Fr.put rfl ?_ | with_reducible refine Fr.put0 ?_))
          · omega
          · omega
          · exact hI
          · exact ho
          · exact hxl
          · exact hsub
          · exact hg
          · omega
          · exact hst.symm
          · simp only [EN, Nat.reduceEqDiff, reduceIte, k0_0, k4_0, i5_0, i6_0] <;> first | rfl | (congr 1; omega)
          · simp only [EN, Nat.reduceEqDiff, reduceIte, k0_0, k4_0, i5_0, i6_0] <;> first | rfl | (congr 1; omega)
    ·
      try simp only [BD] at hct12
      rw [List.take_of_length_le (by rw [List.length_map]; omega)] at hrun
      obtain ⟨a9, c9, rfl, hle9, _⟩ := ho.shape
      refine hx_exit ?_
      refine th_exit ?_
      refine th_exit ?_
      refine bl_hit ?_
      refine th_norm ?_
      refine hx_seq ?_
      refine hx_region ?_
      refine WL.qq (by simp only [EN, Nat.reduceEqDiff, reduceIte, qv_move, k4_0]; rfl) ?_
      refine WL.qq (by simp only [EN, Nat.reduceEqDiff, reduceIte, qv_move, i5_0]; rfl) ?_
      refine WL.qq (by simp only [EN, Nat.reduceEqDiff, reduceIte, qv_assign]; rfl) ?_
      refine WL.qq (by simp only [EN, Nat.reduceEqDiff, reduceIte, qv_assign]; rfl) ?_
      refine WL.nil ?_
      refine th_norm ?_
      refine hx_ret ?_
      refine fin_ret [.tmp 2, .tmp 3] rfl rfl (by simp only [EN, Nat.reduceEqDiff, reduceIte, resv, k0_0, k4_0, i5_0, i6_0]; rfl) ?_  -- ret 0 r11
      exact ⟨hI.E, p, a9, c9, xs, rfl, ⟨hrun ▸ hI, ho, hxl.trans hrun, fun x hx => hb x (hsub x hx), hrun ▸ hg⟩⟩
set_option maxHeartbeats 2000000 in
theorem c_rTurn (a : Option Addr) (xs : List BX) (c : Nat) (q : AC) (day : Int) {l : List HB} (hxl : xs.map BX.bd = l) (hg : GS l) {h : Heap} (hs : SlG 4 bdL h a xs) (hb : BXs h xs) :
    HCalls Try.prog 22 #[.slice a xs.length c, acV q, iV day] h (Grow (.tuple #[iV (tur q (dayP l day)).1, iV (tur q (dayP l day)).2]) h) := by
  have hl : xs.length ≤ 12 := by have := hg.n; rw [← hxl, List.length_map] at this; exact this
  refine hcalls2 Try.func22 rfl (by decide +kernel) (by simp only [Try.ntmps22]; exact of_decide_eq_true rfl) ?_
  intro e hin
  have e0 := hin 0 _ rfl
  have e1 := hin 1 _ rfl
  have e2 := hin 2 _ rfl
  refine hx_seq ?_
  refine hx_region ?_
  refine WL.box2 (by simp only [EN, Nat.reduceEqDiff, reduceIte, Value.cells, e1, strEq]; rfl) ?_
  intro h1 B1 hx1 hlt1 hB1
  replace hs := hs.ext hx1
  replace hb := hb.ext hx1
  refine WL.qq (by simp only [EN, Nat.reduceEqDiff, reduceIte, qv_assign, strEq, hB1.cell]; rfl) ?_
  refine WL.qq (by simp only [EN, Nat.reduceEqDiff, reduceIte, qv_assign, strEq, hB1.cell]; rfl) ?_
  refine WL.nil ?_
  refine th_norm ?_
  refine hx_seq ?_
  refine hx_region ?_
  refine WL.qq (by simp only [EN, Nat.reduceEqDiff, reduceIte, qv_assign, strEq, hB1.cell]; rfl) ?_
  refine WL.qq (by simp only [EN, Nat.reduceEqDiff, reduceIte, qv_assign, strEq, hB1.cell]; rfl) ?_
  refine WL.nil ?_
  refine th_norm ?_
  refine hx_seq ?_
  refine hx_seq ?_
  refine hx_region ?_
  refine WL.qq (by simp only [EN, Nat.reduceEqDiff, reduceIte, qv_assign, strEq, hB1.cell]; rfl) ?_
  refine WL.nil ?_
  refine th_norm ?_
  refine hx_block ?_
  refine hx_loopS [8, 9, 10, 11, 12, 13, 14, 15, 16, 17, 18, 19, 20, 21, 22, 23, 24, 25, 26, 27, 28, 29, 30, 31, 32, 33, 34, 35, 36, 37, 38, 39, 40, 41, 42, 43, 44, 45, 46, 47, 48, 49, 50, 51, 52, 53, 54, 55, 56, 57, 58, 59, 60, 61, 62, 63, 64, 65, 66, 67, 68, 69, 70, 71, 72, 73, 74, 75, 76, 77, 78, 79, 80, 81, 82] (fun k e => ∃ (i : Nat), xs.length - i = k ∧ (i ≤ xs.length) ∧ e 8 = iV (tur q (dayP (l.take i) day)).1 ∧ e 9 = iV (tur q (dayP (l.take i) day)).2 ∧ e 10 = .int .i64 i) _ ⟨0, rfl, ?_, ?_, ?_, ?_⟩ ?_
  · omega
  · simp only [EN, Nat.reduceEqDiff, reduceIte, e0, e1, e2, strEq, hB1.cell] <;> rfl
  · simp only [EN, Nat.reduceEqDiff, reduceIte, e0, e1, e2, strEq, hB1.cell] <;> rfl
  · simp only [EN, Nat.reduceEqDiff, reduceIte, e0, e1, e2, strEq, hB1.cell] <;> rfl
  ·
    rintro k e0L hfr0 ⟨i, rfl, hi, i8_0, i9_0, i10_0⟩
    have k0_0 := hfr0 0 rfl; try simp only [EN, Nat.reduceEqDiff, reduceIte, e0, strEq, hB1.cell] at k0_0
    have k2_0 := hfr0 2 rfl; try simp only [EN, Nat.reduceEqDiff, reduceIte, e2, strEq, hB1.cell] at k2_0
    have k4_0 := hfr0 4 rfl; try simp only [EN, Nat.reduceEqDiff, reduceIte, strEq, hB1.cell] at k4_0
    refine hx_seq ?_
    refine hx_seq ?_
    refine hx_region ?_
    refine WL.qq (by simp only [EN, Nat.reduceEqDiff, reduceIte, qv_move, i10_0, strEq, hB1.cell]; rfl) ?_
    refine WL.qq (by simp only [EN, Nat.reduceEqDiff, reduceIte, qv_move, k0_0, strEq, hB1.cell]; rfl) ?_
    refine WL.qq (by simp only [EN, Nat.reduceEqDiff, reduceIte, qv_len, ln22, AR, strEq, hB1.cell]; rfl) ?_
    refine WL.qq (by simp only [EN, Nat.reduceEqDiff, reduceIte, qv_binOp, binv_lss, strEq, hB1.cell]; rfl) ?_
    refine WL.nil ?_
    refine th_norm ?_
    refine hx_cond (by simp only [EN, Nat.reduceEqDiff, reduceIte, strEq, hB1.cell]; rfl) (fun hct17 => ?_) (fun hct17 => ?_)
    ·
      try simp only [BD] at hct17
      obtain ⟨x, hx⟩ := atG (l := xs) (i := i) (by omega)
      obtain ⟨b, off, hae, _, _, hcd, _, hc3, _⟩ := bd_rd hs hx
      have hxb : l[i]? = some x.bd := (by rw [← hxl]; exact bd_at hx)
      have hxm : x.bd ∈ l := List.mem_of_getElem? hxb
      have hxi := hb x (List.mem_of_getElem? hx); have hxl2 := (hg.f _ hxm).lens
      obtain ⟨P0, hP0⟩ : ∃ P0 : List PO → List PO, P0 = fun m => if x.day = day then dayP (l.take i) day ++ m else dayP (l.take i) day := ⟨_, rfl⟩
      have hP0n : P0 [] = dayP (l.take i) day := (by rw [hP0]; simp only [List.append_nil, ite_self])
      have hP0e : P0 (pos x.bd) = dayP (l.take (i + 1)) day := (by rw [hP0, dayP_step hxb]; rfl)
      refine hx_skip ?_
      refine th_norm ?_
      refine hx_seq ?_
      refine hx_block ?_
      refine hx_seq ?_
      refine hx_region ?_
      refine WL.qq (by simp only [EN, Nat.reduceEqDiff, reduceIte, qv_assign, strEq, hB1.cell]; rfl) ?_
      refine WL.nil ?_
      refine th_norm ?_
      refine hx_block ?_
      refine hx_loopS [8, 9, 11, 12, 13, 20, 21, 22, 23, 24, 25, 26, 27, 28, 29, 30, 31, 32, 33, 34, 35, 36, 37, 38, 39, 40, 41, 42, 43, 44, 45, 46, 47, 48, 49, 50, 51, 52, 53, 54, 55, 56, 57, 58, 59, 60, 61, 62, 63, 64, 65, 66, 67, 68, 69, 70, 71, 72, 73, 74, 75, 76, 77, 78, 79, 80, 81, 82] (fun k e => ∃ (k2 : Nat), x.ps.length - k2 = k ∧ (k2 ≤ x.ps.length) ∧ e 8 = iV (tur q (P0 ((pos x.bd).take (fl x k2)))).1 ∧ e 9 = iV (tur q (P0 ((pos x.bd).take (fl x k2)))).2 ∧ e 11 = .int .i64 k2) _ ⟨0, rfl, ?_, ?_, ?_, ?_⟩ ?_
      · omega
      · simp only [EN, Nat.reduceEqDiff, reduceIte, k0_0, k2_0, k4_0, i8_0, i9_0, i10_0, strEq, hB1.cell] <;> rw [show fl x 0 = 0 from rfl, List.take_zero, hP0n]
      · simp only [EN, Nat.reduceEqDiff, reduceIte, k0_0, k2_0, k4_0, i8_0, i9_0, i10_0, strEq, hB1.cell] <;> rw [show fl x 0 = 0 from rfl, List.take_zero, hP0n]
      · simp only [EN, Nat.reduceEqDiff, reduceIte, k0_0, k2_0, k4_0, i8_0, i9_0, i10_0, strEq, hB1.cell] <;> rfl
      ·
        rintro k e1L hfr1 ⟨k2, rfl, hk2, i8_1, i9_1, i11_1⟩
        have k0_1 := hfr1 0 rfl; try simp only [EN, Nat.reduceEqDiff, reduceIte, k0_0, strEq, hB1.cell] at k0_1
        have k2_1 := hfr1 2 rfl; try simp only [EN, Nat.reduceEqDiff, reduceIte, k2_0, strEq, hB1.cell] at k2_1
        have k4_1 := hfr1 4 rfl; try simp only [EN, Nat.reduceEqDiff, reduceIte, k4_0, strEq, hB1.cell] at k4_1
        have k10_1 := hfr1 10 rfl; try simp only [EN, Nat.reduceEqDiff, reduceIte, i10_0, strEq, hB1.cell] at k10_1
        refine hx_seq ?_
        refine hx_seq ?_
        refine hx_region ?_
        refine WL.qq (by simp only [EN, Nat.reduceEqDiff, reduceIte, qv_move, i11_1, strEq, hB1.cell]; rfl) ?_
        refine WL.qq (by simp only [EN, Nat.reduceEqDiff, reduceIte, qv_move, k0_1, strEq, hB1.cell]; rfl) ?_
        refine WL.qq (by simp only [EN, Nat.reduceEqDiff, reduceIte, qv_move, k10_1, strEq, hB1.cell]; rfl) ?_
        refine WL.qq (by simp only [EN, Nat.reduceEqDiff, reduceIte, qv_indexAddr, strEq, hB1.cell, hae]; (try simp (disch := omega) only [ix22, Int.toNat_natCast]); rfl) ?_
        refine WL.qq (by simp only [EN, Nat.reduceEqDiff, reduceIte, qv_fieldAddr, fa45_3, Nat.zero_add, Nat.reduceAdd, strEq, hB1.cell]; rfl) ?_
        refine WL.qq (by simp only [EN, Nat.reduceEqDiff, reduceIte, k0_1, k2_1, k4_1, k10_1, i8_1, i9_1, i11_1, strEq, hB1.cell, qv_load, ld43, Int.toNat_natCast, hc3]; rfl) ?_
        refine WL.qq (by simp only [EN, Nat.reduceEqDiff, reduceIte, qv_len, ln43, AR, strEq, hB1.cell]; rfl) ?_
        refine WL.qq (by simp only [EN, Nat.reduceEqDiff, reduceIte, qv_binOp, binv_lss, strEq, hB1.cell]; rfl) ?_
        refine WL.nil ?_
        refine th_norm ?_
        refine hx_cond (by simp only [EN, Nat.reduceEqDiff, reduceIte, strEq, hB1.cell]; rfl) (fun hct27 => ?_) (fun hct27 => ?_)
        ·
          try simp only [BD] at hct27
          obtain ⟨y, hy⟩ := atG (l := x.ps) (i := k2) (by omega)
          obtain ⟨b2, off2, ha2, _, _, hp1⟩ := pt_rd hxi.1 hy
          have hyl := hxl2.2 y (List.mem_of_getElem? hy); have hyi : SlG 4 poL _ y.a y.ps := hxi.2 y (List.mem_of_getElem? hy)
          refine hx_skip ?_
          refine th_norm ?_
          refine hx_seq ?_
          refine hx_block ?_
          refine hx_seq ?_
          refine hx_region ?_
          refine WL.qq (by simp only [EN, Nat.reduceEqDiff, reduceIte, qv_move, k0_1, strEq, hB1.cell]; rfl) ?_
          refine WL.qq (by simp only [EN, Nat.reduceEqDiff, reduceIte, qv_move, k10_1, strEq, hB1.cell]; rfl) ?_
          refine WL.qq (by simp only [EN, Nat.reduceEqDiff, reduceIte, qv_indexAddr, strEq, hB1.cell, hae]; (try simp (disch := omega) only [ix22, Int.toNat_natCast]); rfl) ?_
          refine WL.qq (by simp only [EN, Nat.reduceEqDiff, reduceIte, qv_fieldAddr, fa45_3, Nat.zero_add, Nat.reduceAdd, strEq, hB1.cell]; rfl) ?_
          refine WL.qq (by simp only [EN, Nat.reduceEqDiff, reduceIte, k0_1, k2_1, k4_1, k10_1, i8_1, i9_1, i11_1, strEq, hB1.cell, qv_load, ld43, Int.toNat_natCast, hc3]; rfl) ?_
          refine WL.qq (by simp only [EN, Nat.reduceEqDiff, reduceIte, qv_move, i11_1, strEq, hB1.cell]; rfl) ?_
          refine WL.qq (by simp only [EN, Nat.reduceEqDiff, reduceIte, qv_indexAddr, strEq, hB1.cell, ha2]; (try simp (disch := omega) only [ix43, Int.toNat_natCast]); rfl) ?_
          refine WL.qq (by simp only [EN, Nat.reduceEqDiff, reduceIte, qv_fieldAddr, fa79_1, Nat.zero_add, Nat.reduceAdd, strEq, hB1.cell]; rfl) ?_
          refine WL.qq (by simp only [EN, Nat.reduceEqDiff, reduceIte, k0_1, k2_1, k4_1, k10_1, i8_1, i9_1, i11_1, strEq, hB1.cell, qv_load, ld77, Int.toNat_natCast, hp1]; rfl) ?_
          refine WL.qq (by simp only [EN, Nat.reduceEqDiff, reduceIte, qv_assign, strEq, hB1.cell]; rfl) ?_
          refine WL.nil ?_
          refine th_norm ?_
          refine hx_seq ?_
          refine hx_region ?_
          refine WL.qq (by simp only [EN, Nat.reduceEqDiff, reduceIte, qv_assign, strEq, hB1.cell]; rfl) ?_
          refine WL.nil ?_
          refine th_norm ?_
          refine hx_block ?_
          refine hx_loopS [8, 9, 13, 39, 40, 41, 42, 43, 44, 45, 46, 47, 48, 49, 50, 51, 52, 53, 54, 55, 56, 57, 58, 59, 60, 61, 62, 63, 64, 65, 66, 67, 68, 69, 70, 71, 72, 73, 74, 75, 76, 77, 78, 79, 80, 81, 82] (fun k e => ∃ (m2 : Nat), y.ps.length - m2 = k ∧ (m2 ≤ y.ps.length) ∧ e 8 = iV (tur q (P0 ((pos x.bd).take (fl x k2 + m2)))).1 ∧ e 9 = iV (tur q (P0 ((pos x.bd).take (fl x k2 + m2)))).2 ∧ e 13 = .int .i64 m2) _ ⟨0, rfl, ?_, ?_, ?_, ?_⟩ ?_
          · omega
          · simp only [EN, Nat.reduceEqDiff, reduceIte, k0_1, k2_1, k4_1, k10_1, i8_1, i9_1, i11_1, strEq, hB1.cell] <;> rfl
          · simp only [EN, Nat.reduceEqDiff, reduceIte, k0_1, k2_1, k4_1, k10_1, i8_1, i9_1, i11_1, strEq, hB1.cell] <;> rfl
          · simp only [EN, Nat.reduceEqDiff, reduceIte, k0_1, k2_1, k4_1, k10_1, i8_1, i9_1, i11_1, strEq, hB1.cell] <;> rfl
          ·
            rintro k e2L hfr2 ⟨m2, rfl, hm2, i8_2, i9_2, i13_2⟩
            have k0_2 := hfr2 0 rfl; try simp only [EN, Nat.reduceEqDiff, reduceIte, k0_1, strEq, hB1.cell] at k0_2
            have k2_2 := hfr2 2 rfl; try simp only [EN, Nat.reduceEqDiff, reduceIte, k2_1, strEq, hB1.cell] at k2_2
            have k4_2 := hfr2 4 rfl; try simp only [EN, Nat.reduceEqDiff, reduceIte, k4_1, strEq, hB1.cell] at k4_2
            have k10_2 := hfr2 10 rfl; try simp only [EN, Nat.reduceEqDiff, reduceIte, k10_1, strEq, hB1.cell] at k10_2
            have k11_2 := hfr2 11 rfl; try simp only [EN, Nat.reduceEqDiff, reduceIte, i11_1, strEq, hB1.cell] at k11_2
            have k12_2 := hfr2 12 rfl; try simp only [EN, Nat.reduceEqDiff, reduceIte, strEq, hB1.cell] at k12_2
            refine hx_seq ?_
            refine hx_seq ?_
            refine hx_region ?_
            refine WL.qq (by simp only [EN, Nat.reduceEqDiff, reduceIte, qv_move, i13_2, strEq, hB1.cell]; rfl) ?_
            refine WL.qq (by simp only [EN, Nat.reduceEqDiff, reduceIte, qv_move, k12_2, strEq, hB1.cell]; rfl) ?_
            refine WL.qq (by simp only [EN, Nat.reduceEqDiff, reduceIte, qv_len, ln77, AR, strEq, hB1.cell]; rfl) ?_
            refine WL.qq (by simp only [EN, Nat.reduceEqDiff, reduceIte, qv_binOp, binv_lss, strEq, hB1.cell]; rfl) ?_
            refine WL.nil ?_
            refine th_norm ?_
            refine hx_cond (by simp only [EN, Nat.reduceEqDiff, reduceIte, strEq, hB1.cell]; rfl) (fun hct42 => ?_) (fun hct42 => ?_)
            ·
              try simp only [BD] at hct42
              obtain ⟨z, hz⟩ := atG (l := y.ps) (i := m2) (by omega)
              obtain ⟨b3, off3, ha3, _, hr3, _, _, _, hz3⟩ := po_rd hyi hz
              have hzat := fl_at hy hz
              have hyd := pos_in (hg.g.mem hxm) z (List.mem_of_getElem? hzat); have hyd1 := hyd.1; have hyd2 := hyd.2; simp only [MA] at hyd1 hyd2
              have hst : tur q (P0 ((pos x.bd).take (fl x k2 + m2 + 1))) = if x.day = day then turS q (tur q (P0 ((pos x.bd).take (fl x k2 + m2)))) z else tur q (P0 ((pos x.bd).take (fl x k2 + m2))) := (by rw [hP0]; by_cases hd : x.day = day; (simp only [if_pos hd]; exact tur_snoc q _ _ hzat); (simp only [if_neg hd]))
              have htb : 0 ≤ (tur q (P0 ((pos x.bd).take (fl x k2 + m2)))).1 ∧ (tur q (P0 ((pos x.bd).take (fl x k2 + m2)))).1 ≤ CP ∧ 0 ≤ (tur q (P0 ((pos x.bd).take (fl x k2 + m2)))).2 ∧ (tur q (P0 ((pos x.bd).take (fl x k2 + m2)))).2 ≤ CP := tur_bd q _ (by rw [hP0]; intro w hw; have hw2 : w ∈ dayP (l.take i) day ∨ w ∈ (pos x.bd).take (fl x k2 + m2) := (by by_cases hd : x.day = day; (simp only [if_pos hd] at hw; exact List.mem_append.1 hw); (simp only [if_neg hd] at hw; exact .inl hw)); rcases hw2 with hw2 | hw2; (obtain ⟨c2, hc2, hw3⟩ := List.mem_flatMap.1 hw2; exact pos_in (hg.g.mem (List.mem_of_mem_take (List.mem_filter.1 hc2).1)) w hw3); exact pos_in (hg.g.mem hxm) w (List.mem_of_mem_take hw2))
              generalize hsj : tur q (P0 ((pos x.bd).take (fl x k2 + m2))) = sj at htb hst i8_2 i9_2
              simp only [CP] at htb
              refine hx_skip ?_
              refine th_norm ?_
              refine hx_seq ?_
              refine hx_block ?_
              refine hx_seq ?_
              refine hx_seq ?_
              apply hx_draw2 Rel.same [] [] [] rfl (by decide +kernel) rfl
              refine LD.qq rfl rfl (by simp only [EN, Nat.reduceEqDiff, reduceIte, qv_move, k12_2, strEq, hB1.cell]; rfl) ?_
              refine LD.qq rfl rfl (by simp only [EN, Nat.reduceEqDiff, reduceIte, qv_move, i13_2, strEq, hB1.cell]; rfl) ?_
              refine LD.qq rfl rfl (by simp only [EN, Nat.reduceEqDiff, reduceIte, qv_indexAddr, strEq, hB1.cell, ha3]; (try simp (disch := omega) only [ix77, Int.toNat_natCast]); rfl) ?_
              refine LD.qq rfl rfl (by simp only [EN, Nat.reduceEqDiff, reduceIte, qv_fieldAddr, fa76_0, Nat.zero_add, Nat.reduceAdd, strEq, hB1.cell]; rfl) ?_
              refine LD.qq rfl rfl (by simp only [EN, Nat.reduceEqDiff, reduceIte, k0_2, k2_2, k4_2, k10_2, k11_2, k12_2, i8_2, i9_2, i13_2, strEq, hB1.cell, qv_load, ld24, Int.toNat_natCast, hr3]; rfl) ?_
              refine LD.qq rfl rfl (by simp only [EN, Nat.reduceEqDiff, reduceIte, qv_load, ld24, readN, AR, Nat.zero_add, Nat.reduceAdd, k4_2, strEq, hB1.cell]; rfl) ?_
              refine LD.qq rfl rfl (by simp only [EN, Nat.reduceEqDiff, reduceIte, qv_binOp, binv_neq, eqs24, Option.map_some, strEq, hB1.cell]; rfl) ?_
              refine LD.qq rfl rfl (by simp only [EN, Nat.reduceEqDiff, reduceIte, qv_move, strEq, hB1.cell]; rfl) ?_
              refine LD.cq rfl rfl (gd_at (t := 52) rfl (by simp only [EN, Nat.reduceEqDiff, reduceIte, k0_2, strEq, hB1.cell] <;> rfl)) (fun hg12_8 => by simp only [EN, Nat.reduceEqDiff, reduceIte, qv_move, k0_2, strEq, hB1.cell, hg12_8, GR]; rfl) ?_
              refine LD.cq rfl rfl (gd_at (t := 52) rfl (by simp only [EN, Nat.reduceEqDiff, reduceIte, k10_2, strEq, hB1.cell] <;> rfl)) (fun hg12_9 => by simp only [EN, Nat.reduceEqDiff, reduceIte, qv_move, k10_2, strEq, hB1.cell, hg12_9, GR]; rfl) ?_
              refine LD.cq rfl rfl (gd_at (t := 52) rfl (by simp only [EN, Nat.reduceEqDiff, reduceIte, strEq, hB1.cell] <;> rfl)) (fun hg12_10 => by have hq0 := hg12_10; (try simp only [BD] at hq0); simp only [EN, Nat.reduceEqDiff, reduceIte, qv_indexAddr, strEq, hB1.cell, hae, hg12_10, GR]; (try simp (disch := omega) only [ix22, Int.toNat_natCast]); rfl) ?_
              refine LD.cq rfl rfl (gd_at (t := 52) rfl (by simp only [EN, Nat.reduceEqDiff, reduceIte, strEq, hB1.cell] <;> rfl)) (fun hg12_11 => by simp only [EN, Nat.reduceEqDiff, reduceIte, qv_fieldAddr, fa45_1, Nat.zero_add, Nat.reduceAdd, strEq, hB1.cell, hg12_11, GR]; rfl) ?_
              refine LD.cq rfl rfl (gd_at (t := 52) rfl (by simp only [EN, Nat.reduceEqDiff, reduceIte, strEq, hB1.cell] <;> rfl)) (fun hg12_12 => by simp only [EN, Nat.reduceEqDiff, reduceIte, k0_2, k2_2, k4_2, k10_2, k11_2, k12_2, i8_2, i9_2, i13_2, strEq, hB1.cell, GR, hg12_12, qv_load, ld3, Int.toNat_natCast, hcd]; rfl) ?_
              refine LD.cq rfl rfl (gd_at (t := 52) rfl (by simp only [EN, Nat.reduceEqDiff, reduceIte, k2_2, strEq, hB1.cell] <;> rfl)) (fun hg12_13 => by simp only [EN, Nat.reduceEqDiff, reduceIte, qv_move, k2_2, strEq, hB1.cell, hg12_13, GR]; rfl) ?_
              refine LD.cq rfl rfl (gd_at (t := 52) rfl (by simp only [EN, Nat.reduceEqDiff, reduceIte, strEq, hB1.cell] <;> rfl)) (fun hg12_14 => by simp only [EN, Nat.reduceEqDiff, reduceIte, qv_binOp, binv_neq, eq3, Option.map_some, strEq, hB1.cell, hg12_14, GR]; rfl) ?_
              refine LD.qq rfl rfl (by simp only [EN, Nat.reduceEqDiff, reduceIte, qv_pick, pk_and, pk_or, GR, strEq, hB1.cell]; rfl) ?_
              refine LD.nil ?_
              rintro _ rfl -
              refine WL.nil ?_
              refine th_norm ?_
              refine hx_cond (by simp only [EN, Nat.reduceEqDiff, reduceIte, strEq, hB1.cell]; rfl) (fun hct60 => ?_) (fun hct60 => ?_)
              ·
                try simp only [BD] at hct60
                have hno : tur q (P0 ((pos x.bd).take (fl x k2 + m2 + 1))) = sj := (by rw [hst]; by_cases hd : x.day = day; (rw [if_pos hd, turS, if_neg (fun he => by subst he; simp [hd] at hct60)]); (rw [if_neg hd]))
                refine hx_exit ?_
                refine th_exit ?_
                refine bl_hit ?_
                refine th_norm ?_
                refine hx_region ?_
                refine WL.qq (by simp only [EN, Nat.reduceEqDiff, reduceIte, qv_move, i13_2, strEq, hB1.cell]; rfl) ?_
                refine WL.qq (by simp only [EN, Nat.reduceEqDiff, reduceIte, qv_binOp, binv_add, strEq, hB1.cell]; (try simp (disch := omega) only [w64, w8, wu64]); rfl) ?_
                refine WL.qq (by simp only [EN, Nat.reduceEqDiff, reduceIte, qv_assign, strEq, hB1.cell]; rfl) ?_
                refine WL.nil ?_
                refine th_norm ?_
                refine ⟨rfl, rfl, ?_, _, ?_, m2 + 1, rfl, ?_, ?_, ?_, ?_⟩  -- again 0 of loop 2
                · (repeat (first | exact Fr.refl _ _ | refine Fr.set rfl ?_ | refine Fr.put rfl ?_ | with_reducible refine Fr.put0 ?_))
                · omega
                · omega
                · simp only [EN, Nat.reduceEqDiff, reduceIte, k0_2, k2_2, k4_2, k10_2, k11_2, k12_2, i8_2, i9_2, i13_2, strEq, hB1.cell] <;> first | (rw [← Nat.add_assoc, hno]; done) | (rw [← Nat.add_assoc, hst]; done) | (rw [← Nat.add_assoc, hst]; simp only [cp]; done) | (rw [← Nat.add_assoc, hst]; simp only [cp]; rfl) | (rw [← Nat.add_assoc, hst]; rfl)
                · simp only [EN, Nat.reduceEqDiff, reduceIte, k0_2, k2_2, k4_2, k10_2, k11_2, k12_2, i8_2, i9_2, i13_2, strEq, hB1.cell] <;> first | (rw [← Nat.add_assoc, hno]; done) | (rw [← Nat.add_assoc, hst]; done) | (rw [← Nat.add_assoc, hst]; simp only [cp]; done) | (rw [← Nat.add_assoc, hst]; simp only [cp]; rfl) | (rw [← Nat.add_assoc, hst]; rfl)
                · simp only [EN, Nat.reduceEqDiff, reduceIte, k0_2, k2_2, k4_2, k10_2, k11_2, k12_2, i8_2, i9_2, i13_2, strEq, hB1.cell] <;> first | rfl | (congr 1; omega)
              ·
                try simp only [BD] at hct60
                have hqd : z.c = q ∧ x.day = day := ⟨ac_eq.2 (by simp at hct60; exact ⟨hct60.1.1, hct60.1.2.1, hct60.1.2.2⟩), (by simp at hct60; exact hct60.2)⟩
                rw [if_pos hqd.2, turS, if_pos hqd.1] at hst
                refine hx_skip ?_
                refine th_norm ?_
                refine hx_seq ?_
                refine hx_region ?_
                refine WL.qq (by simp only [EN, Nat.reduceEqDiff, reduceIte, qv_move, k12_2, strEq, hB1.cell]; rfl) ?_
                refine WL.qq (by simp only [EN, Nat.reduceEqDiff, reduceIte, qv_move, i13_2, strEq, hB1.cell]; rfl) ?_
                refine WL.qq (by simp only [EN, Nat.reduceEqDiff, reduceIte, qv_indexAddr, strEq, hB1.cell, ha3]; (try simp (disch := omega) only [ix77, Int.toNat_natCast]); rfl) ?_
                refine WL.qq (by simp only [EN, Nat.reduceEqDiff, reduceIte, qv_fieldAddr, fa76_1, Nat.zero_add, Nat.reduceAdd, strEq, hB1.cell]; rfl) ?_
                refine WL.qq (by simp only [EN, Nat.reduceEqDiff, reduceIte, k0_2, k2_2, k4_2, k10_2, k11_2, k12_2, i8_2, i9_2, i13_2, strEq, hB1.cell, qv_load, ld2, Int.toNat_natCast, hz3]; rfl) ?_
                refine WL.qq (by simp only [EN, Nat.reduceEqDiff, reduceIte, qv_binOp, binv_lss, strEq, hB1.cell]; rfl) ?_
                refine WL.nil ?_
                refine th_norm ?_
                refine hx_cond (by simp only [EN, Nat.reduceEqDiff, reduceIte, strEq, hB1.cell]; rfl) (fun hct66 => ?_) (fun hct66 => ?_)
                ·
                  try simp only [BD] at hct66
                  rw [if_pos hct66] at hst
                  refine hx_region ?_
                  refine WL.qq (by simp only [EN, Nat.reduceEqDiff, reduceIte, qv_move, i8_2, strEq, hB1.cell]; rfl) ?_
                  refine WL.qq (by simp only [EN, Nat.reduceEqDiff, reduceIte, qv_move, k12_2, strEq, hB1.cell]; rfl) ?_
                  refine WL.qq (by simp only [EN, Nat.reduceEqDiff, reduceIte, qv_move, i13_2, strEq, hB1.cell]; rfl) ?_
                  refine WL.qq (by simp only [EN, Nat.reduceEqDiff, reduceIte, qv_indexAddr, strEq, hB1.cell, ha3]; (try simp (disch := omega) only [ix77, Int.toNat_natCast]); rfl) ?_
                  refine WL.qq (by simp only [EN, Nat.reduceEqDiff, reduceIte, qv_fieldAddr, fa76_1, Nat.zero_add, Nat.reduceAdd, strEq, hB1.cell]; rfl) ?_
                  refine WL.qq (by simp only [EN, Nat.reduceEqDiff, reduceIte, k0_2, k2_2, k4_2, k10_2, k11_2, k12_2, i8_2, i9_2, i13_2, strEq, hB1.cell, qv_load, ld2, Int.toNat_natCast, hz3]; rfl) ?_
                  refine WL.qq (by simp only [EN, Nat.reduceEqDiff, reduceIte, qv_binOp, binv_sub, strEq, hB1.cell]; (try simp (disch := omega) only [w64, w8, wu64]); rfl) ?_
                  refine WL.qq (by refine qv_min2 (by simp only [EN, Nat.reduceEqDiff, reduceIte, strEq, hB1.cell] <;> rfl) (by simp only [EN, Nat.reduceEqDiff, reduceIte, strEq, hB1.cell] <;> rfl)) ?_
                  refine WL.qq (by simp only [EN, Nat.reduceEqDiff, reduceIte, qv_assign, strEq, hB1.cell]; rfl) ?_
                  refine WL.nil ?_
                  refine bl_norm ?_
                  refine th_norm ?_
                  refine hx_region ?_
                  refine WL.qq (by simp only [EN, Nat.reduceEqDiff, reduceIte, qv_move, i13_2, strEq, hB1.cell]; rfl) ?_
                  refine WL.qq (by simp only [EN, Nat.reduceEqDiff, reduceIte, qv_binOp, binv_add, strEq, hB1.cell]; (try simp (disch := omega) only [w64, w8, wu64]); rfl) ?_
                  refine WL.qq (by simp only [EN, Nat.reduceEqDiff, reduceIte, qv_assign, strEq, hB1.cell]; rfl) ?_
                  refine WL.nil ?_
                  refine th_norm ?_
                  refine ⟨rfl, rfl, ?_, _, ?_, m2 + 1, rfl, ?_, ?_, ?_, ?_⟩  -- again 1 of loop 2
                  · (repeat (first | exact Fr.refl _ _ | refine Fr.set rfl ?_ | refine Fr.put rfl ?_ | with_reducible refine Fr.put0 ?_))
                  · omega
                  · omega
                  · simp only [EN, Nat.reduceEqDiff, reduceIte, k0_2, k2_2, k4_2, k10_2, k11_2, k12_2, i8_2, i9_2, i13_2, strEq, hB1.cell] <;> first | (rw [← Nat.add_assoc, hno]; done) | (rw [← Nat.add_assoc, hst]; done) | (rw [← Nat.add_assoc, hst]; simp only [cp]; done) | (rw [← Nat.add_assoc, hst]; simp only [cp]; rfl) | (rw [← Nat.add_assoc, hst]; rfl)
                  · simp only [EN, Nat.reduceEqDiff, reduceIte, k0_2, k2_2, k4_2, k10_2, k11_2, k12_2, i8_2, i9_2, i13_2, strEq, hB1.cell] <;> first | (rw [← Nat.add_assoc, hno]; done) | (rw [← Nat.add_assoc, hst]; done) | (rw [← Nat.add_assoc, hst]; simp only [cp]; done) | (rw [← Nat.add_assoc, hst]; simp only [cp]; rfl) | (rw [← Nat.add_assoc, hst]; rfl)
                  · simp only [EN, Nat.reduceEqDiff, reduceIte, k0_2, k2_2, k4_2, k10_2, k11_2, k12_2, i8_2, i9_2, i13_2, strEq, hB1.cell] <;> first | rfl | (congr 1; omega)
                ·
                  try simp only [BD] at hct66
                  rw [if_neg hct66] at hst
                  refine hx_region ?_
                  refine WL.qq (by simp only [EN, Nat.reduceEqDiff, reduceIte, qv_move, i9_2, strEq, hB1.cell]; rfl) ?_
                  refine WL.qq (by simp only [EN, Nat.reduceEqDiff, reduceIte, qv_move, k12_2, strEq, hB1.cell]; rfl) ?_
                  refine WL.qq (by simp only [EN, Nat.reduceEqDiff, reduceIte, qv_move, i13_2, strEq, hB1.cell]; rfl) ?_
                  refine WL.qq (by simp only [EN, Nat.reduceEqDiff, reduceIte, qv_indexAddr, strEq, hB1.cell, ha3]; (try simp (disch := omega) only [ix77, Int.toNat_natCast]); rfl) ?_
                  refine WL.qq (by simp only [EN, Nat.reduceEqDiff, reduceIte, qv_fieldAddr, fa76_1, Nat.zero_add, Nat.reduceAdd, strEq, hB1.cell]; rfl) ?_
                  refine WL.qq (by simp only [EN, Nat.reduceEqDiff, reduceIte, k0_2, k2_2, k4_2, k10_2, k11_2, k12_2, i8_2, i9_2, i13_2, strEq, hB1.cell, qv_load, ld2, Int.toNat_natCast, hz3]; rfl) ?_
                  refine WL.qq (by simp only [EN, Nat.reduceEqDiff, reduceIte, qv_binOp, binv_add, strEq, hB1.cell]; (try simp (disch := omega) only [w64, w8, wu64]); rfl) ?_
                  refine WL.qq (by refine qv_min2 (by simp only [EN, Nat.reduceEqDiff, reduceIte, strEq, hB1.cell] <;> rfl) (by simp only [EN, Nat.reduceEqDiff, reduceIte, strEq, hB1.cell] <;> rfl)) ?_
                  refine WL.qq (by simp only [EN, Nat.reduceEqDiff, reduceIte, qv_assign, strEq, hB1.cell]; rfl) ?_
                  refine WL.nil ?_
                  refine bl_norm ?_
                  refine th_norm ?_
                  refine hx_region ?_
                  refine WL.qq (by simp only [EN, Nat.reduceEqDiff, reduceIte, qv_move, i13_2, strEq, hB1.cell]; rfl) ?_
                  refine WL.qq (by simp only [EN, Nat.reduceEqDiff, reduceIte, qv_binOp, binv_add, strEq, hB1.cell]; (try simp (disch := omega) only [w64, w8, wu64]); rfl) ?_
                  refine WL.qq (by simp only [EN, Nat.reduceEqDiff, reduceIte, qv_assign, strEq, hB1.cell]; rfl) ?_
                  refine WL.nil ?_
                  refine th_norm ?_
                  refine ⟨rfl, rfl, ?_, _, ?_, m2 + 1, rfl, ?_, ?_, ?_, ?_⟩  -- again 2 of loop 2
                  · (repeat (first | exact Fr.refl _ _ | refine Fr.set rfl ?_ | refine Fr.put rfl ?_ | with_reducible refine Fr.put0 ?_))
                  · omega
                  · omega
                  · simp only [EN, Nat.reduceEqDiff, reduceIte, k0_2, k2_2, k4_2, k10_2, k11_2, k12_2, i8_2, i9_2, i13_2, strEq, hB1.cell] <;> first | (rw [← Nat.add_assoc, hno]; done) | (rw [← Nat.add_assoc, hst]; done) | (rw [← Nat.add_assoc, hst]; simp only [cp]; done) | (rw [← Nat.add_assoc, hst]; simp only [cp]; rfl) | (rw [← Nat.add_assoc, hst]; rfl)
                  · simp only [EN, Nat.reduceEqDiff, reduceIte, k0_2, k2_2, k4_2, k10_2, k11_2, k12_2, i8_2, i9_2, i13_2, strEq, hB1.cell] <;> first | (rw [← Nat.add_assoc, hno]; done) | (rw [← Nat.add_assoc, hst]; done) | (rw [← Nat.add_assoc, hst]; simp only [cp]; done) | (rw [← Nat.add_assoc, hst]; simp only [cp]; rfl) | (rw [← Nat.add_assoc, hst]; rfl)
                  · simp only [EN, Nat.reduceEqDiff, reduceIte, k0_2, k2_2, k4_2, k10_2, k11_2, k12_2, i8_2, i9_2, i13_2, strEq, hB1.cell] <;> first | rfl | (congr 1; omega)
            ·
              try simp only [BD] at hct42
              have hfe : fl x (k2 + 1) = fl x k2 + m2 := (by rw [fl_step hy]; omega)
              refine hx_exit ?_
              refine th_exit ?_
              refine th_exit ?_
              refine bl_hit ?_
              refine bl_norm ?_
              refine th_norm ?_
              refine hx_region ?_
              refine WL.qq (by simp only [EN, Nat.reduceEqDiff, reduceIte, qv_move, k11_2, strEq, hB1.cell]; rfl) ?_
              refine WL.qq (by simp only [EN, Nat.reduceEqDiff, reduceIte, qv_binOp, binv_add, strEq, hB1.cell]; (try simp (disch := omega) only [w64, w8, wu64]); rfl) ?_
              refine WL.qq (by simp only [EN, Nat.reduceEqDiff, reduceIte, qv_assign, strEq, hB1.cell]; rfl) ?_
              refine WL.nil ?_
              refine th_norm ?_
              refine ⟨rfl, rfl, ?_, _, ?_, k2 + 1, rfl, ?_, ?_, ?_, ?_⟩  -- again 0 of loop 1
              · (repeat (first | exact Fr.refl _ _ | refine Fr.set rfl ?_ | refine Fr.put rfl ?_ | with_reducible refine Fr.put0 ?_ | refine Fr.trans ?_ (Fr.of hfr2 rfl)))
              · omega
              · omega
              · simp only [EN, Nat.reduceEqDiff, reduceIte, k0_2, k2_2, k4_2, k10_2, k11_2, k12_2, i8_2, i9_2, i13_2, strEq, hB1.cell] <;> rw [hfe]
              · simp only [EN, Nat.reduceEqDiff, reduceIte, k0_2, k2_2, k4_2, k10_2, k11_2, k12_2, i8_2, i9_2, i13_2, strEq, hB1.cell] <;> rw [hfe]
              · simp only [EN, Nat.reduceEqDiff, reduceIte, k0_2, k2_2, k4_2, k10_2, k11_2, k12_2, i8_2, i9_2, i13_2, strEq, hB1.cell] <;> first | rfl | (congr 1; omega)
        ·
          try simp only [BD] at hct27
          have hfe : fl x k2 = (pos x.bd).length := fl_end (by omega)
          rw [hfe, List.take_length, hP0e] at i8_1 i9_1
          refine hx_exit ?_
          refine th_exit ?_
          refine th_exit ?_
          refine bl_hit ?_
          refine bl_norm ?_
          refine th_norm ?_
          refine hx_region ?_
          refine WL.qq (by simp only [EN, Nat.reduceEqDiff, reduceIte, qv_move, k10_1, strEq, hB1.cell]; rfl) ?_
          refine WL.qq (by simp only [EN, Nat.reduceEqDiff, reduceIte, qv_binOp, binv_add, strEq, hB1.cell]; (try simp (disch := omega) only [w64, w8, wu64]); rfl) ?_
          refine WL.qq (by simp only [EN, Nat.reduceEqDiff, reduceIte, qv_assign, strEq, hB1.cell]; rfl) ?_
          refine WL.nil ?_
          refine th_norm ?_
          refine ⟨rfl, rfl, ?_, _, ?_, i + 1, rfl, ?_, ?_, ?_, ?_⟩  -- again 0 of loop 0
          · (repeat (first | exact Fr.refl _ _ | refine Fr.set rfl ?_ | refine Fr.put rfl ?_ | with_reducible refine Fr.put0 ?_ | refine Fr.trans ?_ (Fr.of hfr1 rfl)))
          · omega
          · omega
          · simp only [EN, Nat.reduceEqDiff, reduceIte, k0_1, k2_1, k4_1, k10_1, i8_1, i9_1, i11_1, strEq, hB1.cell] <;> first | rfl | (congr 1; omega)
          · simp only [EN, Nat.reduceEqDiff, reduceIte, k0_1, k2_1, k4_1, k10_1, i8_1, i9_1, i11_1, strEq, hB1.cell] <;> first | rfl | (congr 1; omega)
          · simp only [EN, Nat.reduceEqDiff, reduceIte, k0_1, k2_1, k4_1, k10_1, i8_1, i9_1, i11_1, strEq, hB1.cell] <;> first | rfl | (congr 1; omega)
    ·
      try simp only [BD] at hct17
      have hie : l.take i = l := List.take_of_length_le (by rw [← hxl, List.length_map]; omega)
      rw [hie] at i8_0 i9_0
      refine hx_exit ?_
      refine th_exit ?_
      refine th_exit ?_
      refine bl_hit ?_
      refine th_norm ?_
      refine hx_seq ?_
      refine hx_region ?_
      refine WL.qq (by simp only [EN, Nat.reduceEqDiff, reduceIte, qv_move, i8_0, strEq, hB1.cell]; rfl) ?_
      refine WL.qq (by simp only [EN, Nat.reduceEqDiff, reduceIte, qv_move, i9_0, strEq, hB1.cell]; rfl) ?_
      refine WL.qq (by simp only [EN, Nat.reduceEqDiff, reduceIte, qv_assign, strEq, hB1.cell]; rfl) ?_
      refine WL.qq (by simp only [EN, Nat.reduceEqDiff, reduceIte, qv_assign, strEq, hB1.cell]; rfl) ?_
      refine WL.nil ?_
      refine th_norm ?_
      refine hx_ret ?_
      refine fin_ret [.tmp 6, .tmp 7] rfl rfl (by simp only [EN, Nat.reduceEqDiff, reduceIte, resv, k0_0, k2_0, k4_0, i8_0, i9_0, i10_0, strEq, hB1.cell]; rfl) ?_  -- ret 0 r16
      exact ⟨rfl, (hx1)⟩
end GL


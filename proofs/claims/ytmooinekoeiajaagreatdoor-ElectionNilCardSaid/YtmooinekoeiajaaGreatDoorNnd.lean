/- Part 4 of the texts of one law: what it needs of the logic of heaps, of the walks, of the plain facts. -/
import Derived.Test.YtmooinekoeiajaaGreatDoorNnc
set_option linter.unusedSimpArgs false
set_option linter.unusedVariables false
set_option linter.unnecessarySimpa false
namespace GL
open Go Go.Proofs
set_option maxRecDepth 8000
abbrev zRE : Value := .agg #[.slice none 0 0, .slice none 0 0, iV 0, iV 0, iV 0, .slice none 0 0, .bool false]
def RowZ (h : Heap) (n : Nat) (rows : List SV) : Prop := ∀ v ∈ rows, v.n = n ∧ SlR tyI 1 intL h v.a (List.replicate n (0 : Int))
section
variable {h h' : Heap} {n : Nat} {rows : List SV}
theorem RowZ.ext (hr : RowZ h n rows) (hx : Ext h h') : RowZ h' n rows := fun v hv => by
  exact ⟨(hr v hv).1, (hr v hv).2.ext hx⟩
theorem RowZ.wr {b : Nat} {o : Obj} {c : Array Value} {T : TypeId} (hr : RowZ h n rows) (hw : Wr h h' b o) (hb : Has h b (.cells c T)) (hT : T ≠ tyI) : RowZ h' n rows := fun v hv => by
  exact ⟨(hr v hv).1, (hr v hv).2.wr hw hb hT⟩
end
end GL
namespace GL
open Go Go.Proofs
set_option maxRecDepth 8000
set_option maxHeartbeats 2000000 in
theorem c_new (al : Option Addr) (l : List SI) (cl : Nat) (ao : Option Addr) (os : List SI) (co : Nat) (s : ByteArray) (d m : Int) (hl : l.length ≤ 1000000) (hol : os.length ≤ 1000000) (hoc : os.length ≤ co) (hb : ∀ x ∈ os, x.s.size ≤ 9223372036854775807) (hon : ao = none → co = 0)
    {h : Heap} (hs : SlG 2 siL h al l) (ho : SlG 2 siL h ao os) :
    HCalls Tryz.prog 29 #[.slice al l.length cl, .slice ao os.length co, .string s, .agg #[iV d, iV m]] h fun v h' => Ext h h' ∧
      ((erN l os s d m ≠ 0 ∧ v = .tuple #[.pointer none, iV (erN l os s d m)]) ∨ (erN l os s d m = 0 ∧ ∃ p b vh vo, v = .tuple #[.pointer (some ⟨p, 0, none⟩), iV 0] ∧ IsE h' h.size p b vh vo (newE l os s d m))) := by
  refine hcalls2 Tryz.func29 rfl (by decide +kernel) (by simp only [Tryz.ntmps29]; exact of_decide_eq_true rfl) ?_
  intro e hin
  have e0 := hin 0 _ rfl
  have e1 := hin 1 _ rfl
  have e2 := hin 2 _ rfl
  have e3 := hin 3 _ rfl
  refine hx_seq (hx_region ?_)
  refine WL.box2 (by simp only [EN, Nat.reduceEqDiff, reduceIte, Value.cells, e3]; rfl) ?_
  intro h1 B1 hx1 hlt1 hB1
  replace hs := hs.ext hx1
  replace ho := ho.ext hx1
  iterate 2 refine WL.qq (by simp only [EN, Nat.reduceEqDiff, reduceIte, qv_assign, hB1.cell]; rfl) ?_
  refine WL.nil (th_norm (hx_seq (hx_seq (hx_region ?_))))
  refine WL.qq (by simp only [EN, Nat.reduceEqDiff, reduceIte, qv_move, e0, hB1.cell]; rfl) ?_
  refine WL.cg Tryz.call47 (by simp only [EN, Nat.reduceEqDiff, reduceIte, AR, hB1.cell]; exact c_chkH al l cl hl hs) ?_
  intro h2 hx2
  replace hs := hs.ext hx2
  replace ho := ho.ext hx2
  replace hB1 := hB1.ext hx2
  refine WL.qq (by simp only [EN, Nat.reduceEqDiff, reduceIte, qv_move, e1, hB1.cell]; rfl) ?_
  refine WL.cg Tryz.call48 (by simp only [EN, Nat.reduceEqDiff, reduceIte, AR, hB1.cell]; exact c_chkO ao os co hol hoc hb ho) ?_
  intro h3 hx3
  replace hs := hs.ext hx3
  replace ho := ho.ext hx3
  replace hB1 := hB1.ext hx3
  refine WL.lit2 #[(.int .i64 0), (.int .i64 0)] Tryz.underlying108 sz46 zr46 (by decide) (by kernel_rfl) ⟨_, (by simp only [EN, Nat.reduceEqDiff, reduceIte, AR, hB1.cell]; simp [Instr.fill, Value.cells]; rfl), rfl⟩ ?_
  intro h4 B4 hx4 hlt4 hB4
  replace hs := hs.ext hx4
  replace ho := ho.ext hx4
  replace hB1 := hB1.ext hx4
  iterate 2 refine WL.qq (by simp only [EN, Nat.reduceEqDiff, reduceIte, qv_len, ln108, AR, hB1.cell, hB4.cell, qv_move]; rfl) ?_
  refine WL.nil (th_norm (hx_block ?_))
  refine hx_loopS [8, 9, 11, 22, 23, 24, 25, 26, 27, 28, 29] (fun k e => ∃ (i : Nat), 2 - i = k ∧ (i ≤ 2) ∧ ((0 < i → erH l = 0)) ∧ ((1 < i → erO os = 0)) ∧ e 22 = .int .i64 i) _ ⟨0, rfl, ?_, ?_, ?_, ?_⟩ ?_
  · omega
  · intro h9; omega
  · intro h9; omega
  · simp only [EN, Nat.reduceEqDiff, reduceIte, e0, e1, e2, e3, hB1.cell, hB4.cell] <;> rfl
  ·
   rintro k e0L hfr0 ⟨i, rfl, hi, hH, hO, i22_0⟩
   have k0_0 := hfr0 0 rfl; try simp only [EN, Nat.reduceEqDiff, reduceIte, e0, hB1.cell, hB4.cell] at k0_0
   have k1_0 := hfr0 1 rfl; try simp only [EN, Nat.reduceEqDiff, reduceIte, e1, hB1.cell, hB4.cell] at k1_0
   have k2_0 := hfr0 2 rfl; try simp only [EN, Nat.reduceEqDiff, reduceIte, e2, hB1.cell, hB4.cell] at k2_0
   have k7_0 := hfr0 7 rfl; try simp only [EN, Nat.reduceEqDiff, reduceIte, hB1.cell, hB4.cell] at k7_0
   have k20_0 := hfr0 20 rfl; try simp only [EN, Nat.reduceEqDiff, reduceIte, hB1.cell, hB4.cell] at k20_0
   have k21_0 := hfr0 21 rfl; try simp only [EN, Nat.reduceEqDiff, reduceIte, hB1.cell, hB4.cell] at k21_0
   refine hx_seq (hx_region ?_)
   refine WL.qq (by simp only [EN, Nat.reduceEqDiff, reduceIte, qv_binOp, binv_lss, k21_0, i22_0, hB1.cell, hB4.cell]; rfl) ?_
   refine WL.nil (th_norm (hx_seq ?_))
   refine hx_cond (by simp only [EN, Nat.reduceEqDiff, reduceIte, hB1.cell, hB4.cell]; rfl) (fun hct23 => ?_) (fun hct23 => ?_)
   ·
    try simp only [BD] at hct23
    refine hx_skip (th_norm (hx_seq (hx_block (hx_seq ?_))))
    rcases (show i = 0 ∨ i = 1 by omega) with rfl | rfl
    ·
     refine hx_region ?_
     refine WL.qq (by simp only [EN, Nat.reduceEqDiff, reduceIte, qv_indexAddr, k20_0, i22_0, hB1.cell, hB4.cell]; (try simp (disch := omega) only [ix108, Int.toNat_natCast]); rfl) ?_
     iterate 2 refine WL.qq (by simp only [EN, Nat.reduceEqDiff, reduceIte, qv_load, ld46, readN, AR, Nat.zero_add, Nat.reduceAdd, hB1.cell, hB4.cell, qv_assign]; rfl) ?_
     refine WL.nil (th_norm (hx_seq (hx_region ?_)))
     iterate 2 refine WL.qq (by simp only [EN, Nat.reduceEqDiff, reduceIte, qv_move, hB1.cell, hB4.cell, qv_binOp, binv_neq, eq46, Option.map_some]; rfl) ?_
     refine WL.nil (th_norm ?_)
     refine hx_cond (by simp only [EN, Nat.reduceEqDiff, reduceIte, hB1.cell, hB4.cell]; rfl) (fun hct27 => ?_) (fun hct27 => ?_)
     ·
      try simp only [BD] at hct27
      refine hx_seq (hx_region ?_)
      iterate 3 refine WL.qq (by simp only [EN, Nat.reduceEqDiff, reduceIte, qv_move, hB1.cell, hB4.cell, qv_assign]; rfl) ?_
      refine WL.nil (th_norm (hx_ret (bl_ret (th_ret (th_ret (bl_ret (th_ret ?_)))))))
      refine fin_ret [.tmp 8, .tmp 9] rfl rfl (by simp only [EN, Nat.reduceEqDiff, reduceIte, resv, k0_0, k1_0, k2_0, k7_0, k20_0, k21_0, i22_0, hB1.cell, hB4.cell]; rfl) ?_
      have he : erN l os s d m = erH l := (by unfold erN; rw [if_pos (by omega)])
      exact ⟨((hx1).trans ((hx2).trans ((hx3).trans (hx4)))), .inl ⟨by rw [he]; omega, by rw [he]; rfl⟩⟩
     ·
      try simp only [BD] at hct27
      refine hx_skip (bl_norm (th_norm (hx_region ?_)))
      iterate 2 refine WL.qq (by simp only [EN, Nat.reduceEqDiff, reduceIte, qv_binOp, binv_add, i22_0, hB1.cell, hB4.cell, qv_move]; (try simp (disch := omega) only [w64, w8, wu64]); rfl) ?_
      refine WL.nil (th_norm ?_)
      refine ⟨rfl, rfl, ?_, _, ?_, 1, rfl, ?_, ?_, ?_, ?_⟩
      · (repeat (first | exact Fr.refl _ _ | refine Fr.set rfl ?_ | refine Fr.put rfl ?_ | with_reducible refine Fr.put0 ?_))
      · omega
      · omega
      · intro _; omega
      · intro h9; omega
      · simp only [EN, Nat.reduceEqDiff, reduceIte, k0_0, k1_0, k2_0, k7_0, k20_0, k21_0, i22_0, hB1.cell, hB4.cell] <;> first | rfl | (congr 1; omega)
    ·
     refine hx_region ?_
     refine WL.qq (by simp only [EN, Nat.reduceEqDiff, reduceIte, qv_indexAddr, k20_0, i22_0, hB1.cell, hB4.cell]; (try simp (disch := omega) only [ix108, Int.toNat_natCast]); rfl) ?_
     iterate 2 refine WL.qq (by simp only [EN, Nat.reduceEqDiff, reduceIte, qv_load, ld46, readN, AR, Nat.zero_add, Nat.reduceAdd, hB1.cell, hB4.cell, qv_assign]; rfl) ?_
     refine WL.nil (th_norm (hx_seq (hx_region ?_)))
     iterate 2 refine WL.qq (by simp only [EN, Nat.reduceEqDiff, reduceIte, qv_move, hB1.cell, hB4.cell, qv_binOp, binv_neq, eq46, Option.map_some]; rfl) ?_
     refine WL.nil (th_norm ?_)
     refine hx_cond (by simp only [EN, Nat.reduceEqDiff, reduceIte, hB1.cell, hB4.cell]; rfl) (fun hct27 => ?_) (fun hct27 => ?_)
     ·
      try simp only [BD] at hct27
      refine hx_seq (hx_region ?_)
      iterate 3 refine WL.qq (by simp only [EN, Nat.reduceEqDiff, reduceIte, qv_move, hB1.cell, hB4.cell, qv_assign]; rfl) ?_
      refine WL.nil (th_norm (hx_ret (bl_ret (th_ret (th_ret (bl_ret (th_ret ?_)))))))
      refine fin_ret [.tmp 8, .tmp 9] rfl rfl (by simp only [EN, Nat.reduceEqDiff, reduceIte, resv, k0_0, k1_0, k2_0, k7_0, k20_0, k21_0, i22_0, hB1.cell, hB4.cell]; rfl) ?_
      have he : erN l os s d m = erO os := (by unfold erN; rw [if_neg (by have := hH (by omega); omega), if_pos (by omega)])
      exact ⟨((hx1).trans ((hx2).trans ((hx3).trans (hx4)))), .inl ⟨by rw [he]; omega, by rw [he]; rfl⟩⟩
     ·
      try simp only [BD] at hct27
      refine hx_skip (bl_norm (th_norm (hx_region ?_)))
      iterate 2 refine WL.qq (by simp only [EN, Nat.reduceEqDiff, reduceIte, qv_binOp, binv_add, i22_0, hB1.cell, hB4.cell, qv_move]; (try simp (disch := omega) only [w64, w8, wu64]); rfl) ?_
      refine WL.nil (th_norm ?_)
      refine ⟨rfl, rfl, ?_, _, ?_, 2, rfl, ?_, ?_, ?_, ?_⟩
      · (repeat (first | exact Fr.refl _ _ | refine Fr.set rfl ?_ | refine Fr.put rfl ?_ | with_reducible refine Fr.put0 ?_))
      · omega
      · omega
      · intro _; exact hH (by omega)
      · intro _; omega
      · simp only [EN, Nat.reduceEqDiff, reduceIte, k0_0, k1_0, k2_0, k7_0, k20_0, k21_0, i22_0, hB1.cell, hB4.cell] <;> first | rfl | (congr 1; omega)
   ·
    try simp only [BD] at hct23
    have h1 := hH (by omega); have h2 := hO (by omega); have oh := erH_0.1 h1; have oo := erO_0 h2
    have heN : erN l os s d m = if idxS s os < 0 then 9 else if capE os (idxS s os) ≠ 0 then 11 else if clkE d m ≠ 0 then 28 else 0 := (by unfold erN; rw [h1, h2]; rfl)
    refine hx_exit (th_exit (th_exit (bl_hit (th_norm (hx_seq (hx_region ?_))))))
    iterate 2 refine WL.qq (by simp only [EN, Nat.reduceEqDiff, reduceIte, qv_move, k1_0, hB1.cell, hB4.cell, k2_0]; rfl) ?_
    refine WL.cg Tryz.call44 (by simp only [EN, Nat.reduceEqDiff, reduceIte, AR, hB1.cell, hB4.cell]; exact c_find s ao os co hol ho) ?_
    intro h5 hx5
    replace hs := hs.ext hx5
    replace ho := ho.ext hx5
    replace hB1 := hB1.ext hx5
    replace hB4 := hB4.ext hx5
    refine WL.qq (by simp only [EN, Nat.reduceEqDiff, reduceIte, qv_assign, hB1.cell, hB4.cell]; rfl) ?_
    refine WL.nil (th_norm (hx_seq (hx_region ?_)))
    refine WL.qq (by simp only [EN, Nat.reduceEqDiff, reduceIte, qv_load, ld49, readN, AR, Nat.zero_add, Nat.reduceAdd, k7_0, hB1.cell, hB4.cell]; rfl) ?_
    refine WL.ce Tryz.call49 (by simp only [EN, Nat.reduceEqDiff, reduceIte, AR, hB1.cell, hB4.cell]; exact c_fclock d m _) ?_
    rintro _ h6 ⟨hx6, sx, rfl⟩
    replace hs := hs.ext hx6
    replace ho := ho.ext hx6
    replace hB1 := hB1.ext hx6
    replace hB4 := hB4.ext hx6
    simp only [put_some]
    iterate 5 refine WL.qq (by simp only [EN, Nat.reduceEqDiff, reduceIte, qv_move, hB1.cell, hB4.cell, qv_extract, AR, qv_assign]; rfl) ?_
    refine WL.nil (th_norm (hx_seq (hx_block (hx_seq (hx_region ?_)))))
    iterate 3 refine WL.qq (by simp only [EN, Nat.reduceEqDiff, reduceIte, qv_move, hB1.cell, hB4.cell, qv_binOp, binv_lss, qv_assign]; rfl) ?_
    refine WL.nil (th_norm ?_)
    refine hx_cond (by simp only [EN, Nat.reduceEqDiff, reduceIte, hB1.cell, hB4.cell]; rfl) (fun hct38 => ?_) (fun hct38 => ?_)
    ·
     try simp only [BD] at hct38
     refine hx_seq (hx_region ?_)
     iterate 2 refine WL.qq (by simp only [EN, Nat.reduceEqDiff, reduceIte, qv_assign, hB1.cell, hB4.cell]; rfl) ?_
     refine WL.nil (th_norm (hx_ret (bl_ret (th_ret ?_))))
     refine fin_ret [.tmp 8, .tmp 9] rfl rfl (by simp only [EN, Nat.reduceEqDiff, reduceIte, resv, k0_0, k1_0, k2_0, k7_0, k20_0, k21_0, i22_0, hB1.cell, hB4.cell]; rfl) ?_
     have he : erN l os s d m = 9 := (by rw [heN, if_pos (by omega)])
     exact ⟨((hx1).trans ((hx2).trans ((hx3).trans ((hx4).trans ((hx5).trans (hx6)))))), .inl ⟨by rw [he]; decide, by rw [he]; rfl⟩⟩
    ·
     try simp only [BD] at hct38
     obtain ⟨i9, x9, h91, hx9, _⟩ : ∃ i x, idxS s os = (i : Nat) ∧ os[i]? = some x ∧ x.s = s ∧ ∀ y ∈ os.take i, y.s ≠ s := (idxS_cases s os).resolve_left (fun hh => by omega)
     have hi9 := (List.getElem?_eq_some_iff.1 hx9).1; have hq9 := oo.q x9 (List.mem_of_getElem? hx9); have hcap : capE os (idxS s os) = x9.n := (by unfold capE; rw [h91, Int.toNat_natCast, hx9]; rfl)
     rw [if_neg (by omega), hcap] at heN; obtain ⟨b1, o1, ha1, _, _, hr3⟩ := si_rd ho hx9
     refine hx_seq (hx_region ?_)
     iterate 3 refine WL.qq (by simp only [EN, Nat.reduceEqDiff, reduceIte, qv_move, k1_0, hB1.cell, hB4.cell, qv_indexAddr, ha1, h91]; (try simp (disch := omega) only [ix81, Int.toNat_natCast]); rfl) ?_
     refine WL.qq (by simp only [EN, Nat.reduceEqDiff, reduceIte, qv_fieldAddr, fa80_1, Nat.zero_add, Nat.reduceAdd, hB1.cell, hB4.cell]; rfl) ?_
     refine WL.qq (by simp only [EN, Nat.reduceEqDiff, reduceIte, k0_0, k1_0, k2_0, k7_0, k20_0, k21_0, i22_0, hB1.cell, hB4.cell, qv_load, ld2, Int.toNat_natCast, hr3]; rfl) ?_
     iterate 2 refine WL.qq (by simp only [EN, Nat.reduceEqDiff, reduceIte, qv_binOp, binv_neq, eq2, Option.map_some, hB1.cell, hB4.cell, qv_assign]; rfl) ?_
     refine WL.nil (th_norm ?_)
     refine hx_cond (by simp only [EN, Nat.reduceEqDiff, reduceIte, hB1.cell, hB4.cell]; rfl) (fun hct41 => ?_) (fun hct41 => ?_)
     ·
      try simp only [BD] at hct41
      refine hx_seq (hx_region ?_)
      iterate 2 refine WL.qq (by simp only [EN, Nat.reduceEqDiff, reduceIte, qv_assign, hB1.cell, hB4.cell]; rfl) ?_
      refine WL.nil (th_norm (hx_ret (bl_ret (th_ret ?_))))
      refine fin_ret [.tmp 8, .tmp 9] rfl rfl (by simp only [EN, Nat.reduceEqDiff, reduceIte, resv, k0_0, k1_0, k2_0, k7_0, k20_0, k21_0, i22_0, hB1.cell, hB4.cell]; rfl) ?_
      have he : erN l os s d m = 11 := (by rw [heN, if_pos (by omega)])
      exact ⟨((hx1).trans ((hx2).trans ((hx3).trans ((hx4).trans ((hx5).trans (hx6)))))), .inl ⟨by rw [he]; decide, by rw [he]; rfl⟩⟩
     ·
      try simp only [BD] at hct41
      rw [if_neg (by omega)] at heN
      refine hx_seq (hx_region ?_)
      iterate 3 refine WL.qq (by simp only [EN, Nat.reduceEqDiff, reduceIte, qv_move, hB1.cell, hB4.cell, qv_binOp, binv_neq, eq46, Option.map_some, qv_assign]; rfl) ?_
      refine WL.nil (th_norm ?_)
      refine hx_cond (by simp only [EN, Nat.reduceEqDiff, reduceIte, hB1.cell, hB4.cell]; rfl) (fun hct48 => ?_) (fun hct48 => ?_)
      ·
       try simp only [BD] at hct48
       refine hx_seq (hx_region ?_)
       iterate 2 refine WL.qq (by simp only [EN, Nat.reduceEqDiff, reduceIte, qv_assign, hB1.cell, hB4.cell]; rfl) ?_
       refine WL.nil (th_norm (hx_ret (bl_ret (th_ret ?_))))
       refine fin_ret [.tmp 8, .tmp 9] rfl rfl (by simp only [EN, Nat.reduceEqDiff, reduceIte, resv, k0_0, k1_0, k2_0, k7_0, k20_0, k21_0, i22_0, hB1.cell, hB4.cell]; rfl) ?_
       have he : erN l os s d m = 28 := (by rw [heN, if_pos (by omega)])
       exact ⟨((hx1).trans ((hx2).trans ((hx3).trans ((hx4).trans ((hx5).trans (hx6)))))), .inl ⟨by rw [he]; decide, by rw [he]; rfl⟩⟩
      ·
       try simp only [BD] at hct48
       have hez : erN l os s d m = 0 := (by rw [heN, if_neg (by omega)])
       refine hx_skip (bl_norm (th_norm (hx_seq (hx_region ?_))))
       refine WL.qq (by simp only [EN, Nat.reduceEqDiff, reduceIte, qv_move, k0_0, hB1.cell, hB4.cell]; rfl) ?_
       refine WL.ce Tryz.call51 (by simp only [EN, Nat.reduceEqDiff, reduceIte, AR, hB1.cell, hB4.cell]; exact c_hValues al cl l _) ?_
       rintro _ h7 ⟨hx7, Bv, rfl, hBv⟩
       replace hs := hs.ext hx7
       replace ho := ho.ext hx7
       replace hB1 := hB1.ext hx7
       replace hB4 := hB4.ext hx7
       simp only [put_some]
       have hz7 := Ext.size ((hx1).trans ((hx2).trans ((hx3).trans ((hx4).trans ((hx5).trans ((hx6).trans (hx7)))))))
       refine WL.ce Tryz.call50 (by simp only [EN, Nat.reduceEqDiff, reduceIte, AR, hB1.cell, hB4.cell]; exact c_hSorted Bv al cl l hl hBv hs) ?_
       rintro _ h8 ⟨hx8, sL, hsp, hss, hoh⟩
       replace hs := hs.ext hx8
       replace ho := ho.ext hx8
       replace hB1 := hB1.ext hx8
       replace hB4 := hB4.ext hx8
       replace hBv := hBv.ext hx8
       simp only [put_some]
       obtain rfl := ordH_uni hsp oh.nd hss
       obtain ⟨a15, c15, rfl⟩ := hoh.slice
       refine WL.qq (by simp only [EN, Nat.reduceEqDiff, reduceIte, qv_assign, hB1.cell, hB4.cell]; rfl) ?_
       refine WL.nil (th_norm (hx_seq ?_))
       apply hx_draw2 Rel.grows [7, 8, 9] [2, 5] [(2, Spec.own h.size tyO 2 os.length (os.flatMap siL)), (5, Spec.mN pkV iV h.size [])] rfl (by decide +kernel) rfl
       iterate 2 refine LD.qq rfl rfl (by simp only [EN, Nat.reduceEqDiff, reduceIte, qv_move, hB1.cell, hB4.cell, k1_0]; rfl) ?_
       refine LD.es rfl rfl (by intro hD hr hf; have hx : Ext _ _ := hr; have hs := hs.ext hx; have ho := ho.ext hx; have hB1 := hB1.ext hx; have hB4 := hB4.ext hx; have hBv := hBv.ext hx; have hoh := hoh.ext hx; exact EOp.mono (e_call Tryz.call31 (by simp only [EN, Nat.reduceEqDiff, reduceIte, k0_0, k1_0, k2_0, k7_0, k20_0, k21_0, i22_0, hB1.cell, hB4.cell, List.map_toArray, List.map_cons, List.map_nil]; exact c_clO ao co _ hol ho hon)) (fun v h' hh => by obtain ⟨h1, h2⟩ := hh; obtain ⟨a', c', rfl⟩ := h2.slice; exact ⟨h1, ⟨a', c', rfl⟩, h2.base (Nat.le_trans (Ext.size ((hx1).trans ((hx2).trans ((hx3).trans ((hx4).trans ((hx5).trans ((hx6).trans ((hx7).trans (hx8))))))))) hx.size)⟩)) ?_
       intro u16_2 w16_2
       obtain ⟨a2, c2, rfl⟩ := w16_2
       iterate 2 refine LD.qq rfl rfl (by simp only [EN, Nat.reduceEqDiff, reduceIte, qv_move, hB1.cell, hB4.cell, qv_load, ld49, readN, AR, Nat.zero_add, Nat.reduceAdd, k7_0]; rfl) ?_
       refine LD.es rfl rfl (by intro hD hr hf; have hx : Ext _ _ := hr; have hs := hs.ext hx; have ho := ho.ext hx; have hB1 := hB1.ext hx; have hB4 := hB4.ext hx; have hBv := hBv.ext hx; have hoh := hoh.ext hx; exact EOp.mono e_makeMap (fun v h' hh => by obtain ⟨B, rfl, hn⟩ := hh; exact ⟨hn.ext, ⟨B, Nat.le_trans (Nat.le_trans (Ext.size ((hx1).trans ((hx2).trans ((hx3).trans ((hx4).trans ((hx5).trans ((hx6).trans ((hx7).trans (hx8))))))))) hx.size) hn.fresh, rfl⟩, fun B' hB' => by cases hB'; exact MapT.new hn.at_⟩)) ?_
       intro u16_5 w16_5
       obtain ⟨B5, hlt5, rfl⟩ := w16_5
       refine LD.qq rfl rfl (by refine qv_bld (by simp only [EN, Nat.reduceEqDiff, reduceIte, AR, hB1.cell, hB4.cell] <;> rfl) (by rw [bl85]; simp [Instr.fill, Value.cells]; rfl)) ?_
       refine LD.skip rfl ?_
       refine LD.skip rfl ?_
       refine LD.skip rfl ?_
       refine LD.nil ?_
       rintro h9 hx9 hF16
       replace hx9 : Ext _ _ := hx9
       replace hs := hs.ext hx9
       replace ho := ho.ext hx9
       replace hB1 := hB1.ext hx9
       replace hB4 := hB4.ext hx9
       replace hBv := hBv.ext hx9
       replace hoh := hoh.ext hx9
       have ho2 := hF16 (2, .slice a2 os.length c2) (by simp) _ rfl; have hm5 := hF16 (5, .map (some B5)) (by simp) _ rfl B5 rfl; have hsz := Ext.size ((hx1).trans ((hx2).trans ((hx3).trans ((hx4).trans ((hx5).trans ((hx6).trans ((hx7).trans ((hx8).trans (hx9)))))))))
       refine WL.box2 (by simp only [EN, Nat.reduceEqDiff, reduceIte, Value.cells, hB1.cell, hB4.cell]; rfl) ?_
       intro h10 B10 hx10 hlt10 hB10
       replace hs := hs.ext hx10
       replace ho := ho.ext hx10
       replace hB1 := hB1.ext hx10
       replace hB4 := hB4.ext hx10
       replace hBv := hBv.ext hx10
       replace hoh := hoh.ext hx10
       iterate 2 refine WL.qq (by simp only [EN, Nat.reduceEqDiff, reduceIte, qv_assign, hB1.cell, hB4.cell, hB10.cell]; rfl) ?_
       refine WL.nil (th_norm (hx_ret ?_))
       refine fin_ret [.tmp 8, .tmp 9] rfl rfl (by simp only [EN, Nat.reduceEqDiff, reduceIte, resv, k0_0, k1_0, k2_0, k7_0, k20_0, k21_0, i22_0, hB1.cell, hB4.cell, hB10.cell]; rfl) ?_
       exact ⟨((hx1).trans ((hx2).trans ((hx3).trans ((hx4).trans ((hx5).trans ((hx6).trans ((hx7).trans ((hx8).trans ((hx9).trans (hx10)))))))))), .inr ⟨hez, B10, B5, .slice a15 (ordH l).length c15, .slice a2 os.length c2, rfl, ⟨by have h9 := hB10; rw [h91] at h9; simpa only [newE, h91, Int.toNat_natCast] using h9, hoh.base hz7, ho2.ext hx10, hm5.ext hx10, ⟨by omega, hlt5⟩⟩⟩⟩
end GL
namespace GL
open Go Go.Proofs
set_option maxRecDepth 8000
abbrev svV (r : SV) : Value := .slice r.a r.n r.c
structure RowO (h : Heap) (N : Nat) (E : EL) (k : Nat) (rows : List SV) : Prop where
  len : rows.length = k
  own : ∀ (j : Nat) (r : SV) (x : SI), rows[j]? = some r → E.hs[j]? = some x → r.n = E.os.length ∧ Own h N tyI 1 (svV r) E.os.length ((rowM E x).flatMap intL)
  ap : ∀ (i j : Nat) (r r' : SV), rows[i]? = some r → rows[j]? = some r' → i ≠ j → ∀ c, (svV r).ownBlock = some c → (svV r').ownBlock ≠ some c
section
variable {h h' : Heap} {N k : Nat} {E : EL} {rows : List SV}
theorem RowO.nil : RowO h N E 0 [] := ⟨rfl, fun j r x hj => by simp at hj, fun i j r r' hi => by simp at hi⟩
theorem RowO.ext (hr : RowO h N E k rows) (hx : Ext h h') : RowO h' N E k rows := ⟨hr.len, fun j r x hj hx2 => ⟨(hr.own j r x hj hx2).1, (hr.own j r x hj hx2).2.ext hx⟩, hr.ap⟩
theorem RowO.wr {b : Nat} {o : Obj} {c : Array Value} {T : TypeId} (hr : RowO h N E k rows) (hw : Wr h h' b o) (hb : Has h b (.cells c T)) (hT : T ≠ tyI) : RowO h' N E k rows :=
  ⟨hr.len, fun j r x hj hx2 => ⟨(hr.own j r x hj hx2).1, (hr.own j r x hj hx2).2.keep fun c hc => hw.same c fun hh => by
    subst hh
    exact (hr.own j r x hj hx2).2.ncell hb hT hc⟩, hr.ap⟩
end
end GL
namespace GL
open Go Go.Proofs
set_option maxRecDepth 8000
section
variable {t S : Nat} {ws : List Nat}
def Free (t S : Nat) (ws : List Nat) (k i : Nat) : Prop := i ∉ ((ordP (rst t S ws)).take k).map SP.i
def Bst (t S : Nat) (ws : List Nat) (k i : Nat) (b : Int) : Prop :=
  (b = -1 ∧ ∀ j, j < i → ¬ Free t S ws k j) ∨ ∃ q ∈ rst t S ws, b = q.i ∧ q.i < i ∧ Free t S ws k q.i ∧ ∀ z ∈ rst t S ws, z.i < i → Free t S ws k z.i → ¬ pLt z q
theorem Bst.zero {k : Nat} : Bst t S ws k 0 (-1) := .inl ⟨rfl, fun j hj => by omega⟩
theorem Bst.skip {k i : Nat} {b : Int} (h : Bst t S ws k i b) (hf : ¬ Free t S ws k i) : Bst t S ws k (i + 1) b := by
  rcases h with ⟨rfl, h⟩ | ⟨q, hq, hb, hlt, hfq, hz⟩
  · refine .inl ⟨rfl, fun j hj => ?_⟩
    by_cases hji : j = i
    · subst hji; exact hf
    · exact h j (by omega)
  · refine .inr ⟨q, hq, hb, by omega, hfq, fun z hzm hzi hzf => ?_⟩
    by_cases hji : z.i = i
    · rw [hji] at hzf; exact absurd hzf hf
    · exact hz z hzm (by omega) hzf
theorem rst_same {z q : SP} (hz : z ∈ rst t S ws) (hq : q ∈ rst t S ws) (h : z.i = q.i) : z = q := by
  have h1 := rst_idx hz
  rw [h, rst_idx hq] at h1
  exact (Option.some.inj h1).symm
theorem Bst.first {k i w : Nat} (h : Bst t S ws k i (-1)) (hw : ws[i]? = some w) (hf : Free t S ws k i) : Bst t S ws k (i + 1) i := by
  rcases h with ⟨_, h⟩ | ⟨q, hq, hb, hlt, hfq, hz⟩
  · have hm := List.mem_of_getElem? (rst_at (t := t) (S := S) hw)
    refine .inr ⟨_, hm, rfl, Nat.lt_succ_self _, hf, fun z hzm hzi hzf => ?_⟩
    by_cases hji : z.i = i
    · rw [rst_same hzm hm hji]; exact pLt_irrefl _
    · exact absurd hzf (h _ (by omega))
  · omega
theorem Bst.next {k i w : Nat} {q : SP} (hq : q ∈ rst t S ws) (h : Bst t S ws k i q.i) (hw : ws[i]? = some w) (hf : Free t S ws k i) : q.i < i ∧ Bst t S ws k (i + 1) (if q.r < t * w % S then (i : Int) else q.i) := by
  rcases h with ⟨hb, _⟩ | ⟨q2, hq2, hb, hlt, hfq, hz⟩
  · omega
  · obtain rfl : q = q2 := rst_same hq hq2 (by omega)
    have hm := List.mem_of_getElem? (rst_at (t := t) (S := S) hw)
    refine ⟨hlt, ?_⟩
    split
    · rename_i hr
      refine .inr ⟨_, hm, rfl, Nat.lt_succ_self _, hf, fun z hzm hzi hzf => ?_⟩
      by_cases hji : z.i = i
      · rw [rst_same hzm hm hji]; exact pLt_irrefl _
      · intro hl
        exact hz z hzm (by omega) hzf (pLt_trans hl (.inl hr))
    · rename_i hr
      refine .inr ⟨q, hq, rfl, by omega, hfq, fun z hzm hzi hzf => ?_⟩
      by_cases hji : z.i = i
      · rw [rst_same hzm hm hji]
        unfold pLt; simp only; omega
      · exact hz z hzm (by omega) hzf
end
end GL
namespace GL
open Go Go.Proofs
set_option maxRecDepth 8000
structure SX where
  al : Option Addr
  l : List SI
  cl : Nat
  ao : Option Addr
  os : List SI
  co : Nat
  s : ByteArray
  d : Int
  m : Int
structure SuI (h : Heap) (x : SX) : Prop where
  sl : SlG 2 siL h x.al x.l
  so : SlG 2 siL h x.ao x.os
  ll : x.l.length ≤ 9223372036854775807
  lo : x.os.length ≤ 9223372036854775807
  cl : x.l.length ≤ x.cl
  co : x.os.length ≤ x.co
  nl : x.al = none → x.cl = 0
  no : x.ao = none → x.co = 0
  st : ∀ y ∈ x.os, y.s.size ≤ 9223372036854775807
theorem SuI.ext {h h' : Heap} {x : SX} (hs : SuI h x) (hx : Ext h h') : SuI h' x := ⟨hs.sl.ext hx, hs.so.ext hx, hs.ll, hs.lo, hs.cl, hs.co, hs.nl, hs.no, hs.st⟩
def smE (x : SX) (n : Nat) : Prop := x.l.length ≤ 40 ∧ x.os.length ≤ 20 ∧ n ≤ 60
instance (x : SX) (n : Nat) : Decidable (smE x n) := inferInstanceAs (Decidable (_ ∧ _))
theorem IsE.wrT {h h' : Heap} {N p b B : Nat} {vh vo : Value} {E : EL} {o : Obj} {c : Array Value} {T : TypeId} (hE : IsE h N p b vh vo E) (hw : Wr h h' B o) (hB : Has h B (.cells c T)) (h1 : T ≠ tyEl) (h2 : T ≠ tyH) (h3 : T ≠ tyO) : IsE h' N p b vh vo E :=
  hE.gs (Gs.ofWr hw (S := [B]) (by simp)) (by simp; intro hh; subst hh; have := hE.blk.un hB; injection this with _ h9 _; exact h1 h9.symm) (by simp; exact fun hh => (hB.nmap hE.map) hh.symm)
    (fun x hx hh => by simp at hh; subst hh; exact hE.oh.ncell hB h2 hx) (fun x hx hh => by simp at hh; subst hh; exact hE.oo.ncell hB h3 hx)
theorem RI.wrT {h h' : Heap} {vh vo vc : Value} {B : Nat} {E : EL} {o : Obj} {c : Array Value} {T : TypeId} (hI : RI h vh vo vc E) (hw : Wr h h' B o) (hB : Has h B (.cells c T)) (h1 : T ≠ tyRH) (h2 : T ≠ tyRO) (h3 : T ≠ tySl) (h4 : T ≠ tyI) : RI h' vh vo vc E := by
  obtain ⟨⟨a, c, q1, q2, q3⟩, ⟨a', c', r1, r2, r3⟩, ⟨a2, c2, rows, s1, s2, s3, s4⟩⟩ := hI
  exact ⟨⟨a, c, q1, q2, q3.wr hw hB h1⟩, ⟨a', c', r1, r2, r3.wr hw hB h2⟩, ⟨a2, c2, rows, s1, s2, s3.wr hw hB h3, ⟨s4.1, fun i x hi => by
    obtain ⟨b, c, t1, t2⟩ := s4.2 i x hi
    exact ⟨b, c, t1, t2.wr hw hB h4⟩⟩⟩⟩
abbrev erX (x : SX) : Int := erN x.l x.os x.s x.d x.m
abbrev nwX (x : SX) : EL := newE x.l x.os x.s x.d x.m
def NvI (h : Heap) (N : Nat) (x : SX) (u : Value) : Prop := (erX x ≠ 0 ∧ u = .pointer none) ∨ (erX x = 0 ∧ ∃ p b vh vo, u = .pointer (some ⟨p, 0, none⟩) ∧ IsE h N p b vh vo (nwX x))
def NwI (h : Heap) (x : SX) (w : Value) : Prop := (erX x ≠ 0 ∧ w = zRE) ∨ (erX x = 0 ∧ ∃ vh vo vc, w = reV vh vo vc (nwX x) ∧ RI h vh vo vc (nwX x))
section
variable {h h' : Heap} {N : Nat} {x : SX} {u w : Value}
theorem NvI.ext (hn : NvI h N x u) (hx : Ext h h') : NvI h' N x u := hn.imp id fun ⟨h1, p, b, vh, vo, h2, h3⟩ => ⟨h1, p, b, vh, vo, h2, h3.ext hx⟩
theorem NwI.ext (hn : NwI h x w) (hx : Ext h h') : NwI h' x w := hn.imp id fun ⟨h1, vh, vo, vc, h2, h3⟩ => ⟨h1, vh, vo, vc, h2, h3.ext hx⟩
theorem NvI.wr {B : Nat} {o : Obj} {c : Array Value} (hn : NvI h N x u) (hw : Wr h h' B o) (hB : Has h B (.cells c tyRE)) : NvI h' N x u := hn.imp id fun ⟨h1, p, b, vh, vo, h2, h3⟩ => ⟨h1, p, b, vh, vo, h2, h3.wrT hw hB (by decide) (by decide) (by decide)⟩
theorem NwI.wr {B : Nat} {o : Obj} {c : Array Value} (hn : NwI h x w) (hw : Wr h h' B o) (hB : Has h B (.cells c tyRE)) : NwI h' x w := hn.imp id fun ⟨h1, vh, vo, vc, h2, h3⟩ => ⟨h1, vh, vo, vc, h2, h3.wrT hw hB (by decide) (by decide) (by decide) (by decide)⟩
end
theorem NvI.base {h : Heap} {N N' : Nat} {x : SX} {u : Value} (hn : NvI h N x u) (hN : N' ≤ N) : NvI h N' x u := hn.imp id fun ⟨h1, p, b, vh, vo, h2, h3⟩ => ⟨h1, p, b, vh, vo, h2, ⟨h3.blk, h3.oh.base hN, h3.oo.base hN, h3.map, ⟨Nat.le_trans hN h3.lo.1, Nat.le_trans hN h3.lo.2⟩⟩⟩
theorem NwI.shape {h : Heap} {x : SX} {w : Value} (hw : NwI h x w) :
    ∃ (a0 : Option Addr) (n0 k0 : Nat) (a1 : Option Addr) (n1 k1 : Nat) (x2 x3 x4 : Int) (a5 : Option Addr) (n5 k5 : Nat) (b6 : Bool), w = .agg #[.slice a0 n0 k0, .slice a1 n1 k1, iV x2, iV x3, iV x4, .slice a5 n5 k5, .bool b6] := by
  rcases hw with ⟨_, rfl⟩ | ⟨_, vh, vo, vc, rfl, hI⟩
  · exact ⟨_, _, _, _, _, _, _, _, _, _, _, _, _, rfl⟩
  · obtain ⟨⟨a, c, rfl, _⟩, ⟨a', c', rfl, _⟩, ⟨a2, c2, r, rfl, _⟩⟩ := hI
    exact ⟨_, _, _, _, _, _, _, _, _, _, _, _, _, rfl⟩
end GL
namespace GL
open Go Go.Proofs
set_option maxRecDepth 8000
structure OX where
  k : Int
  o : ByteArray
  p : ByteArray
  q : Int
  ad : Int
  am : Int
abbrev oxL (x : OX) : List Value := [.int .u8 x.k, .string x.o, .string x.p, iV x.q, iV x.ad, iV x.am]
theorem RI.gs {h h' : Heap} {N p b : Nat} {vh vo wh wo wc : Value} {E F : EL} (hI : RI h wh wo wc E) (hg : Gs h h' [p, b]) (hE : IsE h N p b vh vo F) : RI h' wh wo wc E := by
  have key : ∀ {el g : Nat} {cur : Array Value}, el ≠ tyEl → Has h g (.cells cur el) → g ∉ [p, b] := by
    intro el g cur hne hc hm
    rcases List.mem_cons.1 hm with rfl | hm
    · have := hE.blk.un hc; injection this with _ h9 _; exact hne h9.symm
    · simp at hm; exact hc.nmap hE.map hm
  have rk : ∀ {α : Type} {f : α → List Value} {sz el : Nat} {a : Option Addr} {l : List α}, el ≠ tyEl → SlR el sz f h a l → SlR el sz f h' a l := fun hne hs =>
    hs.gs hg fun g off ha => by obtain ⟨cur, hc⟩ := hs.ty g off ha; exact key hne hc
  obtain ⟨⟨a, c, q1, q2, q3⟩, ⟨a', c', r1, r2, r3⟩, ⟨a2, c2, rows, s1, s2, s3, s4⟩⟩ := hI
  exact ⟨⟨a, c, q1, q2, rk (by decide) q3⟩, ⟨a', c', r1, r2, rk (by decide) r3⟩, ⟨a2, c2, rows, s1, s2, rk (by decide) s3, ⟨s4.1, fun i x hi => by
    obtain ⟨b, c, t1, t2⟩ := s4.2 i x hi
    exact ⟨b, c, t1, rk (by decide) t2⟩⟩⟩⟩
end GL
namespace GL
open Go Go.Proofs
set_option maxRecDepth 8000
theorem IsE.lower {h : Heap} {N N' p b : Nat} {vh vo : Value} {E : EL} (hE : IsE h N p b vh vo E) (hN : N' ≤ N) : IsE h N' p b vh vo E := ⟨hE.blk, hE.oh.base hN, hE.oo.base hN, hE.map, ⟨Nat.le_trans hN hE.lo.1, Nat.le_trans hN hE.lo.2⟩⟩
end GL
namespace GL
open Go Go.Proofs
set_option maxRecDepth 8000
abbrev kA : ByteArray := ⟨#[65]⟩
abbrev kB : ByteArray := ⟨#[66]⟩
abbrev kC : ByteArray := ⟨#[67]⟩
abbrev kCash : ByteArray := ⟨#[67, 65, 83, 72]⟩
abbrev kShare : ByteArray := ⟨#[83, 72, 65, 82, 69]⟩
def kL : List SI := [⟨kA, 10⟩, ⟨kB, 5⟩, ⟨kC, 5⟩]
def kO : List SI := [⟨kCash, 6⟩, ⟨kShare, 0⟩]
def kE0 : EL := newE kL kO kShare 9 0
def kE1 : EL := chsE kE0 kA kCash 8
def kE2 : EL := chsE kE1 kB kCash 5
def kR : List RR := [⟨kA, kCash, 8, 4⟩, ⟨kA, kShare, 2, 6⟩, ⟨kB, kCash, 5, 2⟩, ⟨kB, kShare, 0, 3⟩, ⟨kC, kShare, 5, 5⟩]
theorem kn : erN kL kO kShare 9 0 = 0 := by decide +kernel
theorem kc1 : chX kE0 kA kCash 8 0 0 = 0 := by decide +kernel
theorem kc2 : chX kE1 kB kCash 5 9 0 = 0 := by decide +kernel
theorem kz : clX kE2 9 1 = 0 := by decide +kernel
theorem kr : resE kE2 = kR := by decide +kernel
theorem kg0 : GoodE kE0 := new_good kn
theorem kg1 : GoodE kE1 := good_choose kg0 kc1
theorem kg2 : GoodE kE2 := good_choose kg1 kc2
theorem kh : kE2.hs.length ≤ 40 := by decide +kernel
theorem c_newK (a a' : Option Addr) {h : Heap} (hs : SlG 2 siL h a kL) (ho : SlG 2 siL h a' kO) (hn : a' ≠ none) :
    HCalls Tryz.prog 29 #[.slice a 3 3, .slice a' 2 2, .string kShare, .agg #[iV 9, iV 0]] h fun v h' => Ext h h' ∧ ∃ p b vh vo, v = .tuple #[.pointer (some ⟨p, 0, none⟩), iV 0] ∧ IsE h' h.size p b vh vo kE0 := by
  refine (c_new a kL 3 a' kO 2 kShare 9 0 (by decide) (by decide) (by decide) (by decide) (fun hh => absurd hh hn) hs ho).mono ?_
  rintro v h' ⟨hx, (⟨he, _⟩ | ⟨_, p, b, vh, vo, rfl, hE⟩)⟩
  · exact absurd kn he
  · exact ⟨hx, p, b, vh, vo, rfl, hE⟩
set_option maxHeartbeats 4000000 in
theorem c_known44 (h : Heap) : HCalls Tryz.prog 10 #[] h (Grow (.bool true) h) := by
  refine hcalls2 Tryz.func10 rfl (by decide +kernel) (by simp only [Tryz.ntmps10]; exact of_decide_eq_true rfl) ?_
  intro e hin
  refine hx_seq (hx_region ?_)
  refine WL.qq (by simp only [EN, Nat.reduceEqDiff, reduceIte, qv_assign, decide_true, Bool.not_true, Bool.not_false, decide_false, eq_self, strEq]; rfl) ?_
  refine WL.nil (th_norm (hx_seq (hx_region ?_)))
  refine WL.qq (by refine qv_bld (by simp only [EN, Nat.reduceEqDiff, reduceIte, AR, decide_true, Bool.not_true, Bool.not_false, decide_false, eq_self, strEq] <;> rfl) (by rw [bl78]; simp [Instr.fill, Value.cells]; rfl)) ?_
  refine WL.qq (by refine qv_bld (by simp only [EN, Nat.reduceEqDiff, reduceIte, AR, decide_true, Bool.not_true, Bool.not_false, decide_false, eq_self, strEq] <;> rfl) (by rw [bl78]; simp [Instr.fill, Value.cells]; rfl)) ?_
  refine WL.qq (by refine qv_bld (by simp only [EN, Nat.reduceEqDiff, reduceIte, AR, decide_true, Bool.not_true, Bool.not_false, decide_false, eq_self, strEq] <;> rfl) (by rw [bl78]; simp [Instr.fill, Value.cells]; rfl)) ?_
  refine WL.lit2 #[(.string ⟨#[]⟩), (.int .i64 0), (.string ⟨#[]⟩), (.int .i64 0), (.string ⟨#[]⟩), (.int .i64 0)] Tryz.underlying79 sz78 zr78 (by decide) (by kernel_rfl) ⟨_, (by simp only [EN, Nat.reduceEqDiff, reduceIte, AR, decide_true, Bool.not_true, Bool.not_false, decide_false, eq_self, strEq]; simp [Instr.fill, Value.cells]; rfl), rfl⟩ ?_
  intro h1 B1 hx1 hlt1 hB1
  refine WL.qq (by refine qv_bld (by simp only [EN, Nat.reduceEqDiff, reduceIte, AR, decide_true, Bool.not_true, Bool.not_false, decide_false, eq_self, strEq, hB1.cell] <;> rfl) (by rw [bl80]; simp [Instr.fill, Value.cells]; rfl)) ?_
  refine WL.qq (by refine qv_bld (by simp only [EN, Nat.reduceEqDiff, reduceIte, AR, decide_true, Bool.not_true, Bool.not_false, decide_false, eq_self, strEq, hB1.cell] <;> rfl) (by rw [bl80]; simp [Instr.fill, Value.cells]; rfl)) ?_
  refine WL.lit2 #[(.string ⟨#[]⟩), (.int .i64 0), (.string ⟨#[]⟩), (.int .i64 0)] Tryz.underlying81 sz80 zr80 (by decide) (by kernel_rfl) ⟨_, (by simp only [EN, Nat.reduceEqDiff, reduceIte, AR, decide_true, Bool.not_true, Bool.not_false, decide_false, eq_self, strEq, hB1.cell]; simp [Instr.fill, Value.cells]; rfl), rfl⟩ ?_
  intro h2 B2 hx2 hlt2 hB2
  replace hB1 := hB1.ext hx2
  refine WL.qq (by refine qv_bld (by simp only [EN, Nat.reduceEqDiff, reduceIte, AR, decide_true, Bool.not_true, Bool.not_false, decide_false, eq_self, strEq, hB1.cell, hB2.cell] <;> rfl) (by rw [bl49]; simp [Instr.fill, Value.cells]; rfl)) ?_
  refine WL.ce Tryz.call29 (by simp only [EN, Nat.reduceEqDiff, reduceIte, AR, decide_true, Bool.not_true, Bool.not_false, decide_false, eq_self, strEq, hB1.cell, hB2.cell]; exact c_newK (some ⟨B1, 0, none⟩) (some ⟨B2, 0, none⟩) (slG_has (f := siL) (sz := 2) (fun _ => rfl) hB1 rfl) (slG_has (f := siL) (sz := 2) (fun _ => rfl) hB2 rfl) (by simp)) ?_
  rintro _ h3 ⟨hx3, p, b, vh, vo, rfl, hE⟩
  replace hB1 := hB1.ext hx3
  replace hB2 := hB2.ext hx3
  simp only [put_some]
  have hX3 := ((hx1).trans ((hx2).trans (hx3)))
  have hb3 := hE.map.lt
  have hzz := Ext.size (hx1.trans hx2)
  replace hE := hE.lower hzz
  have hlo := hE.lo
  iterate 5 refine WL.qq (by simp only [EN, Nat.reduceEqDiff, reduceIte, qv_move, decide_true, Bool.not_true, Bool.not_false, decide_false, eq_self, strEq, hB1.cell, hB2.cell, qv_extract, AR, qv_assign]; rfl) ?_
  refine WL.nil (th_norm (hx_seq (hx_seq (hx_region ?_))))
  iterate 3 refine WL.qq (by simp only [EN, Nat.reduceEqDiff, reduceIte, qv_move, decide_true, Bool.not_true, Bool.not_false, decide_false, eq_self, strEq, hB1.cell, hB2.cell, qv_binOp, binv_neq, eq46, Option.map_some]; rfl) ?_
  refine WL.on (by rw [gOk_s (gd_at (t := 19) rfl (by simp only [EN, Nat.reduceEqDiff, reduceIte, decide_true, Bool.not_true, Bool.not_false, decide_false, eq_self, strEq, hB1.cell, hB2.cell] <;> rfl))]; rfl) ?_
  refine WL.qq (by simp only [EN, Nat.reduceEqDiff, reduceIte, qv_move, decide_true, Bool.not_true, Bool.not_false, decide_false, eq_self, strEq, hB1.cell, hB2.cell]; rfl) ?_
  refine WL.on (by rw [gOk_s (gd_at (t := 19) rfl (by simp only [EN, Nat.reduceEqDiff, reduceIte, decide_true, Bool.not_true, Bool.not_false, decide_false, eq_self, strEq, hB1.cell, hB2.cell] <;> rfl))]; rfl) ?_
  refine WL.qq (by refine qv_bld (by simp only [EN, Nat.reduceEqDiff, reduceIte, AR, decide_true, Bool.not_true, Bool.not_false, decide_false, eq_self, strEq, hB1.cell, hB2.cell] <;> rfl) (by rw [bl49]; simp [Instr.fill, Value.cells]; rfl)) ?_
  refine WL.on (by rw [gOk_s (gd_at (t := 19) rfl (by simp only [EN, Nat.reduceEqDiff, reduceIte, decide_true, Bool.not_true, Bool.not_false, decide_false, eq_self, strEq, hB1.cell, hB2.cell] <;> rfl))]; rfl) ?_
  refine WL.ce Tryz.call18 (by simp only [EN, Nat.reduceEqDiff, reduceIte, AR, decide_true, Bool.not_true, Bool.not_false, decide_false, eq_self, strEq, hB1.cell, hB2.cell]; exact c_choose kg0.b kA kCash 8 0 0 hE kc1) ?_
  rintro _ h20 ⟨rfl, hG1, hE1⟩
  simp only [put_some]
  rw [if_pos rfl] at hE1
  have hE2 : IsE h20 h.size p b vh vo kE1 := hE1
  have hX20 : Ext h h20 := hG1.toExt hX3 (by simp; omega)
  refine WL.on (by rw [gOk_s (gd_at (t := 19) rfl (by simp only [EN, Nat.reduceEqDiff, reduceIte, decide_true, Bool.not_true, Bool.not_false, decide_false, eq_self, strEq, hB1.cell, hB2.cell] <;> rfl))]; rfl) ?_
  iterate 3 refine WL.qq (by simp only [EN, Nat.reduceEqDiff, reduceIte, qv_binOp, binv_neq, eq46, Option.map_some, decide_true, Bool.not_true, Bool.not_false, decide_false, eq_self, strEq, hB1.cell, hB2.cell, qv_pick, pk_and, pk_or, GR, qv_move]; rfl) ?_
  refine WL.on (by rw [gOk_s (gd_at (t := 25) rfl (by simp only [EN, Nat.reduceEqDiff, reduceIte, decide_true, Bool.not_true, Bool.not_false, decide_false, eq_self, strEq, hB1.cell, hB2.cell] <;> rfl))]; rfl) ?_
  refine WL.qq (by simp only [EN, Nat.reduceEqDiff, reduceIte, qv_move, decide_true, Bool.not_true, Bool.not_false, decide_false, eq_self, strEq, hB1.cell, hB2.cell]; rfl) ?_
  refine WL.on (by rw [gOk_s (gd_at (t := 25) rfl (by simp only [EN, Nat.reduceEqDiff, reduceIte, decide_true, Bool.not_true, Bool.not_false, decide_false, eq_self, strEq, hB1.cell, hB2.cell] <;> rfl))]; rfl) ?_
  refine WL.qq (by refine qv_bld (by simp only [EN, Nat.reduceEqDiff, reduceIte, AR, decide_true, Bool.not_true, Bool.not_false, decide_false, eq_self, strEq, hB1.cell, hB2.cell] <;> rfl) (by rw [bl49]; simp [Instr.fill, Value.cells]; rfl)) ?_
  refine WL.on (by rw [gOk_s (gd_at (t := 25) rfl (by simp only [EN, Nat.reduceEqDiff, reduceIte, decide_true, Bool.not_true, Bool.not_false, decide_false, eq_self, strEq, hB1.cell, hB2.cell] <;> rfl))]; rfl) ?_
  refine WL.ce Tryz.call18 (by simp only [EN, Nat.reduceEqDiff, reduceIte, AR, decide_true, Bool.not_true, Bool.not_false, decide_false, eq_self, strEq, hB1.cell, hB2.cell]; exact c_choose kg1.b kB kCash 5 9 0 hE2 kc2) ?_
  rintro _ h21 ⟨rfl, hG2, hE3⟩
  simp only [put_some]
  rw [if_pos rfl] at hE3
  have hE4 : IsE h21 h.size p b vh vo kE2 := hE3
  have hX21 : Ext h h21 := hG2.toExt hX20 (by simp; omega)
  have hb21 : b < h21.size := hE4.map.lt
  refine WL.on (by rw [gOk_s (gd_at (t := 25) rfl (by simp only [EN, Nat.reduceEqDiff, reduceIte, decide_true, Bool.not_true, Bool.not_false, decide_false, eq_self, strEq, hB1.cell, hB2.cell] <;> rfl))]; rfl) ?_
  iterate 2 refine WL.qq (by simp only [EN, Nat.reduceEqDiff, reduceIte, qv_binOp, binv_neq, eq46, Option.map_some, decide_true, Bool.not_true, Bool.not_false, decide_false, eq_self, strEq, hB1.cell, hB2.cell, qv_pick, pk_and, pk_or, GR]; rfl) ?_
  refine WL.nil (th_norm ?_)
  refine hx_cond (by simp only [EN, Nat.reduceEqDiff, reduceIte, decide_true, Bool.not_true, Bool.not_false, decide_false, eq_self, strEq, hB1.cell, hB2.cell]; rfl) (fun hct30 => ?_) (fun hct30 => ?_)
  ·
   simp at hct30
  ·
   try simp only [BD] at hct30
   refine hx_skip (th_norm (hx_seq (hx_region ?_)))
   refine WL.qq (by simp only [EN, Nat.reduceEqDiff, reduceIte, qv_move, decide_true, Bool.not_true, Bool.not_false, decide_false, eq_self, strEq, hB1.cell, hB2.cell]; rfl) ?_
   refine WL.qq (by refine qv_bld (by simp only [EN, Nat.reduceEqDiff, reduceIte, AR, decide_true, Bool.not_true, Bool.not_false, decide_false, eq_self, strEq, hB1.cell, hB2.cell] <;> rfl) (by rw [bl49]; simp [Instr.fill, Value.cells]; rfl)) ?_
   refine WL.ce Tryz.call17 (by simp only [EN, Nat.reduceEqDiff, reduceIte, AR, decide_true, Bool.not_true, Bool.not_false, decide_false, eq_self, strEq, hB1.cell, hB2.cell]; exact c_close (kg2.cl kh) 9 1 hE4 hb21 kz) ?_
   rintro _ h22 ⟨hGc, u, rfl, hE5, hu⟩
   simp only [put_some]
   rw [if_pos rfl, kr] at hu
   have hX22 : Ext h h22 := hGc.toExt hX21 (by simp; omega)
   obtain ⟨gu, cu, hue, _⟩ := hu.rd (i := 0) (by decide)
   rw [show kR.length = 5 from rfl] at hue
   subst hue
   have hsu := slG_own (f := rxL) (sz := 4) (fun _ => rfl) hu rfl
   obtain ⟨g0, q0, hg0, hr0⟩ := hsu 0 ⟨kA, kCash, 8, 4⟩ rfl
   cases hg0
   obtain ⟨g0, q0, hg0, hr3⟩ := hsu 3 ⟨kB, kShare, 0, 3⟩ rfl
   cases hg0
   obtain ⟨g0, q0, hg0, hr4⟩ := hsu 4 ⟨kC, kShare, 5, 5⟩ rfl
   cases hg0
   have hc43 := readN_cell hr4 3 _ rfl
   iterate 5 refine WL.qq (by simp only [EN, Nat.reduceEqDiff, reduceIte, qv_move, decide_true, Bool.not_true, Bool.not_false, decide_false, eq_self, strEq, hB1.cell, hB2.cell, qv_extract, AR, qv_assign]; rfl) ?_
   refine WL.nil (th_norm (hx_seq (hx_region ?_)))
   iterate 3 refine WL.qq (by simp only [EN, Nat.reduceEqDiff, reduceIte, qv_move, decide_true, Bool.not_true, Bool.not_false, decide_false, eq_self, strEq, hB1.cell, hB2.cell, qv_binOp, binv_eql, eq46, Option.map_some]; rfl) ?_
   refine WL.on (by rw [gOk_s (gd_at (t := 39) rfl (by simp only [EN, Nat.reduceEqDiff, reduceIte, decide_true, Bool.not_true, Bool.not_false, decide_false, eq_self, strEq, hB1.cell, hB2.cell] <;> rfl))]; rfl) ?_
   refine WL.qq (by simp only [EN, Nat.reduceEqDiff, reduceIte, qv_move, decide_true, Bool.not_true, Bool.not_false, decide_false, eq_self, strEq, hB1.cell, hB2.cell]; rfl) ?_
   refine WL.on (by rw [gOk_s (gd_at (t := 39) rfl (by simp only [EN, Nat.reduceEqDiff, reduceIte, decide_true, Bool.not_true, Bool.not_false, decide_false, eq_self, strEq, hB1.cell, hB2.cell] <;> rfl))]; rfl) ?_
   refine WL.qq (by simp only [EN, Nat.reduceEqDiff, reduceIte, qv_len, ln45, AR, decide_true, Bool.not_true, Bool.not_false, decide_false, eq_self, strEq, hB1.cell, hB2.cell]; rfl) ?_
   refine WL.on (by rw [gOk_s (gd_at (t := 39) rfl (by simp only [EN, Nat.reduceEqDiff, reduceIte, decide_true, Bool.not_true, Bool.not_false, decide_false, eq_self, strEq, hB1.cell, hB2.cell] <;> rfl))]; rfl) ?_
   iterate 3 refine WL.qq (by simp only [EN, Nat.reduceEqDiff, reduceIte, qv_binOp, binv_eql, eq3, Option.map_some, decide_true, Bool.not_true, Bool.not_false, decide_false, eq_self, strEq, hB1.cell, hB2.cell, qv_pick, pk_and, pk_or, GR, qv_move]; rfl) ?_
   refine WL.on (by rw [gOk_s (gd_at (t := 44) rfl (by simp only [EN, Nat.reduceEqDiff, reduceIte, decide_true, Bool.not_true, Bool.not_false, decide_false, eq_self, strEq, hB1.cell, hB2.cell] <;> rfl))]; rfl) ?_
   refine WL.qq (by simp only [EN, Nat.reduceEqDiff, reduceIte, qv_move, decide_true, Bool.not_true, Bool.not_false, decide_false, eq_self, strEq, hB1.cell, hB2.cell]; rfl) ?_
   refine WL.on (by rw [gOk_s (gd_at (t := 44) rfl (by simp only [EN, Nat.reduceEqDiff, reduceIte, decide_true, Bool.not_true, Bool.not_false, decide_false, eq_self, strEq, hB1.cell, hB2.cell] <;> rfl))]; rfl) ?_
   refine WL.qq (by simp only [EN, Nat.reduceEqDiff, reduceIte, qv_indexAddr, decide_true, Bool.not_true, Bool.not_false, decide_false, eq_self, strEq, hB1.cell, hB2.cell]; (try simp (disch := omega) only [ix45, Int.toNat_natCast]); rfl) ?_
   refine WL.on (by rw [gOk_s (gd_at (t := 44) rfl (by simp only [EN, Nat.reduceEqDiff, reduceIte, decide_true, Bool.not_true, Bool.not_false, decide_false, eq_self, strEq, hB1.cell, hB2.cell] <;> rfl))]; rfl) ?_
   refine WL.qq (by simp only [EN, Nat.reduceEqDiff, reduceIte, decide_true, Bool.not_true, Bool.not_false, decide_false, eq_self, strEq, hB1.cell, hB2.cell, qv_load, ld64, Int.reduceToNat, hr0]; rfl) ?_
   refine WL.on (by rw [gOk_s (gd_at (t := 44) rfl (by simp only [EN, Nat.reduceEqDiff, reduceIte, decide_true, Bool.not_true, Bool.not_false, decide_false, eq_self, strEq, hB1.cell, hB2.cell] <;> rfl))]; rfl) ?_
   refine WL.qq (by refine qv_bld (by simp only [EN, Nat.reduceEqDiff, reduceIte, AR, decide_true, Bool.not_true, Bool.not_false, decide_false, eq_self, strEq, hB1.cell, hB2.cell] <;> rfl) (by rw [bl64]; simp [Instr.fill, Value.cells]; rfl)) ?_
   refine WL.on (by rw [gOk_s (gd_at (t := 44) rfl (by simp only [EN, Nat.reduceEqDiff, reduceIte, decide_true, Bool.not_true, Bool.not_false, decide_false, eq_self, strEq, hB1.cell, hB2.cell] <;> rfl))]; rfl) ?_
   iterate 3 refine WL.qq (by simp only [EN, Nat.reduceEqDiff, reduceIte, qv_binOp, binv_eql, eqs64, Option.map_some, decide_true, Bool.not_true, Bool.not_false, decide_false, eq_self, strEq, hB1.cell, hB2.cell, qv_pick, pk_and, pk_or, GR, qv_move]; rfl) ?_
   refine WL.on (by rw [gOk_s (gd_at (t := 51) rfl (by simp only [EN, Nat.reduceEqDiff, reduceIte, decide_true, Bool.not_true, Bool.not_false, decide_false, eq_self, strEq, hB1.cell, hB2.cell] <;> rfl))]; rfl) ?_
   refine WL.qq (by simp only [EN, Nat.reduceEqDiff, reduceIte, qv_move, decide_true, Bool.not_true, Bool.not_false, decide_false, eq_self, strEq, hB1.cell, hB2.cell]; rfl) ?_
   refine WL.on (by rw [gOk_s (gd_at (t := 51) rfl (by simp only [EN, Nat.reduceEqDiff, reduceIte, decide_true, Bool.not_true, Bool.not_false, decide_false, eq_self, strEq, hB1.cell, hB2.cell] <;> rfl))]; rfl) ?_
   refine WL.qq (by simp only [EN, Nat.reduceEqDiff, reduceIte, qv_indexAddr, decide_true, Bool.not_true, Bool.not_false, decide_false, eq_self, strEq, hB1.cell, hB2.cell]; (try simp (disch := omega) only [ix45, Int.toNat_natCast]); rfl) ?_
   refine WL.on (by rw [gOk_s (gd_at (t := 51) rfl (by simp only [EN, Nat.reduceEqDiff, reduceIte, decide_true, Bool.not_true, Bool.not_false, decide_false, eq_self, strEq, hB1.cell, hB2.cell] <;> rfl))]; rfl) ?_
   refine WL.qq (by simp only [EN, Nat.reduceEqDiff, reduceIte, decide_true, Bool.not_true, Bool.not_false, decide_false, eq_self, strEq, hB1.cell, hB2.cell, qv_load, ld64, Int.reduceToNat, hr3]; rfl) ?_
   refine WL.on (by rw [gOk_s (gd_at (t := 51) rfl (by simp only [EN, Nat.reduceEqDiff, reduceIte, decide_true, Bool.not_true, Bool.not_false, decide_false, eq_self, strEq, hB1.cell, hB2.cell] <;> rfl))]; rfl) ?_
   refine WL.qq (by refine qv_bld (by simp only [EN, Nat.reduceEqDiff, reduceIte, AR, decide_true, Bool.not_true, Bool.not_false, decide_false, eq_self, strEq, hB1.cell, hB2.cell] <;> rfl) (by rw [bl64]; simp [Instr.fill, Value.cells]; rfl)) ?_
   refine WL.on (by rw [gOk_s (gd_at (t := 51) rfl (by simp only [EN, Nat.reduceEqDiff, reduceIte, decide_true, Bool.not_true, Bool.not_false, decide_false, eq_self, strEq, hB1.cell, hB2.cell] <;> rfl))]; rfl) ?_
   iterate 3 refine WL.qq (by simp only [EN, Nat.reduceEqDiff, reduceIte, qv_binOp, binv_eql, eqs64, Option.map_some, decide_true, Bool.not_true, Bool.not_false, decide_false, eq_self, strEq, hB1.cell, hB2.cell, qv_pick, pk_and, pk_or, GR, qv_move]; rfl) ?_
   refine WL.on (by rw [gOk_s (gd_at (t := 58) rfl (by simp only [EN, Nat.reduceEqDiff, reduceIte, decide_true, Bool.not_true, Bool.not_false, decide_false, eq_self, strEq, hB1.cell, hB2.cell] <;> rfl))]; rfl) ?_
   refine WL.qq (by simp only [EN, Nat.reduceEqDiff, reduceIte, qv_move, decide_true, Bool.not_true, Bool.not_false, decide_false, eq_self, strEq, hB1.cell, hB2.cell]; rfl) ?_
   refine WL.on (by rw [gOk_s (gd_at (t := 58) rfl (by simp only [EN, Nat.reduceEqDiff, reduceIte, decide_true, Bool.not_true, Bool.not_false, decide_false, eq_self, strEq, hB1.cell, hB2.cell] <;> rfl))]; rfl) ?_
   refine WL.qq (by simp only [EN, Nat.reduceEqDiff, reduceIte, qv_indexAddr, decide_true, Bool.not_true, Bool.not_false, decide_false, eq_self, strEq, hB1.cell, hB2.cell]; (try simp (disch := omega) only [ix45, Int.toNat_natCast]); rfl) ?_
   refine WL.on (by rw [gOk_s (gd_at (t := 58) rfl (by simp only [EN, Nat.reduceEqDiff, reduceIte, decide_true, Bool.not_true, Bool.not_false, decide_false, eq_self, strEq, hB1.cell, hB2.cell] <;> rfl))]; rfl) ?_
   refine WL.qq (by simp only [EN, Nat.reduceEqDiff, reduceIte, qv_fieldAddr, fa64_3, Nat.zero_add, Nat.reduceAdd, decide_true, Bool.not_true, Bool.not_false, decide_false, eq_self, strEq, hB1.cell, hB2.cell]; rfl) ?_
   refine WL.on (by rw [gOk_s (gd_at (t := 58) rfl (by simp only [EN, Nat.reduceEqDiff, reduceIte, decide_true, Bool.not_true, Bool.not_false, decide_false, eq_self, strEq, hB1.cell, hB2.cell] <;> rfl))]; rfl) ?_
   refine WL.qq (by simp only [EN, Nat.reduceEqDiff, reduceIte, decide_true, Bool.not_true, Bool.not_false, decide_false, eq_self, strEq, hB1.cell, hB2.cell, qv_load, ld2, Int.reduceToNat, hc43]; rfl) ?_
   refine WL.on (by rw [gOk_s (gd_at (t := 58) rfl (by simp only [EN, Nat.reduceEqDiff, reduceIte, decide_true, Bool.not_true, Bool.not_false, decide_false, eq_self, strEq, hB1.cell, hB2.cell] <;> rfl))]; rfl) ?_
   iterate 3 refine WL.qq (by simp only [EN, Nat.reduceEqDiff, reduceIte, qv_binOp, binv_eql, eq2, Option.map_some, decide_true, Bool.not_true, Bool.not_false, decide_false, eq_self, strEq, hB1.cell, hB2.cell, qv_pick, pk_and, pk_or, GR, qv_assign]; rfl) ?_
   refine WL.nil (th_norm (hx_ret ?_))
   refine fin_ret [.tmp 0] rfl rfl (by simp only [EN, Nat.reduceEqDiff, reduceIte, resv, decide_true, Bool.not_true, Bool.not_false, decide_false, eq_self, strEq, hB1.cell, hB2.cell]; rfl) ?_
   exact ⟨by simp [retOf], hX22⟩
end GL
namespace GL
open Go Go.Proofs Go.ChangeShapes Go.WideShapes Go.ChangeAt Go.RowKit
set_option maxRecDepth 8000
section
variable {H : Type} {enc : TypeId × Value → H} {W : World}
theorem clS : Tryz.prog.cellsOf 9 = 1 := by kernel_rfl
theorem clI : Tryz.prog.cellsOf 3 = 1 := by kernel_rfl
theorem clD : Tryz.prog.cellsOf 2 = 1 := by kernel_rfl
theorem clU : Tryz.prog.cellsOf 5 = 1 := by kernel_rfl
theorem clK : Tryz.prog.cellsOf 25 = 2 := by kernel_rfl
theorem clOp : Tryz.prog.cellsOf 43 = 6 := by kernel_rfl
def pS (cs : List Value) : Prop := ∃ s : ByteArray, cs = [.string s] ∧ s.size ≤ 9223372036854775807
def pI (cs : List Value) : Prop := ∃ n, cs = [iV n]
def pU (cs : List Value) : Prop := ∃ n, cs = [.int .u8 n]
theorem vw_S : VW enc Tryz.prog W 9 pS := (vw_str Tryz.underlying9).mono fun cs ⟨s, h1, h2⟩ => ⟨s, h1, h2⟩
theorem vw_I : VW enc Tryz.prog W 3 pI := (vw_int Tryz.underlying3).mono fun cs ⟨n, h1, _⟩ => ⟨n, h1⟩
theorem vw_D : VW enc Tryz.prog W 2 pI := (vw_int Tryz.underlying2).mono fun cs ⟨n, h1, _⟩ => ⟨n, h1⟩
theorem vw_U : VW enc Tryz.prog W 5 pU := (vw_int Tryz.underlying5).mono fun cs ⟨n, h1, _⟩ => ⟨n, h1⟩
def pK (cs : List Value) : Prop := ∃ d m, cs = [iV d, iV m]
theorem vw_K : VW enc Tryz.prog W 25 pK := by
  refine (vw_struct (Q := fun _ => pI) Tryz.underlying25 ?_).mono ?_
  · intro i f hf
    rcases i with _ | _ | i <;> simp at hf <;> subst hf
    · exact vw_I
    · exact vw_I
  · rintro cs ⟨hl, hq⟩
    rw [clK] at hl
    match cs, hl with
    | [a, b], _ =>
      obtain ⟨x, hx⟩ : pI [a] := VW.fld (Q := pI) (off := 0) (hq 0 _ rfl) clI
      obtain ⟨y, hy⟩ : pI [b] := VW.fld (Q := pI) (off := 1) (hq 1 _ rfl) clI
      cases hx; cases hy
      exact ⟨x, y, rfl⟩
def pOp (cs : List Value) : Prop := ∃ x : OX, cs = oxL x ∧ True
theorem vw_Op : VW enc Tryz.prog W 43 pOp := by
  refine (vw_struct (Q := fun i => match i with | 0 => pU | 1 => pS | 2 => pS | 3 => pI | _ => pK) Tryz.underlying43 ?_).mono ?_
  · intro i f hf
    rcases i with _ | _ | _ | _ | _ | i <;> simp at hf <;> subst hf
    · exact vw_U
    · exact vw_S
    · exact vw_S
    · exact vw_D
    · exact vw_K
  · rintro cs ⟨hl, hq⟩
    rw [clOp] at hl
    match cs, hl with
    | [a, b, c, d, e, f], _ =>
      obtain ⟨k, hk⟩ : pU [a] := VW.fld (Q := pU) (off := 0) (hq 0 _ rfl) clU
      obtain ⟨x, hx, _⟩ : pS [b] := VW.fld (Q := pS) (off := 1) (hq 1 _ rfl) clS
      obtain ⟨y, hy, _⟩ : pS [c] := VW.fld (Q := pS) (off := 2) (hq 2 _ rfl) clS
      obtain ⟨q, hq2⟩ : pI [d] := VW.fld (Q := pI) (off := 3) (hq 3 _ rfl) clD
      obtain ⟨u, v, hu⟩ : pK [e, f] := VW.fld (Q := pK) (off := 4) (hq 4 _ rfl) clK
      cases hk; cases hx; cases hy; cases hq2; cases hu
      exact ⟨⟨k, x, y, q, u, v⟩, rfl, trivial⟩
theorem view_op {r : Reach} {b0 : Nat} {v : Value} {d : DataW H} {q : List MemPlace} (hv : Value.okWide Tryz.prog W r b0 43 v) (h : DataW.Trod enc Tryz.prog W 0 (fun _ => true) true 43 v d q) :
    ∃ x : OX, v = .agg (oxL x).toArray := by
  obtain ⟨cs, rfl, x, h1, _⟩ := view_vst Tryz.underlying43 vw_Op hv h
  exact ⟨x, by rw [← Array.toArray_toList (xs := cs), h1]⟩
end
end GL

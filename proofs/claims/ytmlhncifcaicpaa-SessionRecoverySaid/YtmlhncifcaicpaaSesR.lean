/- Session: messages that a law has sent. -/
import Derived.Test.YtmlhncifcaicpaaSesQ
set_option linter.unusedSimpArgs false
set_option linter.unusedVariables false
set_option linter.unnecessarySimpa false
namespace GL
open Go Go.Proofs
set_option maxRecDepth 8000
section
variable {h0 h h' : Heap} {p cap : Nat} {w n a : Int} {al : Option Addr} {K : List M2}
theorem TS.gr {c : Option Nat} (ht : TS h0 h p w n a al cap K) (hg : Gr h h' c) (h1 : c ≠ some p) (h2 : ∀ g off, al = some ⟨g, off, none⟩ → c ≠ some g) (hx : Ext h0 h') : TS h0 h' p w n a al cap K := by
  have hk : ∀ g off, al = some ⟨g, off, none⟩ → h'[g]? = h[g]? := fun g off ha => by
    obtain ⟨cu, hcu⟩ := ht.ko.rd.ty g off ha
    exact hg.same g (Array.getElem?_eq_some_iff.1 hcu).1 (h2 g off ha)
  refine ⟨ht.blk.gr hg h1, ⟨⟨fun i x hx => ?_, fun g off ha => ?_⟩, ht.ko.le, ht.ko.own.imp (fun o => o.keep fun c hc => ?_) id⟩, hx, ht.hp, ht.hb⟩
  · obtain ⟨b', off', ha, hr⟩ := ht.ko.rd.rd i x hx
    exact ⟨b', off', ha, by rw [readN_same (hk b' off' ha)]; exact hr⟩
  · obtain ⟨cu, hcu⟩ := ht.ko.rd.ty g off ha
    exact ⟨cu, by rw [Has, hk g off ha]; exact hcu⟩
  · obtain ⟨off, h9⟩ := ownb o hc
    exact hk c off h9
theorem Sf.own {N el sz m : Nat} {v : Value} {xs : List Value} (hs : Sf p al h h') (ho : Own h N el sz v m xs) (h1 : v.ownBlock ≠ some p) (h2 : ∀ c off, v.ownBlock = some c → al ≠ some ⟨c, off, none⟩) : Own h' N el sz v m xs := by
  refine ho.keep fun c hc => ?_
  obtain ⟨cur, h9⟩ := ho.typ c hc
  have h3 : c ≠ p := fun hh => by subst hh; exact h1 hc
  rw [hs.2 c _ h9 h3 (fun off => h2 c off hc)]
  exact h9.symm
end
theorem sg_sz {K : List M2} {m : M2} (h : ∀ x ∈ K, x.2.size ≤ 4096) (hm : m.2.size ≤ 4096) : ∀ x ∈ K ++ [m], x.2.size ≤ 4096 := fun x hx => by
  rcases List.mem_append.1 hx with hx | hx
  · exact h x hx
  · simp at hx; subst hx; exact hm
/-- What `sent` has made: a sender with all its messages kept, and the messages. -/
structure ST (h0 h : Heap) (p : Nat) (al : Option Addr) (cap : Nat) (b : Option Addr) (K : List M2) : Prop where
  S : SG 256 (1 + K.length) 1 K
  T : TS h0 h p 256 (1 + K.length) 1 al cap K
  l : SlR 43 2 msgL h b K
  len : K.length ≤ 60
  sz : ∀ x ∈ K, x.2.size ≤ 4096
  lo : ∀ c off, b = some ⟨c, off, none⟩ → h0.size ≤ c ∧ ∀ off', al ≠ some ⟨c, off', none⟩
set_option maxHeartbeats 1000000 in
theorem c_sent (ax : Option Addr) (l : List ByteArray) (cl : Nat) {h : Heap} (hl : SlG 1 strL h ax l) (ll : l.length ≤ 9223372036854775807) :
    HCalls Try.prog 14 #[.slice ax l.length cl] h fun v h' => ∃ p al cap b c K, v = .tuple #[.pointer (some ⟨p, 0, none⟩), .slice b K.length c, .bool true] ∧ ST h h' p al cap b K := by
  refine hcalls2 Try.func14 rfl (by decide +kernel) (by simp only [Try.ntmps14]; exact of_decide_eq_true rfl) ?_
  intro e hin
  have e0 := hin 0 _ rfl
  refine hx_seq ?_
  refine hx_region ?_
  refine WL.qq (by simp only [EN, Nat.reduceEqDiff, reduceIte, qv_assign]; rfl) ?_
  refine WL.qq (by simp only [EN, Nat.reduceEqDiff, reduceIte, qv_assign]; rfl) ?_
  refine WL.qq (by simp only [EN, Nat.reduceEqDiff, reduceIte, qv_assign]; rfl) ?_
  refine WL.nil ?_
  refine th_norm ?_
  refine hx_seq ?_
  refine hx_region ?_
  refine WL.ce Try.call20 (by simp only [EN, Nat.reduceEqDiff, reduceIte, AR]; exact ts_new 256 (by omega) h) ?_
  rintro _ h1 ⟨hx1, p, rfl, hT⟩
  simp only [put_some]
  refine WL.qq (by simp only [EN, Nat.reduceEqDiff, reduceIte, qv_move]; rfl) ?_
  refine WL.qq (by simp only [EN, Nat.reduceEqDiff, reduceIte, qv_extract, AR]; rfl) ?_
  refine WL.qq (by simp only [EN, Nat.reduceEqDiff, reduceIte, qv_extract, AR]; rfl) ?_
  refine WL.qq (by simp only [EN, Nat.reduceEqDiff, reduceIte, qv_assign]; rfl) ?_
  refine WL.qq (by simp only [EN, Nat.reduceEqDiff, reduceIte, qv_assign]; rfl) ?_
  refine WL.nil ?_
  refine th_norm ?_
  refine hx_seq ?_
  refine hx_seq ?_
  refine hx_region ?_
  refine WL.qq (by simp only [EN, Nat.reduceEqDiff, reduceIte, qv_move]; rfl) ?_
  refine WL.qq (by simp only [EN, Nat.reduceEqDiff, reduceIte, qv_binOp, binv_eql, eqz33, eqn33, eqm33, Option.map_some]; rfl) ?_
  refine WL.qq (by simp only [EN, Nat.reduceEqDiff, reduceIte, qv_move]; rfl) ?_
  refine WL.cq (gd_at (t := 17) rfl (by simp only [EN, Nat.reduceEqDiff, reduceIte] <;> rfl)) (fun hg2_3 => by simp only [EN, Nat.reduceEqDiff, reduceIte, qv_move, hg2_3, GR]; rfl) ?_
  refine WL.cq (gd_at (t := 17) rfl (by simp only [EN, Nat.reduceEqDiff, reduceIte] <;> rfl)) (fun hg2_4 => by simp only [EN, Nat.reduceEqDiff, reduceIte, qv_binOp, binv_neq, eq37, Option.map_some, hg2_4, GR]; rfl) ?_
  refine WL.qq (by simp only [EN, Nat.reduceEqDiff, reduceIte, qv_pick, pk_and, pk_or, GR]; rfl) ?_
  refine WL.nil ?_
  refine th_norm ?_
  refine hx_cond (by simp only [EN, Nat.reduceEqDiff, reduceIte]; rfl) (fun hct20 => ?_) (fun hct20 => ?_)
  ·
    simp at hct20
  ·
    try simp only [BD] at hct20
    refine hx_skip ?_
    refine th_norm ?_
    refine hx_seq ?_
    refine hx_region ?_
    refine WL.qq (by simp only [EN, Nat.reduceEqDiff, reduceIte, qv_assign]; rfl) ?_
    refine WL.nil ?_
    refine th_norm ?_
    refine hx_seq ?_
    refine hx_seq ?_
    refine hx_region ?_
    refine WL.qq (by simp only [EN, Nat.reduceEqDiff, reduceIte, qv_assign]; rfl) ?_
    refine WL.nil ?_
    refine th_norm ?_
    refine hx_block ?_
    refine hx_loopG [2, 3, 4, 7, 8, 9, 10, 21, 22, 23, 24, 25, 26, 27, 28, 29, 30, 31, 32, 33, 34, 35, 36, 37, 38, 39, 40, 41, 42, 43, 44, 45, 46, 47, 48, 49, 50, 51] (fun k e hL0 => ∃ (i : Nat) (K : List M2) (al : Option Addr) (cap : Nat) (v : Value), l.length - i = k ∧ (i ≤ l.length) ∧ (K.length ≤ i) ∧ (i ≤ 60) ∧ (SG 256 (1 + K.length) 1 K) ∧ (TS h hL0 p 256 (1 + K.length) 1 al cap K) ∧ (Own hL0 h.size 43 2 v K.length (K.flatMap msgL)) ∧ ((∀ x ∈ K, x.2.size ≤ 4096)) ∧ ((∀ c off, v.ownBlock = some c → al ≠ some ⟨c, off, none⟩)) ∧ e 7 = v ∧ e 8 = .int .i64 i) _ ⟨0, [], none, 0, .slice none 0 0, rfl, ?_, ?_, ?_, ?_, ?_, ?_, ?_, ?_, ?_, ?_⟩ ?_
    · omega
    · exact Nat.le_refl _
    · omega
    · exact sg_new 256 (by omega)
    · exact hT
    · exact Own.nil
    · intro x hx; cases hx
    · intro c off hc; cases hc
    · simp only [EN, Nat.reduceEqDiff, reduceIte, e0] <;> rfl
    · simp only [EN, Nat.reduceEqDiff, reduceIte, e0] <;> rfl
    ·
      rintro k e0L hL0 hfr0 ⟨i, K, al, cap, v, rfl, hi, hKi, hi60, hS, hT, ho, hKs, hsep, i7_0, i8_0⟩
      have k0_0 := hfr0 0 rfl; try simp only [EN, Nat.reduceEqDiff, reduceIte, e0] at k0_0
      have k5_0 := hfr0 5 rfl; try simp only [EN, Nat.reduceEqDiff, reduceIte] at k5_0
      refine hx_seq ?_
      refine hx_seq ?_
      refine hx_region ?_
      refine WL.qq (by simp only [EN, Nat.reduceEqDiff, reduceIte, qv_move, i8_0]; rfl) ?_
      refine WL.qq (by simp only [EN, Nat.reduceEqDiff, reduceIte, qv_move, k0_0]; rfl) ?_
      refine WL.qq (by simp only [EN, Nat.reduceEqDiff, reduceIte, qv_len, ln31, AR]; rfl) ?_
      refine WL.qq (by simp only [EN, Nat.reduceEqDiff, reduceIte, qv_binOp, binv_lss]; rfl) ?_
      refine WL.qq (by simp only [EN, Nat.reduceEqDiff, reduceIte, qv_move]; rfl) ?_
      refine WL.cq (gd_at (t := 25) rfl (by simp only [EN, Nat.reduceEqDiff, reduceIte, i8_0] <;> rfl)) (fun hg6_5 => by simp only [EN, Nat.reduceEqDiff, reduceIte, qv_move, i8_0, hg6_5, GR]; rfl) ?_
      refine WL.cq (gd_at (t := 25) rfl (by simp only [EN, Nat.reduceEqDiff, reduceIte] <;> rfl)) (fun hg6_6 => by simp only [EN, Nat.reduceEqDiff, reduceIte, qv_binOp, binv_lss, hg6_6, GR]; rfl) ?_
      refine WL.qq (by simp only [EN, Nat.reduceEqDiff, reduceIte, qv_pick, pk_and, pk_or, GR]; rfl) ?_
      refine WL.nil ?_
      refine th_norm ?_
      refine hx_cond (by simp only [EN, Nat.reduceEqDiff, reduceIte]; rfl) (fun hct28 => ?_) (fun hct28 => ?_)
      ·
        try simp only [BD] at hct28
        obtain ⟨s, hs⟩ := atG (l := l) (i := i) (by omega)
        obtain ⟨b0, o0, rfl, hr0⟩ := (hl.ext hT.E) i s hs
        have hs0 := readN_cell hr0 0 _ rfl; rw [Nat.add_zero, Nat.mul_one] at hs0
        refine hx_skip ?_
        refine th_norm ?_
        refine hx_seq ?_
        refine hx_block ?_
        refine hx_seq ?_
        refine hx_seq ?_
        refine hx_region ?_
        refine WL.qq (by simp only [EN, Nat.reduceEqDiff, reduceIte, qv_move, k0_0]; rfl) ?_
        refine WL.qq (by simp only [EN, Nat.reduceEqDiff, reduceIte, qv_move, i8_0]; rfl) ?_
        refine WL.qq (by simp only [EN, Nat.reduceEqDiff, reduceIte, qv_indexAddr]; (try simp (disch := omega) only [ix31, Int.toNat_natCast]); rfl) ?_
        refine WL.qq (by simp only [EN, Nat.reduceEqDiff, reduceIte, k0_0, k5_0, i7_0, i8_0, qv_load, ld9, Int.toNat_natCast, hs0]; rfl) ?_
        refine WL.qq (by simp only [EN, Nat.reduceEqDiff, reduceIte, qv_len, ln9, AR]; rfl) ?_
        refine WL.qq (by simp only [EN, Nat.reduceEqDiff, reduceIte, qv_binOp, binv_gtr]; rfl) ?_
        refine WL.nil ?_
        refine th_norm ?_
        refine hx_cond (by simp only [EN, Nat.reduceEqDiff, reduceIte]; rfl) (fun hct36 => ?_) (fun hct36 => ?_)
        ·
          try simp only [BD] at hct36
          refine hx_exit ?_
          refine th_exit ?_
          refine bl_hit ?_
          refine th_norm ?_
          refine hx_region ?_
          refine WL.qq (by simp only [EN, Nat.reduceEqDiff, reduceIte, qv_move, i8_0]; rfl) ?_
          refine WL.qq (by simp only [EN, Nat.reduceEqDiff, reduceIte, qv_binOp, binv_add]; (try simp (disch := omega) only [w64, w8, wu64]); rfl) ?_
          refine WL.qq (by simp only [EN, Nat.reduceEqDiff, reduceIte, qv_assign]; rfl) ?_
          refine WL.nil ?_
          refine th_norm ?_
          refine ⟨rfl, ?_, _, ?_, i + 1, K, al, cap, v, rfl, ?_, ?_, ?_, ?_, ?_, ?_, ?_, ?_, ?_, ?_⟩  -- again 0 of loop 0
          · (repeat (first | exact Fr.refl _ _ | refine Fr.set rfl ?_ | refine Fr.put rfl ?_ | with_reducible refine Fr.put0 ?_))
          · omega
          · omega
          · omega
          · omega
          · exact hS
          · exact hT
          · exact ho
          · exact hKs
          · exact hsep
          · simp only [EN, Nat.reduceEqDiff, reduceIte, k0_0, k5_0, i7_0, i8_0] <;> first | rfl | (congr 1; omega)
          · simp only [EN, Nat.reduceEqDiff, reduceIte, k0_0, k5_0, i7_0, i8_0] <;> first | rfl | (congr 1; omega)
        ·
          try simp only [BD] at hct36
          have he : sndE 256 (1 + K.length) K s = 0 := (if_neg (by omega)).trans (if_neg (by omega))
          have hm : sndM 256 (1 + K.length) K s = (1 + (K.length : Int), s) := if_pos he
          have hKq : sndK 256 (1 + K.length) K s = K ++ [(1 + (K.length : Int), s)] := if_pos he
          have hNq : sndN 256 (1 + K.length) K s = 1 + ((K ++ [(1 + (K.length : Int), s)]).length : Int) := (by rw [sndN, if_pos he, List.length_append, List.length_singleton]; omega)
          have hS2 := hS.snd s; rw [hKq, hNq] at hS2
          refine hx_skip ?_
          refine th_norm ?_
          refine hx_seq ?_
          refine hx_region ?_
          refine WL.qq (by simp only [EN, Nat.reduceEqDiff, reduceIte, qv_move, k5_0]; rfl) ?_
          refine WL.qq (by simp only [EN, Nat.reduceEqDiff, reduceIte, qv_move, k0_0]; rfl) ?_
          refine WL.qq (by simp only [EN, Nat.reduceEqDiff, reduceIte, qv_move, i8_0]; rfl) ?_
          refine WL.qq (by simp only [EN, Nat.reduceEqDiff, reduceIte, qv_indexAddr]; (try simp (disch := omega) only [ix31, Int.toNat_natCast]); rfl) ?_
          refine WL.qq (by simp only [EN, Nat.reduceEqDiff, reduceIte, k0_0, k5_0, i7_0, i8_0, qv_load, ld9, Int.toNat_natCast, hs0]; rfl) ?_
          refine WL.ce Try.call22 (by simp only [EN, Nat.reduceEqDiff, reduceIte, k0_0, k5_0, i7_0, i8_0, AR]; exact c_Send s hS hT) ?_
          rintro v30 h30 ⟨hv30, al3, cap3, hT3, hSf3, hpl3⟩
          rw [he, hm] at hv30
          subst hv30
          rw [hKq, hNq] at hT3
          simp only [put_some]
          have ho3 := hSf3.own ho (ho.ncell hT.blk (by decide)) hsep
          have hsep3 : ∀ c off, v.ownBlock = some c → al3 ≠ some ⟨c, off, none⟩ := (fun c off hc hh => by rcases hpl3 c off hh with ⟨o9, h9⟩ | h9; exact hsep c o9 hc h9; have := (ho.block c hc).2; omega)
          replace ho := ho3
          replace hT := hT3
          refine WL.qq (by simp only [EN, Nat.reduceEqDiff, reduceIte, qv_move]; rfl) ?_
          refine WL.qq (by simp only [EN, Nat.reduceEqDiff, reduceIte, qv_extract, AR]; rfl) ?_
          refine WL.qq (by simp only [EN, Nat.reduceEqDiff, reduceIte, qv_extract, AR]; rfl) ?_
          refine WL.allocSt zr43 sz43 (fun u => by simp only [EN, Nat.reduceEqDiff, reduceIte, Value.cells]; rfl) ⟨rfl, rfl⟩ (by simp [Value.oneCell']) ?_
          intro h2 B2 hx2 hlt2 hB2
          replace hT := hT.ext hx2
          replace ho := ho.ext hx2
          refine WL.qq (by simp only [EN, Nat.reduceEqDiff, reduceIte, qv_assign, hB2.cell]; rfl) ?_
          refine WL.nil ?_
          refine th_norm ?_
          refine hx_seq ?_
          refine hx_seq ?_
          refine hx_region ?_
          refine WL.qq (by simp only [EN, Nat.reduceEqDiff, reduceIte, qv_move, hB2.cell]; rfl) ?_
          refine WL.qq (by simp only [EN, Nat.reduceEqDiff, reduceIte, qv_binOp, binv_neq, eq37, Option.map_some, hB2.cell]; rfl) ?_
          refine WL.nil ?_
          refine th_norm ?_
          refine hx_cond (by simp only [EN, Nat.reduceEqDiff, reduceIte, hB2.cell]; rfl) (fun hct47 => ?_) (fun hct47 => ?_)
          ·
            simp at hct47
          ·
            try simp only [BD] at hct47
            refine hx_skip ?_
            refine th_norm ?_
            refine hx_region ?_
            refine WL.qq (by simp only [EN, Nat.reduceEqDiff, reduceIte, qv_move, i7_0, hB2.cell]; rfl) ?_
            refine WL.qq (by simp only [EN, Nat.reduceEqDiff, reduceIte, qv_load, ld43, readN, AR, Nat.zero_add, Nat.reduceAdd, hB2.cell]; rfl) ?_
            refine WL.lit2 #[(.int .i64 0), (.string ⟨#[]⟩)] Try.underlying34 sz43 zr43 (by decide) (by kernel_rfl) ⟨_, (by simp only [EN, Nat.reduceEqDiff, reduceIte, AR, hB2.cell]; simp [Instr.fill, Value.cells]; rfl), rfl⟩ ?_
            intro h3 B3 hx3 hlt3 hB3
            replace hT := hT.ext hx3
            replace ho := ho.ext hx3
            replace hB2 := hB2.ext hx3
            refine WL.appG (f := msgL) (base := h.size) (n := K.length) (xs := K.flatMap msgL) (bytes := 24) (sz := 2) (L := [(1 + (K.length : Int), s)]) Try.underlying34 (inf_of Try.type43) rfl rfl rfl rfl (by decide) (fun _ => rfl) (fun x u hu => by simp at hu; rcases hu with rfl | rfl <;> rfl) (by simp only [EN, Nat.reduceEqDiff, reduceIte, k0_0, k5_0, i7_0, i8_0, hB2.cell, hB3.cell] <;> rfl) ho (by simp only [EN, Nat.reduceEqDiff, reduceIte, k0_0, k5_0, i7_0, i8_0, hB2.cell, hB3.cell] <;> rfl) rfl (by intro hh; cases hh) (slG_has (f := msgL) (sz := 2) (fun _ => rfl) hB3 rfl) (by simp only [maxLen, List.length_singleton]; omega) (by rw [List.length_singleton]; omega) hT.E.size ?_
            intro h41 v41 ho41 hg41 hp41 hn41
            refine WL.qq (by simp only [EN, Nat.reduceEqDiff, reduceIte, qv_assign, hB2.cell, hB3.cell]; rfl) ?_
            refine WL.nil ?_
            refine bl_norm ?_
            refine th_norm ?_
            refine hx_region ?_
            refine WL.qq (by simp only [EN, Nat.reduceEqDiff, reduceIte, qv_move, i8_0, hB2.cell, hB3.cell]; rfl) ?_
            refine WL.qq (by simp only [EN, Nat.reduceEqDiff, reduceIte, qv_binOp, binv_add, hB2.cell, hB3.cell]; (try simp (disch := omega) only [w64, w8, wu64]); rfl) ?_
            refine WL.qq (by simp only [EN, Nat.reduceEqDiff, reduceIte, qv_assign, hB2.cell, hB3.cell]; rfl) ?_
            refine WL.nil ?_
            refine th_norm ?_
            refine ⟨rfl, ?_, _, ?_, i + 1, K ++ [(1 + (K.length : Int), s)], al3, cap3, v41, rfl, ?_, ?_, ?_, ?_, ?_, ?_, ?_, ?_, ?_, ?_⟩  -- again 1 of loop 0
            · (repeat (first | exact Fr.refl _ _ | refine Fr.set rfl ?_ | refine Fr.put rfl ?_ | with_reducible refine Fr.put0 ?_))
            · omega
            · omega
            · rw [List.length_append, List.length_singleton]; omega
            · omega
            · exact hS2
            · exact hT.gr hg41 (ho.ncell hT.blk (by decide)) (fun g off ha hc => hsep3 g off hc ha) (hg41.ext hT.E fun c hc => (ho.block c hc).1)
            · rw [List.length_append, List.flatMap_append]; exact ho41
            · exact sg_sz hKs (show s.size ≤ 4096 by omega)
            · intro c off hc hh; rcases hp41 with h9 | h9; (rw [h9] at hc; exact hsep3 c off hc hh); (obtain ⟨cu, hcu⟩ := hT.ko.rd.ty c off hh; have := (Array.getElem?_eq_some_iff.1 hcu).1; rw [h9] at hc; cases hc; omega)
            · simp only [EN, Nat.reduceEqDiff, reduceIte, k0_0, k5_0, i7_0, i8_0, hB2.cell, hB3.cell] <;> first | rfl | (congr 1; omega)
            · simp only [EN, Nat.reduceEqDiff, reduceIte, k0_0, k5_0, i7_0, i8_0, hB2.cell, hB3.cell] <;> first | rfl | (congr 1; omega)
      ·
        try simp only [BD] at hct28
        refine hx_exit ?_
        refine th_exit ?_
        refine th_exit ?_
        refine bl_hit ?_
        refine th_norm ?_
        refine hx_seq ?_
        refine hx_region ?_
        refine WL.qq (by simp only [EN, Nat.reduceEqDiff, reduceIte, qv_move, k5_0]; rfl) ?_
        refine WL.qq (by simp only [EN, Nat.reduceEqDiff, reduceIte, qv_move, i7_0]; rfl) ?_
        refine WL.qq (by simp only [EN, Nat.reduceEqDiff, reduceIte, qv_assign]; rfl) ?_
        refine WL.qq (by simp only [EN, Nat.reduceEqDiff, reduceIte, qv_assign]; rfl) ?_
        refine WL.qq (by simp only [EN, Nat.reduceEqDiff, reduceIte, qv_assign]; rfl) ?_
        refine WL.nil ?_
        refine th_norm ?_
        refine hx_ret ?_
        refine fin_ret [.tmp 2, .tmp 3, .tmp 4] rfl rfl (by simp only [EN, Nat.reduceEqDiff, reduceIte, resv, k0_0, k5_0, i7_0, i8_0]; rfl) ?_  -- ret 0 r13
        obtain ⟨b5, c5, hv5, _, hb5⟩ := KO.of ho
        subst hv5
        exact ⟨p, al, cap, b5, c5, K, rfl, ⟨hS, hT, SlR.own (f := msgL) (sz := 2) (fun _ => rfl) ho rfl, by omega, hKs, fun c off hh => ⟨hb5 c off hh, fun off' => hsep c off' (by subst hh; rfl)⟩⟩⟩
end GL


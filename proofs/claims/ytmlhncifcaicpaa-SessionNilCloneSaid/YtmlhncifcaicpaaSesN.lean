/- Session: Send and Acknowledge. -/
import Derived.Test.YtmlhncifcaicpaaSesM
set_option linter.unusedSimpArgs false
set_option linter.unusedVariables false
set_option linter.unnecessarySimpa false
namespace GL
open Go Go.Proofs
set_option maxRecDepth 8000
def sndE (w n : Int) (K : List M2) (pl : ByteArray) : Int := if 4096 < pl.size then 5 else if (K.length : Int) = w ∨ 1000000000 < n then 8 else 0
def sndM (w n : Int) (K : List M2) (pl : ByteArray) : M2 := if sndE w n K pl = 0 then (n, pl) else (0, em)
def sndN (w n : Int) (K : List M2) (pl : ByteArray) : Int := if sndE w n K pl = 0 then n + 1 else n
def sndK (w n : Int) (K : List M2) (pl : ByteArray) : List M2 := if sndE w n K pl = 0 then K ++ [(n, pl)] else K
theorem sndE_ok {w n : Int} {K : List M2} {pl : ByteArray} (h : sndE w n K pl = 0) : pl.size ≤ 4096 ∧ (K.length : Int) ≠ w ∧ n ≤ 1000000000 := by
  unfold sndE at h
  by_cases h1 : 4096 < pl.size
  · rw [if_pos h1] at h; cases h
  rw [if_neg h1] at h
  by_cases h2 : (K.length : Int) = w ∨ 1000000000 < n
  · rw [if_pos h2] at h; cases h
  exact ⟨by omega, fun hh => h2 (.inl hh), by omega⟩
theorem SG.snd {w n a : Int} {K : List M2} (pl : ByteArray) (hS : SG w n a K) : SG w (sndN w n K pl) a (sndK w n K pl) := by
  unfold sndN sndK
  by_cases h : sndE w n K pl = 0
  · rw [if_pos h, if_pos h]
    obtain ⟨h1, h2, h3⟩ := sndE_ok h
    have h4 := hS.kw
    have h5 := hS.an
    refine ⟨hS.w1, hS.w2, hS.a1, by rw [List.length_append, List.length_singleton]; omega, by omega, by rw [List.length_append, List.length_singleton]; omega, fun i x hx => ?_⟩
    rcases Nat.lt_or_ge i K.length with hi | hi
    · rw [List.getElem?_append_left hi] at hx
      exact hS.sq i x hx
    · rw [List.getElem?_append_right hi] at hx
      have hi2 : i = K.length := by
        have := (List.getElem?_eq_some_iff.1 hx).1
        simp at this; omega
      subst hi2
      simp at hx
      subst hx
      show n = a + (K.length : Int)
      omega
  · rw [if_neg h, if_neg h]; exact hS
section
variable {h0 h h' h2 : Heap} {p cap : Nat} {w n a : Int} {al : Option Addr} {K : List M2}
theorem Sf.wrn {B : Nat} {o : Obj} (hs : Sf p al h h') (hw : Wr h' h2 B o) (hB : B = p ∨ h.size ≤ B) : Sf p al h h2 := by
  refine ⟨by rw [hw.size]; exact hs.1, fun c o q h1 h3 => ?_⟩
  have := (Array.getElem?_eq_some_iff.1 q).1
  rw [hw.same c (by omega)]
  exact hs.2 c o q h1 h3
theorem Sf.trans (hs : Sf p al h h') (hs2 : Sf p al h' h2) : Sf p al h h2 := ⟨Nat.le_trans hs.1 hs2.1, fun c o q h1 h3 => hs2.2 c o (hs.2 c o q h1 h3) h1 h3⟩
theorem ownb {N n : Nat} {el sz : Nat} {xs : List Value} {c : Nat} (ho : Own h N el sz (.slice al n cap) n xs) (hc : (Value.slice al n cap).ownBlock = some c) : ∃ off, al = some ⟨c, off, none⟩ := by
  obtain ⟨_, _, hq, _, _, hb⟩ := ho.shape
  cases hq
  cases al with
  | none => cases hc
  | some ad =>
    obtain ⟨g, rfl, _⟩ := hb ad rfl
    have h9 : some g = some c := hc
    cases h9
    exact ⟨0, rfl⟩
theorem KO.wrb {N B : Nat} {o : Obj} (hk : KO h N al cap K) (hw : Wr h h' B o) (hn : ∀ off, al ≠ some ⟨B, off, none⟩) : KO h' N al cap K := by
  refine ⟨hk.rd.gs (S := [B]) (Gs.ofWr hw (by simp)) (fun g off ha hm => ?_), hk.le, hk.own.imp (fun q => q.keep fun c hc => hw.same c fun hh => ?_) id⟩
  · simp at hm
    subst hm
    exact hn off ha
  · subst hh
    obtain ⟨off, h9⟩ := ownb q hc
    exact hn off h9
theorem Sf.push (hs : Sf p al h h') (hz : h'.size ≤ h2.size) (hf : ∀ c o, h'[c]? = some o → (∀ off, al ≠ some ⟨c, off, none⟩) → h2[c]? = some o) : Sf p al h h2 := ⟨Nat.le_trans hs.1 hz, fun c o q h1 h3 => hf c o (hs.2 c o q h1 h3) h3⟩
theorem e_pushK {e : Env} {s x : Operand} {ty : TypeId} {N B : Nat} {m : M2} (hk : KO h N al cap K) (hv : ev e s = .slice al K.length cap) (hx : ev e x = .slice (some ⟨B, 0, none⟩) 1 1) (hB : Has h B (.cells (msgL m).toArray 43)) (hK : K.length ≤ 1000) (hN : N ≤ h.size)
    (hal : ∀ c off, al = some ⟨c, off, none⟩ → N ≤ c) :
    EOp Try.prog (.call ⟨.builtin .append, #[s, x], #[34, 34]⟩) ty e h fun v' h' => ∃ al' cap', v' = .slice al' (K ++ [m]).length cap' ∧ KO h' N al' cap' (K ++ [m]) ∧ h.size ≤ h'.size ∧ (∀ c o, h[c]? = some o → (∀ off, al ≠ some ⟨c, off, none⟩) → h'[c]? = some o) ∧
      (∀ c off, al' = some ⟨c, off, none⟩ → N ≤ c ∧ ((∃ off', al = some ⟨c, off', none⟩) ∨ h.size ≤ c)) := by
  have hm := slG_has (f := msgL) (sz := 2) (L := [m]) (fun _ => rfl) hB rfl
  rcases hk.own with ho | hc
  · refine (e_append (bytes := 24) (base := N) (n := K.length) (m := 1) (c' := 1) (news := msgL m) (a := ⟨B, 0, none⟩) Try.underlying34 (inf_of Try.type43) rfl rfl rfl rfl (by decide) hv ho hx rfl ?_ (by intro u hu; simp at hu; rcases hu with rfl | rfl <;> rfl) (by simp only [maxLen]; omega) (by omega) hN).mono ?_
    · intro j u hj
      rw [addr_add, cell_eq]
      have h2 : GL.cell h B (0 + j) = (msgL m).toArray[0 + j]? := hB.cell _
      rw [h2, Nat.zero_add]
      simpa using hj
    · rintro v' h' ⟨ho', hg, _, hpl⟩
      have ho2 : Own h' N 43 2 v' (K ++ [m]).length ((K ++ [m]).flatMap msgL) := by rw [List.length_append, List.flatMap_append]; exact ho'
      obtain ⟨al', cap', rfl, hk', hb'⟩ := KO.of ho2
      refine ⟨al', cap', rfl, hk', hg.size, fun c o q hne => ?_, fun c off q => ⟨hb' c off q, ?_⟩⟩
      · rw [hg.same c (Array.getElem?_eq_some_iff.1 q).1 (fun hh => ?_)]; exact q
        obtain ⟨off, h9⟩ := ownb ho hh
        exact hne off h9
      · subst q
        rcases hpl with hpl | hpl
        · left
          have h8 : (Value.slice al K.length cap).ownBlock = some c := by rw [← hpl]; rfl
          exact ownb ho h8
        · right
          have h8 : some c = some h.size := by rw [← hpl]; rfl
          cases h8
          exact Nat.le_refl _
  · refine (e_appF2 (f := msgL) (L := K) (M := [m]) (n := K.length) (m := 1) (bytes := 24) (c' := 1) Try.underlying34 (inf_of Try.type43) rfl rfl rfl rfl (by decide) (fun _ => rfl) (fun x u hu => by simp at hu; rcases hu with rfl | rfl <;> rfl) (by rw [hv, hc]) rfl hk.rd.rd hx rfl hm (by simp) (by simp only [maxLen]; omega) (by omega)).mono ?_
    rintro v' h' ⟨hx', ho'⟩
    have ho2 : Own h' N 43 2 v' (K ++ [m]).length ((K ++ [m]).flatMap msgL) := by rw [List.length_append]; exact ho'.base hN
    obtain ⟨al', cap', rfl, hk', hb'⟩ := KO.of ho2
    refine ⟨al', cap', rfl, hk', hx'.size, fun c o q _ => hx' c o q, fun c off q => ⟨hb' c off q, .inr ?_⟩⟩
    have ho3 : Own h' h.size 43 2 (.slice al' (K ++ [m]).length cap') (K ++ [m]).length ((K ++ [m]).flatMap msgL) := by rw [List.length_append]; rw [List.length_append] at ho'; exact ho'
    obtain ⟨_, _, hq, _, _, hbk⟩ := ho3.shape
    cases hq
    obtain ⟨g, hg, h9, _⟩ := hbk _ q
    cases hg
    exact h9
set_option maxHeartbeats 1000000 in
theorem c_Send (pl : ByteArray) (hS : SG w n a K) (ht : TS h0 h p w n a al cap K) :
    HCalls Try.prog 22 #[.pointer (some ⟨p, 0, none⟩), .string pl] h fun v h' => v = .tuple #[.agg (msgL (sndM w n K pl)).toArray, iV (sndE w n K pl)] ∧ ∃ al' cap', TS h0 h' p w (sndN w n K pl) a al' cap' (sndK w n K pl) ∧ Sf p al h h' ∧ (∀ c off, al' = some ⟨c, off, none⟩ → (∃ off', al = some ⟨c, off', none⟩) ∨ h.size ≤ c) := by
  have hkw := hS.kw; have hw2 := hS.w2; have hn2 := hS.n2; have han := hS.an; have ha1 := hS.a1
  refine hcalls2 Try.func22 rfl (by decide +kernel) (by simp only [Try.ntmps22]; exact of_decide_eq_true rfl) ?_
  intro e hin
  have e0 := hin 0 _ rfl
  have e1 := hin 1 _ rfl
  have kt := ht
  refine hx_seq ?_
  refine hx_region ?_
  refine WL.alloc2 zr43 ?_
  intro h1 B1 hx1 hlt1 hB1
  replace ht := ht.ext hx1
  simp only [Value.cells] at hB1
  refine WL.qq (by simp only [EN, Nat.reduceEqDiff, reduceIte, qv_assign, ht.blk.cell, hB1.cell]; rfl) ?_
  refine WL.nil ?_
  refine th_norm ?_
  refine hx_seq ?_
  refine hx_block ?_
  refine hx_seq ?_
  refine hx_region ?_
  refine WL.qq (by simp only [EN, Nat.reduceEqDiff, reduceIte, qv_move, e0, ht.blk.cell, hB1.cell]; rfl) ?_
  refine WL.qq (by simp only [EN, Nat.reduceEqDiff, reduceIte, qv_binOp, binv_eql, eqz33, eqn33, eqm33, Option.map_some, ht.blk.cell, hB1.cell]; rfl) ?_
  refine WL.qq (by simp only [EN, Nat.reduceEqDiff, reduceIte, qv_assign, ht.blk.cell, hB1.cell]; rfl) ?_
  refine WL.nil ?_
  refine th_norm ?_
  refine hx_cond (by simp only [EN, Nat.reduceEqDiff, reduceIte, ht.blk.cell, hB1.cell]; rfl) (fun hct7 => ?_) (fun hct7 => ?_)
  ·
    simp at hct7
  ·
    try simp only [BD] at hct7
    refine hx_seq ?_
    refine hx_region ?_
    refine WL.qq (by simp only [EN, Nat.reduceEqDiff, reduceIte, qv_move, e1, ht.blk.cell, hB1.cell]; rfl) ?_
    refine WL.qq (by simp only [EN, Nat.reduceEqDiff, reduceIte, qv_len, ln9, AR, ht.blk.cell, hB1.cell]; rfl) ?_
    refine WL.qq (by simp only [EN, Nat.reduceEqDiff, reduceIte, qv_binOp, binv_gtr, ht.blk.cell, hB1.cell]; rfl) ?_
    refine WL.qq (by simp only [EN, Nat.reduceEqDiff, reduceIte, qv_assign, ht.blk.cell, hB1.cell]; rfl) ?_
    refine WL.nil ?_
    refine th_norm ?_
    refine hx_cond (by simp only [EN, Nat.reduceEqDiff, reduceIte, ht.blk.cell, hB1.cell]; rfl) (fun hct11 => ?_) (fun hct11 => ?_)
    ·
      try simp only [BD] at hct11
      refine hx_seq ?_
      refine hx_region ?_
      refine WL.qq (by refine qv_bld (by simp only [EN, Nat.reduceEqDiff, reduceIte, AR, ht.blk.cell, hB1.cell] <;> rfl) (by rw [bl43]; simp [Instr.fill, Value.cells]; rfl)) ?_
      refine WL.store (by simp only [EN, Nat.reduceEqDiff, reduceIte, e0, e1, ht.blk.cell, hB1.cell] <;> rfl) sz43 (by simp only [EN, Nat.reduceEqDiff, reduceIte, e0, e1, ht.blk.cell, hB1.cell, Value.cells] <;> rfl) rfl hB1 (by simp) (by intro u hu; simp at hu; rcases hu with rfl | rfl <;> rfl) ?_
      intro h20 hw20
      replace ht := kt.ext (hw20.ext (hx1) hlt1)
      have hSf : Sf p al h h20 := Sf.ext (hw20.ext (hx1) hlt1)
      replace hB1 := hw20.at_
      refine WL.qq (by simp only [EN, Nat.reduceEqDiff, reduceIte, qv_assign, ht.blk.cell, hB1.cell]; rfl) ?_
      refine WL.nil ?_
      refine th_norm ?_
      refine hx_ret ?_
      refine bl_ret ?_
      refine th_ret ?_
      refine fin_ret [.cell 4 43, .tmp 5] rfl rfl (by simp only [EN, Nat.reduceEqDiff, reduceIte, resv, ld43, readN, AR, Nat.zero_add, Nat.reduceAdd, e0, e1, ht.blk.cell, hB1.cell]; rfl) ?_  -- ret 0 r4
      have he : sndE w n K pl = 5 := (if_pos (by omega))
      have hne : ¬ sndE w n K pl = 0 := (by rw [he]; decide)
      rw [sndM, sndN, sndK, if_neg hne, if_neg hne, if_neg hne, he]
      exact ⟨rfl, _, _, ht, hSf, fun c off q => .inl ⟨off, q⟩⟩
    ·
      try simp only [BD] at hct11
      have q1 : ¬ 4096 < pl.size := (by omega)
      refine hx_seq ?_
      apply hx_draw2 Rel.same [] [] [] rfl (by decide +kernel) rfl
      refine LD.qq rfl rfl (by simp only [EN, Nat.reduceEqDiff, reduceIte, qv_move, e0, ht.blk.cell, hB1.cell]; rfl) ?_
      refine LD.qq rfl rfl (by simp only [EN, Nat.reduceEqDiff, reduceIte, qv_nilCheck, ht.blk.cell, hB1.cell]; rfl) ?_
      refine LD.qq rfl rfl (by simp only [EN, Nat.reduceEqDiff, reduceIte, qv_fieldAddr, fa88_3, Nat.zero_add, Nat.reduceAdd, ht.blk.cell, hB1.cell]; rfl) ?_
      refine LD.qq rfl rfl (by simp only [EN, Nat.reduceEqDiff, reduceIte, qv_load, ld34, readN, AR, Nat.zero_add, Nat.reduceAdd, ht.blk.cell, hB1.cell]; rfl) ?_
      refine LD.qq rfl rfl (by simp only [EN, Nat.reduceEqDiff, reduceIte, qv_len, ln34, AR, ht.blk.cell, hB1.cell]; rfl) ?_
      refine LD.qq rfl rfl (by simp only [EN, Nat.reduceEqDiff, reduceIte, qv_move, e0, ht.blk.cell, hB1.cell]; rfl) ?_
      refine LD.qq rfl rfl (by simp only [EN, Nat.reduceEqDiff, reduceIte, qv_nilCheck, ht.blk.cell, hB1.cell]; rfl) ?_
      refine LD.qq rfl rfl (by simp only [EN, Nat.reduceEqDiff, reduceIte, qv_fieldAddr, fa88_0, Nat.zero_add, Nat.reduceAdd, ht.blk.cell, hB1.cell]; rfl) ?_
      refine LD.qq rfl rfl (by simp only [EN, Nat.reduceEqDiff, reduceIte, qv_load, ld3, readN, AR, Nat.zero_add, Nat.reduceAdd, ht.blk.cell, hB1.cell]; rfl) ?_
      refine LD.qq rfl rfl (by simp only [EN, Nat.reduceEqDiff, reduceIte, qv_binOp, binv_eql, eq3, Option.map_some, ht.blk.cell, hB1.cell]; rfl) ?_
      refine LD.qq rfl rfl (by simp only [EN, Nat.reduceEqDiff, reduceIte, qv_move, ht.blk.cell, hB1.cell]; rfl) ?_
      refine LD.cq rfl rfl (gd_at (t := 27) rfl (by simp only [EN, Nat.reduceEqDiff, reduceIte, e0, ht.blk.cell, hB1.cell] <;> rfl)) (fun hg5_11 => by simp only [EN, Nat.reduceEqDiff, reduceIte, qv_move, e0, ht.blk.cell, hB1.cell, hg5_11, GR]; rfl) ?_
      refine LD.cq rfl rfl (gd_at (t := 27) rfl (by simp only [EN, Nat.reduceEqDiff, reduceIte, ht.blk.cell, hB1.cell] <;> rfl)) (fun hg5_12 => by simp only [EN, Nat.reduceEqDiff, reduceIte, qv_nilCheck, ht.blk.cell, hB1.cell, hg5_12, GR]; rfl) ?_
      refine LD.cq rfl rfl (gd_at (t := 27) rfl (by simp only [EN, Nat.reduceEqDiff, reduceIte, ht.blk.cell, hB1.cell] <;> rfl)) (fun hg5_13 => by simp only [EN, Nat.reduceEqDiff, reduceIte, qv_fieldAddr, fa88_1, Nat.zero_add, Nat.reduceAdd, ht.blk.cell, hB1.cell, hg5_13, GR]; rfl) ?_
      refine LD.cq rfl rfl (gd_at (t := 27) rfl (by simp only [EN, Nat.reduceEqDiff, reduceIte, ht.blk.cell, hB1.cell] <;> rfl)) (fun hg5_14 => by simp only [EN, Nat.reduceEqDiff, reduceIte, qv_load, ld3, readN, AR, Nat.zero_add, Nat.reduceAdd, ht.blk.cell, hB1.cell, hg5_14, GR]; rfl) ?_
      refine LD.cq rfl rfl (gd_at (t := 27) rfl (by simp only [EN, Nat.reduceEqDiff, reduceIte, ht.blk.cell, hB1.cell] <;> rfl)) (fun hg5_15 => by simp only [EN, Nat.reduceEqDiff, reduceIte, qv_binOp, binv_gtr, ht.blk.cell, hB1.cell, hg5_15, GR]; rfl) ?_
      refine LD.qq rfl rfl (by simp only [EN, Nat.reduceEqDiff, reduceIte, qv_pick, pk_and, pk_or, GR, ht.blk.cell, hB1.cell]; rfl) ?_
      refine LD.qq rfl rfl (by simp only [EN, Nat.reduceEqDiff, reduceIte, qv_assign, ht.blk.cell, hB1.cell]; rfl) ?_
      refine LD.nil ?_
      rintro _ rfl -
      refine WL.nil ?_
      refine th_norm ?_
      refine hx_cond (by simp only [EN, Nat.reduceEqDiff, reduceIte, ht.blk.cell, hB1.cell]; rfl) (fun hct16 => ?_) (fun hct16 => ?_)
      ·
        try simp only [BD] at hct16
        refine hx_seq ?_
        refine hx_region ?_
        refine WL.qq (by refine qv_bld (by simp only [EN, Nat.reduceEqDiff, reduceIte, AR, ht.blk.cell, hB1.cell] <;> rfl) (by rw [bl43]; simp [Instr.fill, Value.cells]; rfl)) ?_
        refine WL.store (by simp only [EN, Nat.reduceEqDiff, reduceIte, e0, e1, ht.blk.cell, hB1.cell] <;> rfl) sz43 (by simp only [EN, Nat.reduceEqDiff, reduceIte, e0, e1, ht.blk.cell, hB1.cell, Value.cells] <;> rfl) rfl hB1 (by simp) (by intro u hu; simp at hu; rcases hu with rfl | rfl <;> rfl) ?_
        intro h20 hw20
        replace ht := kt.ext (hw20.ext (hx1) hlt1)
        have hSf : Sf p al h h20 := Sf.ext (hw20.ext (hx1) hlt1)
        replace hB1 := hw20.at_
        refine WL.qq (by simp only [EN, Nat.reduceEqDiff, reduceIte, qv_assign, ht.blk.cell, hB1.cell]; rfl) ?_
        refine WL.nil ?_
        refine th_norm ?_
        refine hx_ret ?_
        refine bl_ret ?_
        refine th_ret ?_
        refine fin_ret [.cell 4 43, .tmp 5] rfl rfl (by simp only [EN, Nat.reduceEqDiff, reduceIte, resv, ld43, readN, AR, Nat.zero_add, Nat.reduceAdd, e0, e1, ht.blk.cell, hB1.cell]; rfl) ?_  -- ret 1 r6
        have he : sndE w n K pl = 8 := ((if_neg q1).trans (if_pos (by omega)))
        have hne : ¬ sndE w n K pl = 0 := (by rw [he]; decide)
        rw [sndM, sndN, sndK, if_neg hne, if_neg hne, if_neg hne, he]
        exact ⟨rfl, _, _, ht, hSf, fun c off q => .inl ⟨off, q⟩⟩
      ·
        try simp only [BD] at hct16
        have he : sndE w n K pl = 0 := ((if_neg q1).trans (if_neg (by omega)))
        rw [sndM, sndN, sndK, if_pos he, if_pos he, if_pos he, he]
        refine hx_skip ?_
        refine bl_norm ?_
        refine th_norm ?_
        refine hx_seq ?_
        refine hx_region ?_
        refine WL.qq (by simp only [EN, Nat.reduceEqDiff, reduceIte, qv_move, e0, ht.blk.cell, hB1.cell]; rfl) ?_
        refine WL.qq (by simp only [EN, Nat.reduceEqDiff, reduceIte, qv_nilCheck, ht.blk.cell, hB1.cell]; rfl) ?_
        refine WL.qq (by simp only [EN, Nat.reduceEqDiff, reduceIte, qv_fieldAddr, fa88_1, Nat.zero_add, Nat.reduceAdd, ht.blk.cell, hB1.cell]; rfl) ?_
        refine WL.qq (by simp only [EN, Nat.reduceEqDiff, reduceIte, qv_load, ld3, readN, AR, Nat.zero_add, Nat.reduceAdd, ht.blk.cell, hB1.cell]; rfl) ?_
        refine WL.qq (by simp only [EN, Nat.reduceEqDiff, reduceIte, qv_move, e1, ht.blk.cell, hB1.cell]; rfl) ?_
        refine WL.qq (by refine qv_bld (by simp only [EN, Nat.reduceEqDiff, reduceIte, AR, ht.blk.cell, hB1.cell] <;> rfl) (by rw [bl43]; simp [Instr.fill, Value.cells]; rfl)) ?_
        refine WL.allocSt zr43 sz43 (fun u => by simp only [EN, Nat.reduceEqDiff, reduceIte, Value.cells, ht.blk.cell, hB1.cell]; rfl) ⟨rfl, rfl⟩ (by simp [Value.oneCell']) ?_
        intro h2 B2 hx2 hlt2 hB2
        replace ht := ht.ext hx2
        replace hB1 := hB1.ext hx2
        refine WL.nil ?_
        refine th_norm ?_
        refine hx_seq ?_
        apply hx_draw2 Rel.grows [7, 8, 9, 10] [6] [(6, Spec.ls (Array.size h2) (msgL (n, pl)).toArray 43 1)] rfl (by decide +kernel) rfl
        refine LD.qq rfl rfl (by simp only [EN, Nat.reduceEqDiff, reduceIte, qv_move, e0, ht.blk.cell, hB1.cell, hB2.cell]; rfl) ?_
        refine LD.qq rfl rfl (by simp only [EN, Nat.reduceEqDiff, reduceIte, qv_move, e0, ht.blk.cell, hB1.cell, hB2.cell]; rfl) ?_
        refine LD.qq rfl rfl (by simp only [EN, Nat.reduceEqDiff, reduceIte, qv_nilCheck, ht.blk.cell, hB1.cell, hB2.cell]; rfl) ?_
        refine LD.qq rfl rfl (by simp only [EN, Nat.reduceEqDiff, reduceIte, qv_fieldAddr, fa88_3, Nat.zero_add, Nat.reduceAdd, ht.blk.cell, hB1.cell, hB2.cell]; rfl) ?_
        refine LD.qq rfl rfl (by simp only [EN, Nat.reduceEqDiff, reduceIte, qv_load, ld34, readN, AR, Nat.zero_add, Nat.reduceAdd, ht.blk.cell, hB1.cell, hB2.cell]; rfl) ?_
        refine LD.qq rfl rfl (by simp only [EN, Nat.reduceEqDiff, reduceIte, qv_load, ld43, readN, AR, Nat.zero_add, Nat.reduceAdd, ht.blk.cell, hB1.cell, hB2.cell]; rfl) ?_
        refine LD.es rfl rfl (by intro hD hr hf; have hx : Ext _ _ := hr; have ht := ht.ext hx; have hB1 := hB1.ext hx; have hB2 := hB2.ext hx; exact e_lit1 hx.size Try.underlying34 sz43 zr43 (by decide) (by simp only [EN, Nat.reduceEqDiff, reduceIte, e0, e1, ht.blk.cell, hB1.cell, hB2.cell, Value.cells] <;> rfl) rfl) ?_
        intro u8_6 w8_6
        obtain ⟨B9, hlt9, rfl⟩ := w8_6
        refine LD.skip rfl ?_
        refine LD.skip rfl ?_
        refine LD.skip rfl ?_
        refine LD.skip rfl ?_
        refine LD.nil ?_
        rintro h3 hx3 hF8
        replace hx3 : Ext _ _ := hx3
        replace ht := ht.ext hx3
        replace hB1 := hB1.ext hx3
        replace hB2 := hB2.ext hx3
        have hB9 := hF8 (6, .slice (some ⟨B9, 0, none⟩) 1 1) (by simp) _ rfl B9 rfl
        have hX0 : Ext h h3 := ((hx1).trans ((hx2).trans (hx3)))
        have hz0 := hX0.size; have hplt := kt.lt
        have hb1 := (Array.getElem?_eq_some_iff.1 hB1).1; have hb2 := (Array.getElem?_eq_some_iff.1 hB2).1
        have hB2lo : h.size ≤ B2 := (by have := hx1.size; omega)
        have hnal : ∀ c, h.size ≤ c → ∀ off, al ≠ some ⟨c, off, none⟩ := fun c hc off hh => (by obtain ⟨cu, hcu⟩ := kt.ko.rd.ty c off hh; have := (Array.getElem?_eq_some_iff.1 hcu).1; omega)
        have hnp : ∀ off, al ≠ some ⟨p, off, none⟩ := fun off hh => (by obtain ⟨cu, hcu⟩ := ht.ko.rd.ty p off hh; have := hcu.un ht.blk; cases this)
        refine WL.ef _ (e_pushK ht.ko (by simp only [EN, Nat.reduceEqDiff, reduceIte, e0, e1, ht.blk.cell, hB1.cell, hB2.cell]) (by simp only [EN, Nat.reduceEqDiff, reduceIte, e0, e1, ht.blk.cell, hB1.cell, hB2.cell]) hB9 (by omega) ht.E.size ht.hb) ?_
        rintro _ h40 ⟨al2, cap2, rfl, hk2, hz2, hfr2, hpl2⟩
        simp only [put_some]
        have hbk : Has h40 p _ := hfr2 p _ ht.blk hnp
        replace hB1 : Has h40 B1 _ := hfr2 B1 _ hB1 (hnal B1 hlt1)
        replace hB2 : Has h40 B2 _ := hfr2 B2 _ hB2 (hnal B2 hB2lo)
        have hSf : Sf p al h h40 := (Sf.ext hX0).push hz2 hfr2
        have hE40 : Ext h0 h40 := (fun c o q => hfr2 c o (ht.E c o q) (fun off hh => by have h9 := ht.hb c off hh; have h8 := (Array.getElem?_eq_some_iff.1 q).1; omega))
        have hn2p : ∀ off, al2 ≠ some ⟨p, off, none⟩ := (fun off hh => by obtain ⟨cu, hcu⟩ := hk2.rd.ty p off hh; have := hcu.un hbk; cases this)
        have hn2b : ∀ off, al2 ≠ some ⟨B1, off, none⟩ := (fun off hh => by rcases (hpl2 B1 off hh).2 with ⟨o', h9⟩ | h9; exact hnal B1 hlt1 o' h9; omega)
        have hpl3 : ∀ c off, al2 = some ⟨c, off, none⟩ → (∃ off', al = some ⟨c, off', none⟩) ∨ h.size ≤ c := (fun c off hh => (hpl2 c off hh).2.imp id (fun q => Nat.le_trans hz0 q))
        have hp1 : B1 ≠ p := (by omega)
        have hp2 : B2 ≠ p := (by omega)
        refine WL.qq (by simp only [EN, Nat.reduceEqDiff, reduceIte, qv_nilCheck, ht.blk.cell, hB1.cell, hB2.cell]; rfl) ?_
        refine WL.qq (by simp only [EN, Nat.reduceEqDiff, reduceIte, qv_fieldAddr, fa88_3, Nat.zero_add, Nat.reduceAdd, ht.blk.cell, hB1.cell, hB2.cell]; rfl) ?_
        refine WL.store (by simp only [EN, Nat.reduceEqDiff, reduceIte, ht.blk.cell, hB1.cell, hB2.cell] <;> rfl) sz34 (by simp only [EN, Nat.reduceEqDiff, reduceIte, Value.cells, ht.blk.cell, hB1.cell, hB2.cell] <;> rfl) rfl hbk (by first | (simp [true_and]; done) | (simp [true_and]; omega) | omega) (by simp [Value.oneCell']) ?_
        intro h4 hw4
        replace hk2 := hk2.wrb hw4 hn2p
        replace hSf := hSf.wrn hw4 (.inl rfl)
        replace hE40 := hw4.ext hE40 kt.hp
        replace hB1 := hB1.wr hw4 hp1
        replace hB2 := hB2.wr hw4 hp2
        replace hbk := hw4.at_
        simp only [splc, List.take_succ_cons, List.take_zero, List.take_nil, List.drop_succ_cons, List.drop_zero, List.drop_nil, List.cons_append, List.nil_append, List.length_cons, List.length_nil, Nat.zero_add, Nat.add_zero, Nat.reduceAdd, List.append_nil] at hbk
        refine WL.nil ?_
        refine th_norm ?_
        refine hx_seq ?_
        refine hx_region ?_
        refine WL.qq (by simp only [EN, Nat.reduceEqDiff, reduceIte, qv_move, e0, ht.blk.cell, hB1.cell, hB2.cell]; rfl) ?_
        refine WL.qq (by simp only [EN, Nat.reduceEqDiff, reduceIte, qv_nilCheck, ht.blk.cell, hB1.cell, hB2.cell]; rfl) ?_
        refine WL.qq (by simp only [EN, Nat.reduceEqDiff, reduceIte, qv_fieldAddr, fa88_1, Nat.zero_add, Nat.reduceAdd, ht.blk.cell, hB1.cell, hB2.cell]; rfl) ?_
        refine WL.qq (by simp only [EN, Nat.reduceEqDiff, reduceIte, e0, e1, ht.blk.cell, hB1.cell, hB2.cell, qv_load, ld3, hbk.cell, AR, Nat.zero_add, Nat.reduceAdd]; rfl) ?_
        refine WL.qq (by simp only [EN, Nat.reduceEqDiff, reduceIte, qv_binOp, binv_add, ht.blk.cell, hB1.cell, hB2.cell]; (try simp (disch := omega) only [w64, w8, wu64]); rfl) ?_
        refine WL.qq (by simp only [EN, Nat.reduceEqDiff, reduceIte, qv_nilCheck, ht.blk.cell, hB1.cell, hB2.cell]; rfl) ?_
        refine WL.qq (by simp only [EN, Nat.reduceEqDiff, reduceIte, qv_fieldAddr, fa88_1, Nat.zero_add, Nat.reduceAdd, ht.blk.cell, hB1.cell, hB2.cell]; rfl) ?_
        refine WL.store (by simp only [EN, Nat.reduceEqDiff, reduceIte, ht.blk.cell, hB1.cell, hB2.cell] <;> rfl) sz3 (by simp only [EN, Nat.reduceEqDiff, reduceIte, Value.cells, ht.blk.cell, hB1.cell, hB2.cell] <;> rfl) rfl hbk (by first | (simp [true_and]; done) | (simp [true_and]; omega) | omega) (by simp [Value.oneCell']) ?_
        intro h5 hw5
        replace hk2 := hk2.wrb hw5 hn2p
        replace hSf := hSf.wrn hw5 (.inl rfl)
        replace hE40 := hw5.ext hE40 kt.hp
        replace hB1 := hB1.wr hw5 hp1
        replace hB2 := hB2.wr hw5 hp2
        replace hbk := hw5.at_
        simp only [splc, List.take_succ_cons, List.take_zero, List.take_nil, List.drop_succ_cons, List.drop_zero, List.drop_nil, List.cons_append, List.nil_append, List.length_cons, List.length_nil, Nat.zero_add, Nat.add_zero, Nat.reduceAdd, List.append_nil] at hbk
        refine WL.nil ?_
        refine th_norm ?_
        refine hx_seq ?_
        refine hx_region ?_
        refine WL.qq (by simp only [EN, Nat.reduceEqDiff, reduceIte, e0, e1, ht.blk.cell, hB1.cell, hB2.cell, qv_load, ld43, readN, hB2.cell, AR, Nat.zero_add, Nat.reduceAdd]; rfl) ?_
        refine WL.store (by simp only [EN, Nat.reduceEqDiff, reduceIte, e0, e1, ht.blk.cell, hB1.cell, hB2.cell] <;> rfl) sz43 (by simp only [EN, Nat.reduceEqDiff, reduceIte, e0, e1, ht.blk.cell, hB1.cell, hB2.cell, Value.cells] <;> rfl) rfl hB1 (by simp) (by intro u hu; simp at hu; rcases hu with rfl | rfl <;> rfl) ?_
        intro h60 hw60
        replace hk2 := hk2.wrb hw60 hn2b
        replace hSf := hSf.wrn hw60 (.inr hlt1)
        replace hE40 := hw60.ext hE40 (Nat.le_trans kt.E.size hlt1)
        replace hbk := hbk.wr hw60 (Ne.symm hp1)
        replace hB1 := hw60.at_
        refine WL.qq (by simp only [EN, Nat.reduceEqDiff, reduceIte, qv_assign, ht.blk.cell, hB1.cell, hB2.cell]; rfl) ?_
        refine WL.nil ?_
        refine th_norm ?_
        refine hx_ret ?_
        refine fin_ret [.cell 4 43, .tmp 5] rfl rfl (by simp only [EN, Nat.reduceEqDiff, reduceIte, resv, ld43, readN, AR, Nat.zero_add, Nat.reduceAdd, e0, e1, ht.blk.cell, hB1.cell, hB2.cell]; rfl) ?_  -- ret 2 r10
        exact ⟨rfl, al2, cap2, ⟨hbk, hk2, hE40, kt.hp, fun c off q => (hpl2 c off q).1⟩, hSf, hpl3⟩
end
end GL


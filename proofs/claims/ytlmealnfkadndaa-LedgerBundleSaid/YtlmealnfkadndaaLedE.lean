/- Ledger: Post. -/
import Derived.Test.YtlmealnfkadndaaLedM
set_option linter.unusedSimpArgs false
set_option linter.unusedVariables false
set_option linter.unnecessarySimpa false
namespace GL
open Go Go.Proofs
set_option maxRecDepth 8000
theorem Has.un {h : Heap} {b : Nat} {o o' : Obj} (h1 : Has h b o) (h2 : Has h b o') : o = o' := by
  have : some o = some o' := h1.symm.trans h2
  cases this; rfl
theorem MapT.has {κ β : Type} {ek : κ → Value} {ev' : β → Value} {h : Heap} {b : Nat} {l : List (κ × β)} (hm : MapT ek ev' h b l) : ∃ es c, Has h b (.map es c) := by
  obtain ⟨es, c, h1, _⟩ := hm; exact ⟨es, c, h1⟩
theorem Has.ncell {h : Heap} {b b' : Nat} {c c' : Array Value} {t t' : TypeId} (h1 : Has h b (.cells c t)) (h2 : Has h b' (.cells c' t')) (ht : t ≠ t') : b ≠ b' := by
  rintro rfl
  have := h1.un h2; simp only [Obj.cells.injEq] at this; exact ht this.2.1
theorem Has.nmap {κ β : Type} {ek : κ → Value} {ev' : β → Value} {h : Heap} {b b' : Nat} {c : Array Value} {t : TypeId} {l : List (κ × β)} (h1 : Has h b (.cells c t)) (h2 : MapT ek ev' h b' l) : b ≠ b' := by
  rintro rfl
  obtain ⟨es, cl, h3⟩ := h2.has
  cases h1.un h3
theorem Own.ncell {h : Heap} {base : Nat} {el t : TypeId} {sz : Nat} {v : Value} {n b : Nat} {xs : List Value} {c : Array Value} (ho : Own h base el sz v n xs) (h2 : Has h b (.cells c t)) (ht : t ≠ el) : v.ownBlock ≠ some b := by
  intro hh
  obtain ⟨cur, h1⟩ := ho.typ b hh
  exact h2.ncell h1 ht rfl
theorem Own.nmap {κ β : Type} {ek : κ → Value} {ev' : β → Value} {l : List (κ × β)} {h : Heap} {base : Nat} {el : TypeId} {sz : Nat} {v : Value} {n b : Nat} {xs : List Value} (ho : Own h base el sz v n xs) (h2 : MapT ek ev' h b l) : v.ownBlock ≠ some b := by
  intro hh
  obtain ⟨cur, h1⟩ := ho.typ b hh
  exact h1.nmap h2 rfl
abbrev foot (p bm : Nat) (vo : Value) : List Nat := p :: bm :: vo.ownBlock.toList
section
variable {h : Heap} {p bm fm : Nat} {vo : Value} {ks fs : List E2} {os : List K2} {sq : Int}
theorem BkO.nop (hb : BkO h p bm fm vo ks os fs sq) : vo.ownBlock ≠ some p := hb.ord.ncell hb.blk (by decide)
theorem BkO.nob (hb : BkO h p bm fm vo ks os fs sq) : vo.ownBlock ≠ some bm := hb.ord.nmap hb.bal
theorem BkO.nof (hb : BkO h p bm fm vo ks os fs sq) : vo.ownBlock ≠ some fm := hb.ord.nmap hb.flo
/-- An owned slice of other things lies elsewhere. -/
theorem Own.off {base : Nat} {el : TypeId} {sz : Nat} {v : Value} {n : Nat} {xs : List Value} (ho : Own h base el sz v n xs) (hb : BkO h p bm fm vo ks os fs sq) (h1 : el ≠ 83) (h2 : el ≠ 34) : ∀ c, v.ownBlock = some c → c ∉ foot p bm vo := by
  intro c hc hm
  obtain ⟨cur, h3⟩ := ho.typ c hc
  simp only [foot, List.mem_cons, Option.mem_toList] at hm
  rcases hm with rfl | rfl | hm
  · exact h3.ncell hb.blk h1 rfl
  · exact h3.nmap hb.bal rfl
  · obtain ⟨cur', h4⟩ := hb.ord.typ c hm
    exact h3.ncell h4 h2 rfl
theorem BkO.push {h40 h41 : Heap} {v40 : Value} {q : K2} (hb : BkO h p bm fm vo ks os fs sq) (ho : Own h40 0 34 2 v40 (os.length + 1) (os.flatMap keyL ++ keyL q)) (hg : Gr h h40 vo.ownBlock)
    (hw : Wr h40 h41 p (.cells #[gV, .map (some bm), .map (some fm), v40, iV sq] 83)) : BkO h41 p bm fm v40 ks (os ++ [q]) fs sq := by
  have h1 := hb.blk.gr hg hb.nop
  refine ⟨hw.at_, (hb.bal.gr hg hb.nob).wr hw (hb.blk.nmap hb.bal).symm, (hb.flo.gr hg hb.nof).wr hw (hb.blk.nmap hb.flo).symm, ?_, hb.ne⟩
  have h2 : Own h41 0 34 2 v40 (os.length + 1) (os.flatMap keyL ++ keyL q) := ho.keep fun c hc => hw.same c fun hh => by
    subst hh; exact ho.ncell h1 (by decide) hc
  simpa using h2
/-- A block that is no part of the book turns. -/
theorem BkO.st {h' : Heap} {d : Nat} {c : Array Value} {t : TypeId} (hb : BkO h p bm fm vo ks os fs sq) (hs : h' = h ∨ ∃ o, Wr h h' d o) (hd : Has h d (.cells c t)) (h1 : t ≠ 83) (h2 : t ≠ 34) : BkO h' p bm fm vo ks os fs sq := by
  rcases hs with rfl | ⟨o, hw⟩
  · exact hb
  · exact ⟨hb.blk.wr hw (hd.ncell hb.blk h1).symm, hb.bal.wr hw (hd.nmap hb.bal).symm, hb.flo.wr hw (hd.nmap hb.flo).symm, hb.ord.keep (fun c hc => hw.same c fun hh => by subst hh; exact hb.ord.ncell hd h2 hc), hb.ne⟩
theorem BkO.away {h' : Heap} {d : Nat} (hb : BkO h p bm fm vo ks os fs sq) (hs : h' = h ∨ ∃ o, Wr h h' d o) (h1 : p ≠ d) (h2 : bm ≠ d) (h3 : fm ≠ d) (h4 : vo.ownBlock ≠ some d) : BkO h' p bm fm vo ks os fs sq := by
  rcases hs with rfl | ⟨o, hw⟩
  · exact hb
  · exact ⟨hb.blk.wr hw h1, hb.bal.wr hw h2, hb.flo.wr hw h3, hb.ord.keep (fun c hc => hw.same c fun hh => by subst hh; exact h4 hc), hb.ne⟩
theorem BkO.lts (hb : BkO h p bm fm vo ks os fs sq) : p < h.size ∧ bm < h.size ∧ fm < h.size ∧ ∀ c, vo.ownBlock = some c → c < h.size :=
  ⟨(Array.getElem?_eq_some_iff.1 hb.blk).1, hb.bal.lt, hb.flo.lt, fun c hc => (hb.ord.block c hc).2⟩
/-- The balances turn. -/
theorem BkO.bals {h' : Heap} {ks' : List E2} (hb : BkO h p bm fm vo ks os fs sq) (hs : h' = h ∨ ∃ o, Wr h h' bm o) (hm : MapT kV iV h' bm ks') : BkO h' p bm fm vo ks' os fs sq := by
  rcases hs with rfl | ⟨o, hw⟩
  · exact ⟨hb.blk, hm, hb.flo, hb.ord, hb.ne⟩
  · exact ⟨hb.blk.wr hw (hb.blk.nmap hb.bal), hm, hb.flo.wr hw (fun hh => hb.ne hh.symm), hb.ord.keep (fun c hc => hw.same c fun hh => by subst hh; exact hb.nob hc), hb.ne⟩
theorem BkO.flos {h' : Heap} {fs' : List E2} (hb : BkO h p bm fm vo ks os fs sq) (hs : h' = h ∨ ∃ o, Wr h h' fm o) (hm : MapT kV iV h' fm fs') : BkO h' p bm fm vo ks os fs' sq := by
  rcases hs with rfl | ⟨o, hw⟩
  · exact ⟨hb.blk, hb.bal, hm, hb.ord, hb.ne⟩
  · exact ⟨hb.blk.wr hw (hb.blk.nmap hb.flo), hb.bal.wr hw hb.ne, hm, hb.ord.keep (fun c hc => hw.same c fun hh => by subst hh; exact hb.nof hc), hb.ne⟩
theorem BkO.seq {h' : Heap} {sq' : Int} (hb : BkO h p bm fm vo ks os fs sq) (hw : Wr h h' p (.cells #[gV, .map (some bm), .map (some fm), vo, iV sq'] 83)) : BkO h' p bm fm vo ks os fs sq' :=
  ⟨hw.at_, hb.bal.wr hw (hb.blk.nmap hb.bal).symm, hb.flo.wr hw (hb.blk.nmap hb.flo).symm, hb.ord.keep (fun c hc => hw.same c fun hh => by subst hh; exact hb.nop hc), hb.ne⟩
end
theorem isSome_iff {m : List E2} {q : K2} : (m.lookup q).isSome = true ↔ q ∈ m.map Prod.fst := by
  cases hq : m.lookup q with
  | none =>
    have := lookup_none_iff.1 hq
    simp only [Option.isSome_none, Bool.false_eq_true, false_iff]
    intro hh
    obtain ⟨p, hp, h1⟩ := List.mem_map.1 hh
    exact this p hp h1
  | some v =>
    simp only [Option.isSome_some, true_iff]
    exact List.mem_map.2 ⟨(q, v), mem_lookup hq, rfl⟩
set_option maxHeartbeats 1000000 in
/-- A list of entries that is only read, in blocks of its own type. -/
structure SlT (el : TypeId) (h : Heap) (a : Option Addr) (l : List E2) : Prop where
  rd : SlG 3 entL h a l
  ty : ∀ g off, a = some ⟨g, off, none⟩ → ∃ cur, Has h g (.cells cur el)
theorem readN_same {h h' : Heap} {b : Nat} (hs : h'[b]? = h[b]?) : ∀ n off, GL.readN h' b off n = GL.readN h b off n
  | 0, off => rfl
  | n + 1, off => by
    have hc : GL.cell h' b off = GL.cell h b off := by simp only [GL.cell, hs]
    simp only [GL.readN, hc, readN_same hs n]
theorem SlT.ext {el : TypeId} {h h' : Heap} {a : Option Addr} {l : List E2} (hs : SlT el h a l) (hx : Ext h h') : SlT el h' a l := ⟨hs.rd.ext hx, fun g off ha => (hs.ty g off ha).imp fun _ hc => hc.ext hx⟩
theorem SlT.gs {el : TypeId} {h h' : Heap} {S : List Nat} {a : Option Addr} {l : List E2} (hs : SlT el h a l) (hg : Gs h h' S) (hn : ∀ g off, a = some ⟨g, off, none⟩ → g ∉ S) : SlT el h' a l :=
  ⟨fun i x hi => by
    obtain ⟨b, off, ha, hr⟩ := hs.rd i x hi
    obtain ⟨cur, hc⟩ := hs.ty b off ha
    exact ⟨b, off, ha, by rw [readN_same (hg.same b (Array.getElem?_eq_some_iff.1 hc).1 (hn b off ha))]; exact hr⟩,
   fun g off ha => (hs.ty g off ha).imp fun _ hc => hc.gs hg (hn g off ha)⟩
theorem SlT.off {el : TypeId} {h : Heap} {a : Option Addr} {l : List E2} {p bm fm : Nat} {vo : Value} {ks fs : List E2} {os : List K2} {sq : Int} (hs : SlT el h a l) (hb : BkO h p bm fm vo ks os fs sq) (h1 : el ≠ 83) (h2 : el ≠ 34) :
    ∀ g off, a = some ⟨g, off, none⟩ → g ∉ foot p bm vo := by
  intro g off ha hf
  obtain ⟨cur, hc⟩ := hs.ty g off ha
  simp only [foot, List.mem_cons, Option.mem_toList] at hf
  rcases hf with hf | hf | hf
  · exact hc.ncell hb.blk h1 hf
  · exact hc.nmap hb.bal hf
  · exact hb.ord.ncell hc h2 hf
theorem SlT.own {el : TypeId} {h : Heap} {base n cap : Nat} {a : Option Addr} {l : List E2} (ho : Own h base el 3 (.slice a n cap) n (l.flatMap entL)) (hn : n = l.length) : SlT el h a l := by
  obtain ⟨a', c', h1, _, h2, _⟩ := Own.slG (f := entL) (sz := 3) (fun _ => rfl) ho hn
  cases h1
  refine ⟨h2, fun g off ha => ?_⟩
  subst ha
  rcases ho.2 with ⟨h3, _⟩ | ⟨g', cap', cur, h3, _, hg, _⟩
  · cases h3
  · cases h3; exact ⟨cur, hg⟩
theorem c_postT {h : Heap} {p bm fm : Nat} {vo : Value} {ks fs : List E2} {sq : Int} (al : Option Addr) (l : List E2) (cl : Nat) (ll : l.length ≤ 1000000) (lk' : ks.length ≤ 1000000) (hsq : 0 ≤ sq ∧ sq ≤ 1000000) (hbal : ∀ q, vld (lk ks q) = true) (hu : okE l)
    (hb : IsBk h p bm fm vo ks fs sq) (hl : SlT 89 h al l) {r : Int} (hr : chkE (lk ks) (lk fs) l = r) :
    HCalls Try.prog 18 #[.pointer (some ⟨p, 0, none⟩), .slice al l.length cl] h fun v h' => v = iV r ∧ Gs h h' (foot p bm vo) ∧
      (r ≠ 0 → Ext h h') ∧ (r = 0 → ∃ vo', IsBk h' p bm fm vo' (putL ks l) fs (sq + 1) ∧ ∀ c, vo'.ownBlock = some c → vo.ownBlock = some c ∨ h.size ≤ c) := by
  have hsl := hl.rd
  refine hcalls2 Try.func18 rfl (by decide +kernel) (by simp only [Try.ntmps18]; exact of_decide_eq_true rfl) ?_
  intro e hin
  have e0 := hin 0 _ rfl
  have e1 := hin 1 _ rfl
  have kb := hb; have kl := hl
  refine hx_seq ?_
  refine hx_region ?_
  refine WL.qq (by simp only [EN, Nat.reduceEqDiff, reduceIte, qv_assign, hb.blk.cell]; rfl) ?_
  refine WL.nil ?_
  refine th_norm ?_
  refine hx_seq ?_
  refine hx_seq ?_
  refine hx_region ?_
  refine WL.qq (by simp only [EN, Nat.reduceEqDiff, reduceIte, qv_move, e0, hb.blk.cell]; rfl) ?_
  refine WL.qq (by simp only [EN, Nat.reduceEqDiff, reduceIte, qv_binOp, binv_eql, eqz25, eqn25, eqm25, Option.map_some, hb.blk.cell]; rfl) ?_
  refine WL.nil ?_
  refine th_norm ?_
  refine hx_cond (by simp only [EN, Nat.reduceEqDiff, reduceIte, e0, e1, hb.blk.cell]; rfl) (fun hct14 => ?_) (fun hct14 => ?_)
  ·
    simp at hct14
  ·
    try simp only [BD] at hct14
    refine hx_skip ?_
    refine th_norm ?_
    refine hx_seq ?_
    refine hx_region ?_
    refine WL.qq (by simp only [EN, Nat.reduceEqDiff, reduceIte, qv_move, e0, hb.blk.cell]; rfl) ?_
    refine WL.qq (by simp only [EN, Nat.reduceEqDiff, reduceIte, qv_move, e1, hb.blk.cell]; rfl) ?_
    refine WL.ce Try.call48 (by simp only [EN, Nat.reduceEqDiff, reduceIte, AR, hb.blk.cell]; exact c_check13 al l cl (by omega) hbal hu hb hsl) ?_
    rintro _ h1 ⟨hx1, m0, rfl, hm0⟩
    replace hb := hb.ext hx1
    replace hl := hl.ext hx1
    replace hsl := hsl.ext hx1
    simp only [put_some]
    rw [hr] at hm0 ⊢
    refine WL.qq (by simp only [EN, Nat.reduceEqDiff, reduceIte, qv_move, hb.blk.cell]; rfl) ?_
    refine WL.qq (by simp only [EN, Nat.reduceEqDiff, reduceIte, qv_extract, AR, hb.blk.cell]; rfl) ?_
    refine WL.qq (by simp only [EN, Nat.reduceEqDiff, reduceIte, qv_extract, AR, hb.blk.cell]; rfl) ?_
    refine WL.qq (by simp only [EN, Nat.reduceEqDiff, reduceIte, qv_assign, hb.blk.cell]; rfl) ?_
    refine WL.qq (by simp only [EN, Nat.reduceEqDiff, reduceIte, qv_assign, hb.blk.cell]; rfl) ?_
    refine WL.nil ?_
    refine th_norm ?_
    refine hx_seq ?_
    refine hx_seq ?_
    refine hx_region ?_
    refine WL.qq (by simp only [EN, Nat.reduceEqDiff, reduceIte, qv_move, hb.blk.cell]; rfl) ?_
    refine WL.qq (by simp only [EN, Nat.reduceEqDiff, reduceIte, qv_binOp, binv_neq, eq45, Option.map_some, hb.blk.cell]; rfl) ?_
    refine WL.nil ?_
    refine th_norm ?_
    refine hx_cond (by simp only [EN, Nat.reduceEqDiff, reduceIte, e0, e1, hb.blk.cell]; rfl) (fun hct22 => ?_) (fun hct22 => ?_)
    ·
      try simp only [BD] at hct22
      refine hx_seq ?_
      refine hx_region ?_
      refine WL.qq (by simp only [EN, Nat.reduceEqDiff, reduceIte, qv_move, hb.blk.cell]; rfl) ?_
      refine WL.qq (by simp only [EN, Nat.reduceEqDiff, reduceIte, qv_assign, hb.blk.cell]; rfl) ?_
      refine WL.nil ?_
      refine th_norm ?_
      refine hx_ret ?_
      refine th_ret ?_
      refine fin_ret [.tmp 4] rfl rfl (by simp only [EN, Nat.reduceEqDiff, reduceIte, resv, e0, e1, hb.blk.cell]; rfl) ?_  -- ret 0 r5
      exact ⟨rfl, Gs.ofExt (hx1), fun _ => (hx1), fun hh => absurd hh hct22⟩
    ·
      try simp only [BD] at hct22
      obtain ⟨hlen, hval, hval2, _, _⟩ := chk_ok (hr.trans hct22)
      obtain ⟨nb, rfl, hnb, hnet⟩ := hm0 hct22
      refine hx_skip ?_
      refine th_norm ?_
      refine hx_seq ?_
      refine hx_seq ?_
      refine hx_region ?_
      have hnbm : nb ≠ bm := by have := kb.bal.lt; omega
      have hG0 : Gs h h1 (foot p bm vo) := Gs.ofExt (hx1)
      refine WL.qq (by simp only [EN, Nat.reduceEqDiff, reduceIte, qv_move, e1, hb.blk.cell]; rfl) ?_
      refine WL.qq (by simp only [EN, Nat.reduceEqDiff, reduceIte, qv_len, ln47, AR, hb.blk.cell]; rfl) ?_
      refine WL.qq (by simp only [EN, Nat.reduceEqDiff, reduceIte, qv_move, hb.blk.cell]; rfl) ?_
      refine WL.nil ?_
      refine th_norm ?_
      refine hx_block ?_
      refine hx_loopG [8, 9, 10, 26, 27, 28, 29, 30, 31, 32, 33, 34, 35, 36, 37, 38, 39, 40, 41, 42, 43, 44, 45, 46, 47, 48, 49, 50, 51, 52, 53, 54, 55, 56, 57, 58, 59] (fun k e hL0 => ∃ (i : Nat) (v : Value), l.length - i = k ∧ (i ≤ l.length) ∧ (Gs h hL0 (foot p bm vo)) ∧ (IsBk hL0 p bm fm v (addK ks (l.take i)) fs sq) ∧ (∀ c, v.ownBlock = some c → vo.ownBlock = some c ∨ h.size ≤ c) ∧ (MapT kV iV hL0 nb (netL l)) ∧ e 26 = .int .i64 i) _ ⟨0, vo, rfl, ?_, ?_, ?_, ?_, ?_, ?_⟩ ?_
      · omega
      · exact hG0
      · exact hb
      · exact fun c hc => .inl hc
      · exact hnet
      · simp only [EN, Nat.reduceEqDiff, reduceIte, e0, e1, hb.blk.cell] <;> rfl
      ·
        rintro k e0L hL0 hfr0 ⟨i, v, rfl, hi, hG, hb, hv, hnet, i26_0⟩
        have k0_0 := hfr0 0 rfl; try simp only [EN, Nat.reduceEqDiff, reduceIte, e0, e1, hb.blk.cell] at k0_0
        have k4_0 := hfr0 4 rfl; try simp only [EN, Nat.reduceEqDiff, reduceIte, e0, e1, hb.blk.cell] at k4_0
        have k5_0 := hfr0 5 rfl; try simp only [EN, Nat.reduceEqDiff, reduceIte, e0, e1, hb.blk.cell] at k5_0
        have k24_0 := hfr0 24 rfl; try simp only [EN, Nat.reduceEqDiff, reduceIte, e0, e1, hb.blk.cell] at k24_0
        have k25_0 := hfr0 25 rfl; try simp only [EN, Nat.reduceEqDiff, reduceIte, e0, e1, hb.blk.cell] at k25_0
        have hl := kl.gs hG (kl.off kb (by decide) (by decide))
        have hsl := hl.rd
        refine hx_seq ?_
        refine hx_region ?_
        refine WL.qq (by simp only [EN, Nat.reduceEqDiff, reduceIte, qv_binOp, binv_lss, k25_0, i26_0, hb.blk.cell, hb.blk.cell]; rfl) ?_
        refine WL.nil ?_
        refine th_norm ?_
        refine hx_seq ?_
        refine hx_cond (by simp only [EN, Nat.reduceEqDiff, reduceIte, k0_0, k4_0, k5_0, k24_0, k25_0, i26_0, hb.blk.cell, hb.blk.cell]; rfl) (fun hct27 => ?_) (fun hct27 => ?_)
        ·
          try simp only [BD] at hct27
          obtain ⟨x, hx⟩ := atG (l := l) (i := i) (by omega)
          obtain ⟨b, off, rfl, hr3, hr2, hc0, hc1, hc2⟩ := ent_rd hsl hx
          refine hx_skip ?_
          refine th_norm ?_
          refine hx_seq ?_
          refine hx_block ?_
          refine hx_seq ?_
          refine hx_region ?_
          refine WL.qq (by simp only [EN, Nat.reduceEqDiff, reduceIte, qv_indexAddr, k24_0, i26_0, hb.blk.cell, hb.blk.cell]; (try simp (disch := omega) only [ix47, Int.toNat_natCast]); rfl) ?_
          refine WL.qq (by simp only [EN, Nat.reduceEqDiff, reduceIte, k0_0, k4_0, k5_0, k24_0, k25_0, i26_0, hb.blk.cell, hb.blk.cell, qv_load, ld89, Int.toNat_natCast, hr3]; rfl) ?_
          refine WL.allocSt zr89 sz89 (fun u => by simp only [EN, Nat.reduceEqDiff, reduceIte, Value.cells, hb.blk.cell, hb.blk.cell]; rfl) ⟨rfl, rfl⟩ (by simp [Value.oneCell']) ?_
          intro h2 B2 hx2 hlt2 hB2
          replace hb := hb.ext hx2
          replace hnet := hnet.ext hx2
          replace hG := hG.ext hx2
          refine WL.nil ?_
          refine th_norm ?_
          refine hx_seq ?_
          apply hx_draw2 Rel.same [] [] [] rfl (by decide +kernel) rfl
          refine LD.qq rfl rfl (by simp only [EN, Nat.reduceEqDiff, reduceIte, qv_move, k0_0, hb.blk.cell, hb.blk.cell, hB2.cell]; rfl) ?_
          refine LD.qq rfl rfl (by simp only [EN, Nat.reduceEqDiff, reduceIte, qv_nilCheck, hb.blk.cell, hb.blk.cell, hB2.cell]; rfl) ?_
          refine LD.qq rfl rfl (by simp only [EN, Nat.reduceEqDiff, reduceIte, qv_fieldAddr, fa83_1, Nat.zero_add, Nat.reduceAdd, hb.blk.cell, hb.blk.cell, hB2.cell]; rfl) ?_
          refine LD.qq rfl rfl (by simp only [EN, Nat.reduceEqDiff, reduceIte, qv_load, ld80, readN, AR, Nat.zero_add, Nat.reduceAdd, hb.blk.cell, hb.blk.cell, hB2.cell]; rfl) ?_
          refine LD.qq rfl rfl (by simp only [EN, Nat.reduceEqDiff, reduceIte, qv_fieldAddr, fa89_0, Nat.zero_add, Nat.reduceAdd, hb.blk.cell, hb.blk.cell, hB2.cell]; rfl) ?_
          refine LD.qq rfl rfl (by simp only [EN, Nat.reduceEqDiff, reduceIte, qv_load, ld34, readN, AR, Nat.zero_add, Nat.reduceAdd, hb.blk.cell, hb.blk.cell, hB2.cell]; rfl) ?_
          refine LD.qq rfl rfl (by simp only [EN, Nat.reduceEqDiff, reduceIte, k0_0, k4_0, k5_0, k24_0, k25_0, i26_0, hb.blk.cell, hb.blk.cell, hB2.cell, qv_lookup]; rw [hb.bal.lookv (z := 0) kt34 Try.underlying80 zr2 x.1 true] <;> rfl) ?_
          refine LD.qq rfl rfl (by simp only [EN, Nat.reduceEqDiff, reduceIte, qv_move, hb.blk.cell, hb.blk.cell, hB2.cell]; rfl) ?_
          refine LD.qq rfl rfl (by simp only [EN, Nat.reduceEqDiff, reduceIte, qv_extract, AR, hb.blk.cell, hb.blk.cell, hB2.cell]; rfl) ?_
          refine LD.qq rfl rfl (by simp only [EN, Nat.reduceEqDiff, reduceIte, qv_extract, AR, hb.blk.cell, hb.blk.cell, hB2.cell]; rfl) ?_
          refine LD.qq rfl rfl (by simp only [EN, Nat.reduceEqDiff, reduceIte, qv_assign, hb.blk.cell, hb.blk.cell, hB2.cell]; rfl) ?_
          refine LD.qq rfl rfl (by simp only [EN, Nat.reduceEqDiff, reduceIte, qv_assign, hb.blk.cell, hb.blk.cell, hB2.cell]; rfl) ?_
          refine LD.nil ?_
          rintro _ rfl -
          refine WL.nil ?_
          refine th_norm ?_
          refine hx_seq ?_
          refine hx_region ?_
          refine WL.qq (by simp only [EN, Nat.reduceEqDiff, reduceIte, qv_move, hb.blk.cell, hb.blk.cell, hB2.cell]; rfl) ?_
          refine WL.qq (by simp only [EN, Nat.reduceEqDiff, reduceIte, qv_unOp, unv_not, hb.blk.cell, hb.blk.cell, hB2.cell]; rfl) ?_
          refine WL.nil ?_
          refine th_norm ?_
          refine hx_cond (by simp only [EN, Nat.reduceEqDiff, reduceIte, k0_0, k4_0, k5_0, k24_0, k25_0, i26_0, hb.blk.cell, hb.blk.cell, hB2.cell]; rfl) (fun hct41 => ?_) (fun hct41 => ?_)
          ·
            try simp only [BD] at hct41
            refine hx_seq ?_
            refine hx_fresh (fun eF11 hfcf11 => ?_)
            have k0_f11 := hfcf11 0 rfl; try simp only [EN, Nat.reduceEqDiff, reduceIte, k0_0, k4_0, k5_0, k24_0, k25_0, i26_0, hb.blk.cell, hb.blk.cell, hB2.cell] at k0_f11
            have k4_f11 := hfcf11 4 rfl; try simp only [EN, Nat.reduceEqDiff, reduceIte, k0_0, k4_0, k5_0, k24_0, k25_0, i26_0, hb.blk.cell, hb.blk.cell, hB2.cell] at k4_f11
            have k5_f11 := hfcf11 5 rfl; try simp only [EN, Nat.reduceEqDiff, reduceIte, k0_0, k4_0, k5_0, k24_0, k25_0, i26_0, hb.blk.cell, hb.blk.cell, hB2.cell] at k5_f11
            have k8_f11 := hfcf11 8 rfl; try simp only [EN, Nat.reduceEqDiff, reduceIte, k0_0, k4_0, k5_0, k24_0, k25_0, i26_0, hb.blk.cell, hb.blk.cell, hB2.cell] at k8_f11
            have k10_f11 := hfcf11 10 rfl; try simp only [EN, Nat.reduceEqDiff, reduceIte, k0_0, k4_0, k5_0, k24_0, k25_0, i26_0, hb.blk.cell, hb.blk.cell, hB2.cell] at k10_f11
            have k24_f11 := hfcf11 24 rfl; try simp only [EN, Nat.reduceEqDiff, reduceIte, k0_0, k4_0, k5_0, k24_0, k25_0, i26_0, hb.blk.cell, hb.blk.cell, hB2.cell] at k24_f11
            have k25_f11 := hfcf11 25 rfl; try simp only [EN, Nat.reduceEqDiff, reduceIte, k0_0, k4_0, k5_0, k24_0, k25_0, i26_0, hb.blk.cell, hb.blk.cell, hB2.cell] at k25_f11
            have k26_f11 := hfcf11 26 rfl; try simp only [EN, Nat.reduceEqDiff, reduceIte, k0_0, k4_0, k5_0, k24_0, k25_0, i26_0, hb.blk.cell, hb.blk.cell, hB2.cell] at k26_f11
            have k27_f11 := hfcf11 27 rfl; try simp only [EN, Nat.reduceEqDiff, reduceIte, k0_0, k4_0, k5_0, k24_0, k25_0, i26_0, hb.blk.cell, hb.blk.cell, hB2.cell] at k27_f11
            have k28_f11 := hfcf11 28 rfl; try simp only [EN, Nat.reduceEqDiff, reduceIte, k0_0, k4_0, k5_0, k24_0, k25_0, i26_0, hb.blk.cell, hb.blk.cell, hB2.cell] at k28_f11
            have k29_f11 := hfcf11 29 rfl; try simp only [EN, Nat.reduceEqDiff, reduceIte, k0_0, k4_0, k5_0, k24_0, k25_0, i26_0, hb.blk.cell, hb.blk.cell, hB2.cell] at k29_f11
            have k30_f11 := hfcf11 30 rfl; try simp only [EN, Nat.reduceEqDiff, reduceIte, k0_0, k4_0, k5_0, k24_0, k25_0, i26_0, hb.blk.cell, hb.blk.cell, hB2.cell] at k30_f11
            have k31_f11 := hfcf11 31 rfl; try simp only [EN, Nat.reduceEqDiff, reduceIte, k0_0, k4_0, k5_0, k24_0, k25_0, i26_0, hb.blk.cell, hb.blk.cell, hB2.cell] at k31_f11
            have k32_f11 := hfcf11 32 rfl; try simp only [EN, Nat.reduceEqDiff, reduceIte, k0_0, k4_0, k5_0, k24_0, k25_0, i26_0, hb.blk.cell, hb.blk.cell, hB2.cell] at k32_f11
            have k33_f11 := hfcf11 33 rfl; try simp only [EN, Nat.reduceEqDiff, reduceIte, k0_0, k4_0, k5_0, k24_0, k25_0, i26_0, hb.blk.cell, hb.blk.cell, hB2.cell] at k33_f11
            have k34_f11 := hfcf11 34 rfl; try simp only [EN, Nat.reduceEqDiff, reduceIte, k0_0, k4_0, k5_0, k24_0, k25_0, i26_0, hb.blk.cell, hb.blk.cell, hB2.cell] at k34_f11
            have k35_f11 := hfcf11 35 rfl; try simp only [EN, Nat.reduceEqDiff, reduceIte, k0_0, k4_0, k5_0, k24_0, k25_0, i26_0, hb.blk.cell, hb.blk.cell, hB2.cell] at k35_f11
            have k36_f11 := hfcf11 36 rfl; try simp only [EN, Nat.reduceEqDiff, reduceIte, k0_0, k4_0, k5_0, k24_0, k25_0, i26_0, hb.blk.cell, hb.blk.cell, hB2.cell] at k36_f11
            have k37_f11 := hfcf11 37 rfl; try simp only [EN, Nat.reduceEqDiff, reduceIte, k0_0, k4_0, k5_0, k24_0, k25_0, i26_0, hb.blk.cell, hb.blk.cell, hB2.cell] at k37_f11
            have k38_f11 := hfcf11 38 rfl; try simp only [EN, Nat.reduceEqDiff, reduceIte, k0_0, k4_0, k5_0, k24_0, k25_0, i26_0, hb.blk.cell, hb.blk.cell, hB2.cell] at k38_f11
            have k39_f11 := hfcf11 39 rfl; try simp only [EN, Nat.reduceEqDiff, reduceIte, k0_0, k4_0, k5_0, k24_0, k25_0, i26_0, hb.blk.cell, hb.blk.cell, hB2.cell] at k39_f11
            have k40_f11 := hfcf11 40 rfl; try simp only [EN, Nat.reduceEqDiff, reduceIte, k0_0, k4_0, k5_0, k24_0, k25_0, i26_0, hb.blk.cell, hb.blk.cell, hB2.cell] at k40_f11
            have k41_f11 := hfcf11 41 rfl; try simp only [EN, Nat.reduceEqDiff, reduceIte, k0_0, k4_0, k5_0, k24_0, k25_0, i26_0, hb.blk.cell, hb.blk.cell, hB2.cell] at k41_f11
            apply hx_draw2 Rel.grows [8, 9, 10, 11] [7] [(7, Spec.ls h.size _ _ _)] rfl (by decide +kernel) rfl
            refine LD.qq rfl rfl (by simp only [EN, Nat.reduceEqDiff, reduceIte, qv_move, k0_f11, hb.blk.cell, hb.blk.cell, hB2.cell]; rfl) ?_
            refine LD.qq rfl rfl (by simp only [EN, Nat.reduceEqDiff, reduceIte, qv_move, k0_f11, hb.blk.cell, hb.blk.cell, hB2.cell]; rfl) ?_
            refine LD.qq rfl rfl (by simp only [EN, Nat.reduceEqDiff, reduceIte, qv_nilCheck, hb.blk.cell, hb.blk.cell, hB2.cell]; rfl) ?_
            refine LD.qq rfl rfl (by simp only [EN, Nat.reduceEqDiff, reduceIte, qv_fieldAddr, fa83_3, Nat.zero_add, Nat.reduceAdd, hb.blk.cell, hb.blk.cell, hB2.cell]; rfl) ?_
            refine LD.qq rfl rfl (by simp only [EN, Nat.reduceEqDiff, reduceIte, qv_load, ld81, readN, AR, Nat.zero_add, Nat.reduceAdd, hb.blk.cell, hb.blk.cell, hB2.cell]; rfl) ?_
            refine LD.qq rfl rfl (by simp only [EN, Nat.reduceEqDiff, reduceIte, qv_fieldAddr, fa89_0, Nat.zero_add, Nat.reduceAdd, k8_f11, hb.blk.cell, hb.blk.cell, hB2.cell]; rfl) ?_
            refine LD.qq rfl rfl (by simp only [EN, Nat.reduceEqDiff, reduceIte, qv_load, ld34, readN, AR, Nat.zero_add, Nat.reduceAdd, hb.blk.cell, hb.blk.cell, hB2.cell]; rfl) ?_
            refine LD.es rfl rfl (by intro hD hr hf; have hx : Ext _ _ := hr; have hb := hb.ext hx; have hnet := hnet.ext hx; have hG := hG.ext hx; have hB2 := hB2.ext hx; exact e_lit1 hG.size Try.underlying81 sz34 zr34 (by decide) (by simp only [EN, Nat.reduceEqDiff, reduceIte, k0_f11, k4_f11, k5_f11, k8_f11, k10_f11, k24_f11, k25_f11, k26_f11, k27_f11, k28_f11, k29_f11, k30_f11, k31_f11, k32_f11, k33_f11, k34_f11, k35_f11, k36_f11, k37_f11, k38_f11, k39_f11, k40_f11, k41_f11, hb.blk.cell, hb.blk.cell, hB2.cell, Value.cells]; rfl) rfl) ?_
            intro u11_7 w11_7
            obtain ⟨B12, hlt12, rfl⟩ := w11_7
            refine LD.skip rfl ?_
            refine LD.skip rfl ?_
            refine LD.skip rfl ?_
            refine LD.skip rfl ?_
            refine LD.nil ?_
            rintro h3 hx3 hF11
            replace hx3 : Ext _ _ := hx3
            replace hb := hb.ext hx3
            replace hnet := hnet.ext hx3
            replace hG := hG.ext hx3
            replace hB2 := hB2.ext hx3
            have hB12 := hF11 (7, .slice (some ⟨B12, 0, none⟩) 1 1) (by simp) _ rfl B12 rfl
            have hsz9 := hG.size; have hal9 := addK_len (l.take i) ks; rw [List.length_take] at hal9
            refine WL.app1 (bytes := 2) Try.underlying81 (inf_of Try.type34) rfl rfl rfl rfl (by decide) (by simp only [EN, Nat.reduceEqDiff, reduceIte, k0_f11, k4_f11, k5_f11, k8_f11, k10_f11, k24_f11, k25_f11, k26_f11, k27_f11, k28_f11, k29_f11, k30_f11, k31_f11, k32_f11, k33_f11, k34_f11, k35_f11, k36_f11, k37_f11, k38_f11, k39_f11, k40_f11, k41_f11, hb.blk.cell, hb.blk.cell, hB2.cell]) hb.ord (by simp only [EN, Nat.reduceEqDiff, reduceIte, k0_f11, k4_f11, k5_f11, k8_f11, k10_f11, k24_f11, k25_f11, k26_f11, k27_f11, k28_f11, k29_f11, k30_f11, k31_f11, k32_f11, k33_f11, k34_f11, k35_f11, k36_f11, k37_f11, k38_f11, k39_f11, k40_f11, k41_f11, hb.blk.cell, hb.blk.cell, hB2.cell]) hB12 rfl (by simp [Value.oneCell']) (by simp only [maxLen, List.length_map]; omega) (by simp only [List.length_map]; omega) (Nat.zero_le _) ?_
            intro h40 v40 ho40 hg40 hp40 hn40
            have hblk := hb.blk.gr hg40 hb.nop
            replace hnet := hnet.gr hg40 (hb.ord.nmap hnet)
            replace hB2 := hB2.gr hg40 (hb.ord.ncell hB2 (by decide))
            replace hG := hG.grb hg40 (fun c hc => by rcases hv c hc with h9 | h9; exact .inl (by simp [foot, h9]); exact .inr h9)
            refine WL.qq (by simp only [EN, Nat.reduceEqDiff, reduceIte, qv_nilCheck, hb.blk.cell, hb.blk.cell, hB2.cell]; rfl) ?_
            refine WL.qq (by simp only [EN, Nat.reduceEqDiff, reduceIte, qv_fieldAddr, fa83_3, Nat.zero_add, Nat.reduceAdd, hb.blk.cell, hb.blk.cell, hB2.cell]; rfl) ?_
            replace hv : ∀ c, v40.ownBlock = some c → vo.ownBlock = some c ∨ h.size ≤ c := fun c hc => by rcases hp40 with h9 | h9; (rw [h9] at hc; exact hv c hc); (rw [h9] at hc; cases hc; exact .inr hsz9)
            refine WL.store (by simp only [EN, Nat.reduceEqDiff, reduceIte, k0_f11, k4_f11, k5_f11, k8_f11, k10_f11, k24_f11, k25_f11, k26_f11, k27_f11, k28_f11, k29_f11, k30_f11, k31_f11, k32_f11, k33_f11, k34_f11, k35_f11, k36_f11, k37_f11, k38_f11, k39_f11, k40_f11, k41_f11, hb.blk.cell, hb.blk.cell, hB2.cell] <;> rfl) sz81 (by simp only [EN, Nat.reduceEqDiff, reduceIte, k0_f11, k4_f11, k5_f11, k8_f11, k10_f11, k24_f11, k25_f11, k26_f11, k27_f11, k28_f11, k29_f11, k30_f11, k31_f11, k32_f11, k33_f11, k34_f11, k35_f11, k36_f11, k37_f11, k38_f11, k39_f11, k40_f11, k41_f11, hb.blk.cell, hb.blk.cell, hB2.cell]; exact ho40.cells) rfl hblk (by simp) (by simp [ho40.one]) ?_
            intro h41 hw41
            replace hb := hb.push ho40 hg40 hw41
            replace hnet := hnet.wr hw41 (hblk.nmap hnet).symm
            replace hB2 := hB2.wr hw41 (hB2.ncell hblk (by decide))
            replace hG := hG.stp (.inr ⟨_, hw41⟩) (.inl (by simp))
            refine WL.nil ?_
            refine th_norm ?_
            refine hx_fresh (fun eF12 hfcf12 => ?_)
            have k0_f12 := hfcf12 0 rfl; try simp only [EN, Nat.reduceEqDiff, reduceIte, k0_f11, k4_f11, k5_f11, k8_f11, k10_f11, k24_f11, k25_f11, k26_f11, k27_f11, k28_f11, k29_f11, k30_f11, k31_f11, k32_f11, k33_f11, k34_f11, k35_f11, k36_f11, k37_f11, k38_f11, k39_f11, k40_f11, k41_f11, hb.blk.cell, hb.blk.cell, hB2.cell] at k0_f12
            have k4_f12 := hfcf12 4 rfl; try simp only [EN, Nat.reduceEqDiff, reduceIte, k0_f11, k4_f11, k5_f11, k8_f11, k10_f11, k24_f11, k25_f11, k26_f11, k27_f11, k28_f11, k29_f11, k30_f11, k31_f11, k32_f11, k33_f11, k34_f11, k35_f11, k36_f11, k37_f11, k38_f11, k39_f11, k40_f11, k41_f11, hb.blk.cell, hb.blk.cell, hB2.cell] at k4_f12
            have k5_f12 := hfcf12 5 rfl; try simp only [EN, Nat.reduceEqDiff, reduceIte, k0_f11, k4_f11, k5_f11, k8_f11, k10_f11, k24_f11, k25_f11, k26_f11, k27_f11, k28_f11, k29_f11, k30_f11, k31_f11, k32_f11, k33_f11, k34_f11, k35_f11, k36_f11, k37_f11, k38_f11, k39_f11, k40_f11, k41_f11, hb.blk.cell, hb.blk.cell, hB2.cell] at k5_f12
            have k8_f12 := hfcf12 8 rfl; try simp only [EN, Nat.reduceEqDiff, reduceIte, k0_f11, k4_f11, k5_f11, k8_f11, k10_f11, k24_f11, k25_f11, k26_f11, k27_f11, k28_f11, k29_f11, k30_f11, k31_f11, k32_f11, k33_f11, k34_f11, k35_f11, k36_f11, k37_f11, k38_f11, k39_f11, k40_f11, k41_f11, hb.blk.cell, hb.blk.cell, hB2.cell] at k8_f12
            have k10_f12 := hfcf12 10 rfl; try simp only [EN, Nat.reduceEqDiff, reduceIte, k0_f11, k4_f11, k5_f11, k8_f11, k10_f11, k24_f11, k25_f11, k26_f11, k27_f11, k28_f11, k29_f11, k30_f11, k31_f11, k32_f11, k33_f11, k34_f11, k35_f11, k36_f11, k37_f11, k38_f11, k39_f11, k40_f11, k41_f11, hb.blk.cell, hb.blk.cell, hB2.cell] at k10_f12
            have k24_f12 := hfcf12 24 rfl; try simp only [EN, Nat.reduceEqDiff, reduceIte, k0_f11, k4_f11, k5_f11, k8_f11, k10_f11, k24_f11, k25_f11, k26_f11, k27_f11, k28_f11, k29_f11, k30_f11, k31_f11, k32_f11, k33_f11, k34_f11, k35_f11, k36_f11, k37_f11, k38_f11, k39_f11, k40_f11, k41_f11, hb.blk.cell, hb.blk.cell, hB2.cell] at k24_f12
            have k25_f12 := hfcf12 25 rfl; try simp only [EN, Nat.reduceEqDiff, reduceIte, k0_f11, k4_f11, k5_f11, k8_f11, k10_f11, k24_f11, k25_f11, k26_f11, k27_f11, k28_f11, k29_f11, k30_f11, k31_f11, k32_f11, k33_f11, k34_f11, k35_f11, k36_f11, k37_f11, k38_f11, k39_f11, k40_f11, k41_f11, hb.blk.cell, hb.blk.cell, hB2.cell] at k25_f12
            have k26_f12 := hfcf12 26 rfl; try simp only [EN, Nat.reduceEqDiff, reduceIte, k0_f11, k4_f11, k5_f11, k8_f11, k10_f11, k24_f11, k25_f11, k26_f11, k27_f11, k28_f11, k29_f11, k30_f11, k31_f11, k32_f11, k33_f11, k34_f11, k35_f11, k36_f11, k37_f11, k38_f11, k39_f11, k40_f11, k41_f11, hb.blk.cell, hb.blk.cell, hB2.cell] at k26_f12
            have k27_f12 := hfcf12 27 rfl; try simp only [EN, Nat.reduceEqDiff, reduceIte, k0_f11, k4_f11, k5_f11, k8_f11, k10_f11, k24_f11, k25_f11, k26_f11, k27_f11, k28_f11, k29_f11, k30_f11, k31_f11, k32_f11, k33_f11, k34_f11, k35_f11, k36_f11, k37_f11, k38_f11, k39_f11, k40_f11, k41_f11, hb.blk.cell, hb.blk.cell, hB2.cell] at k27_f12
            have k28_f12 := hfcf12 28 rfl; try simp only [EN, Nat.reduceEqDiff, reduceIte, k0_f11, k4_f11, k5_f11, k8_f11, k10_f11, k24_f11, k25_f11, k26_f11, k27_f11, k28_f11, k29_f11, k30_f11, k31_f11, k32_f11, k33_f11, k34_f11, k35_f11, k36_f11, k37_f11, k38_f11, k39_f11, k40_f11, k41_f11, hb.blk.cell, hb.blk.cell, hB2.cell] at k28_f12
            have k29_f12 := hfcf12 29 rfl; try simp only [EN, Nat.reduceEqDiff, reduceIte, k0_f11, k4_f11, k5_f11, k8_f11, k10_f11, k24_f11, k25_f11, k26_f11, k27_f11, k28_f11, k29_f11, k30_f11, k31_f11, k32_f11, k33_f11, k34_f11, k35_f11, k36_f11, k37_f11, k38_f11, k39_f11, k40_f11, k41_f11, hb.blk.cell, hb.blk.cell, hB2.cell] at k29_f12
            have k30_f12 := hfcf12 30 rfl; try simp only [EN, Nat.reduceEqDiff, reduceIte, k0_f11, k4_f11, k5_f11, k8_f11, k10_f11, k24_f11, k25_f11, k26_f11, k27_f11, k28_f11, k29_f11, k30_f11, k31_f11, k32_f11, k33_f11, k34_f11, k35_f11, k36_f11, k37_f11, k38_f11, k39_f11, k40_f11, k41_f11, hb.blk.cell, hb.blk.cell, hB2.cell] at k30_f12
            have k31_f12 := hfcf12 31 rfl; try simp only [EN, Nat.reduceEqDiff, reduceIte, k0_f11, k4_f11, k5_f11, k8_f11, k10_f11, k24_f11, k25_f11, k26_f11, k27_f11, k28_f11, k29_f11, k30_f11, k31_f11, k32_f11, k33_f11, k34_f11, k35_f11, k36_f11, k37_f11, k38_f11, k39_f11, k40_f11, k41_f11, hb.blk.cell, hb.blk.cell, hB2.cell] at k31_f12
            have k32_f12 := hfcf12 32 rfl; try simp only [EN, Nat.reduceEqDiff, reduceIte, k0_f11, k4_f11, k5_f11, k8_f11, k10_f11, k24_f11, k25_f11, k26_f11, k27_f11, k28_f11, k29_f11, k30_f11, k31_f11, k32_f11, k33_f11, k34_f11, k35_f11, k36_f11, k37_f11, k38_f11, k39_f11, k40_f11, k41_f11, hb.blk.cell, hb.blk.cell, hB2.cell] at k32_f12
            have k33_f12 := hfcf12 33 rfl; try simp only [EN, Nat.reduceEqDiff, reduceIte, k0_f11, k4_f11, k5_f11, k8_f11, k10_f11, k24_f11, k25_f11, k26_f11, k27_f11, k28_f11, k29_f11, k30_f11, k31_f11, k32_f11, k33_f11, k34_f11, k35_f11, k36_f11, k37_f11, k38_f11, k39_f11, k40_f11, k41_f11, hb.blk.cell, hb.blk.cell, hB2.cell] at k33_f12
            have k34_f12 := hfcf12 34 rfl; try simp only [EN, Nat.reduceEqDiff, reduceIte, k0_f11, k4_f11, k5_f11, k8_f11, k10_f11, k24_f11, k25_f11, k26_f11, k27_f11, k28_f11, k29_f11, k30_f11, k31_f11, k32_f11, k33_f11, k34_f11, k35_f11, k36_f11, k37_f11, k38_f11, k39_f11, k40_f11, k41_f11, hb.blk.cell, hb.blk.cell, hB2.cell] at k34_f12
            have k35_f12 := hfcf12 35 rfl; try simp only [EN, Nat.reduceEqDiff, reduceIte, k0_f11, k4_f11, k5_f11, k8_f11, k10_f11, k24_f11, k25_f11, k26_f11, k27_f11, k28_f11, k29_f11, k30_f11, k31_f11, k32_f11, k33_f11, k34_f11, k35_f11, k36_f11, k37_f11, k38_f11, k39_f11, k40_f11, k41_f11, hb.blk.cell, hb.blk.cell, hB2.cell] at k35_f12
            have k36_f12 := hfcf12 36 rfl; try simp only [EN, Nat.reduceEqDiff, reduceIte, k0_f11, k4_f11, k5_f11, k8_f11, k10_f11, k24_f11, k25_f11, k26_f11, k27_f11, k28_f11, k29_f11, k30_f11, k31_f11, k32_f11, k33_f11, k34_f11, k35_f11, k36_f11, k37_f11, k38_f11, k39_f11, k40_f11, k41_f11, hb.blk.cell, hb.blk.cell, hB2.cell] at k36_f12
            have k37_f12 := hfcf12 37 rfl; try simp only [EN, Nat.reduceEqDiff, reduceIte, k0_f11, k4_f11, k5_f11, k8_f11, k10_f11, k24_f11, k25_f11, k26_f11, k27_f11, k28_f11, k29_f11, k30_f11, k31_f11, k32_f11, k33_f11, k34_f11, k35_f11, k36_f11, k37_f11, k38_f11, k39_f11, k40_f11, k41_f11, hb.blk.cell, hb.blk.cell, hB2.cell] at k37_f12
            have k38_f12 := hfcf12 38 rfl; try simp only [EN, Nat.reduceEqDiff, reduceIte, k0_f11, k4_f11, k5_f11, k8_f11, k10_f11, k24_f11, k25_f11, k26_f11, k27_f11, k28_f11, k29_f11, k30_f11, k31_f11, k32_f11, k33_f11, k34_f11, k35_f11, k36_f11, k37_f11, k38_f11, k39_f11, k40_f11, k41_f11, hb.blk.cell, hb.blk.cell, hB2.cell] at k38_f12
            have k39_f12 := hfcf12 39 rfl; try simp only [EN, Nat.reduceEqDiff, reduceIte, k0_f11, k4_f11, k5_f11, k8_f11, k10_f11, k24_f11, k25_f11, k26_f11, k27_f11, k28_f11, k29_f11, k30_f11, k31_f11, k32_f11, k33_f11, k34_f11, k35_f11, k36_f11, k37_f11, k38_f11, k39_f11, k40_f11, k41_f11, hb.blk.cell, hb.blk.cell, hB2.cell] at k39_f12
            have k40_f12 := hfcf12 40 rfl; try simp only [EN, Nat.reduceEqDiff, reduceIte, k0_f11, k4_f11, k5_f11, k8_f11, k10_f11, k24_f11, k25_f11, k26_f11, k27_f11, k28_f11, k29_f11, k30_f11, k31_f11, k32_f11, k33_f11, k34_f11, k35_f11, k36_f11, k37_f11, k38_f11, k39_f11, k40_f11, k41_f11, hb.blk.cell, hb.blk.cell, hB2.cell] at k40_f12
            have k41_f12 := hfcf12 41 rfl; try simp only [EN, Nat.reduceEqDiff, reduceIte, k0_f11, k4_f11, k5_f11, k8_f11, k10_f11, k24_f11, k25_f11, k26_f11, k27_f11, k28_f11, k29_f11, k30_f11, k31_f11, k32_f11, k33_f11, k34_f11, k35_f11, k36_f11, k37_f11, k38_f11, k39_f11, k40_f11, k41_f11, hb.blk.cell, hb.blk.cell, hB2.cell] at k41_f12
            have k42_f12 := hfcf12 42 rfl; try simp only [EN, Nat.reduceEqDiff, reduceIte, k0_f11, k4_f11, k5_f11, k8_f11, k10_f11, k24_f11, k25_f11, k26_f11, k27_f11, k28_f11, k29_f11, k30_f11, k31_f11, k32_f11, k33_f11, k34_f11, k35_f11, k36_f11, k37_f11, k38_f11, k39_f11, k40_f11, k41_f11, hb.blk.cell, hb.blk.cell, hB2.cell] at k42_f12
            have k43_f12 := hfcf12 43 rfl; try simp only [EN, Nat.reduceEqDiff, reduceIte, k0_f11, k4_f11, k5_f11, k8_f11, k10_f11, k24_f11, k25_f11, k26_f11, k27_f11, k28_f11, k29_f11, k30_f11, k31_f11, k32_f11, k33_f11, k34_f11, k35_f11, k36_f11, k37_f11, k38_f11, k39_f11, k40_f11, k41_f11, hb.blk.cell, hb.blk.cell, hB2.cell] at k43_f12
            have k44_f12 := hfcf12 44 rfl; try simp only [EN, Nat.reduceEqDiff, reduceIte, k0_f11, k4_f11, k5_f11, k8_f11, k10_f11, k24_f11, k25_f11, k26_f11, k27_f11, k28_f11, k29_f11, k30_f11, k31_f11, k32_f11, k33_f11, k34_f11, k35_f11, k36_f11, k37_f11, k38_f11, k39_f11, k40_f11, k41_f11, hb.blk.cell, hb.blk.cell, hB2.cell] at k44_f12
            have k45_f12 := hfcf12 45 rfl; try simp only [EN, Nat.reduceEqDiff, reduceIte, k0_f11, k4_f11, k5_f11, k8_f11, k10_f11, k24_f11, k25_f11, k26_f11, k27_f11, k28_f11, k29_f11, k30_f11, k31_f11, k32_f11, k33_f11, k34_f11, k35_f11, k36_f11, k37_f11, k38_f11, k39_f11, k40_f11, k41_f11, hb.blk.cell, hb.blk.cell, hB2.cell] at k45_f12
            have k46_f12 := hfcf12 46 rfl; try simp only [EN, Nat.reduceEqDiff, reduceIte, k0_f11, k4_f11, k5_f11, k8_f11, k10_f11, k24_f11, k25_f11, k26_f11, k27_f11, k28_f11, k29_f11, k30_f11, k31_f11, k32_f11, k33_f11, k34_f11, k35_f11, k36_f11, k37_f11, k38_f11, k39_f11, k40_f11, k41_f11, hb.blk.cell, hb.blk.cell, hB2.cell] at k46_f12
            have k47_f12 := hfcf12 47 rfl; try simp only [EN, Nat.reduceEqDiff, reduceIte, k0_f11, k4_f11, k5_f11, k8_f11, k10_f11, k24_f11, k25_f11, k26_f11, k27_f11, k28_f11, k29_f11, k30_f11, k31_f11, k32_f11, k33_f11, k34_f11, k35_f11, k36_f11, k37_f11, k38_f11, k39_f11, k40_f11, k41_f11, hb.blk.cell, hb.blk.cell, hB2.cell] at k47_f12
            have k48_f12 := hfcf12 48 rfl; try simp only [EN, Nat.reduceEqDiff, reduceIte, k0_f11, k4_f11, k5_f11, k8_f11, k10_f11, k24_f11, k25_f11, k26_f11, k27_f11, k28_f11, k29_f11, k30_f11, k31_f11, k32_f11, k33_f11, k34_f11, k35_f11, k36_f11, k37_f11, k38_f11, k39_f11, k40_f11, k41_f11, hb.blk.cell, hb.blk.cell, hB2.cell] at k48_f12
            have k49_f12 := hfcf12 49 rfl; try simp only [EN, Nat.reduceEqDiff, reduceIte, k0_f11, k4_f11, k5_f11, k8_f11, k10_f11, k24_f11, k25_f11, k26_f11, k27_f11, k28_f11, k29_f11, k30_f11, k31_f11, k32_f11, k33_f11, k34_f11, k35_f11, k36_f11, k37_f11, k38_f11, k39_f11, k40_f11, k41_f11, hb.blk.cell, hb.blk.cell, hB2.cell] at k49_f12
            have k50_f12 := hfcf12 50 rfl; try simp only [EN, Nat.reduceEqDiff, reduceIte, k0_f11, k4_f11, k5_f11, k8_f11, k10_f11, k24_f11, k25_f11, k26_f11, k27_f11, k28_f11, k29_f11, k30_f11, k31_f11, k32_f11, k33_f11, k34_f11, k35_f11, k36_f11, k37_f11, k38_f11, k39_f11, k40_f11, k41_f11, hb.blk.cell, hb.blk.cell, hB2.cell] at k50_f12
            have k51_f12 := hfcf12 51 rfl; try simp only [EN, Nat.reduceEqDiff, reduceIte, k0_f11, k4_f11, k5_f11, k8_f11, k10_f11, k24_f11, k25_f11, k26_f11, k27_f11, k28_f11, k29_f11, k30_f11, k31_f11, k32_f11, k33_f11, k34_f11, k35_f11, k36_f11, k37_f11, k38_f11, k39_f11, k40_f11, k41_f11, hb.blk.cell, hb.blk.cell, hB2.cell] at k51_f12
            have k52_f12 := hfcf12 52 rfl; try simp only [EN, Nat.reduceEqDiff, reduceIte, k0_f11, k4_f11, k5_f11, k8_f11, k10_f11, k24_f11, k25_f11, k26_f11, k27_f11, k28_f11, k29_f11, k30_f11, k31_f11, k32_f11, k33_f11, k34_f11, k35_f11, k36_f11, k37_f11, k38_f11, k39_f11, k40_f11, k41_f11, hb.blk.cell, hb.blk.cell, hB2.cell] at k52_f12
            apply hx_draw2 Rel.same [6] [] [] rfl (by decide +kernel) rfl
            refine LD.qq rfl rfl (by simp only [EN, Nat.reduceEqDiff, reduceIte, qv_move, k0_f12, hb.blk.cell, hb.blk.cell, hB2.cell]; rfl) ?_
            refine LD.qq rfl rfl (by simp only [EN, Nat.reduceEqDiff, reduceIte, qv_nilCheck, hb.blk.cell, hb.blk.cell, hB2.cell]; rfl) ?_
            refine LD.qq rfl rfl (by simp only [EN, Nat.reduceEqDiff, reduceIte, qv_fieldAddr, fa83_1, Nat.zero_add, Nat.reduceAdd, hb.blk.cell, hb.blk.cell, hB2.cell]; rfl) ?_
            refine LD.qq rfl rfl (by simp only [EN, Nat.reduceEqDiff, reduceIte, qv_load, ld80, readN, AR, Nat.zero_add, Nat.reduceAdd, hb.blk.cell, hb.blk.cell, hB2.cell]; rfl) ?_
            refine LD.qq rfl rfl (by simp only [EN, Nat.reduceEqDiff, reduceIte, qv_fieldAddr, fa89_0, Nat.zero_add, Nat.reduceAdd, k8_f12, hb.blk.cell, hb.blk.cell, hB2.cell]; rfl) ?_
            refine LD.qq rfl rfl (by simp only [EN, Nat.reduceEqDiff, reduceIte, qv_load, ld34, readN, AR, Nat.zero_add, Nat.reduceAdd, hb.blk.cell, hb.blk.cell, hB2.cell]; rfl) ?_
            refine LD.skip rfl ?_
            refine LD.nil ?_
            rintro _ rfl -
            have hno : x.1 ∉ (addK ks (l.take i)).map Prod.fst := fun hh => (by rw [isSome_iff.2 hh] at hct41; cases hct41)
            refine WL.ef _ (e_mapUpdate (x := x.1) (v := 0) kt34 Try.underlying80 hb.bal (by simp only [EN, Nat.reduceEqDiff, reduceIte, k0_f12, k4_f12, k5_f12, k8_f12, k10_f12, k24_f12, k25_f12, k26_f12, k27_f12, k28_f12, k29_f12, k30_f12, k31_f12, k32_f12, k33_f12, k34_f12, k35_f12, k36_f12, k37_f12, k38_f12, k39_f12, k40_f12, k41_f12, k42_f12, k43_f12, k44_f12, k45_f12, k46_f12, k47_f12, k48_f12, k49_f12, k50_f12, k51_f12, k52_f12, hb.blk.cell, hb.blk.cell, hB2.cell]) (by simp only [EN, Nat.reduceEqDiff, reduceIte, k0_f12, k4_f12, k5_f12, k8_f12, k10_f12, k24_f12, k25_f12, k26_f12, k27_f12, k28_f12, k29_f12, k30_f12, k31_f12, k32_f12, k33_f12, k34_f12, k35_f12, k36_f12, k37_f12, k38_f12, k39_f12, k40_f12, k41_f12, k42_f12, k43_f12, k44_f12, k45_f12, k46_f12, k47_f12, k48_f12, k49_f12, k50_f12, k51_f12, k52_f12, hb.blk.cell, hb.blk.cell, hB2.cell]) (by simp only [EN, Nat.reduceEqDiff, reduceIte, k0_f12, k4_f12, k5_f12, k8_f12, k10_f12, k24_f12, k25_f12, k26_f12, k27_f12, k28_f12, k29_f12, k30_f12, k31_f12, k32_f12, k33_f12, k34_f12, k35_f12, k36_f12, k37_f12, k38_f12, k39_f12, k40_f12, k41_f12, k42_f12, k43_f12, k44_f12, k45_f12, k46_f12, k47_f12, k48_f12, k49_f12, k50_f12, k51_f12, k52_f12, hb.blk.cell, hb.blk.cell, hB2.cell])) ?_
            rintro _ h42 ⟨⟨o42, hw42⟩, hm42⟩
            simp only [put_none]
            rw [mset_no (fun p9 hp9 hh => hno (List.mem_map.2 ⟨p9, hp9, hh⟩))] at hm42
            replace hb := hb.bals (.inr ⟨_, hw42⟩) hm42
            replace hG := hG.stp (.inr ⟨_, hw42⟩) (.inl (by simp))
            replace hnet := hnet.wr hw42 hnbm
            refine WL.nil ?_
            refine bl_norm ?_
            refine th_norm ?_
            refine hx_region ?_
            refine WL.qq (by simp only [EN, Nat.reduceEqDiff, reduceIte, qv_binOp, binv_add, k26_f12, hb.blk.cell, hb.blk.cell, hB2.cell]; (try simp (disch := omega) only [w64, w8, wu64]); rfl) ?_
            refine WL.qq (by simp only [EN, Nat.reduceEqDiff, reduceIte, qv_move, hb.blk.cell, hb.blk.cell, hB2.cell]; rfl) ?_
            refine WL.nil ?_
            refine th_norm ?_
            refine ⟨rfl, ?_, _, ?_, i + 1, v40, rfl, ?_, ?_, ?_, ?_, ?_, ?_⟩  -- again 0 of loop 0
            · (repeat (first | exact Fr.refl _ _ | refine Fr.set rfl ?_ | refine Fr.put rfl ?_ | refine Fr.put0 ?_ | refine Fr.trans ?_ (Fr.of hfcf11 rfl) | refine Fr.trans ?_ (Fr.of hfcf12 rfl)))
            · omega
            · omega
            · exact hG
            · rw [addK_step ks hx, if_neg hno]; unfold IsBk; rw [List.map_append]; exact hb
            · exact hv
            · exact hnet
            · simp only [EN, Nat.reduceEqDiff, reduceIte, k0_f12, k4_f12, k5_f12, k8_f12, k10_f12, k24_f12, k25_f12, k26_f12, k27_f12, k28_f12, k29_f12, k30_f12, k31_f12, k32_f12, k33_f12, k34_f12, k35_f12, k36_f12, k37_f12, k38_f12, k39_f12, k40_f12, k41_f12, k42_f12, k43_f12, k44_f12, k45_f12, k46_f12, k47_f12, k48_f12, k49_f12, k50_f12, k51_f12, k52_f12, hb.blk.cell, hb.blk.cell, hB2.cell] <;> first | rfl | (congr 1; omega)
          ·
            try simp only [BD] at hct41
            refine hx_skip ?_
            refine bl_norm ?_
            refine th_norm ?_
            refine hx_region ?_
            refine WL.qq (by simp only [EN, Nat.reduceEqDiff, reduceIte, qv_binOp, binv_add, i26_0, hb.blk.cell, hb.blk.cell, hB2.cell]; (try simp (disch := omega) only [w64, w8, wu64]); rfl) ?_
            refine WL.qq (by simp only [EN, Nat.reduceEqDiff, reduceIte, qv_move, hb.blk.cell, hb.blk.cell, hB2.cell]; rfl) ?_
            refine WL.nil ?_
            refine th_norm ?_
            refine ⟨rfl, ?_, _, ?_, i + 1, v, rfl, ?_, ?_, ?_, ?_, ?_, ?_⟩  -- again 1 of loop 0
            · (repeat (first | exact Fr.refl _ _ | refine Fr.set rfl ?_ | refine Fr.put rfl ?_ | refine Fr.put0 ?_ | refine Fr.trans ?_ (Fr.of hfcf11 rfl) | refine Fr.trans ?_ (Fr.of hfcf12 rfl)))
            · omega
            · omega
            · exact hG
            · rw [addK_step ks hx, if_pos (isSome_iff.1 (by simpa using hct41))]; exact hb
            · exact hv
            · exact hnet
            · simp only [EN, Nat.reduceEqDiff, reduceIte, k0_0, k4_0, k5_0, k24_0, k25_0, i26_0, hb.blk.cell, hb.blk.cell, hB2.cell] <;> first | rfl | (congr 1; omega)
        ·
          try simp only [BD] at hct27
          have hil : i = l.length := (by omega); subst hil; rw [List.take_length] at hb
          refine hx_exit ?_
          refine th_exit ?_
          refine th_exit ?_
          refine bl_hit ?_
          refine th_norm ?_
          refine hx_seq ?_
          refine hx_seq ?_
          refine hx_region ?_
          refine WL.qq (by simp only [EN, Nat.reduceEqDiff, reduceIte, qv_move, k5_0, hb.blk.cell, hb.blk.cell]; rfl) ?_
          refine WL.ef _ (e_range Try.underlying80 hnet (by simp only [EN, Nat.reduceEqDiff, reduceIte, k0_0, k4_0, k5_0, k24_0, k25_0, i26_0, hb.blk.cell, hb.blk.cell])) ?_
          rintro _ h50 ⟨it, rfl, hit, hx50, hsz50, hI⟩
          simp only [put_some]
          have hith : h.size ≤ it := (by rw [hit]; exact hG.size)
          have hlts := hb.lts
          have hne50 : p ≠ it ∧ bm ≠ it ∧ fm ≠ it ∧ v.ownBlock ≠ some it := ⟨by omega, by omega, by omega, fun hh => by have := hlts.2.2.2 _ hh; omega⟩
          replace hG := hG.ext hx50
          replace hb := hb.ext hx50
          refine WL.nil ?_
          refine th_norm ?_
          refine hx_block ?_
          refine hx_loopG [11, 12, 62, 63, 64, 65, 66, 67, 68, 69, 70, 71, 72, 73, 74, 75, 76] (fun k e hL1 => ∃ (M : List E2) (left : List E2), left.length = k ∧ (Gs h hL1 (foot p bm vo)) ∧ (IterT kV iV hL1 it nb (netL l) left) ∧ (BkO hL1 p bm fm v M ((addK ks l).map Prod.fst) fs sq) ∧ (M.map Prod.fst = (addK ks l).map Prod.fst) ∧ (∀ q, lk M q = if q ∈ left.map Prod.fst then lk ks q else lk ks q + netM l q) ∧ ((left.map Prod.fst).Nodup) ∧ (∀ y ∈ left, y ∈ netL l)) _ ⟨addK ks l, netL l, rfl, ?_, ?_, ?_, ?_, ?_, ?_, ?_⟩ ?_
          · exact hG
          · exact hI
          · exact hb
          · rfl
          · exact vals_start ks l
          · exact hI.map.nodup
          · exact fun y hy => hy
          ·
            rintro k e1L hL1 hfr1 ⟨M, left, rfl, hG, hI, hb, hMk, hvals, hnd, hsub⟩
            have k0_1 := hfr1 0 rfl; try simp only [EN, Nat.reduceEqDiff, reduceIte, k0_0, k4_0, k5_0, k24_0, k25_0, i26_0, hb.blk.cell, hb.blk.cell] at k0_1
            have k4_1 := hfr1 4 rfl; try simp only [EN, Nat.reduceEqDiff, reduceIte, k0_0, k4_0, k5_0, k24_0, k25_0, i26_0, hb.blk.cell, hb.blk.cell] at k4_1
            have k61_1 := hfr1 61 rfl; try simp only [EN, Nat.reduceEqDiff, reduceIte, k0_0, k4_0, k5_0, k24_0, k25_0, i26_0, hb.blk.cell, hb.blk.cell] at k61_1
            refine hx_seq ?_
            refine hx_region ?_
            refine WL.ef _ (e_next2 kt34 hI (by simp only [EN, Nat.reduceEqDiff, reduceIte, k0_1, k4_1, k61_1, hb.blk.cell, hb.blk.cell, hb.blk.cell])) ?_
            rintro _ h51 ⟨bb1, vs1, rfl, hv1, hst1, hT1, hF1⟩
            simp only [put_some]
            replace hG := hG.stp hst1 (.inr hith)
            replace hb := hb.away hst1 hne50.1 hne50.2.1 hne50.2.2.1 hne50.2.2.2
            refine WL.qq (by simp only [EN, Nat.reduceEqDiff, reduceIte, k0_1, k4_1, k61_1, hb.blk.cell, hb.blk.cell, hb.blk.cell, qv_extract, hv1]; rfl) ?_
            refine WL.nil ?_
            refine th_norm ?_
            refine hx_seq ?_
            refine hx_cond (by simp only [EN, Nat.reduceEqDiff, reduceIte, k0_1, k4_1, k61_1, hb.blk.cell, hb.blk.cell, hb.blk.cell]; rfl) (fun hct63 => ?_) (fun hct63 => ?_)
            ·
              try simp only [BD] at hct63
              obtain ⟨q1, left', hp1, hS⟩ := hT1 hct63
              have hlen1 := hp1.length_eq; rw [List.length_cons] at hlen1
              have hqn := net_mem hS.iter.map.nodup (hsub q1 (hp1.mem_iff.2 (by simp)))
              refine hx_skip ?_
              refine th_norm ?_
              refine hx_block ?_
              refine hx_seq ?_
              refine hx_region ?_
              refine WL.ef _ (e_entry hS (by simp only [EN, Nat.reduceEqDiff, reduceIte, k0_1, k4_1, k61_1, hb.blk.cell, hb.blk.cell, hb.blk.cell])) ?_
              rintro _ hX ⟨rfl, hq1x⟩
              obtain rfl : h51 = hX := hq1x.symm
              simp only [put_some]
              refine WL.qq (by simp only [EN, Nat.reduceEqDiff, reduceIte, qv_extract, AR, hb.blk.cell, hb.blk.cell, hb.blk.cell]; rfl) ?_
              refine WL.qq (by simp only [EN, Nat.reduceEqDiff, reduceIte, qv_extract, AR, hb.blk.cell, hb.blk.cell, hb.blk.cell]; rfl) ?_
              have hlts2 := hb.lts
              refine WL.allocSt zr34 sz34 (fun u => by simp only [EN, Nat.reduceEqDiff, reduceIte, Value.cells, hb.blk.cell, hb.blk.cell, hb.blk.cell]; rfl) ⟨rfl, rfl⟩ (by simp [Value.oneCell']) ?_
              intro h4 B4 hx4 hlt4 hB4
              replace hb := hb.ext hx4
              replace hG := hG.ext hx4
              replace hS := hS.ext hx4
              refine WL.qq (by simp only [EN, Nat.reduceEqDiff, reduceIte, qv_assign, hb.blk.cell, hb.blk.cell, hb.blk.cell, hB4.cell]; rfl) ?_
              refine WL.nil ?_
              refine th_norm ?_
              refine hx_fresh (fun eF17 hfcf17 => ?_)
              have k0_f17 := hfcf17 0 rfl; try simp only [EN, Nat.reduceEqDiff, reduceIte, k0_1, k4_1, k61_1, hb.blk.cell, hb.blk.cell, hb.blk.cell, hB4.cell] at k0_f17
              have k4_f17 := hfcf17 4 rfl; try simp only [EN, Nat.reduceEqDiff, reduceIte, k0_1, k4_1, k61_1, hb.blk.cell, hb.blk.cell, hb.blk.cell, hB4.cell] at k4_f17
              have k11_f17 := hfcf17 11 rfl; try simp only [EN, Nat.reduceEqDiff, reduceIte, k0_1, k4_1, k61_1, hb.blk.cell, hb.blk.cell, hb.blk.cell, hB4.cell] at k11_f17
              have k12_f17 := hfcf17 12 rfl; try simp only [EN, Nat.reduceEqDiff, reduceIte, k0_1, k4_1, k61_1, hb.blk.cell, hb.blk.cell, hb.blk.cell, hB4.cell] at k12_f17
              have k61_f17 := hfcf17 61 rfl; try simp only [EN, Nat.reduceEqDiff, reduceIte, k0_1, k4_1, k61_1, hb.blk.cell, hb.blk.cell, hb.blk.cell, hB4.cell] at k61_f17
              have k62_f17 := hfcf17 62 rfl; try simp only [EN, Nat.reduceEqDiff, reduceIte, k0_1, k4_1, k61_1, hb.blk.cell, hb.blk.cell, hb.blk.cell, hB4.cell] at k62_f17
              have k63_f17 := hfcf17 63 rfl; try simp only [EN, Nat.reduceEqDiff, reduceIte, k0_1, k4_1, k61_1, hb.blk.cell, hb.blk.cell, hb.blk.cell, hB4.cell] at k63_f17
              have k64_f17 := hfcf17 64 rfl; try simp only [EN, Nat.reduceEqDiff, reduceIte, k0_1, k4_1, k61_1, hb.blk.cell, hb.blk.cell, hb.blk.cell, hB4.cell] at k64_f17
              have k65_f17 := hfcf17 65 rfl; try simp only [EN, Nat.reduceEqDiff, reduceIte, k0_1, k4_1, k61_1, hb.blk.cell, hb.blk.cell, hb.blk.cell, hB4.cell] at k65_f17
              have k66_f17 := hfcf17 66 rfl; try simp only [EN, Nat.reduceEqDiff, reduceIte, k0_1, k4_1, k61_1, hb.blk.cell, hb.blk.cell, hb.blk.cell, hB4.cell] at k66_f17
              apply hx_draw2R (Rel.ent kV iV bm M q1.1 0) [10] [8] [(8, (Spec.ent kV iV bm (mset M q1.1 ((M.lookup q1.1).getD 0)) q1.1 ((M.lookup q1.1).getD 0)))] rfl (by decide +kernel) rfl ent_stable
              refine LD.qr rfl rfl (fun hD hr => by have hb0 := hb; have hB4 := hB4.st hr.1 (by omega); obtain ⟨M', hb⟩ : ∃ M', BkO hD p bm fm v M' ((addK ks l).map Prod.fst) fs sq := (by rcases hr.2.1 (.inl hb.bal) with hm | hm; exact ⟨_, hb.bals hr.1 hm⟩; exact ⟨_, hb.bals hr.1 hm⟩); simp only [EN, Nat.reduceEqDiff, reduceIte, qv_move, k0_f17, hb.blk.cell, hb.blk.cell, hb.blk.cell, hB4.cell]; rfl) ?_
              refine LD.qr rfl rfl (fun hD hr => by have hb0 := hb; have hB4 := hB4.st hr.1 (by omega); obtain ⟨M', hb⟩ : ∃ M', BkO hD p bm fm v M' ((addK ks l).map Prod.fst) fs sq := (by rcases hr.2.1 (.inl hb.bal) with hm | hm; exact ⟨_, hb.bals hr.1 hm⟩; exact ⟨_, hb.bals hr.1 hm⟩); simp only [EN, Nat.reduceEqDiff, reduceIte, qv_nilCheck, hb.blk.cell, hb.blk.cell, hb.blk.cell, hB4.cell]; rfl) ?_
              refine LD.qr rfl rfl (fun hD hr => by have hb0 := hb; have hB4 := hB4.st hr.1 (by omega); obtain ⟨M', hb⟩ : ∃ M', BkO hD p bm fm v M' ((addK ks l).map Prod.fst) fs sq := (by rcases hr.2.1 (.inl hb.bal) with hm | hm; exact ⟨_, hb.bals hr.1 hm⟩; exact ⟨_, hb.bals hr.1 hm⟩); simp only [EN, Nat.reduceEqDiff, reduceIte, qv_fieldAddr, fa83_1, Nat.zero_add, Nat.reduceAdd, hb.blk.cell, hb.blk.cell, hb.blk.cell, hB4.cell]; rfl) ?_
              refine LD.qr rfl rfl (fun hD hr => by have hb0 := hb; have hB4 := hB4.st hr.1 (by omega); obtain ⟨M', hb⟩ : ∃ M', BkO hD p bm fm v M' ((addK ks l).map Prod.fst) fs sq := (by rcases hr.2.1 (.inl hb.bal) with hm | hm; exact ⟨_, hb.bals hr.1 hm⟩; exact ⟨_, hb.bals hr.1 hm⟩); simp only [EN, Nat.reduceEqDiff, reduceIte, qv_load, ld80, readN, AR, Nat.zero_add, Nat.reduceAdd, hb.blk.cell, hb.blk.cell, hb.blk.cell, hB4.cell]; rfl) ?_
              refine LD.qr rfl rfl (fun hD hr => by have hb0 := hb; have hB4 := hB4.st hr.1 (by omega); obtain ⟨M', hb⟩ : ∃ M', BkO hD p bm fm v M' ((addK ks l).map Prod.fst) fs sq := (by rcases hr.2.1 (.inl hb.bal) with hm | hm; exact ⟨_, hb.bals hr.1 hm⟩; exact ⟨_, hb.bals hr.1 hm⟩); simp only [EN, Nat.reduceEqDiff, reduceIte, qv_load, ld34, readN, AR, Nat.zero_add, Nat.reduceAdd, k11_f17, hb.blk.cell, hb.blk.cell, hb.blk.cell, hB4.cell]; rfl) ?_
              refine LD.qr rfl rfl (fun hD hr => by have hb0 := hb; have hB4 := hB4.st hr.1 (by omega); obtain ⟨M', hb⟩ : ∃ M', BkO hD p bm fm v M' ((addK ks l).map Prod.fst) fs sq := (by rcases hr.2.1 (.inl hb.bal) with hm | hm; exact ⟨_, hb.bals hr.1 hm⟩; exact ⟨_, hb.bals hr.1 hm⟩); simp only [EN, Nat.reduceEqDiff, reduceIte, k0_f17, k4_f17, k11_f17, k12_f17, k61_f17, k62_f17, k63_f17, k64_f17, k65_f17, k66_f17, hb.blk.cell, hb.blk.cell, hb.blk.cell, hB4.cell, qv_lookup]; exact lookv_entIn (ek := kV) (ev' := iV) (z := 0) kt34 Try.underlying80 zr2 hb0.bal hr) ?_
              refine LD.qr rfl rfl (fun hD hr => by have hb0 := hb; have hB4 := hB4.st hr.1 (by omega); obtain ⟨M', hb⟩ : ∃ M', BkO hD p bm fm v M' ((addK ks l).map Prod.fst) fs sq := (by rcases hr.2.1 (.inl hb.bal) with hm | hm; exact ⟨_, hb.bals hr.1 hm⟩; exact ⟨_, hb.bals hr.1 hm⟩); simp only [EN, Nat.reduceEqDiff, reduceIte, qv_move, k12_f17, hb.blk.cell, hb.blk.cell, hb.blk.cell, hB4.cell]; rfl) ?_
              refine LD.qr rfl rfl (fun hD hr => by have hb0 := hb; have hB4 := hB4.st hr.1 (by omega); obtain ⟨M', hb⟩ : ∃ M', BkO hD p bm fm v M' ((addK ks l).map Prod.fst) fs sq := (by rcases hr.2.1 (.inl hb.bal) with hm | hm; exact ⟨_, hb.bals hr.1 hm⟩; exact ⟨_, hb.bals hr.1 hm⟩); simp only [EN, Nat.reduceEqDiff, reduceIte, k0_f17, k4_f17, k11_f17, k12_f17, k61_f17, k62_f17, k63_f17, k64_f17, k65_f17, k66_f17, hb.blk.cell, hb.blk.cell, hb.blk.cell, hB4.cell, qv_binOp, binv_add]; rfl) ?_
              refine LD.es rfl rfl (by intro hD hr hf; have hb0 := hb; have hB4 := hB4.st hr.1 (by omega); obtain ⟨M', hb⟩ : ∃ M', BkO hD p bm fm v M' ((addK ks l).map Prod.fst) fs sq := (by rcases hr.2.1 (.inl hb.bal) with hm | hm; exact ⟨_, hb.bals hr.1 hm⟩; exact ⟨_, hb.bals hr.1 hm⟩); exact e_entryIn (ek := kV) (ev' := iV) (l := M) (x := q1.1) (z := 0) kt34 Try.underlying80 zr2 hb0.bal hr (by simp only [EN, Nat.reduceEqDiff, reduceIte, k0_f17, k4_f17, k11_f17, k12_f17, k61_f17, k62_f17, k63_f17, k64_f17, k65_f17, k66_f17, hb.blk.cell, hb.blk.cell, hb.blk.cell, hB4.cell]) (by simp only [EN, Nat.reduceEqDiff, reduceIte, k0_f17, k4_f17, k11_f17, k12_f17, k61_f17, k62_f17, k63_f17, k64_f17, k65_f17, k66_f17, hb.blk.cell, hb.blk.cell, hb.blk.cell, hB4.cell])) ?_
              intro u17_8 w17_8
              obtain ⟨st, rfl⟩ := w17_8
              refine LD.qr rfl rfl (fun hD hr => by have hb0 := hb; have hB4 := hB4.st hr.1 (by omega); obtain ⟨M', hb⟩ : ∃ M', BkO hD p bm fm v M' ((addK ks l).map Prod.fst) fs sq := (by rcases hr.2.1 (.inl hb.bal) with hm | hm; exact ⟨_, hb.bals hr.1 hm⟩; exact ⟨_, hb.bals hr.1 hm⟩); simp only [EN, Nat.reduceEqDiff, reduceIte, qv_extract, AR, hb.blk.cell, hb.blk.cell, hb.blk.cell, hB4.cell]; rfl) ?_
              refine LD.skip rfl ?_
              refine LD.nil ?_
              rintro h5 hr17 hF17
              have hen := hF17 (8, .tuple #[iV ((M.lookup q1.1).getD 0), .int .i64 st]) (by simp) _ rfl st rfl
              replace hb := hb.bals hr17.1 hen.map
              replace hG := hG.stp hr17.1 (.inl (by simp))
              replace hS := hS.step hr17.1 hnbm hne50.2.1.symm
              refine WL.ef _ (e_entryStore (v := IntKind.i64.wrap (lk M q1.1 + q1.2)) hen (by simp only [EN, Nat.reduceEqDiff, reduceIte, k0_f17, k4_f17, k11_f17, k12_f17, k61_f17, k62_f17, k63_f17, k64_f17, k65_f17, k66_f17, hb.blk.cell, hb.blk.cell, hb.blk.cell, hB4.cell]) (by simp only [EN, Nat.reduceEqDiff, reduceIte, k0_f17, k4_f17, k11_f17, k12_f17, k61_f17, k62_f17, k63_f17, k64_f17, k65_f17, k66_f17, hb.blk.cell, hb.blk.cell, hb.blk.cell, hB4.cell]) (by simp only [EN, Nat.reduceEqDiff, reduceIte, k0_f17, k4_f17, k11_f17, k12_f17, k61_f17, k62_f17, k63_f17, k64_f17, k65_f17, k66_f17, hb.blk.cell, hb.blk.cell, hb.blk.cell, hB4.cell] <;> rfl)) ?_
              rintro _ h52 ⟨hw52, hm52⟩
              simp only [put_none]
              rw [mset_mset] at hm52
              replace hb := hb.bals (.inr hw52) hm52
              replace hG := hG.stp (.inr hw52) (.inl (by simp))
              replace hS := hS.step (.inr hw52) hnbm hne50.2.1.symm
              refine WL.nil ?_
              refine bl_norm ?_
              refine th_norm ?_
              refine ⟨rfl, ?_, _, ?_, mset M q1.1 (IntKind.i64.wrap (lk M q1.1 + q1.2)), left', rfl, ?_, ?_, ?_, ?_, ?_, ?_, ?_⟩  -- again 0 of loop 1
              · (repeat (first | exact Fr.refl _ _ | refine Fr.set rfl ?_ | refine Fr.put rfl ?_ | refine Fr.put0 ?_ | refine Fr.trans ?_ (Fr.of hfcf11 rfl) | refine Fr.trans ?_ (Fr.of hfcf12 rfl) | refine Fr.trans ?_ (Fr.of hfcf17 rfl)))
              · omega
              · exact hG
              · exact hS.iter
              · exact hb
              · rw [mset_fst, if_pos (by rw [hMk]; obtain ⟨x, hx, hxq⟩ := hqn.2; rw [← hxq]; exact addK_mem l ks x hx)]; exact hMk
              · exact vals_step (by omega) hval (hbal _) hp1 hnd hqn.1 hvals
              · exact (List.nodup_cons.1 ((hp1.map Prod.fst).nodup_iff.1 hnd)).2
              · exact fun y hy => hsub y (hp1.mem_iff.2 (by simp [hy]))
            ·
              try simp only [BD] at hct63
              obtain ⟨hl0, _⟩ := hF1 hct63; subst hl0
              have hM := vals_end (by omega) hval hbal hMk hb.bal.nodup hvals
              rw [← hMk, hM] at hb
              refine hx_exit ?_
              refine th_exit ?_
              refine th_exit ?_
              refine bl_hit ?_
              refine th_norm ?_
              refine hx_seq ?_
              refine hx_region ?_
              refine WL.qq (by simp only [EN, Nat.reduceEqDiff, reduceIte, qv_move, k0_1, hb.blk.cell, hb.blk.cell, hb.blk.cell]; rfl) ?_
              refine WL.qq (by simp only [EN, Nat.reduceEqDiff, reduceIte, qv_nilCheck, hb.blk.cell, hb.blk.cell, hb.blk.cell]; rfl) ?_
              refine WL.qq (by simp only [EN, Nat.reduceEqDiff, reduceIte, qv_fieldAddr, fa83_4, Nat.zero_add, Nat.reduceAdd, hb.blk.cell, hb.blk.cell, hb.blk.cell]; rfl) ?_
              refine WL.qq (by simp only [EN, Nat.reduceEqDiff, reduceIte, qv_load, ld3, readN, AR, Nat.zero_add, Nat.reduceAdd, hb.blk.cell, hb.blk.cell, hb.blk.cell]; rfl) ?_
              refine WL.qq (by simp only [EN, Nat.reduceEqDiff, reduceIte, qv_binOp, binv_add, hb.blk.cell, hb.blk.cell, hb.blk.cell]; (try simp (disch := omega) only [w64, w8, wu64]); rfl) ?_
              refine WL.qq (by simp only [EN, Nat.reduceEqDiff, reduceIte, qv_nilCheck, hb.blk.cell, hb.blk.cell, hb.blk.cell]; rfl) ?_
              refine WL.qq (by simp only [EN, Nat.reduceEqDiff, reduceIte, qv_fieldAddr, fa83_4, Nat.zero_add, Nat.reduceAdd, hb.blk.cell, hb.blk.cell, hb.blk.cell]; rfl) ?_
              refine WL.store (by simp only [EN, Nat.reduceEqDiff, reduceIte, k0_1, k4_1, k61_1, hb.blk.cell, hb.blk.cell, hb.blk.cell] <;> rfl) sz3 (by simp only [EN, Nat.reduceEqDiff, reduceIte, k0_1, k4_1, k61_1, hb.blk.cell, hb.blk.cell, hb.blk.cell, Value.cells]; rfl) rfl hb.blk (by simp) (by simp [Value.oneCell']) ?_
              intro h60 hw60
              replace hb := hb.seq (sq' := sq + 1) hw60
              replace hG := hG.stp (.inr ⟨_, hw60⟩) (.inl (by simp))
              refine WL.nil ?_
              refine th_norm ?_
              refine hx_seq ?_
              refine hx_region ?_
              refine WL.qq (by simp only [EN, Nat.reduceEqDiff, reduceIte, qv_assign, hb.blk.cell, hb.blk.cell, hb.blk.cell]; rfl) ?_
              refine WL.nil ?_
              refine th_norm ?_
              refine hx_ret ?_
              refine fin_ret [.tmp 4] rfl rfl (by simp only [EN, Nat.reduceEqDiff, reduceIte, resv, k0_1, k4_1, k61_1, hb.blk.cell, hb.blk.cell, hb.blk.cell]; rfl) ?_  -- ret 1 r19
              exact ⟨by rw [hct22]; rfl, hG, fun hh => absurd hct22 hh, fun _ => ⟨v, hb, hv⟩⟩
theorem c_post {h : Heap} {p bm fm : Nat} {vo : Value} {ks fs : List E2} {sq : Int} (al : Option Addr) (l : List E2) (cl : Nat) (ll : l.length ≤ 1000000) (lk' : ks.length ≤ 1000000) (hsq : 0 ≤ sq ∧ sq ≤ 1000000) (hbal : ∀ q, vld (lk ks q) = true) (hu : okE l)
    (hb : IsBk h p bm fm vo ks fs sq) (hl : Own h 0 89 3 (.slice al l.length cl) l.length (l.flatMap entL)) {r : Int} (hr : chkE (lk ks) (lk fs) l = r) :
    HCalls Try.prog 18 #[.pointer (some ⟨p, 0, none⟩), .slice al l.length cl] h fun v h' => v = iV r ∧ Gs h h' (foot p bm vo) ∧
      (r ≠ 0 → Ext h h') ∧ (r = 0 → ∃ vo', IsBk h' p bm fm vo' (putL ks l) fs (sq + 1) ∧ ∀ c, vo'.ownBlock = some c → vo.ownBlock = some c ∨ h.size ≤ c) :=
  c_postT al l cl ll lk' hsq hbal hu hb (SlT.own hl rfl) hr
end GL


/- Ledger: the check of a list of entries. -/
import Derived.Test.YtlmealnfkadndaaLedC
import Derived.Test.YtlmealnfkadndaaGl23
set_option linter.unusedSimpArgs false
set_option linter.unusedVariables false
set_option linter.unnecessarySimpa false
namespace GL
open Go Go.Proofs
set_option maxRecDepth 8000
abbrev netL (l : List E2) : List E2 := accL Prod.fst l
abbrev grpL (l : List E2) : List (ByteArray × Int) := accL (fun x => grpS x.1.a) l
def okE (l : List E2) : Prop := ∀ x ∈ l, 0 ≤ x.1.a ∧ x.1.a ≤ 255
theorem grpS_inj {a b : Int} (ha : 0 ≤ a ∧ a ≤ 255) (hb : 0 ≤ b ∧ b ≤ 255) (h : grpS a = grpS b) : a = b := by
  unfold grpS at h
  simp only [ByteArray.mk.injEq, Array.mk.injEq, List.cons.injEq, and_true] at h
  have h1 := congrArg UInt8.toNat h
  simp only [UInt8.toNat_ofNat'] at h1
  omega
theorem netL_lk (l : List E2) (q : K2) : lk (netL l) q = netM l q := accL_lk _ _ _
theorem foldl_congr2 {f g : Int → E2 → Int} : ∀ (l : List E2) (n : Int), (∀ x ∈ l, ∀ n, f n x = g n x) → l.foldl f n = l.foldl g n
  | [], _, _ => rfl
  | x :: l, n, h => by
    rw [List.foldl_cons, List.foldl_cons, h x (by simp)]
    exact foldl_congr2 l _ fun y hy => h y (by simp [hy])
theorem grpL_lk {l : List E2} (hu : okE l) {a : Int} (ha : 0 ≤ a ∧ a ≤ 255) : lk (grpL l) (grpS a) = sumA l a := by
  rw [accL_lk]
  unfold sumA
  refine foldl_congr2 l 0 fun x hx n => ?_
  by_cases h : x.1.a = a
  · rw [if_pos (by rw [h]), if_pos h]
  · rw [if_neg (fun hh => h (grpS_inj (hu x hx) ha hh)), if_neg h]
theorem net_mem {l : List E2} {p : E2} (hn : ((netL l).map Prod.fst).Nodup) (hp : p ∈ netL l) : p.2 = netM l p.1 ∧ ∃ x ∈ l, x.1 = p.1 := by
  refine ⟨?_, (accL_keys _ _ _).1 (List.mem_map.2 ⟨p, hp, rfl⟩)⟩
  rw [← netL_lk]
  exact (lk_mem hn hp).symm
theorem net_all {l : List E2} {P : E2 → Prop} (hn : ((netL l).map Prod.fst).Nodup) (h : ∀ p ∈ netL l, P p) : ∀ x ∈ l, P (x.1, netM l x.1) := by
  intro x hx
  obtain ⟨p, hp, h1⟩ := List.mem_map.1 ((accL_keys Prod.fst x.1 l).2 ⟨x, hx, rfl⟩)
  have h2 := (net_mem hn hp).1
  obtain ⟨a, v⟩ := p
  simp only at h1 h2
  rw [← h1, ← h2]
  exact h _ hp
theorem grp_mem {l : List E2} (hu : okE l) {p : ByteArray × Int} (hn : ((grpL l).map Prod.fst).Nodup) (hp : p ∈ grpL l) : ∃ x ∈ l, p.2 = sumA l x.1.a := by
  obtain ⟨x, hx, h1⟩ := (accL_keys _ _ _).1 (List.mem_map.2 ⟨p, hp, rfl⟩)
  refine ⟨x, hx, ?_⟩
  rw [← grpL_lk hu (hu x hx), h1]
  exact (lk_mem hn hp).symm
theorem grp_all {l : List E2} (hu : okE l) (hn : ((grpL l).map Prod.fst).Nodup) (h : ∀ p ∈ grpL l, p.2 = 0) : ∀ x ∈ l, sumA l x.1.a = 0 := by
  intro x hx
  obtain ⟨p, hp, h1⟩ := List.mem_map.1 ((accL_keys (fun x => grpS x.1.a) (grpS x.1.a) l).2 ⟨x, hx, rfl⟩)
  rw [← grpL_lk hu (hu x hx), ← h1]
  rw [lk_mem hn hp]
  exact h p hp
theorem perm_sub {left left' : List E2} {p : E2} {P : E2 → Prop} {N : List E2} (hp : left.Perm (p :: left')) (h : ∀ y ∈ N, y ∈ left ∨ P y) (hP : P p) : ∀ y ∈ N, y ∈ left' ∨ P y := by
  intro y hy
  rcases h y hy with h | h
  · rcases List.mem_cons.1 (hp.mem_iff.1 h) with rfl | h
    · exact .inr hP
    · exact .inl h
  · exact .inr h
theorem perm_sub2 {left left' : List (ByteArray × Int)} {p : ByteArray × Int} {P : ByteArray × Int → Prop} {N : List (ByteArray × Int)} (hp : left.Perm (p :: left')) (h : ∀ y ∈ N, y ∈ left ∨ P y) (hP : P p) : ∀ y ∈ N, y ∈ left' ∨ P y := by
  intro y hy
  rcases h y hy with h | h
  · rcases List.mem_cons.1 (hp.mem_iff.1 h) with rfl | h
    · exact .inr hP
    · exact .inl h
  · exact .inr h
set_option maxHeartbeats 1000000 in
theorem c_check13 {h : Heap} {p bm fm : Nat} {vo : Value} {ks fs : List E2} {sq : Int} (al : Option Addr) (l : List E2) (cl : Nat) (ll : l.length ≤ 4611686018427387904) (hbal : ∀ q, vld (lk ks q) = true) (hu : okE l)
    (hb : IsBk h p bm fm vo ks fs sq) (hl : SlG 3 entL h al l) :
    HCalls Try.prog 48 #[.pointer (some ⟨p, 0, none⟩), .slice al l.length cl] h fun v h' => Ext h h' ∧ ∃ m, v = .tuple #[.map m, iV (chkE (lk ks) (lk fs) l)] ∧
      (chkE (lk ks) (lk fs) l = 0 → ∃ b, m = some b ∧ h.size ≤ b ∧ MapT kV iV h' b (netL l)) := by
  refine hcalls2 Try.func48 rfl (by decide +kernel) (by simp only [Try.ntmps48]; exact of_decide_eq_true rfl) ?_
  intro e hin
  have e0 := hin 0 _ rfl
  have e1 := hin 1 _ rfl
  obtain ⟨r, hr⟩ : ∃ r, chkE (lk ks) (lk fs) l = r := ⟨_, rfl⟩
  rw [hr]
  have kb := hb; have kl := hl
  refine hx_seq ?_
  refine hx_region ?_
  refine WL.qq (by simp only [EN, Nat.reduceEqDiff, reduceIte, qv_assign, hb.blk.cell]; rfl) ?_
  refine WL.qq (by simp only [EN, Nat.reduceEqDiff, reduceIte, qv_assign, hb.blk.cell]; rfl) ?_
  refine WL.nil ?_
  refine th_norm ?_
  refine hx_seq ?_
  refine hx_seq ?_
  refine hx_region ?_
  refine WL.qq (by simp only [EN, Nat.reduceEqDiff, reduceIte, qv_move, e1, hb.blk.cell]; rfl) ?_
  refine WL.qq (by simp only [EN, Nat.reduceEqDiff, reduceIte, qv_len, ln47, AR, hb.blk.cell]; rfl) ?_
  refine WL.qq (by simp only [EN, Nat.reduceEqDiff, reduceIte, qv_binOp, binv_eql, eq3, Option.map_some, hb.blk.cell]; rfl) ?_
  refine WL.nil ?_
  refine th_norm ?_
  refine hx_cond (by simp only [EN, Nat.reduceEqDiff, reduceIte, e0, e1, hb.blk.cell]; rfl) (fun hct18 => ?_) (fun hct18 => ?_)
  ·
    try simp only [BD] at hct18
    refine hx_seq ?_
    refine hx_region ?_
    refine WL.qq (by simp only [EN, Nat.reduceEqDiff, reduceIte, qv_assign, hb.blk.cell]; rfl) ?_
    refine WL.qq (by simp only [EN, Nat.reduceEqDiff, reduceIte, qv_assign, hb.blk.cell]; rfl) ?_
    refine WL.nil ?_
    refine th_norm ?_
    refine hx_ret ?_
    refine th_ret ?_
    refine fin_ret [.tmp 4, .tmp 5] rfl rfl (by simp only [EN, Nat.reduceEqDiff, reduceIte, resv, e0, e1, hb.blk.cell]; rfl) ?_  -- ret 0 r2
    rw [chkE, if_pos (by omega)] at hr
    subst hr
    exact ⟨(Ext.refl _), _, rfl, by simp⟩
  ·
    try simp only [BD] at hct18
    rw [chkE, if_neg (by omega)] at hr
    refine hx_skip ?_
    refine th_norm ?_
    refine hx_seq ?_
    refine hx_seq ?_
    refine hx_region ?_
    refine WL.qq (by simp only [EN, Nat.reduceEqDiff, reduceIte, qv_move, e1, hb.blk.cell]; rfl) ?_
    refine WL.qq (by simp only [EN, Nat.reduceEqDiff, reduceIte, qv_len, ln47, AR, hb.blk.cell]; rfl) ?_
    refine WL.qq (by simp only [EN, Nat.reduceEqDiff, reduceIte, qv_binOp, binv_gtr, hb.blk.cell]; rfl) ?_
    refine WL.nil ?_
    refine th_norm ?_
    refine hx_cond (by simp only [EN, Nat.reduceEqDiff, reduceIte, e0, e1, hb.blk.cell]; rfl) (fun hct21 => ?_) (fun hct21 => ?_)
    ·
      try simp only [BD] at hct21
      refine hx_seq ?_
      refine hx_region ?_
      refine WL.qq (by simp only [EN, Nat.reduceEqDiff, reduceIte, qv_assign, hb.blk.cell]; rfl) ?_
      refine WL.qq (by simp only [EN, Nat.reduceEqDiff, reduceIte, qv_assign, hb.blk.cell]; rfl) ?_
      refine WL.nil ?_
      refine th_norm ?_
      refine hx_ret ?_
      refine th_ret ?_
      refine fin_ret [.tmp 4, .tmp 5] rfl rfl (by simp only [EN, Nat.reduceEqDiff, reduceIte, resv, e0, e1, hb.blk.cell]; rfl) ?_  -- ret 1 r4
      rw [if_pos (by omega)] at hr
      subst hr
      exact ⟨(Ext.refl _), _, rfl, by simp⟩
    ·
      try simp only [BD] at hct21
      rw [if_neg (by omega)] at hr
      refine hx_skip ?_
      refine th_norm ?_
      refine hx_seq ?_
      refine hx_region ?_
      refine WL.makeMap2 ?_
      intro h1 B1 hx1 hlt1 hB1
      replace hb := hb.ext hx1
      replace hl := hl.ext hx1
      have hlt1b := (Array.getElem?_eq_some_iff.1 hB1).1
      refine WL.makeMap2 ?_
      intro h2 B2 hx2 hlt2 hB2
      replace hb := hb.ext hx2
      replace hl := hl.ext hx2
      replace hB1 := hB1.ext hx2
      refine WL.qq (by simp only [EN, Nat.reduceEqDiff, reduceIte, qv_assign, hb.blk.cell]; rfl) ?_
      refine WL.qq (by simp only [EN, Nat.reduceEqDiff, reduceIte, qv_assign, hb.blk.cell]; rfl) ?_
      refine WL.nil ?_
      refine th_norm ?_
      refine hx_seq ?_
      refine hx_seq ?_
      refine hx_region ?_
      have hE0 : Ext h h2 := ((hx1).trans (hx2))
      have hne : B1 ≠ B2 := by omega
      refine WL.qq (by simp only [EN, Nat.reduceEqDiff, reduceIte, qv_move, e1, hb.blk.cell]; rfl) ?_
      refine WL.qq (by simp only [EN, Nat.reduceEqDiff, reduceIte, qv_len, ln47, AR, hb.blk.cell]; rfl) ?_
      refine WL.qq (by simp only [EN, Nat.reduceEqDiff, reduceIte, qv_move, hb.blk.cell]; rfl) ?_
      refine WL.nil ?_
      refine th_norm ?_
      refine hx_block ?_
      refine hx_loopG [4, 5, 9, 26, 27, 28, 29, 30, 31, 32, 33, 34, 35, 36, 37, 38, 39, 40, 41, 42, 43, 44, 45, 46, 47, 48, 49, 50, 51, 52, 53, 54, 55] (fun k e hL0 => ∃ (i : Nat), l.length - i = k ∧ (i ≤ l.length) ∧ (Ext h hL0) ∧ (MapT kV iV hL0 B1 (netL (l.take i))) ∧ (MapT Value.string iV hL0 B2 (grpL (l.take i))) ∧ (∀ y ∈ l.take i, vld y.2 = true) ∧ e 26 = .int .i64 i) _ ⟨0, rfl, ?_, ?_, ?_, ?_, ?_, ?_⟩ ?_
      · omega
      · exact hE0
      · exact MapT.new hB1
      · exact MapT.new hB2
      · simp
      · simp only [EN, Nat.reduceEqDiff, reduceIte, e0, e1, hb.blk.cell] <;> rfl
      ·
        rintro k e0L hL0 hfr0 ⟨i, rfl, hi, hE, hn, hg, hal, i26_0⟩
        have k0_0 := hfr0 0 rfl; try simp only [EN, Nat.reduceEqDiff, reduceIte, e0, e1, hb.blk.cell] at k0_0
        have k6_0 := hfr0 6 rfl; try simp only [EN, Nat.reduceEqDiff, reduceIte, e0, e1, hb.blk.cell] at k6_0
        have k7_0 := hfr0 7 rfl; try simp only [EN, Nat.reduceEqDiff, reduceIte, e0, e1, hb.blk.cell] at k7_0
        have k24_0 := hfr0 24 rfl; try simp only [EN, Nat.reduceEqDiff, reduceIte, e0, e1, hb.blk.cell] at k24_0
        have k25_0 := hfr0 25 rfl; try simp only [EN, Nat.reduceEqDiff, reduceIte, e0, e1, hb.blk.cell] at k25_0
        have hb := kb.ext hE; have hl := kl.ext hE
        refine hx_seq ?_
        refine hx_region ?_
        refine WL.qq (by simp only [EN, Nat.reduceEqDiff, reduceIte, qv_binOp, binv_lss, k25_0, i26_0, hb.blk.cell, hb.blk.cell]; rfl) ?_
        refine WL.nil ?_
        refine th_norm ?_
        refine hx_seq ?_
        refine hx_cond (by simp only [EN, Nat.reduceEqDiff, reduceIte, k0_0, k6_0, k7_0, k24_0, k25_0, i26_0, hb.blk.cell, hb.blk.cell]; rfl) (fun hct27 => ?_) (fun hct27 => ?_)
        ·
          try simp only [BD] at hct27
          obtain ⟨x, hx⟩ := atG (l := l) (i := i) (by omega)
          obtain ⟨b, off, rfl, hr3, hr2, hc0, hc1, hc2⟩ := ent_rd hl hx
          refine hx_skip ?_
          refine th_norm ?_
          refine hx_seq ?_
          refine hx_block ?_
          refine hx_seq ?_
          refine hx_region ?_
          refine WL.qq (by simp only [EN, Nat.reduceEqDiff, reduceIte, qv_indexAddr, k24_0, i26_0, hb.blk.cell, hb.blk.cell]; (try simp (disch := omega) only [ix47, Int.toNat_natCast]); rfl) ?_
          refine WL.qq (by simp only [EN, Nat.reduceEqDiff, reduceIte, k0_0, k6_0, k7_0, k24_0, k25_0, i26_0, hb.blk.cell, hb.blk.cell, qv_load, ld89, Int.toNat_natCast, hr3]; rfl) ?_
          have hltn := hn.lt; have hltg := hg.lt
          refine WL.allocSt zr89 sz89 (fun u => by simp only [EN, Nat.reduceEqDiff, reduceIte, Value.cells, hb.blk.cell, hb.blk.cell]; rfl) ⟨rfl, rfl⟩ (by simp [Value.oneCell']) ?_
          intro h3 B3 hx3 hlt3 hB3
          replace hb := hb.ext hx3
          replace hl := hl.ext hx3
          replace hn := hn.ext hx3
          replace hg := hg.ext hx3
          replace hE := hE.ext hx3
          refine WL.nil ?_
          refine th_norm ?_
          refine hx_seq ?_
          refine hx_seq ?_
          refine hx_region ?_
          refine WL.qq (by simp only [EN, Nat.reduceEqDiff, reduceIte, qv_fieldAddr, fa89_1, Nat.zero_add, Nat.reduceAdd, hb.blk.cell, hb.blk.cell, hB3.cell]; rfl) ?_
          refine WL.qq (by simp only [EN, Nat.reduceEqDiff, reduceIte, qv_load, ld2, readN, AR, Nat.zero_add, Nat.reduceAdd, hb.blk.cell, hb.blk.cell, hB3.cell]; rfl) ?_
          refine WL.ck Try.call58 (by simp only [EN, Nat.reduceEqDiff, reduceIte, AR, hb.blk.cell, hb.blk.cell, hB3.cell]; exact c_valid13 _ _) ?_
          refine WL.qq (by simp only [EN, Nat.reduceEqDiff, reduceIte, qv_unOp, unv_not, hb.blk.cell, hb.blk.cell, hB3.cell]; rfl) ?_
          refine WL.nil ?_
          refine th_norm ?_
          refine hx_cond (by simp only [EN, Nat.reduceEqDiff, reduceIte, k0_0, k6_0, k7_0, k24_0, k25_0, i26_0, hb.blk.cell, hb.blk.cell, hB3.cell]; rfl) (fun hct33 => ?_) (fun hct33 => ?_)
          ·
            try simp only [BD] at hct33
            refine hx_seq ?_
            refine hx_region ?_
            refine WL.qq (by simp only [EN, Nat.reduceEqDiff, reduceIte, qv_assign, hb.blk.cell, hb.blk.cell, hB3.cell]; rfl) ?_
            refine WL.qq (by simp only [EN, Nat.reduceEqDiff, reduceIte, qv_assign, hb.blk.cell, hb.blk.cell, hB3.cell]; rfl) ?_
            refine WL.nil ?_
            refine th_norm ?_
            refine hx_ret ?_
            refine th_ret ?_
            refine bl_ret ?_
            refine th_ret ?_
            refine th_ret ?_
            refine bl_ret ?_
            refine th_ret ?_
            refine fin_ret [.tmp 4, .tmp 5] rfl rfl (by simp only [EN, Nat.reduceEqDiff, reduceIte, resv, k0_0, k6_0, k7_0, k24_0, k25_0, i26_0, hb.blk.cell, hb.blk.cell, hB3.cell]; rfl) ?_  -- ret 2 r10
            rw [if_pos (fun hh => by rw [hh x (List.mem_of_getElem? hx)] at hct33; cases hct33)] at hr
            subst hr
            exact ⟨hE, _, rfl, by simp⟩
          ·
            try simp only [BD] at hct33
            refine hx_skip ?_
            refine th_norm ?_
            refine hx_seq ?_
            refine hx_fresh (fun eF11 hfcf11 => ?_)
            have k0_f11 := hfcf11 0 rfl; try simp only [EN, Nat.reduceEqDiff, reduceIte, k0_0, k6_0, k7_0, k24_0, k25_0, i26_0, hb.blk.cell, hb.blk.cell, hB3.cell] at k0_f11
            have k4_f11 := hfcf11 4 rfl; try simp only [EN, Nat.reduceEqDiff, reduceIte, k0_0, k6_0, k7_0, k24_0, k25_0, i26_0, hb.blk.cell, hb.blk.cell, hB3.cell] at k4_f11
            have k5_f11 := hfcf11 5 rfl; try simp only [EN, Nat.reduceEqDiff, reduceIte, k0_0, k6_0, k7_0, k24_0, k25_0, i26_0, hb.blk.cell, hb.blk.cell, hB3.cell] at k5_f11
            have k6_f11 := hfcf11 6 rfl; try simp only [EN, Nat.reduceEqDiff, reduceIte, k0_0, k6_0, k7_0, k24_0, k25_0, i26_0, hb.blk.cell, hb.blk.cell, hB3.cell] at k6_f11
            have k7_f11 := hfcf11 7 rfl; try simp only [EN, Nat.reduceEqDiff, reduceIte, k0_0, k6_0, k7_0, k24_0, k25_0, i26_0, hb.blk.cell, hb.blk.cell, hB3.cell] at k7_f11
            have k9_f11 := hfcf11 9 rfl; try simp only [EN, Nat.reduceEqDiff, reduceIte, k0_0, k6_0, k7_0, k24_0, k25_0, i26_0, hb.blk.cell, hb.blk.cell, hB3.cell] at k9_f11
            have k24_f11 := hfcf11 24 rfl; try simp only [EN, Nat.reduceEqDiff, reduceIte, k0_0, k6_0, k7_0, k24_0, k25_0, i26_0, hb.blk.cell, hb.blk.cell, hB3.cell] at k24_f11
            have k25_f11 := hfcf11 25 rfl; try simp only [EN, Nat.reduceEqDiff, reduceIte, k0_0, k6_0, k7_0, k24_0, k25_0, i26_0, hb.blk.cell, hb.blk.cell, hB3.cell] at k25_f11
            have k26_f11 := hfcf11 26 rfl; try simp only [EN, Nat.reduceEqDiff, reduceIte, k0_0, k6_0, k7_0, k24_0, k25_0, i26_0, hb.blk.cell, hb.blk.cell, hB3.cell] at k26_f11
            have k27_f11 := hfcf11 27 rfl; try simp only [EN, Nat.reduceEqDiff, reduceIte, k0_0, k6_0, k7_0, k24_0, k25_0, i26_0, hb.blk.cell, hb.blk.cell, hB3.cell] at k27_f11
            have k28_f11 := hfcf11 28 rfl; try simp only [EN, Nat.reduceEqDiff, reduceIte, k0_0, k6_0, k7_0, k24_0, k25_0, i26_0, hb.blk.cell, hb.blk.cell, hB3.cell] at k28_f11
            have k29_f11 := hfcf11 29 rfl; try simp only [EN, Nat.reduceEqDiff, reduceIte, k0_0, k6_0, k7_0, k24_0, k25_0, i26_0, hb.blk.cell, hb.blk.cell, hB3.cell] at k29_f11
            have k30_f11 := hfcf11 30 rfl; try simp only [EN, Nat.reduceEqDiff, reduceIte, k0_0, k6_0, k7_0, k24_0, k25_0, i26_0, hb.blk.cell, hb.blk.cell, hB3.cell] at k30_f11
            have k31_f11 := hfcf11 31 rfl; try simp only [EN, Nat.reduceEqDiff, reduceIte, k0_0, k6_0, k7_0, k24_0, k25_0, i26_0, hb.blk.cell, hb.blk.cell, hB3.cell] at k31_f11
            have k32_f11 := hfcf11 32 rfl; try simp only [EN, Nat.reduceEqDiff, reduceIte, k0_0, k6_0, k7_0, k24_0, k25_0, i26_0, hb.blk.cell, hb.blk.cell, hB3.cell] at k32_f11
            have k33_f11 := hfcf11 33 rfl; try simp only [EN, Nat.reduceEqDiff, reduceIte, k0_0, k6_0, k7_0, k24_0, k25_0, i26_0, hb.blk.cell, hb.blk.cell, hB3.cell] at k33_f11
            apply hx_draw2R (Rel.ent kV iV B1 (netL (l.take i)) x.1 0) [9] [7] [(7, (Spec.ent kV iV B1 (mset (netL (l.take i)) x.1 (((netL (l.take i)).lookup x.1).getD 0)) x.1 (((netL (l.take i)).lookup x.1).getD 0)))] rfl (by decide +kernel) rfl ent_stable
            refine LD.qr rfl rfl (fun hD hr => by have hB3 := hB3.st hr.1 (by omega); simp only [EN, Nat.reduceEqDiff, reduceIte, qv_move, k6_f11, hb.blk.cell, hb.blk.cell, hB3.cell]; rfl) ?_
            refine LD.qr rfl rfl (fun hD hr => by have hB3 := hB3.st hr.1 (by omega); simp only [EN, Nat.reduceEqDiff, reduceIte, qv_fieldAddr, fa89_0, Nat.zero_add, Nat.reduceAdd, k9_f11, hb.blk.cell, hb.blk.cell, hB3.cell]; rfl) ?_
            refine LD.qr rfl rfl (fun hD hr => by have hB3 := hB3.st hr.1 (by omega); simp only [EN, Nat.reduceEqDiff, reduceIte, qv_load, ld34, readN, AR, Nat.zero_add, Nat.reduceAdd, hb.blk.cell, hb.blk.cell, hB3.cell]; rfl) ?_
            refine LD.qr rfl rfl (fun hD hr => by have hB3 := hB3.st hr.1 (by omega); simp only [EN, Nat.reduceEqDiff, reduceIte, k0_f11, k4_f11, k5_f11, k6_f11, k7_f11, k9_f11, k24_f11, k25_f11, k26_f11, k27_f11, k28_f11, k29_f11, k30_f11, k31_f11, k32_f11, k33_f11, hb.blk.cell, hb.blk.cell, hB3.cell, qv_lookup]; exact lookv_entIn (ek := kV) (ev' := iV) (z := 0) kt34 Try.underlying80 zr2 hn hr) ?_
            refine LD.qr rfl rfl (fun hD hr => by have hB3 := hB3.st hr.1 (by omega); simp only [EN, Nat.reduceEqDiff, reduceIte, qv_fieldAddr, fa89_1, Nat.zero_add, Nat.reduceAdd, k9_f11, hb.blk.cell, hb.blk.cell, hB3.cell]; rfl) ?_
            refine LD.qr rfl rfl (fun hD hr => by have hB3 := hB3.st hr.1 (by omega); simp only [EN, Nat.reduceEqDiff, reduceIte, qv_load, ld2, readN, AR, Nat.zero_add, Nat.reduceAdd, hb.blk.cell, hb.blk.cell, hB3.cell]; rfl) ?_
            refine LD.qr rfl rfl (fun hD hr => by have hB3 := hB3.st hr.1 (by omega); simp only [EN, Nat.reduceEqDiff, reduceIte, k0_f11, k4_f11, k5_f11, k6_f11, k7_f11, k9_f11, k24_f11, k25_f11, k26_f11, k27_f11, k28_f11, k29_f11, k30_f11, k31_f11, k32_f11, k33_f11, hb.blk.cell, hb.blk.cell, hB3.cell, qv_binOp, binv_add]; rfl) ?_
            refine LD.es rfl rfl (by intro hD hr hf; have hB3 := hB3.st hr.1 (by omega); exact e_entryIn (ek := kV) (ev' := iV) (l := netL (l.take i)) (x := x.1) (z := 0) kt34 Try.underlying80 zr2 hn hr (by simp only [EN, Nat.reduceEqDiff, reduceIte, k0_f11, k4_f11, k5_f11, k6_f11, k7_f11, k9_f11, k24_f11, k25_f11, k26_f11, k27_f11, k28_f11, k29_f11, k30_f11, k31_f11, k32_f11, k33_f11, hb.blk.cell, hb.blk.cell, hB3.cell]) (by simp only [EN, Nat.reduceEqDiff, reduceIte, k0_f11, k4_f11, k5_f11, k6_f11, k7_f11, k9_f11, k24_f11, k25_f11, k26_f11, k27_f11, k28_f11, k29_f11, k30_f11, k31_f11, k32_f11, k33_f11, hb.blk.cell, hb.blk.cell, hB3.cell])) ?_
            intro u11_7 w11_7
            obtain ⟨st, rfl⟩ := w11_7
            refine LD.qr rfl rfl (fun hD hr => by have hB3 := hB3.st hr.1 (by omega); simp only [EN, Nat.reduceEqDiff, reduceIte, qv_extract, AR, hb.blk.cell, hb.blk.cell, hB3.cell]; rfl) ?_
            refine LD.skip rfl ?_
            refine LD.nil ?_
            rintro h4 hr11 hF11
            have hen := hF11 (7, .tuple #[iV (((netL (l.take i)).lookup x.1).getD 0), .int .i64 st]) (by simp) _ rfl st rfl
            replace hE := ext_step hE hr11.1 (by have := hE0.size; omega)
            replace hg := hg.step hr11.1 (by omega)
            replace hB3 := hB3.st hr11.1 (by omega)
            refine WL.ef _ (e_entryStore (v := IntKind.i64.wrap (lk (netL (l.take i)) x.1 + x.2)) hen (by simp only [EN, Nat.reduceEqDiff, reduceIte, k0_f11, k4_f11, k5_f11, k6_f11, k7_f11, k9_f11, k24_f11, k25_f11, k26_f11, k27_f11, k28_f11, k29_f11, k30_f11, k31_f11, k32_f11, k33_f11, hb.blk.cell, hb.blk.cell, hB3.cell]) (by simp only [EN, Nat.reduceEqDiff, reduceIte, k0_f11, k4_f11, k5_f11, k6_f11, k7_f11, k9_f11, k24_f11, k25_f11, k26_f11, k27_f11, k28_f11, k29_f11, k30_f11, k31_f11, k32_f11, k33_f11, hb.blk.cell, hb.blk.cell, hB3.cell]) (by simp only [EN, Nat.reduceEqDiff, reduceIte, k0_f11, k4_f11, k5_f11, k6_f11, k7_f11, k9_f11, k24_f11, k25_f11, k26_f11, k27_f11, k28_f11, k29_f11, k30_f11, k31_f11, k32_f11, k33_f11, hb.blk.cell, hb.blk.cell, hB3.cell] <;> rfl)) ?_
            rintro _ h41 ⟨⟨o41, hw41⟩, hn⟩
            simp only [put_none]
            replace hE := hw41.ext hE (by have := hE0.size; omega)
            replace hg := hg.wr hw41 (by omega)
            replace hB3 := hB3.wr hw41 (by omega)
            replace hb := kb.ext hE
            replace hl := kl.ext hE
            rw [mset_mset, ← accL_step _ hx] at hn
            refine WL.nil ?_
            refine th_norm ?_
            refine hx_fresh (fun eF12 hfcf12 => ?_)
            have k0_f12 := hfcf12 0 rfl; try simp only [EN, Nat.reduceEqDiff, reduceIte, k0_f11, k4_f11, k5_f11, k6_f11, k7_f11, k9_f11, k24_f11, k25_f11, k26_f11, k27_f11, k28_f11, k29_f11, k30_f11, k31_f11, k32_f11, k33_f11, hb.blk.cell, hb.blk.cell, hB3.cell] at k0_f12
            have k4_f12 := hfcf12 4 rfl; try simp only [EN, Nat.reduceEqDiff, reduceIte, k0_f11, k4_f11, k5_f11, k6_f11, k7_f11, k9_f11, k24_f11, k25_f11, k26_f11, k27_f11, k28_f11, k29_f11, k30_f11, k31_f11, k32_f11, k33_f11, hb.blk.cell, hb.blk.cell, hB3.cell] at k4_f12
            have k5_f12 := hfcf12 5 rfl; try simp only [EN, Nat.reduceEqDiff, reduceIte, k0_f11, k4_f11, k5_f11, k6_f11, k7_f11, k9_f11, k24_f11, k25_f11, k26_f11, k27_f11, k28_f11, k29_f11, k30_f11, k31_f11, k32_f11, k33_f11, hb.blk.cell, hb.blk.cell, hB3.cell] at k5_f12
            have k6_f12 := hfcf12 6 rfl; try simp only [EN, Nat.reduceEqDiff, reduceIte, k0_f11, k4_f11, k5_f11, k6_f11, k7_f11, k9_f11, k24_f11, k25_f11, k26_f11, k27_f11, k28_f11, k29_f11, k30_f11, k31_f11, k32_f11, k33_f11, hb.blk.cell, hb.blk.cell, hB3.cell] at k6_f12
            have k7_f12 := hfcf12 7 rfl; try simp only [EN, Nat.reduceEqDiff, reduceIte, k0_f11, k4_f11, k5_f11, k6_f11, k7_f11, k9_f11, k24_f11, k25_f11, k26_f11, k27_f11, k28_f11, k29_f11, k30_f11, k31_f11, k32_f11, k33_f11, hb.blk.cell, hb.blk.cell, hB3.cell] at k7_f12
            have k9_f12 := hfcf12 9 rfl; try simp only [EN, Nat.reduceEqDiff, reduceIte, k0_f11, k4_f11, k5_f11, k6_f11, k7_f11, k9_f11, k24_f11, k25_f11, k26_f11, k27_f11, k28_f11, k29_f11, k30_f11, k31_f11, k32_f11, k33_f11, hb.blk.cell, hb.blk.cell, hB3.cell] at k9_f12
            have k24_f12 := hfcf12 24 rfl; try simp only [EN, Nat.reduceEqDiff, reduceIte, k0_f11, k4_f11, k5_f11, k6_f11, k7_f11, k9_f11, k24_f11, k25_f11, k26_f11, k27_f11, k28_f11, k29_f11, k30_f11, k31_f11, k32_f11, k33_f11, hb.blk.cell, hb.blk.cell, hB3.cell] at k24_f12
            have k25_f12 := hfcf12 25 rfl; try simp only [EN, Nat.reduceEqDiff, reduceIte, k0_f11, k4_f11, k5_f11, k6_f11, k7_f11, k9_f11, k24_f11, k25_f11, k26_f11, k27_f11, k28_f11, k29_f11, k30_f11, k31_f11, k32_f11, k33_f11, hb.blk.cell, hb.blk.cell, hB3.cell] at k25_f12
            have k26_f12 := hfcf12 26 rfl; try simp only [EN, Nat.reduceEqDiff, reduceIte, k0_f11, k4_f11, k5_f11, k6_f11, k7_f11, k9_f11, k24_f11, k25_f11, k26_f11, k27_f11, k28_f11, k29_f11, k30_f11, k31_f11, k32_f11, k33_f11, hb.blk.cell, hb.blk.cell, hB3.cell] at k26_f12
            have k27_f12 := hfcf12 27 rfl; try simp only [EN, Nat.reduceEqDiff, reduceIte, k0_f11, k4_f11, k5_f11, k6_f11, k7_f11, k9_f11, k24_f11, k25_f11, k26_f11, k27_f11, k28_f11, k29_f11, k30_f11, k31_f11, k32_f11, k33_f11, hb.blk.cell, hb.blk.cell, hB3.cell] at k27_f12
            have k28_f12 := hfcf12 28 rfl; try simp only [EN, Nat.reduceEqDiff, reduceIte, k0_f11, k4_f11, k5_f11, k6_f11, k7_f11, k9_f11, k24_f11, k25_f11, k26_f11, k27_f11, k28_f11, k29_f11, k30_f11, k31_f11, k32_f11, k33_f11, hb.blk.cell, hb.blk.cell, hB3.cell] at k28_f12
            have k29_f12 := hfcf12 29 rfl; try simp only [EN, Nat.reduceEqDiff, reduceIte, k0_f11, k4_f11, k5_f11, k6_f11, k7_f11, k9_f11, k24_f11, k25_f11, k26_f11, k27_f11, k28_f11, k29_f11, k30_f11, k31_f11, k32_f11, k33_f11, hb.blk.cell, hb.blk.cell, hB3.cell] at k29_f12
            have k30_f12 := hfcf12 30 rfl; try simp only [EN, Nat.reduceEqDiff, reduceIte, k0_f11, k4_f11, k5_f11, k6_f11, k7_f11, k9_f11, k24_f11, k25_f11, k26_f11, k27_f11, k28_f11, k29_f11, k30_f11, k31_f11, k32_f11, k33_f11, hb.blk.cell, hb.blk.cell, hB3.cell] at k30_f12
            have k31_f12 := hfcf12 31 rfl; try simp only [EN, Nat.reduceEqDiff, reduceIte, k0_f11, k4_f11, k5_f11, k6_f11, k7_f11, k9_f11, k24_f11, k25_f11, k26_f11, k27_f11, k28_f11, k29_f11, k30_f11, k31_f11, k32_f11, k33_f11, hb.blk.cell, hb.blk.cell, hB3.cell] at k31_f12
            have k32_f12 := hfcf12 32 rfl; try simp only [EN, Nat.reduceEqDiff, reduceIte, k0_f11, k4_f11, k5_f11, k6_f11, k7_f11, k9_f11, k24_f11, k25_f11, k26_f11, k27_f11, k28_f11, k29_f11, k30_f11, k31_f11, k32_f11, k33_f11, hb.blk.cell, hb.blk.cell, hB3.cell] at k32_f12
            have k33_f12 := hfcf12 33 rfl; try simp only [EN, Nat.reduceEqDiff, reduceIte, k0_f11, k4_f11, k5_f11, k6_f11, k7_f11, k9_f11, k24_f11, k25_f11, k26_f11, k27_f11, k28_f11, k29_f11, k30_f11, k31_f11, k32_f11, k33_f11, hb.blk.cell, hb.blk.cell, hB3.cell] at k33_f12
            have k34_f12 := hfcf12 34 rfl; try simp only [EN, Nat.reduceEqDiff, reduceIte, k0_f11, k4_f11, k5_f11, k6_f11, k7_f11, k9_f11, k24_f11, k25_f11, k26_f11, k27_f11, k28_f11, k29_f11, k30_f11, k31_f11, k32_f11, k33_f11, hb.blk.cell, hb.blk.cell, hB3.cell] at k34_f12
            have k35_f12 := hfcf12 35 rfl; try simp only [EN, Nat.reduceEqDiff, reduceIte, k0_f11, k4_f11, k5_f11, k6_f11, k7_f11, k9_f11, k24_f11, k25_f11, k26_f11, k27_f11, k28_f11, k29_f11, k30_f11, k31_f11, k32_f11, k33_f11, hb.blk.cell, hb.blk.cell, hB3.cell] at k35_f12
            have k36_f12 := hfcf12 36 rfl; try simp only [EN, Nat.reduceEqDiff, reduceIte, k0_f11, k4_f11, k5_f11, k6_f11, k7_f11, k9_f11, k24_f11, k25_f11, k26_f11, k27_f11, k28_f11, k29_f11, k30_f11, k31_f11, k32_f11, k33_f11, hb.blk.cell, hb.blk.cell, hB3.cell] at k36_f12
            have k37_f12 := hfcf12 37 rfl; try simp only [EN, Nat.reduceEqDiff, reduceIte, k0_f11, k4_f11, k5_f11, k6_f11, k7_f11, k9_f11, k24_f11, k25_f11, k26_f11, k27_f11, k28_f11, k29_f11, k30_f11, k31_f11, k32_f11, k33_f11, hb.blk.cell, hb.blk.cell, hB3.cell] at k37_f12
            have k38_f12 := hfcf12 38 rfl; try simp only [EN, Nat.reduceEqDiff, reduceIte, k0_f11, k4_f11, k5_f11, k6_f11, k7_f11, k9_f11, k24_f11, k25_f11, k26_f11, k27_f11, k28_f11, k29_f11, k30_f11, k31_f11, k32_f11, k33_f11, hb.blk.cell, hb.blk.cell, hB3.cell] at k38_f12
            have k39_f12 := hfcf12 39 rfl; try simp only [EN, Nat.reduceEqDiff, reduceIte, k0_f11, k4_f11, k5_f11, k6_f11, k7_f11, k9_f11, k24_f11, k25_f11, k26_f11, k27_f11, k28_f11, k29_f11, k30_f11, k31_f11, k32_f11, k33_f11, hb.blk.cell, hb.blk.cell, hB3.cell] at k39_f12
            have k40_f12 := hfcf12 40 rfl; try simp only [EN, Nat.reduceEqDiff, reduceIte, k0_f11, k4_f11, k5_f11, k6_f11, k7_f11, k9_f11, k24_f11, k25_f11, k26_f11, k27_f11, k28_f11, k29_f11, k30_f11, k31_f11, k32_f11, k33_f11, hb.blk.cell, hb.blk.cell, hB3.cell] at k40_f12
            have k41_f12 := hfcf12 41 rfl; try simp only [EN, Nat.reduceEqDiff, reduceIte, k0_f11, k4_f11, k5_f11, k6_f11, k7_f11, k9_f11, k24_f11, k25_f11, k26_f11, k27_f11, k28_f11, k29_f11, k30_f11, k31_f11, k32_f11, k33_f11, hb.blk.cell, hb.blk.cell, hB3.cell] at k41_f12
            have k42_f12 := hfcf12 42 rfl; try simp only [EN, Nat.reduceEqDiff, reduceIte, k0_f11, k4_f11, k5_f11, k6_f11, k7_f11, k9_f11, k24_f11, k25_f11, k26_f11, k27_f11, k28_f11, k29_f11, k30_f11, k31_f11, k32_f11, k33_f11, hb.blk.cell, hb.blk.cell, hB3.cell] at k42_f12
            apply hx_draw2 Rel.grows [12] [7] [(7, (Spec.is (.string (grpS x.1.a))))] rfl (by decide +kernel) rfl
            refine LD.qq rfl rfl (by simp only [EN, Nat.reduceEqDiff, reduceIte, qv_move, k7_f12, hb.blk.cell, hb.blk.cell, hB3.cell]; rfl) ?_
            refine LD.qq rfl rfl (by simp only [EN, Nat.reduceEqDiff, reduceIte, qv_move, k0_f12, hb.blk.cell, hb.blk.cell, hB3.cell]; rfl) ?_
            refine LD.qq rfl rfl (by simp only [EN, Nat.reduceEqDiff, reduceIte, qv_nilCheck, hb.blk.cell, hb.blk.cell, hB3.cell]; rfl) ?_
            refine LD.qq rfl rfl (by simp only [EN, Nat.reduceEqDiff, reduceIte, qv_fieldAddr, fa83_0, Nat.zero_add, Nat.reduceAdd, hb.blk.cell, hb.blk.cell, hB3.cell]; rfl) ?_
            refine LD.qq rfl rfl (by simp only [EN, Nat.reduceEqDiff, reduceIte, qv_load, ld78, readN, AR, Nat.zero_add, Nat.reduceAdd, hb.blk.cell, hb.blk.cell, hB3.cell]; rfl) ?_
            refine LD.qq rfl rfl (by simp only [EN, Nat.reduceEqDiff, reduceIte, qv_fieldAddr, fa89_0, Nat.zero_add, Nat.reduceAdd, k9_f12, hb.blk.cell, hb.blk.cell, hB3.cell]; rfl) ?_
            refine LD.qq rfl rfl (by simp only [EN, Nat.reduceEqDiff, reduceIte, qv_load, ld34, readN, AR, Nat.zero_add, Nat.reduceAdd, hb.blk.cell, hb.blk.cell, hB3.cell]; rfl) ?_
            refine LD.es rfl rfl (by intro hD hr hf; have hx : Ext _ _ := hr; have hb := hb.ext hx; have hl := hl.ext hx; have hn := hn.ext hx; have hg := hg.ext hx; have hE := hE.ext hx; have hB3 := hB3.ext hx; exact EOp.mono (R := Grow (.string (grpS x.1.a)) hD) (e_callf Try.call43 (first := #[]) (cap := #[]) (by simp only [EN, Nat.reduceEqDiff, reduceIte, k0_f12, k4_f12, k5_f12, k6_f12, k7_f12, k9_f12, k24_f12, k25_f12, k26_f12, k27_f12, k28_f12, k29_f12, k30_f12, k31_f12, k32_f12, k33_f12, k34_f12, k35_f12, k36_f12, k37_f12, k38_f12, k39_f12, k40_f12, k41_f12, k42_f12, hb.blk.cell, hb.blk.cell, hB3.cell]) (by simp only [EN, Nat.reduceEqDiff, reduceIte, k0_f12, k4_f12, k5_f12, k6_f12, k7_f12, k9_f12, k24_f12, k25_f12, k26_f12, k27_f12, k28_f12, k29_f12, k30_f12, k31_f12, k32_f12, k33_f12, k34_f12, k35_f12, k36_f12, k37_f12, k38_f12, k39_f12, k40_f12, k41_f12, k42_f12, hb.blk.cell, hb.blk.cell, hB3.cell, List.map_toArray, List.map_cons, List.map_nil]; exact c_group x.1 _)) (fun _ _ hh => ⟨hh.2, hh.1, trivial⟩)) ?_
            intro u12_7 w12_7
            have hu12 : u12_7 = _ := w12_7
            subst hu12
            refine LD.qq rfl rfl (by simp only [EN, Nat.reduceEqDiff, reduceIte, k0_f12, k4_f12, k5_f12, k6_f12, k7_f12, k9_f12, k24_f12, k25_f12, k26_f12, k27_f12, k28_f12, k29_f12, k30_f12, k31_f12, k32_f12, k33_f12, k34_f12, k35_f12, k36_f12, k37_f12, k38_f12, k39_f12, k40_f12, k41_f12, k42_f12, hb.blk.cell, hb.blk.cell, hB3.cell, qv_lookup]; rw [hg.lookv (z := 0) kt9 Try.underlying105 zr2 (grpS x.1.a) false] <;> rfl) ?_
            refine LD.qq rfl rfl (by simp only [EN, Nat.reduceEqDiff, reduceIte, qv_fieldAddr, fa89_1, Nat.zero_add, Nat.reduceAdd, k9_f12, hb.blk.cell, hb.blk.cell, hB3.cell]; rfl) ?_
            refine LD.qq rfl rfl (by simp only [EN, Nat.reduceEqDiff, reduceIte, qv_load, ld2, readN, AR, Nat.zero_add, Nat.reduceAdd, hb.blk.cell, hb.blk.cell, hB3.cell]; rfl) ?_
            refine LD.qq rfl rfl (by simp only [EN, Nat.reduceEqDiff, reduceIte, k0_f12, k4_f12, k5_f12, k6_f12, k7_f12, k9_f12, k24_f12, k25_f12, k26_f12, k27_f12, k28_f12, k29_f12, k30_f12, k31_f12, k32_f12, k33_f12, k34_f12, k35_f12, k36_f12, k37_f12, k38_f12, k39_f12, k40_f12, k41_f12, k42_f12, hb.blk.cell, hb.blk.cell, hB3.cell, qv_binOp, binv_add]; rfl) ?_
            refine LD.skip rfl ?_
            refine LD.nil ?_
            rintro h5 hx5 hF12
            replace hx5 : Ext _ _ := hx5
            replace hb := hb.ext hx5
            replace hl := hl.ext hx5
            replace hn := hn.ext hx5
            replace hg := hg.ext hx5
            replace hE := hE.ext hx5
            replace hB3 := hB3.ext hx5
            refine WL.ef _ (e_mapUpdate (x := grpS x.1.a) (v := IntKind.i64.wrap (lk (grpL (l.take i)) (grpS x.1.a) + x.2)) kt9 Try.underlying105 hg (by simp only [EN, Nat.reduceEqDiff, reduceIte, k0_f12, k4_f12, k5_f12, k6_f12, k7_f12, k9_f12, k24_f12, k25_f12, k26_f12, k27_f12, k28_f12, k29_f12, k30_f12, k31_f12, k32_f12, k33_f12, k34_f12, k35_f12, k36_f12, k37_f12, k38_f12, k39_f12, k40_f12, k41_f12, k42_f12, hb.blk.cell, hb.blk.cell, hB3.cell]) (by simp only [EN, Nat.reduceEqDiff, reduceIte, k0_f12, k4_f12, k5_f12, k6_f12, k7_f12, k9_f12, k24_f12, k25_f12, k26_f12, k27_f12, k28_f12, k29_f12, k30_f12, k31_f12, k32_f12, k33_f12, k34_f12, k35_f12, k36_f12, k37_f12, k38_f12, k39_f12, k40_f12, k41_f12, k42_f12, hb.blk.cell, hb.blk.cell, hB3.cell]) (by simp only [EN, Nat.reduceEqDiff, reduceIte, k0_f12, k4_f12, k5_f12, k6_f12, k7_f12, k9_f12, k24_f12, k25_f12, k26_f12, k27_f12, k28_f12, k29_f12, k30_f12, k31_f12, k32_f12, k33_f12, k34_f12, k35_f12, k36_f12, k37_f12, k38_f12, k39_f12, k40_f12, k41_f12, k42_f12, hb.blk.cell, hb.blk.cell, hB3.cell] <;> rfl)) ?_
            rintro _ h42 ⟨⟨o42, hw42⟩, hg⟩
            simp only [put_none]
            replace hE := hw42.ext hE (by have := hE0.size; omega)
            replace hn := hn.wr hw42 (by omega)
            rw [← accL_step (fun x => grpS x.1.a) hx] at hg
            refine WL.nil ?_
            refine bl_norm ?_
            refine th_norm ?_
            refine hx_region ?_
            refine WL.qq (by simp only [EN, Nat.reduceEqDiff, reduceIte, qv_binOp, binv_add, k26_f12, hb.blk.cell, hb.blk.cell, hB3.cell]; (try simp (disch := omega) only [w64, w8, wu64]); rfl) ?_
            refine WL.qq (by simp only [EN, Nat.reduceEqDiff, reduceIte, qv_move, hb.blk.cell, hb.blk.cell, hB3.cell]; rfl) ?_
            refine WL.nil ?_
            refine th_norm ?_
            refine ⟨rfl, ?_, _, ?_, i + 1, rfl, ?_, ?_, ?_, ?_, ?_, ?_⟩  -- again 0 of loop 0
            · (repeat (first | exact Fr.refl _ _ | refine Fr.set rfl ?_ | refine Fr.put rfl ?_ | refine Fr.put0 ?_ | refine Fr.trans ?_ (Fr.of hfcf11 rfl) | refine Fr.trans ?_ (Fr.of hfcf12 rfl)))
            · omega
            · omega
            · exact hE
            · exact hn
            · exact hg
            · exact all_take hal hx hct33
            · simp only [EN, Nat.reduceEqDiff, reduceIte, k0_f12, k4_f12, k5_f12, k6_f12, k7_f12, k9_f12, k24_f12, k25_f12, k26_f12, k27_f12, k28_f12, k29_f12, k30_f12, k31_f12, k32_f12, k33_f12, k34_f12, k35_f12, k36_f12, k37_f12, k38_f12, k39_f12, k40_f12, k41_f12, k42_f12, hb.blk.cell, hb.blk.cell, hB3.cell] <;> first | rfl | (congr 1; omega)
        ·
          try simp only [BD] at hct27
          have hil : i = l.length := (by omega); subst hil; rw [List.take_length] at hn hg hal; rw [if_neg (fun hh => hh hal)] at hr
          refine hx_exit ?_
          refine th_exit ?_
          refine th_exit ?_
          refine bl_hit ?_
          refine th_norm ?_
          refine hx_seq ?_
          refine hx_seq ?_
          refine hx_region ?_
          refine WL.qq (by simp only [EN, Nat.reduceEqDiff, reduceIte, qv_move, k6_0, hb.blk.cell, hb.blk.cell]; rfl) ?_
          refine WL.ef _ (e_range Try.underlying80 hn (by simp only [EN, Nat.reduceEqDiff, reduceIte, k0_0, k6_0, k7_0, k24_0, k25_0, i26_0, hb.blk.cell, hb.blk.cell])) ?_
          rintro _ h50 ⟨it, rfl, hit, hx50, hsz50, hI⟩
          simp only [put_some]
          have hith : h.size ≤ it := (by rw [hit]; exact hE.size)
          have hgit : B2 ≠ it := (by have := hg.lt; omega)
          replace hE := hE.trans hx50
          replace hg := hg.ext hx50
          refine WL.nil ?_
          refine th_norm ?_
          refine hx_block ?_
          refine hx_loopG [4, 5, 10, 11, 58, 59, 60, 61, 62, 63, 64, 65, 66, 67, 68, 69, 70, 71, 72] (fun k e hL1 => ∃ (left : List E2), left.length = k ∧ (Ext h hL1) ∧ (IterT kV iV hL1 it B1 (netL l) left) ∧ (MapT Value.string iV hL1 B2 (grpL l)) ∧ (∀ y ∈ left, y ∈ netL l) ∧ (∀ y ∈ netL l, y ∈ left ∨ vld (lk ks y.1 + y.2) = true)) _ ⟨netL l, rfl, ?_, ?_, ?_, ?_, ?_⟩ ?_
          · exact hE
          · exact hI
          · exact hg
          · exact fun y hy => hy
          · exact fun y hy => .inl hy
          ·
            rintro k e1L hL1 hfr1 ⟨left, rfl, hE, hI, hg, hsub, hdone⟩
            have k0_1 := hfr1 0 rfl; try simp only [EN, Nat.reduceEqDiff, reduceIte, k0_0, k6_0, k7_0, k24_0, k25_0, i26_0, hb.blk.cell, hb.blk.cell] at k0_1
            have k6_1 := hfr1 6 rfl; try simp only [EN, Nat.reduceEqDiff, reduceIte, k0_0, k6_0, k7_0, k24_0, k25_0, i26_0, hb.blk.cell, hb.blk.cell] at k6_1
            have k7_1 := hfr1 7 rfl; try simp only [EN, Nat.reduceEqDiff, reduceIte, k0_0, k6_0, k7_0, k24_0, k25_0, i26_0, hb.blk.cell, hb.blk.cell] at k7_1
            have k57_1 := hfr1 57 rfl; try simp only [EN, Nat.reduceEqDiff, reduceIte, k0_0, k6_0, k7_0, k24_0, k25_0, i26_0, hb.blk.cell, hb.blk.cell] at k57_1
            have hb := kb.ext hE
            refine hx_seq ?_
            refine hx_region ?_
            refine WL.ef _ (e_next2 kt34 hI (by simp only [EN, Nat.reduceEqDiff, reduceIte, k0_1, k6_1, k7_1, k57_1, hb.blk.cell, hb.blk.cell, hb.blk.cell])) ?_
            rintro _ h51 ⟨bb1, vs1, rfl, hv1, hst1, hT1, hF1⟩
            simp only [put_some]
            replace hE := ext_step hE hst1 hith
            replace hg := hg.step hst1 hgit
            replace hb := kb.ext hE
            refine WL.qq (by simp only [EN, Nat.reduceEqDiff, reduceIte, k0_1, k6_1, k7_1, k57_1, hb.blk.cell, hb.blk.cell, hb.blk.cell, qv_extract, hv1]; rfl) ?_
            refine WL.nil ?_
            refine th_norm ?_
            refine hx_seq ?_
            refine hx_cond (by simp only [EN, Nat.reduceEqDiff, reduceIte, k0_1, k6_1, k7_1, k57_1, hb.blk.cell, hb.blk.cell, hb.blk.cell]; rfl) (fun hct59 => ?_) (fun hct59 => ?_)
            ·
              try simp only [BD] at hct59
              obtain ⟨q1, left', hp1, hS⟩ := hT1 hct59; have hlen1 := hp1.length_eq; rw [List.length_cons] at hlen1
              have hqn := net_mem hS.iter.map.nodup (hsub q1 (hp1.mem_iff.2 (by simp)))
              have hN := (netM_eq (by omega) hal q1.1).2; rw [← hqn.1] at hN; have hB := vld_iff.1 (hbal q1.1)
              refine hx_skip ?_
              refine th_norm ?_
              refine hx_block ?_
              refine hx_seq ?_
              refine hx_fresh (fun eF16 hfcf16 => ?_)
              have k0_f16 := hfcf16 0 rfl; try simp only [EN, Nat.reduceEqDiff, reduceIte, k0_1, k6_1, k7_1, k57_1, hb.blk.cell, hb.blk.cell, hb.blk.cell] at k0_f16
              have k4_f16 := hfcf16 4 rfl; try simp only [EN, Nat.reduceEqDiff, reduceIte, k0_1, k6_1, k7_1, k57_1, hb.blk.cell, hb.blk.cell, hb.blk.cell] at k4_f16
              have k5_f16 := hfcf16 5 rfl; try simp only [EN, Nat.reduceEqDiff, reduceIte, k0_1, k6_1, k7_1, k57_1, hb.blk.cell, hb.blk.cell, hb.blk.cell] at k5_f16
              have k6_f16 := hfcf16 6 rfl; try simp only [EN, Nat.reduceEqDiff, reduceIte, k0_1, k6_1, k7_1, k57_1, hb.blk.cell, hb.blk.cell, hb.blk.cell] at k6_f16
              have k7_f16 := hfcf16 7 rfl; try simp only [EN, Nat.reduceEqDiff, reduceIte, k0_1, k6_1, k7_1, k57_1, hb.blk.cell, hb.blk.cell, hb.blk.cell] at k7_f16
              have k57_f16 := hfcf16 57 rfl; try simp only [EN, Nat.reduceEqDiff, reduceIte, k0_1, k6_1, k7_1, k57_1, hb.blk.cell, hb.blk.cell, hb.blk.cell] at k57_f16
              have k58_f16 := hfcf16 58 rfl; try simp only [EN, Nat.reduceEqDiff, reduceIte, k0_1, k6_1, k7_1, k57_1, hb.blk.cell, hb.blk.cell, hb.blk.cell] at k58_f16
              have k59_f16 := hfcf16 59 rfl; try simp only [EN, Nat.reduceEqDiff, reduceIte, k0_1, k6_1, k7_1, k57_1, hb.blk.cell, hb.blk.cell, hb.blk.cell] at k59_f16
              refine hx_region ?_
              refine WL.ef _ (e_entry hS (by simp only [EN, Nat.reduceEqDiff, reduceIte, k0_f16, k4_f16, k5_f16, k6_f16, k7_f16, k57_f16, k58_f16, k59_f16, hb.blk.cell, hb.blk.cell, hb.blk.cell])) ?_
              rintro _ hX ⟨rfl, hq1x⟩
              obtain rfl : h51 = hX := hq1x.symm
              simp only [put_some]
              refine WL.qq (by simp only [EN, Nat.reduceEqDiff, reduceIte, qv_extract, AR, hb.blk.cell, hb.blk.cell, hb.blk.cell]; rfl) ?_
              refine WL.qq (by simp only [EN, Nat.reduceEqDiff, reduceIte, qv_extract, AR, hb.blk.cell, hb.blk.cell, hb.blk.cell]; rfl) ?_
              refine WL.allocSt zr34 sz34 (fun u => by simp only [EN, Nat.reduceEqDiff, reduceIte, Value.cells, hb.blk.cell, hb.blk.cell, hb.blk.cell]; rfl) ⟨rfl, rfl⟩ (by simp [Value.oneCell']) ?_
              intro h6 B6 hx6 hlt6 hB6
              replace hb := hb.ext hx6
              replace hg := hg.ext hx6
              replace hE := hE.ext hx6
              replace hS := hS.ext hx6
              refine WL.qq (by simp only [EN, Nat.reduceEqDiff, reduceIte, qv_assign, hb.blk.cell, hb.blk.cell, hb.blk.cell, hB6.cell]; rfl) ?_
              refine WL.nil ?_
              refine th_norm ?_
              refine hx_seq ?_
              refine hx_fresh (fun eF17 hfcf17 => ?_)
              have k0_f17 := hfcf17 0 rfl; try simp only [EN, Nat.reduceEqDiff, reduceIte, k0_f16, k4_f16, k5_f16, k6_f16, k7_f16, k57_f16, k58_f16, k59_f16, hb.blk.cell, hb.blk.cell, hb.blk.cell, hB6.cell] at k0_f17
              have k4_f17 := hfcf17 4 rfl; try simp only [EN, Nat.reduceEqDiff, reduceIte, k0_f16, k4_f16, k5_f16, k6_f16, k7_f16, k57_f16, k58_f16, k59_f16, hb.blk.cell, hb.blk.cell, hb.blk.cell, hB6.cell] at k4_f17
              have k5_f17 := hfcf17 5 rfl; try simp only [EN, Nat.reduceEqDiff, reduceIte, k0_f16, k4_f16, k5_f16, k6_f16, k7_f16, k57_f16, k58_f16, k59_f16, hb.blk.cell, hb.blk.cell, hb.blk.cell, hB6.cell] at k5_f17
              have k6_f17 := hfcf17 6 rfl; try simp only [EN, Nat.reduceEqDiff, reduceIte, k0_f16, k4_f16, k5_f16, k6_f16, k7_f16, k57_f16, k58_f16, k59_f16, hb.blk.cell, hb.blk.cell, hb.blk.cell, hB6.cell] at k6_f17
              have k7_f17 := hfcf17 7 rfl; try simp only [EN, Nat.reduceEqDiff, reduceIte, k0_f16, k4_f16, k5_f16, k6_f16, k7_f16, k57_f16, k58_f16, k59_f16, hb.blk.cell, hb.blk.cell, hb.blk.cell, hB6.cell] at k7_f17
              have k10_f17 := hfcf17 10 rfl; try simp only [EN, Nat.reduceEqDiff, reduceIte, k0_f16, k4_f16, k5_f16, k6_f16, k7_f16, k57_f16, k58_f16, k59_f16, hb.blk.cell, hb.blk.cell, hb.blk.cell, hB6.cell] at k10_f17
              have k11_f17 := hfcf17 11 rfl; try simp only [EN, Nat.reduceEqDiff, reduceIte, k0_f16, k4_f16, k5_f16, k6_f16, k7_f16, k57_f16, k58_f16, k59_f16, hb.blk.cell, hb.blk.cell, hb.blk.cell, hB6.cell] at k11_f17
              have k57_f17 := hfcf17 57 rfl; try simp only [EN, Nat.reduceEqDiff, reduceIte, k0_f16, k4_f16, k5_f16, k6_f16, k7_f16, k57_f16, k58_f16, k59_f16, hb.blk.cell, hb.blk.cell, hb.blk.cell, hB6.cell] at k57_f17
              have k58_f17 := hfcf17 58 rfl; try simp only [EN, Nat.reduceEqDiff, reduceIte, k0_f16, k4_f16, k5_f16, k6_f16, k7_f16, k57_f16, k58_f16, k59_f16, hb.blk.cell, hb.blk.cell, hb.blk.cell, hB6.cell] at k58_f17
              have k59_f17 := hfcf17 59 rfl; try simp only [EN, Nat.reduceEqDiff, reduceIte, k0_f16, k4_f16, k5_f16, k6_f16, k7_f16, k57_f16, k58_f16, k59_f16, hb.blk.cell, hb.blk.cell, hb.blk.cell, hB6.cell] at k59_f17
              have k60_f17 := hfcf17 60 rfl; try simp only [EN, Nat.reduceEqDiff, reduceIte, k0_f16, k4_f16, k5_f16, k6_f16, k7_f16, k57_f16, k58_f16, k59_f16, hb.blk.cell, hb.blk.cell, hb.blk.cell, hB6.cell] at k60_f17
              have k61_f17 := hfcf17 61 rfl; try simp only [EN, Nat.reduceEqDiff, reduceIte, k0_f16, k4_f16, k5_f16, k6_f16, k7_f16, k57_f16, k58_f16, k59_f16, hb.blk.cell, hb.blk.cell, hb.blk.cell, hB6.cell] at k61_f17
              have k62_f17 := hfcf17 62 rfl; try simp only [EN, Nat.reduceEqDiff, reduceIte, k0_f16, k4_f16, k5_f16, k6_f16, k7_f16, k57_f16, k58_f16, k59_f16, hb.blk.cell, hb.blk.cell, hb.blk.cell, hB6.cell] at k62_f17
              apply hx_draw2 Rel.same [] [8] [(8, Spec.is _)] rfl (by decide +kernel) rfl
              refine LD.qq rfl rfl (by simp only [EN, Nat.reduceEqDiff, reduceIte, qv_move, k0_f17, hb.blk.cell, hb.blk.cell, hb.blk.cell, hB6.cell]; rfl) ?_
              refine LD.qq rfl rfl (by simp only [EN, Nat.reduceEqDiff, reduceIte, qv_nilCheck, hb.blk.cell, hb.blk.cell, hb.blk.cell, hB6.cell]; rfl) ?_
              refine LD.qq rfl rfl (by simp only [EN, Nat.reduceEqDiff, reduceIte, qv_fieldAddr, fa83_1, Nat.zero_add, Nat.reduceAdd, hb.blk.cell, hb.blk.cell, hb.blk.cell, hB6.cell]; rfl) ?_
              refine LD.qq rfl rfl (by simp only [EN, Nat.reduceEqDiff, reduceIte, qv_load, ld80, readN, AR, Nat.zero_add, Nat.reduceAdd, hb.blk.cell, hb.blk.cell, hb.blk.cell, hB6.cell]; rfl) ?_
              refine LD.qq rfl rfl (by simp only [EN, Nat.reduceEqDiff, reduceIte, qv_load, ld34, readN, AR, Nat.zero_add, Nat.reduceAdd, k10_f17, hb.blk.cell, hb.blk.cell, hb.blk.cell, hB6.cell]; rfl) ?_
              refine LD.qq rfl rfl (by simp only [EN, Nat.reduceEqDiff, reduceIte, k0_f17, k4_f17, k5_f17, k6_f17, k7_f17, k10_f17, k11_f17, k57_f17, k58_f17, k59_f17, k60_f17, k61_f17, k62_f17, hb.blk.cell, hb.blk.cell, hb.blk.cell, hB6.cell, qv_lookup, hb.lkb]; rfl) ?_
              refine LD.qq rfl rfl (by simp only [EN, Nat.reduceEqDiff, reduceIte, qv_move, k11_f17, hb.blk.cell, hb.blk.cell, hb.blk.cell, hB6.cell]; rfl) ?_
              refine LD.qq rfl rfl (by simp only [EN, Nat.reduceEqDiff, reduceIte, qv_binOp, binv_add, hb.blk.cell, hb.blk.cell, hb.blk.cell, hB6.cell]; (try simp (disch := omega) only [w64, w8, wu64]); rfl) ?_
              refine LD.ck rfl rfl Try.call58 (by intro hD hr; obtain rfl : hD = _ := hr; simp only [EN, Nat.reduceEqDiff, reduceIte, AR, hb.blk.cell, hb.blk.cell, hb.blk.cell, hB6.cell]; exact c_valid13 _ _) ?_
              refine LD.qq rfl rfl (by simp only [EN, Nat.reduceEqDiff, reduceIte, qv_unOp, unv_not, hb.blk.cell, hb.blk.cell, hb.blk.cell, hB6.cell]; rfl) ?_
              refine LD.nil ?_
              rintro _ rfl -
              refine WL.nil ?_
              refine th_norm ?_
              refine hx_cond (by simp only [EN, Nat.reduceEqDiff, reduceIte, k0_f17, k4_f17, k5_f17, k6_f17, k7_f17, k10_f17, k11_f17, k57_f17, k58_f17, k59_f17, k60_f17, k61_f17, k62_f17, hb.blk.cell, hb.blk.cell, hb.blk.cell, hB6.cell]; rfl) (fun hct72 => ?_) (fun hct72 => ?_)
              ·
                try simp only [BD] at hct72
                refine hx_seq ?_
                refine hx_region ?_
                refine WL.qq (by simp only [EN, Nat.reduceEqDiff, reduceIte, qv_assign, hb.blk.cell, hb.blk.cell, hb.blk.cell, hB6.cell]; rfl) ?_
                refine WL.qq (by simp only [EN, Nat.reduceEqDiff, reduceIte, qv_assign, hb.blk.cell, hb.blk.cell, hb.blk.cell, hB6.cell]; rfl) ?_
                refine WL.nil ?_
                refine th_norm ?_
                refine hx_ret ?_
                refine bl_ret ?_
                refine th_ret ?_
                refine bl_ret ?_
                refine th_ret ?_
                refine fin_ret [.tmp 4, .tmp 5] rfl rfl (by simp only [EN, Nat.reduceEqDiff, reduceIte, resv, k0_f17, k4_f17, k5_f17, k6_f17, k7_f17, k10_f17, k11_f17, k57_f17, k58_f17, k59_f17, k60_f17, k61_f17, k62_f17, hb.blk.cell, hb.blk.cell, hb.blk.cell, hB6.cell]; rfl) ?_  -- ret 3 r18
                obtain ⟨x, hx, hxq⟩ := hqn.2
                rw [if_pos (fun hh => by have h9 := hh x hx; rw [hxq, ← hqn.1, hct72] at h9; cases h9)] at hr
                subst hr
                exact ⟨hE, _, rfl, by simp⟩
              ·
                try simp only [BD] at hct72
                refine hx_skip ?_
                refine bl_norm ?_
                refine th_norm ?_
                refine ⟨rfl, ?_, _, ?_, left', rfl, ?_, ?_, ?_, ?_, ?_⟩  -- again 0 of loop 1
                · (repeat (first | exact Fr.refl _ _ | refine Fr.set rfl ?_ | refine Fr.put rfl ?_ | refine Fr.put0 ?_ | refine Fr.trans ?_ (Fr.of hfcf11 rfl) | refine Fr.trans ?_ (Fr.of hfcf12 rfl) | refine Fr.trans ?_ (Fr.of hfcf16 rfl) | refine Fr.trans ?_ (Fr.of hfcf17 rfl)))
                · omega
                · exact hE
                · exact hS.iter
                · exact hg
                · exact fun y hy => hsub y (hp1.mem_iff.2 (by simp [hy]))
                · exact perm_sub (P := fun y => vld (lk ks y.1 + y.2) = true) hp1 hdone hct72
            ·
              try simp only [BD] at hct59
              obtain ⟨hl0, hn⟩ := hF1 hct59; subst hl0
              have hv2 := net_all (P := fun y => vld (lk ks y.1 + y.2) = true) hn.nodup (fun p hp => (hdone p hp).resolve_left (by simp))
              rw [if_neg (fun hh => hh hv2)] at hr
              refine hx_exit ?_
              refine th_exit ?_
              refine th_exit ?_
              refine bl_hit ?_
              refine th_norm ?_
              refine hx_seq ?_
              refine hx_seq ?_
              refine hx_region ?_
              refine WL.qq (by simp only [EN, Nat.reduceEqDiff, reduceIte, qv_move, k7_1, hb.blk.cell, hb.blk.cell, hb.blk.cell]; rfl) ?_
              refine WL.ef _ (e_range Try.underlying105 hg (by simp only [EN, Nat.reduceEqDiff, reduceIte, k0_1, k6_1, k7_1, k57_1, hb.blk.cell, hb.blk.cell, hb.blk.cell])) ?_
              rintro _ h60 ⟨it2, rfl, hit2, hx60, hsz60, hI2⟩
              simp only [put_some]
              have hith2 : h.size ≤ it2 := (by rw [hit2]; exact hE.size)
              have hnit2 : B1 ≠ it2 := (by have := hn.lt; omega)
              replace hE := hE.trans hx60
              replace hn := hn.ext hx60
              refine WL.nil ?_
              refine th_norm ?_
              refine hx_block ?_
              refine hx_loopG [4, 5, 13, 75, 76, 77, 78, 79, 80] (fun k e hL2 => ∃ (left : List (ByteArray × Int)), left.length = k ∧ (Ext h hL2) ∧ (IterT Value.string iV hL2 it2 B2 (grpL l) left) ∧ (MapT kV iV hL2 B1 (netL l)) ∧ (∀ y ∈ left, y ∈ grpL l) ∧ (∀ y ∈ grpL l, y ∈ left ∨ y.2 = 0)) _ ⟨grpL l, rfl, ?_, ?_, ?_, ?_, ?_⟩ ?_
              · exact hE
              · exact hI2
              · exact hn
              · exact fun y hy => hy
              · exact fun y hy => .inl hy
              ·
                rintro k e2L hL2 hfr2 ⟨left, rfl, hE, hI2, hn, hsub, hdone⟩
                have k0_2 := hfr2 0 rfl; try simp only [EN, Nat.reduceEqDiff, reduceIte, k0_1, k6_1, k7_1, k57_1, hb.blk.cell, hb.blk.cell, hb.blk.cell] at k0_2
                have k6_2 := hfr2 6 rfl; try simp only [EN, Nat.reduceEqDiff, reduceIte, k0_1, k6_1, k7_1, k57_1, hb.blk.cell, hb.blk.cell, hb.blk.cell] at k6_2
                have k74_2 := hfr2 74 rfl; try simp only [EN, Nat.reduceEqDiff, reduceIte, k0_1, k6_1, k7_1, k57_1, hb.blk.cell, hb.blk.cell, hb.blk.cell] at k74_2
                refine hx_seq ?_
                refine hx_region ?_
                refine WL.ef _ (e_next2 kt9 hI2 (by simp only [EN, Nat.reduceEqDiff, reduceIte, k0_2, k6_2, k74_2, hb.blk.cell, hb.blk.cell, hb.blk.cell])) ?_
                rintro _ h61 ⟨bb2, vs2, rfl, hv2', hst2, hT2, hF2⟩
                simp only [put_some]
                replace hE := ext_step hE hst2 hith2
                replace hn := hn.step hst2 hnit2
                refine WL.qq (by simp only [EN, Nat.reduceEqDiff, reduceIte, k0_2, k6_2, k74_2, hb.blk.cell, hb.blk.cell, hb.blk.cell, qv_extract, hv2']; rfl) ?_
                refine WL.nil ?_
                refine th_norm ?_
                refine hx_seq ?_
                refine hx_cond (by simp only [EN, Nat.reduceEqDiff, reduceIte, k0_2, k6_2, k74_2, hb.blk.cell, hb.blk.cell, hb.blk.cell]; rfl) (fun hct76 => ?_) (fun hct76 => ?_)
                ·
                  try simp only [BD] at hct76
                  obtain ⟨q2, left', hp2, hS2⟩ := hT2 hct76; have hlen2 := hp2.length_eq; rw [List.length_cons] at hlen2
                  obtain ⟨x, hx, hxs⟩ := grp_mem hu hS2.iter.map.nodup (hsub q2 (hp2.mem_iff.2 (by simp)))
                  refine hx_skip ?_
                  refine th_norm ?_
                  refine hx_block ?_
                  refine hx_seq ?_
                  refine hx_fresh (fun eF21 hfcf21 => ?_)
                  have k0_f21 := hfcf21 0 rfl; try simp only [EN, Nat.reduceEqDiff, reduceIte, k0_2, k6_2, k74_2, hb.blk.cell, hb.blk.cell, hb.blk.cell] at k0_f21
                  have k4_f21 := hfcf21 4 rfl; try simp only [EN, Nat.reduceEqDiff, reduceIte, k0_2, k6_2, k74_2, hb.blk.cell, hb.blk.cell, hb.blk.cell] at k4_f21
                  have k5_f21 := hfcf21 5 rfl; try simp only [EN, Nat.reduceEqDiff, reduceIte, k0_2, k6_2, k74_2, hb.blk.cell, hb.blk.cell, hb.blk.cell] at k5_f21
                  have k6_f21 := hfcf21 6 rfl; try simp only [EN, Nat.reduceEqDiff, reduceIte, k0_2, k6_2, k74_2, hb.blk.cell, hb.blk.cell, hb.blk.cell] at k6_f21
                  have k74_f21 := hfcf21 74 rfl; try simp only [EN, Nat.reduceEqDiff, reduceIte, k0_2, k6_2, k74_2, hb.blk.cell, hb.blk.cell, hb.blk.cell] at k74_f21
                  have k75_f21 := hfcf21 75 rfl; try simp only [EN, Nat.reduceEqDiff, reduceIte, k0_2, k6_2, k74_2, hb.blk.cell, hb.blk.cell, hb.blk.cell] at k75_f21
                  have k76_f21 := hfcf21 76 rfl; try simp only [EN, Nat.reduceEqDiff, reduceIte, k0_2, k6_2, k74_2, hb.blk.cell, hb.blk.cell, hb.blk.cell] at k76_f21
                  refine hx_region ?_
                  refine WL.ef _ (e_entry hS2 (by simp only [EN, Nat.reduceEqDiff, reduceIte, k0_f21, k4_f21, k5_f21, k6_f21, k74_f21, k75_f21, k76_f21, hb.blk.cell, hb.blk.cell, hb.blk.cell])) ?_
                  rintro _ hX ⟨rfl, hq2x⟩
                  obtain rfl : h61 = hX := hq2x.symm
                  simp only [put_some]
                  refine WL.qq (by simp only [EN, Nat.reduceEqDiff, reduceIte, qv_extract, AR, hb.blk.cell, hb.blk.cell, hb.blk.cell]; rfl) ?_
                  refine WL.qq (by simp only [EN, Nat.reduceEqDiff, reduceIte, qv_assign, hb.blk.cell, hb.blk.cell, hb.blk.cell]; rfl) ?_
                  refine WL.nil ?_
                  refine th_norm ?_
                  refine hx_seq ?_
                  refine hx_region ?_
                  refine WL.qq (by simp only [EN, Nat.reduceEqDiff, reduceIte, qv_move, hb.blk.cell, hb.blk.cell, hb.blk.cell]; rfl) ?_
                  refine WL.qq (by simp only [EN, Nat.reduceEqDiff, reduceIte, qv_binOp, binv_neq, eq2, Option.map_some, hb.blk.cell, hb.blk.cell, hb.blk.cell]; rfl) ?_
                  refine WL.nil ?_
                  refine th_norm ?_
                  refine hx_cond (by simp only [EN, Nat.reduceEqDiff, reduceIte, k0_f21, k4_f21, k5_f21, k6_f21, k74_f21, k75_f21, k76_f21, hb.blk.cell, hb.blk.cell, hb.blk.cell]; rfl) (fun hct80 => ?_) (fun hct80 => ?_)
                  ·
                    try simp only [BD] at hct80
                    refine hx_seq ?_
                    refine hx_region ?_
                    refine WL.qq (by simp only [EN, Nat.reduceEqDiff, reduceIte, qv_assign, hb.blk.cell, hb.blk.cell, hb.blk.cell]; rfl) ?_
                    refine WL.qq (by simp only [EN, Nat.reduceEqDiff, reduceIte, qv_assign, hb.blk.cell, hb.blk.cell, hb.blk.cell]; rfl) ?_
                    refine WL.nil ?_
                    refine th_norm ?_
                    refine hx_ret ?_
                    refine bl_ret ?_
                    refine th_ret ?_
                    refine bl_ret ?_
                    refine th_ret ?_
                    refine fin_ret [.tmp 4, .tmp 5] rfl rfl (by simp only [EN, Nat.reduceEqDiff, reduceIte, resv, k0_f21, k4_f21, k5_f21, k6_f21, k74_f21, k75_f21, k76_f21, hb.blk.cell, hb.blk.cell, hb.blk.cell]; rfl) ?_  -- ret 4 r23
                    rw [if_pos (fun hh => hct80 (by rw [hxs]; exact hh x hx))] at hr
                    subst hr
                    exact ⟨hE, _, rfl, by simp⟩
                  ·
                    try simp only [BD] at hct80
                    refine hx_skip ?_
                    refine bl_norm ?_
                    refine th_norm ?_
                    refine ⟨rfl, ?_, _, ?_, left', rfl, ?_, ?_, ?_, ?_, ?_⟩  -- again 0 of loop 2
                    · (repeat (first | exact Fr.refl _ _ | refine Fr.set rfl ?_ | refine Fr.put rfl ?_ | refine Fr.put0 ?_ | refine Fr.trans ?_ (Fr.of hfcf11 rfl) | refine Fr.trans ?_ (Fr.of hfcf12 rfl) | refine Fr.trans ?_ (Fr.of hfcf16 rfl) | refine Fr.trans ?_ (Fr.of hfcf17 rfl) | refine Fr.trans ?_ (Fr.of hfcf21 rfl)))
                    · omega
                    · exact hE
                    · exact hS2.iter
                    · exact hn
                    · exact fun y hy => hsub y (hp2.mem_iff.2 (by simp [hy]))
                    · exact perm_sub2 (P := fun y => y.2 = 0) hp2 hdone hct80
                ·
                  try simp only [BD] at hct76
                  obtain ⟨hl0, hg⟩ := hF2 hct76; subst hl0
                  have hv3 := grp_all hu hg.nodup (fun p hp => (hdone p hp).resolve_left (by simp))
                  rw [if_neg (fun hh => hh hv3)] at hr
                  refine hx_exit ?_
                  refine th_exit ?_
                  refine th_exit ?_
                  refine bl_hit ?_
                  refine th_norm ?_
                  refine hx_seq ?_
                  refine hx_seq ?_
                  refine hx_region ?_
                  refine WL.qq (by simp only [EN, Nat.reduceEqDiff, reduceIte, qv_move, k6_2, hb.blk.cell, hb.blk.cell, hb.blk.cell]; rfl) ?_
                  refine WL.ef _ (e_range Try.underlying80 hn (by simp only [EN, Nat.reduceEqDiff, reduceIte, k0_2, k6_2, k74_2, hb.blk.cell, hb.blk.cell, hb.blk.cell])) ?_
                  rintro _ h70 ⟨it3, rfl, hit3, hx70, hsz70, hI⟩
                  simp only [put_some]
                  have hith3 : h.size ≤ it3 := (by rw [hit3]; exact hE.size)
                  replace hE := hE.trans hx70
                  refine WL.nil ?_
                  refine th_norm ?_
                  refine hx_block ?_
                  refine hx_loopG [4, 5, 14, 15, 83, 84, 85, 86, 87, 88, 89, 90, 91, 92, 93, 94, 95, 96, 97, 98, 99, 100, 101, 102, 103, 104, 105, 106] (fun k e hL3 => ∃ (left : List E2), left.length = k ∧ (Ext h hL3) ∧ (IterT kV iV hL3 it3 B1 (netL l) left) ∧ (∀ y ∈ left, y ∈ netL l) ∧ (∀ y ∈ netL l, y ∈ left ∨ (y.2 < 0 → lk fs y.1 ≤ lk ks y.1 + y.2))) _ ⟨netL l, rfl, ?_, ?_, ?_, ?_⟩ ?_
                  · exact hE
                  · exact hI
                  · exact fun y hy => hy
                  · exact fun y hy => .inl hy
                  ·
                    rintro k e3L hL3 hfr3 ⟨left, rfl, hE, hI, hsub, hdone⟩
                    have k0_3 := hfr3 0 rfl; try simp only [EN, Nat.reduceEqDiff, reduceIte, k0_2, k6_2, k74_2, hb.blk.cell, hb.blk.cell, hb.blk.cell] at k0_3
                    have k6_3 := hfr3 6 rfl; try simp only [EN, Nat.reduceEqDiff, reduceIte, k0_2, k6_2, k74_2, hb.blk.cell, hb.blk.cell, hb.blk.cell] at k6_3
                    have k82_3 := hfr3 82 rfl; try simp only [EN, Nat.reduceEqDiff, reduceIte, k0_2, k6_2, k74_2, hb.blk.cell, hb.blk.cell, hb.blk.cell] at k82_3
                    have hb := kb.ext hE
                    refine hx_seq ?_
                    refine hx_region ?_
                    refine WL.ef _ (e_next2 kt34 hI (by simp only [EN, Nat.reduceEqDiff, reduceIte, k0_3, k6_3, k82_3, hb.blk.cell, hb.blk.cell, hb.blk.cell, hb.blk.cell])) ?_
                    rintro _ h71 ⟨bb3, vs3, rfl, hv3', hst3, hT3, hF3⟩
                    simp only [put_some]
                    replace hE := ext_step hE hst3 hith3
                    replace hb := kb.ext hE
                    refine WL.qq (by simp only [EN, Nat.reduceEqDiff, reduceIte, k0_3, k6_3, k82_3, hb.blk.cell, hb.blk.cell, hb.blk.cell, hb.blk.cell, qv_extract, hv3']; rfl) ?_
                    refine WL.nil ?_
                    refine th_norm ?_
                    refine hx_seq ?_
                    refine hx_cond (by simp only [EN, Nat.reduceEqDiff, reduceIte, k0_3, k6_3, k82_3, hb.blk.cell, hb.blk.cell, hb.blk.cell, hb.blk.cell]; rfl) (fun hct84 => ?_) (fun hct84 => ?_)
                    ·
                      try simp only [BD] at hct84
                      obtain ⟨q3, left', hp3, hS⟩ := hT3 hct84; have hlen3 := hp3.length_eq; rw [List.length_cons] at hlen3
                      have hqn := net_mem hS.iter.map.nodup (hsub q3 (hp3.mem_iff.2 (by simp)))
                      have hN := (netM_eq (by omega) hal q3.1).2; rw [← hqn.1] at hN; have hB := vld_iff.1 (hbal q3.1)
                      refine hx_skip ?_
                      refine th_norm ?_
                      refine hx_block ?_
                      refine hx_seq ?_
                      refine hx_fresh (fun eF26 hfcf26 => ?_)
                      have k0_f26 := hfcf26 0 rfl; try simp only [EN, Nat.reduceEqDiff, reduceIte, k0_3, k6_3, k82_3, hb.blk.cell, hb.blk.cell, hb.blk.cell, hb.blk.cell] at k0_f26
                      have k4_f26 := hfcf26 4 rfl; try simp only [EN, Nat.reduceEqDiff, reduceIte, k0_3, k6_3, k82_3, hb.blk.cell, hb.blk.cell, hb.blk.cell, hb.blk.cell] at k4_f26
                      have k5_f26 := hfcf26 5 rfl; try simp only [EN, Nat.reduceEqDiff, reduceIte, k0_3, k6_3, k82_3, hb.blk.cell, hb.blk.cell, hb.blk.cell, hb.blk.cell] at k5_f26
                      have k6_f26 := hfcf26 6 rfl; try simp only [EN, Nat.reduceEqDiff, reduceIte, k0_3, k6_3, k82_3, hb.blk.cell, hb.blk.cell, hb.blk.cell, hb.blk.cell] at k6_f26
                      have k82_f26 := hfcf26 82 rfl; try simp only [EN, Nat.reduceEqDiff, reduceIte, k0_3, k6_3, k82_3, hb.blk.cell, hb.blk.cell, hb.blk.cell, hb.blk.cell] at k82_f26
                      have k83_f26 := hfcf26 83 rfl; try simp only [EN, Nat.reduceEqDiff, reduceIte, k0_3, k6_3, k82_3, hb.blk.cell, hb.blk.cell, hb.blk.cell, hb.blk.cell] at k83_f26
                      have k84_f26 := hfcf26 84 rfl; try simp only [EN, Nat.reduceEqDiff, reduceIte, k0_3, k6_3, k82_3, hb.blk.cell, hb.blk.cell, hb.blk.cell, hb.blk.cell] at k84_f26
                      refine hx_region ?_
                      refine WL.ef _ (e_entry hS (by simp only [EN, Nat.reduceEqDiff, reduceIte, k0_f26, k4_f26, k5_f26, k6_f26, k82_f26, k83_f26, k84_f26, hb.blk.cell, hb.blk.cell, hb.blk.cell, hb.blk.cell])) ?_
                      rintro _ hX ⟨rfl, hq3x⟩
                      obtain rfl : h71 = hX := hq3x.symm
                      simp only [put_some]
                      refine WL.qq (by simp only [EN, Nat.reduceEqDiff, reduceIte, qv_extract, AR, hb.blk.cell, hb.blk.cell, hb.blk.cell, hb.blk.cell]; rfl) ?_
                      refine WL.qq (by simp only [EN, Nat.reduceEqDiff, reduceIte, qv_extract, AR, hb.blk.cell, hb.blk.cell, hb.blk.cell, hb.blk.cell]; rfl) ?_
                      refine WL.allocSt zr34 sz34 (fun u => by simp only [EN, Nat.reduceEqDiff, reduceIte, Value.cells, hb.blk.cell, hb.blk.cell, hb.blk.cell, hb.blk.cell]; rfl) ⟨rfl, rfl⟩ (by simp [Value.oneCell']) ?_
                      intro h7 B7 hx7 hlt7 hB7
                      replace hb := hb.ext hx7
                      replace hE := hE.ext hx7
                      replace hS := hS.ext hx7
                      refine WL.qq (by simp only [EN, Nat.reduceEqDiff, reduceIte, qv_assign, hb.blk.cell, hb.blk.cell, hb.blk.cell, hb.blk.cell, hB7.cell]; rfl) ?_
                      refine WL.nil ?_
                      refine th_norm ?_
                      refine hx_seq ?_
                      refine hx_fresh (fun eF27 hfcf27 => ?_)
                      have k0_f27 := hfcf27 0 rfl; try simp only [EN, Nat.reduceEqDiff, reduceIte, k0_f26, k4_f26, k5_f26, k6_f26, k82_f26, k83_f26, k84_f26, hb.blk.cell, hb.blk.cell, hb.blk.cell, hb.blk.cell, hB7.cell] at k0_f27
                      have k4_f27 := hfcf27 4 rfl; try simp only [EN, Nat.reduceEqDiff, reduceIte, k0_f26, k4_f26, k5_f26, k6_f26, k82_f26, k83_f26, k84_f26, hb.blk.cell, hb.blk.cell, hb.blk.cell, hb.blk.cell, hB7.cell] at k4_f27
                      have k5_f27 := hfcf27 5 rfl; try simp only [EN, Nat.reduceEqDiff, reduceIte, k0_f26, k4_f26, k5_f26, k6_f26, k82_f26, k83_f26, k84_f26, hb.blk.cell, hb.blk.cell, hb.blk.cell, hb.blk.cell, hB7.cell] at k5_f27
                      have k6_f27 := hfcf27 6 rfl; try simp only [EN, Nat.reduceEqDiff, reduceIte, k0_f26, k4_f26, k5_f26, k6_f26, k82_f26, k83_f26, k84_f26, hb.blk.cell, hb.blk.cell, hb.blk.cell, hb.blk.cell, hB7.cell] at k6_f27
                      have k14_f27 := hfcf27 14 rfl; try simp only [EN, Nat.reduceEqDiff, reduceIte, k0_f26, k4_f26, k5_f26, k6_f26, k82_f26, k83_f26, k84_f26, hb.blk.cell, hb.blk.cell, hb.blk.cell, hb.blk.cell, hB7.cell] at k14_f27
                      have k15_f27 := hfcf27 15 rfl; try simp only [EN, Nat.reduceEqDiff, reduceIte, k0_f26, k4_f26, k5_f26, k6_f26, k82_f26, k83_f26, k84_f26, hb.blk.cell, hb.blk.cell, hb.blk.cell, hb.blk.cell, hB7.cell] at k15_f27
                      have k82_f27 := hfcf27 82 rfl; try simp only [EN, Nat.reduceEqDiff, reduceIte, k0_f26, k4_f26, k5_f26, k6_f26, k82_f26, k83_f26, k84_f26, hb.blk.cell, hb.blk.cell, hb.blk.cell, hb.blk.cell, hB7.cell] at k82_f27
                      have k83_f27 := hfcf27 83 rfl; try simp only [EN, Nat.reduceEqDiff, reduceIte, k0_f26, k4_f26, k5_f26, k6_f26, k82_f26, k83_f26, k84_f26, hb.blk.cell, hb.blk.cell, hb.blk.cell, hb.blk.cell, hB7.cell] at k83_f27
                      have k84_f27 := hfcf27 84 rfl; try simp only [EN, Nat.reduceEqDiff, reduceIte, k0_f26, k4_f26, k5_f26, k6_f26, k82_f26, k83_f26, k84_f26, hb.blk.cell, hb.blk.cell, hb.blk.cell, hb.blk.cell, hB7.cell] at k84_f27
                      have k85_f27 := hfcf27 85 rfl; try simp only [EN, Nat.reduceEqDiff, reduceIte, k0_f26, k4_f26, k5_f26, k6_f26, k82_f26, k83_f26, k84_f26, hb.blk.cell, hb.blk.cell, hb.blk.cell, hb.blk.cell, hB7.cell] at k85_f27
                      have k86_f27 := hfcf27 86 rfl; try simp only [EN, Nat.reduceEqDiff, reduceIte, k0_f26, k4_f26, k5_f26, k6_f26, k82_f26, k83_f26, k84_f26, hb.blk.cell, hb.blk.cell, hb.blk.cell, hb.blk.cell, hB7.cell] at k86_f27
                      have k87_f27 := hfcf27 87 rfl; try simp only [EN, Nat.reduceEqDiff, reduceIte, k0_f26, k4_f26, k5_f26, k6_f26, k82_f26, k83_f26, k84_f26, hb.blk.cell, hb.blk.cell, hb.blk.cell, hb.blk.cell, hB7.cell] at k87_f27
                      apply hx_draw2 Rel.same [] [] [] rfl (by decide +kernel) rfl
                      refine LD.qq rfl rfl (by simp only [EN, Nat.reduceEqDiff, reduceIte, qv_move, k15_f27, hb.blk.cell, hb.blk.cell, hb.blk.cell, hb.blk.cell, hB7.cell]; rfl) ?_
                      refine LD.qq rfl rfl (by simp only [EN, Nat.reduceEqDiff, reduceIte, qv_binOp, binv_lss, hb.blk.cell, hb.blk.cell, hb.blk.cell, hb.blk.cell, hB7.cell]; rfl) ?_
                      refine LD.qq rfl rfl (by simp only [EN, Nat.reduceEqDiff, reduceIte, qv_move, hb.blk.cell, hb.blk.cell, hb.blk.cell, hb.blk.cell, hB7.cell]; rfl) ?_
                      refine LD.cq rfl rfl (gd_at (t := 90) rfl (by simp only [EN, Nat.reduceEqDiff, reduceIte, k0_f27, hb.blk.cell, hb.blk.cell, hb.blk.cell, hb.blk.cell, hB7.cell] <;> rfl)) (fun hg27_3 => by simp only [EN, Nat.reduceEqDiff, reduceIte, qv_move, k0_f27, hb.blk.cell, hb.blk.cell, hb.blk.cell, hb.blk.cell, hB7.cell, hg27_3, GR]; rfl) ?_
                      refine LD.cq rfl rfl (gd_at (t := 90) rfl (by simp only [EN, Nat.reduceEqDiff, reduceIte, hb.blk.cell, hb.blk.cell, hb.blk.cell, hb.blk.cell, hB7.cell] <;> rfl)) (fun hg27_4 => by simp only [EN, Nat.reduceEqDiff, reduceIte, qv_nilCheck, hb.blk.cell, hb.blk.cell, hb.blk.cell, hb.blk.cell, hB7.cell, hg27_4, GR]; rfl) ?_
                      refine LD.cq rfl rfl (gd_at (t := 90) rfl (by simp only [EN, Nat.reduceEqDiff, reduceIte, hb.blk.cell, hb.blk.cell, hb.blk.cell, hb.blk.cell, hB7.cell] <;> rfl)) (fun hg27_5 => by simp only [EN, Nat.reduceEqDiff, reduceIte, qv_fieldAddr, fa83_1, Nat.zero_add, Nat.reduceAdd, hb.blk.cell, hb.blk.cell, hb.blk.cell, hb.blk.cell, hB7.cell, hg27_5, GR]; rfl) ?_
                      refine LD.cq rfl rfl (gd_at (t := 90) rfl (by simp only [EN, Nat.reduceEqDiff, reduceIte, hb.blk.cell, hb.blk.cell, hb.blk.cell, hb.blk.cell, hB7.cell] <;> rfl)) (fun hg27_6 => by simp only [EN, Nat.reduceEqDiff, reduceIte, qv_load, ld80, readN, AR, Nat.zero_add, Nat.reduceAdd, hb.blk.cell, hb.blk.cell, hb.blk.cell, hb.blk.cell, hB7.cell, hg27_6, GR]; rfl) ?_
                      refine LD.cq rfl rfl (gd_at (t := 90) rfl (by simp only [EN, Nat.reduceEqDiff, reduceIte, k14_f27, hb.blk.cell, hb.blk.cell, hb.blk.cell, hb.blk.cell, hB7.cell] <;> rfl)) (fun hg27_7 => by simp only [EN, Nat.reduceEqDiff, reduceIte, qv_load, ld34, readN, AR, Nat.zero_add, Nat.reduceAdd, k14_f27, hb.blk.cell, hb.blk.cell, hb.blk.cell, hb.blk.cell, hB7.cell, hg27_7, GR]; rfl) ?_
                      refine LD.cq rfl rfl (gd_at (t := 90) rfl (by simp only [EN, Nat.reduceEqDiff, reduceIte, hb.blk.cell, hb.blk.cell, hb.blk.cell, hb.blk.cell, hB7.cell] <;> rfl)) (fun hg27_8 => by simp only [EN, Nat.reduceEqDiff, reduceIte, k0_f27, k4_f27, k5_f27, k6_f27, k14_f27, k15_f27, k82_f27, k83_f27, k84_f27, k85_f27, k86_f27, k87_f27, hb.blk.cell, hb.blk.cell, hb.blk.cell, hb.blk.cell, hB7.cell, qv_lookup, GR, hg27_8, hb.lkb]; rfl) ?_
                      refine LD.cq rfl rfl (gd_at (t := 90) rfl (by simp only [EN, Nat.reduceEqDiff, reduceIte, k15_f27, hb.blk.cell, hb.blk.cell, hb.blk.cell, hb.blk.cell, hB7.cell] <;> rfl)) (fun hg27_9 => by simp only [EN, Nat.reduceEqDiff, reduceIte, qv_move, k15_f27, hb.blk.cell, hb.blk.cell, hb.blk.cell, hb.blk.cell, hB7.cell, hg27_9, GR]; rfl) ?_
                      refine LD.cq rfl rfl (gd_at (t := 90) rfl (by simp only [EN, Nat.reduceEqDiff, reduceIte, hb.blk.cell, hb.blk.cell, hb.blk.cell, hb.blk.cell, hB7.cell] <;> rfl)) (fun hg27_10 => by have hq0 := hg27_10; (try simp only [BD] at hq0); simp only [EN, Nat.reduceEqDiff, reduceIte, qv_binOp, binv_add, hb.blk.cell, hb.blk.cell, hb.blk.cell, hb.blk.cell, hB7.cell, hg27_10, GR]; (try simp (disch := omega) only [w64, w8, wu64]); rfl) ?_
                      refine LD.cq rfl rfl (gd_at (t := 90) rfl (by simp only [EN, Nat.reduceEqDiff, reduceIte, k0_f27, hb.blk.cell, hb.blk.cell, hb.blk.cell, hb.blk.cell, hB7.cell] <;> rfl)) (fun hg27_11 => by simp only [EN, Nat.reduceEqDiff, reduceIte, qv_move, k0_f27, hb.blk.cell, hb.blk.cell, hb.blk.cell, hb.blk.cell, hB7.cell, hg27_11, GR]; rfl) ?_
                      refine LD.cq rfl rfl (gd_at (t := 90) rfl (by simp only [EN, Nat.reduceEqDiff, reduceIte, hb.blk.cell, hb.blk.cell, hb.blk.cell, hb.blk.cell, hB7.cell] <;> rfl)) (fun hg27_12 => by simp only [EN, Nat.reduceEqDiff, reduceIte, qv_nilCheck, hb.blk.cell, hb.blk.cell, hb.blk.cell, hb.blk.cell, hB7.cell, hg27_12, GR]; rfl) ?_
                      refine LD.cq rfl rfl (gd_at (t := 90) rfl (by simp only [EN, Nat.reduceEqDiff, reduceIte, hb.blk.cell, hb.blk.cell, hb.blk.cell, hb.blk.cell, hB7.cell] <;> rfl)) (fun hg27_13 => by simp only [EN, Nat.reduceEqDiff, reduceIte, qv_fieldAddr, fa83_2, Nat.zero_add, Nat.reduceAdd, hb.blk.cell, hb.blk.cell, hb.blk.cell, hb.blk.cell, hB7.cell, hg27_13, GR]; rfl) ?_
                      refine LD.cq rfl rfl (gd_at (t := 90) rfl (by simp only [EN, Nat.reduceEqDiff, reduceIte, hb.blk.cell, hb.blk.cell, hb.blk.cell, hb.blk.cell, hB7.cell] <;> rfl)) (fun hg27_14 => by simp only [EN, Nat.reduceEqDiff, reduceIte, qv_load, ld80, readN, AR, Nat.zero_add, Nat.reduceAdd, hb.blk.cell, hb.blk.cell, hb.blk.cell, hb.blk.cell, hB7.cell, hg27_14, GR]; rfl) ?_
                      refine LD.cq rfl rfl (gd_at (t := 90) rfl (by simp only [EN, Nat.reduceEqDiff, reduceIte, k14_f27, hb.blk.cell, hb.blk.cell, hb.blk.cell, hb.blk.cell, hB7.cell] <;> rfl)) (fun hg27_15 => by simp only [EN, Nat.reduceEqDiff, reduceIte, qv_load, ld34, readN, AR, Nat.zero_add, Nat.reduceAdd, k14_f27, hb.blk.cell, hb.blk.cell, hb.blk.cell, hb.blk.cell, hB7.cell, hg27_15, GR]; rfl) ?_
                      refine LD.cq rfl rfl (gd_at (t := 90) rfl (by simp only [EN, Nat.reduceEqDiff, reduceIte, hb.blk.cell, hb.blk.cell, hb.blk.cell, hb.blk.cell, hB7.cell] <;> rfl)) (fun hg27_16 => by simp only [EN, Nat.reduceEqDiff, reduceIte, k0_f27, k4_f27, k5_f27, k6_f27, k14_f27, k15_f27, k82_f27, k83_f27, k84_f27, k85_f27, k86_f27, k87_f27, hb.blk.cell, hb.blk.cell, hb.blk.cell, hb.blk.cell, hB7.cell, qv_lookup, GR, hg27_16, hb.lkf]; rfl) ?_
                      refine LD.cq rfl rfl (gd_at (t := 90) rfl (by simp only [EN, Nat.reduceEqDiff, reduceIte, hb.blk.cell, hb.blk.cell, hb.blk.cell, hb.blk.cell, hB7.cell] <;> rfl)) (fun hg27_17 => by simp only [EN, Nat.reduceEqDiff, reduceIte, qv_binOp, binv_lss, hb.blk.cell, hb.blk.cell, hb.blk.cell, hb.blk.cell, hB7.cell, hg27_17, GR]; rfl) ?_
                      refine LD.qq rfl rfl (by simp only [EN, Nat.reduceEqDiff, reduceIte, qv_pick, pk_and, pk_or, GR, hb.blk.cell, hb.blk.cell, hb.blk.cell, hb.blk.cell, hB7.cell]; rfl) ?_
                      refine LD.nil ?_
                      rintro _ rfl -
                      refine WL.nil ?_
                      refine th_norm ?_
                      refine hx_cond (by simp only [EN, Nat.reduceEqDiff, reduceIte, k0_f27, k4_f27, k5_f27, k6_f27, k14_f27, k15_f27, k82_f27, k83_f27, k84_f27, k85_f27, k86_f27, k87_f27, hb.blk.cell, hb.blk.cell, hb.blk.cell, hb.blk.cell, hB7.cell]; rfl) (fun hct106 => ?_) (fun hct106 => ?_)
                      ·
                        try simp only [BD] at hct106
                        refine hx_seq ?_
                        refine hx_region ?_
                        refine WL.qq (by simp only [EN, Nat.reduceEqDiff, reduceIte, qv_assign, hb.blk.cell, hb.blk.cell, hb.blk.cell, hb.blk.cell, hB7.cell]; rfl) ?_
                        refine WL.qq (by simp only [EN, Nat.reduceEqDiff, reduceIte, qv_assign, hb.blk.cell, hb.blk.cell, hb.blk.cell, hb.blk.cell, hB7.cell]; rfl) ?_
                        refine WL.nil ?_
                        refine th_norm ?_
                        refine hx_ret ?_
                        refine bl_ret ?_
                        refine th_ret ?_
                        refine bl_ret ?_
                        refine th_ret ?_
                        refine fin_ret [.tmp 4, .tmp 5] rfl rfl (by simp only [EN, Nat.reduceEqDiff, reduceIte, resv, k0_f27, k4_f27, k5_f27, k6_f27, k14_f27, k15_f27, k82_f27, k83_f27, k84_f27, k85_f27, k86_f27, k87_f27, hb.blk.cell, hb.blk.cell, hb.blk.cell, hb.blk.cell, hB7.cell]; rfl) ?_  -- ret 5 r28
                        obtain ⟨x, hx, hxq⟩ := hqn.2
                        rw [if_pos (fun hh => by have h9 := hh x hx; rw [hxq, ← hqn.1] at h9; have := h9 hct106.1; omega)] at hr
                        subst hr
                        exact ⟨hE, _, rfl, by simp⟩
                      ·
                        try simp only [BD] at hct106
                        refine hx_skip ?_
                        refine bl_norm ?_
                        refine th_norm ?_
                        refine ⟨rfl, ?_, _, ?_, left', rfl, ?_, ?_, ?_, ?_⟩  -- again 0 of loop 3
                        · (repeat (first | exact Fr.refl _ _ | refine Fr.set rfl ?_ | refine Fr.put rfl ?_ | refine Fr.put0 ?_ | refine Fr.trans ?_ (Fr.of hfcf11 rfl) | refine Fr.trans ?_ (Fr.of hfcf12 rfl) | refine Fr.trans ?_ (Fr.of hfcf16 rfl) | refine Fr.trans ?_ (Fr.of hfcf17 rfl) | refine Fr.trans ?_ (Fr.of hfcf21 rfl) | refine Fr.trans ?_ (Fr.of hfcf26 rfl) | refine Fr.trans ?_ (Fr.of hfcf27 rfl)))
                        · omega
                        · exact hE
                        · exact hS.iter
                        · exact fun y hy => hsub y (hp3.mem_iff.2 (by simp [hy]))
                        · exact perm_sub (P := fun y => y.2 < 0 → lk fs y.1 ≤ lk ks y.1 + y.2) hp3 hdone (by omega)
                    ·
                      try simp only [BD] at hct84
                      obtain ⟨hl0, hn⟩ := hF3 hct84; subst hl0
                      have hv4 := net_all (P := fun y => y.2 < 0 → lk fs y.1 ≤ lk ks y.1 + y.2) hn.nodup (fun p hp => (hdone p hp).resolve_left (by simp))
                      rw [if_neg (fun hh => hh hv4)] at hr
                      refine hx_exit ?_
                      refine th_exit ?_
                      refine th_exit ?_
                      refine bl_hit ?_
                      refine th_norm ?_
                      refine hx_seq ?_
                      refine hx_region ?_
                      refine WL.qq (by simp only [EN, Nat.reduceEqDiff, reduceIte, qv_move, k6_3, hb.blk.cell, hb.blk.cell, hb.blk.cell, hb.blk.cell]; rfl) ?_
                      refine WL.qq (by simp only [EN, Nat.reduceEqDiff, reduceIte, qv_assign, hb.blk.cell, hb.blk.cell, hb.blk.cell, hb.blk.cell]; rfl) ?_
                      refine WL.qq (by simp only [EN, Nat.reduceEqDiff, reduceIte, qv_assign, hb.blk.cell, hb.blk.cell, hb.blk.cell, hb.blk.cell]; rfl) ?_
                      refine WL.nil ?_
                      refine th_norm ?_
                      refine hx_ret ?_
                      refine fin_ret [.tmp 4, .tmp 5] rfl rfl (by simp only [EN, Nat.reduceEqDiff, reduceIte, resv, k0_3, k6_3, k82_3, hb.blk.cell, hb.blk.cell, hb.blk.cell, hb.blk.cell]; rfl) ?_  -- ret 6 r29
                      subst hr
                      exact ⟨hE, _, rfl, fun _ => ⟨B1, rfl, by have := hE0.size; omega, hn⟩⟩
end GL


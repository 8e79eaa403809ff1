/- Ledger: what the statements on bundles share. -/
import Derived.Test.YtlmealnfkadndaaLedZ
set_option linter.unusedSimpArgs false
set_option linter.unusedVariables false
set_option linter.unnecessarySimpa false
namespace GL
open Go Go.Proofs
set_option maxRecDepth 8000
theorem IsRef.gsT {h h' : Heap} {S : List Nat} {w vk vf : Value} {ks gs : List E2} {sq : Int} (hr : IsRef h w ks gs sq vk vf) (hg : Gs h h' S) (hS : ∀ x ∈ S, ∀ cur, ¬ Has h x (.cells cur 44) ∧ ¬ Has h x (.cells cur 94)) : IsRef h' w ks gs sq vk vf :=
  ⟨hr.val, hr.ks.gs hg (fun c hc hm => by obtain ⟨cur, hb⟩ := hr.ks.typ c hc; exact (hS c hm cur).1 hb), hr.fs.gs hg (fun c hc hm => by obtain ⟨cur, hb⟩ := hr.fs.typ c hc; exact (hS c hm cur).2 hb)⟩
theorem Bd.gsS {h h' : Heap} {N t p : Nat} {ve : Value} {es : List E2} {o : Bool} {S : List Nat} (hb : Bd h N t p ve es o) (hg : Gs h h' S) (ht : t ∉ S) (hS : ∀ x ∈ S, ∀ cur, ¬ Has h x (.cells cur entT)) : Bd h' N t p ve es o := ⟨hb.blk.gs hg ht, hb.en.gsT hg hS⟩
theorem Has.noty {h : Heap} {b : Nat} {c cur : Array Value} {t t' : TypeId} (hb : Has h b (.cells c t)) (ht : t ≠ t') : ¬ Has h b (.cells cur t') := fun hc => hb.ncell hc ht rfl
theorem good_if {s : BS} {k : Nat} (g : GoodB s k) {l : List E2} (hu : okE l) (hl : l.length ≤ 12) {r : Int} (hc : chkE (lk s.ks) (lk s.fs) l = r) : GoodB ⟨if r = 0 then putL s.ks l else s.ks, s.gs, s.fs, if r = 0 then s.sq + 1 else s.sq⟩ (k + 1) := by
  by_cases h : r = 0
  · rw [if_pos h, if_pos h]; exact good_post g hu hl (hc.trans h)
  · rw [if_neg h, if_neg h]; exact g.up (Nat.le_succ k)
theorem foot_noty {h : Heap} {p bm fm : Nat} {vo : Value} {ks fs : List E2} {os : List K2} {sq : Int} {t : TypeId} (hb : BkO h p bm fm vo ks os fs sq) (h1 : t ≠ 83) (h2 : t ≠ 34) : ∀ x ∈ foot p bm vo, ∀ cur, ¬ Has h x (.cells cur t) := fun x hx cur hc => hb.offC hc h1 h2 hx
/-- An own slice is cut short: s[:k]. -/
theorem Own.cut {h : Heap} {base : Nat} {el : TypeId} {sz n cap : Nat} {a : Option Addr} {xs : List Value} (ho : Own h base el sz (.slice a n cap) n xs) (k : Nat) (hk : k ≤ n) : Own h base el sz (.slice a k cap) k (xs.take (k * sz)) := by
  have hkn : k * sz ≤ n * sz := Nat.mul_le_mul_right _ hk
  refine ⟨by rw [List.length_take, ho.1]; omega, ?_⟩
  rcases ho.2 with ⟨hv, hn⟩ | ⟨g, cap', cur, hv, hb, hg, hc, hm, hs, ht⟩
  · cases hv
    obtain rfl : k = 0 := by omega
    exact .inl ⟨rfl, rfl⟩
  · cases hv
    exact .inr ⟨g, cap, cur, rfl, hb, hg, Nat.le_trans hk hc, hm, hs, by rw [← ht, List.take_take, Nat.min_eq_left hkn]⟩
theorem slicev_h {P : Program} {t el : TypeId} {sz : Nat} (hu : P.underlying t = some (.slice el)) (hs : sizeB P el = some sz) (a : Option Addr) (ha : ∀ x, a = some x → x.spot = none) (len cap : Nat) (k : IntKind) (i : Int) (h0 : 0 ≤ i) (h1 : i ≤ cap) :
    slicev P t (.slice a len cap) none (some (.int k i)) none = some (.slice a i.toNat cap) := by
  have e1 : a.map (fun x => x.add (0 * sz)) = a := by
    cases a with
    | none => rfl
    | some x =>
      obtain ⟨b, off, spot⟩ := x
      have := ha _ rfl
      simp only at this
      subst this
      simp [addr_add]
  simp only [slicev, hu, hs, bnd, h0, h1, true_and, and_self, if_true, e1, Nat.sub_zero, ite_self]
  try simp [h0, h1, e1]
theorem flat_take {α : Type} {f : α → List Value} {sz : Nat} (hf : ∀ x, (f x).length = sz) : ∀ (L : List α) (k : Nat), k ≤ L.length → (L.flatMap f).take (k * sz) = (L.take k).flatMap f
  | L, 0, _ => by simp
  | [], k + 1, h => by simp at h
  | a :: L, k + 1, h => by
    have e1 : (k + 1) * sz = (f a).length + k * sz := by rw [hf a, Nat.succ_mul]; omega
    rw [List.flatMap_cons, e1, List.take_length_add_append, flat_take hf L k (by simpa using h)]
    simp
theorem c_listed (a b : Option Addr) (l : List E2) (ca cb : Nat) (ll : l.length ≤ 1000000) {h : Heap} (ha : SlG 3 entL h a l) (hb : SlG 3 entL h b l) :
    HCalls Try.prog 34 #[.slice a l.length ca, .slice b l.length cb] h (Pure (.bool true) h) := by
  refine hcalls2 Try.func34 rfl (by decide +kernel) (by simp only [Try.ntmps34]; exact of_decide_eq_true rfl) ?_
  intro e hin
  have e0 := hin 0 _ rfl
  have e1 := hin 1 _ rfl
  refine hx_seq ?_
  refine hx_region ?_
  refine WL.qq (by simp only [EN, Nat.reduceEqDiff, reduceIte, qv_assign]; rfl) ?_
  refine WL.nil ?_
  refine th_norm ?_
  refine hx_seq ?_
  refine hx_seq ?_
  refine hx_region ?_
  refine WL.qq (by simp only [EN, Nat.reduceEqDiff, reduceIte, qv_move, e0]; rfl) ?_
  refine WL.qq (by simp only [EN, Nat.reduceEqDiff, reduceIte, qv_len, ln47, AR]; rfl) ?_
  refine WL.qq (by simp only [EN, Nat.reduceEqDiff, reduceIte, qv_move, e1]; rfl) ?_
  refine WL.qq (by simp only [EN, Nat.reduceEqDiff, reduceIte, qv_len, ln26, AR]; rfl) ?_
  refine WL.qq (by simp only [EN, Nat.reduceEqDiff, reduceIte, qv_binOp, binv_neq, eq3, Option.map_some]; rfl) ?_
  refine WL.nil ?_
  refine th_norm ?_
  refine hx_cond (by simp only [EN, Nat.reduceEqDiff, reduceIte, e0, e1]; rfl) (fun hct10 => ?_) (fun hct10 => ?_)
  ·
    simp at hct10
  ·
    try simp only [BD] at hct10
    refine hx_skip ?_
    refine th_norm ?_
    refine hx_seq ?_
    refine hx_seq ?_
    refine hx_region ?_
    refine WL.qq (by simp only [EN, Nat.reduceEqDiff, reduceIte, qv_assign]; rfl) ?_
    refine WL.nil ?_
    refine th_norm ?_
    refine hx_block ?_
    refine hx_loopS [4, 5, 11, 12, 13, 14, 15, 16, 17, 18, 19, 20, 21, 22, 23, 24, 25, 26, 27, 28, 29, 30, 31, 32, 33, 34, 35, 36, 37, 38, 39, 40] (fun k e => ∃ (i : Nat), l.length - i = k ∧ (i ≤ l.length) ∧ e 5 = .int .i64 i) _ ⟨0, rfl, ?_, ?_⟩ ?_
    · omega
    · simp only [EN, Nat.reduceEqDiff, reduceIte, e0, e1] <;> rfl
    ·
      rintro k e0L hfr0 ⟨i, rfl, hi, i5_0⟩
      have k0_0 := hfr0 0 rfl; try simp only [EN, Nat.reduceEqDiff, reduceIte, e0, e1] at k0_0
      have k1_0 := hfr0 1 rfl; try simp only [EN, Nat.reduceEqDiff, reduceIte, e0, e1] at k1_0
      refine hx_seq ?_
      refine hx_seq ?_
      refine hx_region ?_
      refine WL.qq (by simp only [EN, Nat.reduceEqDiff, reduceIte, qv_move, i5_0]; rfl) ?_
      refine WL.qq (by simp only [EN, Nat.reduceEqDiff, reduceIte, qv_move, k0_0]; rfl) ?_
      refine WL.qq (by simp only [EN, Nat.reduceEqDiff, reduceIte, qv_len, ln47, AR]; rfl) ?_
      refine WL.qq (by simp only [EN, Nat.reduceEqDiff, reduceIte, qv_binOp, binv_lss]; rfl) ?_
      refine WL.nil ?_
      refine th_norm ?_
      refine hx_cond (by simp only [EN, Nat.reduceEqDiff, reduceIte, k0_0, k1_0, i5_0]; rfl) (fun hct14 => ?_) (fun hct14 => ?_)
      ·
        try simp only [BD] at hct14
        obtain ⟨x, hx⟩ := atG (l := l) (i := i) (by omega)
        obtain ⟨b1, off1, ha1, hr3, hr2, hc0, hc1, hc2⟩ := ent_rd ha hx
        obtain ⟨b2, off2, hb1, hq3, hq2, hd0, hd1, hd2⟩ := ent_rd hb hx
        subst ha1 hb1
        refine hx_skip ?_
        refine th_norm ?_
        refine hx_seq ?_
        refine hx_block ?_
        refine hx_seq ?_
        apply hx_draw2 Rel.same [] [] [] rfl (by decide +kernel) rfl
        refine LD.qq rfl rfl (by simp only [EN, Nat.reduceEqDiff, reduceIte, qv_move, k0_0]; rfl) ?_
        refine LD.qq rfl rfl (by simp only [EN, Nat.reduceEqDiff, reduceIte, qv_move, i5_0]; rfl) ?_
        refine LD.qq rfl rfl (by simp only [EN, Nat.reduceEqDiff, reduceIte, qv_indexAddr]; (try simp (disch := omega) only [ix47, Int.toNat_natCast]); rfl) ?_
        refine LD.qq rfl rfl (by simp only [EN, Nat.reduceEqDiff, reduceIte, qv_fieldAddr, fa89_0, Nat.zero_add, Nat.reduceAdd]; rfl) ?_
        refine LD.qq rfl rfl (by simp only [EN, Nat.reduceEqDiff, reduceIte, k0_0, k1_0, i5_0, qv_load, ld34, Int.toNat_natCast, Nat.add_zero, hr2]; rfl) ?_
        refine LD.qq rfl rfl (by simp only [EN, Nat.reduceEqDiff, reduceIte, qv_move, k1_0]; rfl) ?_
        refine LD.qq rfl rfl (by simp only [EN, Nat.reduceEqDiff, reduceIte, qv_move, i5_0]; rfl) ?_
        refine LD.qq rfl rfl (by simp only [EN, Nat.reduceEqDiff, reduceIte, qv_indexAddr]; (try simp (disch := omega) only [ix26, Int.toNat_natCast]); rfl) ?_
        refine LD.qq rfl rfl (by simp only [EN, Nat.reduceEqDiff, reduceIte, qv_fieldAddr, fa44_0, Nat.zero_add, Nat.reduceAdd]; rfl) ?_
        refine LD.qq rfl rfl (by simp only [EN, Nat.reduceEqDiff, reduceIte, k0_0, k1_0, i5_0, qv_load, ld34, Int.toNat_natCast, Nat.add_zero, hq2]; rfl) ?_
        refine LD.qq rfl rfl (by simp only [EN, Nat.reduceEqDiff, reduceIte, qv_binOp, binv_neq, eqs34, Option.map_some]; rfl) ?_
        refine LD.qq rfl rfl (by simp only [EN, Nat.reduceEqDiff, reduceIte, qv_move]; rfl) ?_
        refine LD.cq rfl rfl (gd_at (t := 28) rfl (by simp only [EN, Nat.reduceEqDiff, reduceIte, k0_0] <;> rfl)) (fun hg6_12 => by simp only [EN, Nat.reduceEqDiff, reduceIte, qv_move, k0_0, hg6_12, GR]; rfl) ?_
        refine LD.cq rfl rfl (gd_at (t := 28) rfl (by simp only [EN, Nat.reduceEqDiff, reduceIte, i5_0] <;> rfl)) (fun hg6_13 => by simp only [EN, Nat.reduceEqDiff, reduceIte, qv_move, i5_0, hg6_13, GR]; rfl) ?_
        refine LD.cq rfl rfl (gd_at (t := 28) rfl (by simp only [EN, Nat.reduceEqDiff, reduceIte] <;> rfl)) (fun hg6_14 => by have hq0 := hg6_14; (try simp only [BD] at hq0); simp only [EN, Nat.reduceEqDiff, reduceIte, qv_indexAddr, hg6_14, GR]; (try simp (disch := omega) only [ix47, Int.toNat_natCast]); rfl) ?_
        refine LD.cq rfl rfl (gd_at (t := 28) rfl (by simp only [EN, Nat.reduceEqDiff, reduceIte] <;> rfl)) (fun hg6_15 => by simp only [EN, Nat.reduceEqDiff, reduceIte, qv_fieldAddr, fa89_1, Nat.zero_add, Nat.reduceAdd, hg6_15, GR]; rfl) ?_
        refine LD.cq rfl rfl (gd_at (t := 28) rfl (by simp only [EN, Nat.reduceEqDiff, reduceIte] <;> rfl)) (fun hg6_16 => by simp only [EN, Nat.reduceEqDiff, reduceIte, k0_0, k1_0, i5_0, GR, hg6_16, qv_load, ld2, Int.toNat_natCast, hc2]; rfl) ?_
        refine LD.cq rfl rfl (gd_at (t := 28) rfl (by simp only [EN, Nat.reduceEqDiff, reduceIte, k1_0] <;> rfl)) (fun hg6_17 => by simp only [EN, Nat.reduceEqDiff, reduceIte, qv_move, k1_0, hg6_17, GR]; rfl) ?_
        refine LD.cq rfl rfl (gd_at (t := 28) rfl (by simp only [EN, Nat.reduceEqDiff, reduceIte, i5_0] <;> rfl)) (fun hg6_18 => by simp only [EN, Nat.reduceEqDiff, reduceIte, qv_move, i5_0, hg6_18, GR]; rfl) ?_
        refine LD.cq rfl rfl (gd_at (t := 28) rfl (by simp only [EN, Nat.reduceEqDiff, reduceIte] <;> rfl)) (fun hg6_19 => by have hq0 := hg6_19; (try simp only [BD] at hq0); simp only [EN, Nat.reduceEqDiff, reduceIte, qv_indexAddr, hg6_19, GR]; (try simp (disch := omega) only [ix26, Int.toNat_natCast]); rfl) ?_
        refine LD.cq rfl rfl (gd_at (t := 28) rfl (by simp only [EN, Nat.reduceEqDiff, reduceIte] <;> rfl)) (fun hg6_20 => by simp only [EN, Nat.reduceEqDiff, reduceIte, qv_fieldAddr, fa44_1, Nat.zero_add, Nat.reduceAdd, hg6_20, GR]; rfl) ?_
        refine LD.cq rfl rfl (gd_at (t := 28) rfl (by simp only [EN, Nat.reduceEqDiff, reduceIte] <;> rfl)) (fun hg6_21 => by simp only [EN, Nat.reduceEqDiff, reduceIte, k0_0, k1_0, i5_0, GR, hg6_21, qv_load, ld2, Int.toNat_natCast, hd2]; rfl) ?_
        refine LD.cq rfl rfl (gd_at (t := 28) rfl (by simp only [EN, Nat.reduceEqDiff, reduceIte] <;> rfl)) (fun hg6_22 => by simp only [EN, Nat.reduceEqDiff, reduceIte, qv_binOp, binv_neq, eq2, Option.map_some, hg6_22, GR]; rfl) ?_
        refine LD.qq rfl rfl (by simp only [EN, Nat.reduceEqDiff, reduceIte, qv_pick, pk_and, pk_or, GR]; rfl) ?_
        refine LD.nil ?_
        rintro _ rfl -
        refine WL.nil ?_
        refine th_norm ?_
        refine hx_cond (by simp only [EN, Nat.reduceEqDiff, reduceIte, k0_0, k1_0, i5_0]; rfl) (fun hct40 => ?_) (fun hct40 => ?_)
        ·
          simp at hct40
        ·
          try simp only [BD] at hct40
          refine hx_skip ?_
          refine bl_norm ?_
          refine th_norm ?_
          refine hx_region ?_
          refine WL.qq (by simp only [EN, Nat.reduceEqDiff, reduceIte, qv_move, i5_0]; rfl) ?_
          refine WL.qq (by simp only [EN, Nat.reduceEqDiff, reduceIte, qv_binOp, binv_add]; (try simp (disch := omega) only [w64, w8, wu64]); rfl) ?_
          refine WL.qq (by simp only [EN, Nat.reduceEqDiff, reduceIte, qv_assign]; rfl) ?_
          refine WL.nil ?_
          refine th_norm ?_
          refine ⟨rfl, rfl, ?_, _, ?_, i + 1, rfl, ?_, ?_⟩  -- again 0 of loop 0
          · (repeat (first | exact Fr.refl _ _ | refine Fr.set rfl ?_ | refine Fr.put rfl ?_ | refine Fr.put0 ?_))
          · omega
          · omega
          · simp only [EN, Nat.reduceEqDiff, reduceIte, k0_0, k1_0, i5_0] <;> first | rfl | (congr 1; omega)
      ·
        try simp only [BD] at hct14
        refine hx_exit ?_
        refine th_exit ?_
        refine th_exit ?_
        refine bl_hit ?_
        refine th_norm ?_
        refine hx_seq ?_
        refine hx_region ?_
        refine WL.qq (by simp only [EN, Nat.reduceEqDiff, reduceIte, qv_assign]; rfl) ?_
        refine WL.nil ?_
        refine th_norm ?_
        refine hx_ret ?_
        refine fin_ret [.tmp 4] rfl rfl (by simp only [EN, Nat.reduceEqDiff, reduceIte, resv, k0_0, k1_0, i5_0]; rfl) ?_  -- ret 0 r8
        exact ⟨rfl, rfl⟩
end GL


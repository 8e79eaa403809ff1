/- History: few; bundles converted to and fro. -/
import Derived.Test.YtklhfckdifkpaaaHisF
import Derived.Test.YtklhfckdifkpaaaHisG
set_option linter.unusedSimpArgs false
set_option linter.unusedVariables false
set_option linter.unnecessarySimpa false
namespace GL
open Go Go.Proofs
set_option maxRecDepth 8000
instance (b : HB) : Decidable (FB b) := inferInstanceAs (Decidable (_ ∧ _))
def FW (L : List BX) : Prop := (∀ x ∈ L, FB x.bd) ∧ L.length ≤ 12
instance (L : List BX) : Decidable (FW L) := inferInstanceAs (Decidable (_ ∧ _))
theorem fb_iff {x : BX} : FB x.bd ↔ x.ps.length ≤ 8 ∧ ∀ p ∈ x.ps, p.ps.length ≤ 12 ∧ p.r.size ≤ 200 := by
  simp only [FB, BX.bd, List.length_map, List.mem_map, forall_exists_index, and_imp, forall_apply_eq_imp_iff₂]
  rfl
set_option maxHeartbeats 1000000 in
theorem c_few (a : Option Addr) (L : List BX) (c : Nat) (ll : L.length ≤ 9223372036854775807) {h : Heap} (hs : SlG 4 bdL h a L) (hb : BXs h L) : HCalls Try.prog 12 #[.slice a L.length c] h (Pure (.bool (decide (FW L))) h) := by
  refine hcalls2 Try.func12 rfl (by decide +kernel) (by simp only [Try.ntmps12]; exact of_decide_eq_true rfl) ?_
  intro e hin
  have e0 := hin 0 _ rfl
  refine hx_seq ?_
  refine hx_region ?_
  refine WL.qq (by simp only [EN, Nat.reduceEqDiff, reduceIte, qv_assign]; rfl) ?_
  refine WL.nil ?_
  refine th_norm ?_
  refine hx_seq ?_
  refine hx_seq ?_
  refine hx_region ?_
  refine WL.qq (by simp only [EN, Nat.reduceEqDiff, reduceIte, qv_assign]; rfl) ?_
  refine WL.nil ?_
  refine th_norm ?_
  refine hx_block ?_
  refine hx_loopS [2, 3, 4, 5, 6, 7, 8, 9, 10, 11, 12, 13, 14, 15, 16, 17, 18, 19, 20, 21, 22, 23, 24, 25, 26, 27, 28, 29, 30, 31, 32, 33, 34, 35, 36, 37, 38, 39, 40, 41, 42, 43, 44, 45, 46, 47, 48, 49, 50, 51] (fun k e => ∃ (i : Nat), L.length - i = k ∧ (i ≤ L.length) ∧ ((∀ x ∈ L.take i, FB x.bd)) ∧ e 3 = .int .i64 i) _ ⟨0, rfl, ?_, ?_, ?_⟩ ?_
  · omega
  · intro y hy; simp at hy
  · simp only [EN, Nat.reduceEqDiff, reduceIte, e0] <;> rfl
  ·
    rintro k e0L hfr0 ⟨i, rfl, hi, hok, i3_0⟩
    have k0_0 := hfr0 0 rfl; try simp only [EN, Nat.reduceEqDiff, reduceIte, e0] at k0_0
    refine hx_seq ?_
    refine hx_seq ?_
    refine hx_region ?_
    refine WL.qq (by simp only [EN, Nat.reduceEqDiff, reduceIte, qv_move, i3_0]; rfl) ?_
    refine WL.qq (by simp only [EN, Nat.reduceEqDiff, reduceIte, qv_move, k0_0]; rfl) ?_
    refine WL.qq (by simp only [EN, Nat.reduceEqDiff, reduceIte, qv_len, ln22, AR]; rfl) ?_
    refine WL.qq (by simp only [EN, Nat.reduceEqDiff, reduceIte, qv_binOp, binv_lss]; rfl) ?_
    refine WL.nil ?_
    refine th_norm ?_
    refine hx_cond (by simp only [EN, Nat.reduceEqDiff, reduceIte]; rfl) (fun hct8 => ?_) (fun hct8 => ?_)
    ·
      try simp only [BD] at hct8
      obtain ⟨x, hx⟩ := atG (l := L) (i := i) (by omega)
      obtain ⟨b, off, rfl, _, _, _, _, hc3, _⟩ := bd_rd hs hx
      have hxi := hb x (List.mem_of_getElem? hx)
      refine hx_skip ?_
      refine th_norm ?_
      refine hx_seq ?_
      refine hx_block ?_
      refine hx_seq ?_
      refine hx_seq ?_
      refine hx_region ?_
      refine WL.qq (by simp only [EN, Nat.reduceEqDiff, reduceIte, qv_move, k0_0]; rfl) ?_
      refine WL.qq (by simp only [EN, Nat.reduceEqDiff, reduceIte, qv_move, i3_0]; rfl) ?_
      refine WL.qq (by simp only [EN, Nat.reduceEqDiff, reduceIte, qv_indexAddr]; (try simp (disch := omega) only [ix22, Int.toNat_natCast]); rfl) ?_
      refine WL.qq (by simp only [EN, Nat.reduceEqDiff, reduceIte, qv_fieldAddr, fa45_3, Nat.zero_add, Nat.reduceAdd]; rfl) ?_
      refine WL.qq (by simp only [EN, Nat.reduceEqDiff, reduceIte, k0_0, i3_0, qv_load, ld43, Int.toNat_natCast, hc3]; rfl) ?_
      refine WL.qq (by simp only [EN, Nat.reduceEqDiff, reduceIte, qv_len, ln43, AR]; rfl) ?_
      refine WL.qq (by simp only [EN, Nat.reduceEqDiff, reduceIte, qv_binOp, binv_gtr]; rfl) ?_
      refine WL.nil ?_
      refine th_norm ?_
      refine hx_cond (by simp only [EN, Nat.reduceEqDiff, reduceIte]; rfl) (fun hct17 => ?_) (fun hct17 => ?_)
      ·
        try simp only [BD] at hct17
        refine hx_seq ?_
        refine hx_region ?_
        refine WL.qq (by simp only [EN, Nat.reduceEqDiff, reduceIte, qv_assign]; rfl) ?_
        refine WL.nil ?_
        refine th_norm ?_
        refine hx_ret ?_
        refine th_ret ?_
        refine bl_ret ?_
        refine th_ret ?_
        refine th_ret ?_
        refine bl_ret ?_
        refine th_ret ?_
        refine fin_ret [.tmp 2] rfl rfl (by simp only [EN, Nat.reduceEqDiff, reduceIte, resv, k0_0, i3_0]; rfl) ?_  -- ret 0 r5
        exact ⟨by simp only [retOf]; congr 1; exact (decide_eq_false (fun hh => by have := (fb_iff.1 (hh.1 x (List.mem_of_getElem? hx))).1; omega)).symm, rfl⟩
      ·
        try simp only [BD] at hct17
        refine hx_skip ?_
        refine th_norm ?_
        refine hx_seq ?_
        refine hx_region ?_
        refine WL.qq (by simp only [EN, Nat.reduceEqDiff, reduceIte, qv_assign]; rfl) ?_
        refine WL.nil ?_
        refine th_norm ?_
        refine hx_block ?_
        refine hx_loopS [2, 4, 18, 19, 20, 21, 22, 23, 24, 25, 26, 27, 28, 29, 30, 31, 32, 33, 34, 35, 36, 37, 38, 39, 40, 41, 42, 43, 44, 45, 46, 47, 48, 49, 50, 51] (fun k e => ∃ (k2 : Nat), x.ps.length - k2 = k ∧ (k2 ≤ x.ps.length) ∧ ((∀ p ∈ x.ps.take k2, p.ps.length ≤ 12 ∧ p.r.size ≤ 200)) ∧ e 4 = .int .i64 k2) _ ⟨0, rfl, ?_, ?_, ?_⟩ ?_
        · omega
        · intro y hy; simp at hy
        · simp only [EN, Nat.reduceEqDiff, reduceIte, k0_0, i3_0] <;> rfl
        ·
          rintro k e1L hfr1 ⟨k2, rfl, hk2, hok2, i4_1⟩
          have k0_1 := hfr1 0 rfl; try simp only [EN, Nat.reduceEqDiff, reduceIte, k0_0] at k0_1
          have k3_1 := hfr1 3 rfl; try simp only [EN, Nat.reduceEqDiff, reduceIte, i3_0] at k3_1
          refine hx_seq ?_
          refine hx_seq ?_
          refine hx_region ?_
          refine WL.qq (by simp only [EN, Nat.reduceEqDiff, reduceIte, qv_move, i4_1]; rfl) ?_
          refine WL.qq (by simp only [EN, Nat.reduceEqDiff, reduceIte, qv_move, k0_1]; rfl) ?_
          refine WL.qq (by simp only [EN, Nat.reduceEqDiff, reduceIte, qv_move, k3_1]; rfl) ?_
          refine WL.qq (by simp only [EN, Nat.reduceEqDiff, reduceIte, qv_indexAddr]; (try simp (disch := omega) only [ix22, Int.toNat_natCast]); rfl) ?_
          refine WL.qq (by simp only [EN, Nat.reduceEqDiff, reduceIte, qv_fieldAddr, fa45_3, Nat.zero_add, Nat.reduceAdd]; rfl) ?_
          refine WL.qq (by simp only [EN, Nat.reduceEqDiff, reduceIte, k0_1, k3_1, i4_1, qv_load, ld43, Int.toNat_natCast, hc3]; rfl) ?_
          refine WL.qq (by simp only [EN, Nat.reduceEqDiff, reduceIte, qv_len, ln43, AR]; rfl) ?_
          refine WL.qq (by simp only [EN, Nat.reduceEqDiff, reduceIte, qv_binOp, binv_lss]; rfl) ?_
          refine WL.nil ?_
          refine th_norm ?_
          refine hx_cond (by simp only [EN, Nat.reduceEqDiff, reduceIte]; rfl) (fun hct25 => ?_) (fun hct25 => ?_)
          ·
            try simp only [BD] at hct25
            obtain ⟨y, hy⟩ := atG (l := x.ps) (i := k2) (by omega)
            obtain ⟨b2, off2, ha2, _, hp0, hp1⟩ := pt_rd hxi.1 hy
            refine hx_skip ?_
            refine th_norm ?_
            refine hx_seq ?_
            refine hx_block ?_
            refine hx_seq ?_
            refine hx_region ?_
            refine WL.qq (by simp only [EN, Nat.reduceEqDiff, reduceIte, qv_move, k0_1]; rfl) ?_
            refine WL.qq (by simp only [EN, Nat.reduceEqDiff, reduceIte, qv_move, k3_1]; rfl) ?_
            refine WL.qq (by simp only [EN, Nat.reduceEqDiff, reduceIte, qv_indexAddr]; (try simp (disch := omega) only [ix22, Int.toNat_natCast]); rfl) ?_
            refine WL.qq (by simp only [EN, Nat.reduceEqDiff, reduceIte, qv_fieldAddr, fa45_3, Nat.zero_add, Nat.reduceAdd]; rfl) ?_
            refine WL.qq (by simp only [EN, Nat.reduceEqDiff, reduceIte, k0_1, k3_1, i4_1, qv_load, ld43, Int.toNat_natCast, hc3]; rfl) ?_
            refine WL.qq (by simp only [EN, Nat.reduceEqDiff, reduceIte, qv_move, i4_1]; rfl) ?_
            refine WL.qq (by simp only [EN, Nat.reduceEqDiff, reduceIte, qv_indexAddr, ha2]; (try simp (disch := omega) only [ix43, Int.toNat_natCast]); rfl) ?_
            refine WL.qq (by simp only [EN, Nat.reduceEqDiff, reduceIte, qv_fieldAddr, fa79_1, Nat.zero_add, Nat.reduceAdd]; rfl) ?_
            refine WL.qq (by simp only [EN, Nat.reduceEqDiff, reduceIte, k0_1, k3_1, i4_1, qv_load, ld77, Int.toNat_natCast, hp1]; rfl) ?_
            refine WL.qq (by simp only [EN, Nat.reduceEqDiff, reduceIte, qv_len, ln77, AR]; rfl) ?_
            refine WL.qq (by simp only [EN, Nat.reduceEqDiff, reduceIte, qv_binOp, binv_gtr]; rfl) ?_
            refine WL.qq (by simp only [EN, Nat.reduceEqDiff, reduceIte, qv_move]; rfl) ?_
            refine WL.cq (gd_at (t := 39) rfl (by simp only [EN, Nat.reduceEqDiff, reduceIte, k0_1] <;> rfl)) (fun hg9_12 => by simp only [EN, Nat.reduceEqDiff, reduceIte, qv_move, k0_1, hg9_12, GR]; rfl) ?_
            refine WL.cq (gd_at (t := 39) rfl (by simp only [EN, Nat.reduceEqDiff, reduceIte, k3_1] <;> rfl)) (fun hg9_13 => by simp only [EN, Nat.reduceEqDiff, reduceIte, qv_move, k3_1, hg9_13, GR]; rfl) ?_
            refine WL.cq (gd_at (t := 39) rfl (by simp only [EN, Nat.reduceEqDiff, reduceIte] <;> rfl)) (fun hg9_14 => by have hq0 := hg9_14; (try simp only [BD] at hq0); simp only [EN, Nat.reduceEqDiff, reduceIte, qv_indexAddr, hg9_14, GR]; (try simp (disch := omega) only [ix22, Int.toNat_natCast]); rfl) ?_
            refine WL.cq (gd_at (t := 39) rfl (by simp only [EN, Nat.reduceEqDiff, reduceIte] <;> rfl)) (fun hg9_15 => by simp only [EN, Nat.reduceEqDiff, reduceIte, qv_fieldAddr, fa45_3, Nat.zero_add, Nat.reduceAdd, hg9_15, GR]; rfl) ?_
            refine WL.cq (gd_at (t := 39) rfl (by simp only [EN, Nat.reduceEqDiff, reduceIte] <;> rfl)) (fun hg9_16 => by simp only [EN, Nat.reduceEqDiff, reduceIte, k0_1, k3_1, i4_1, GR, hg9_16, qv_load, ld43, Int.toNat_natCast, hc3]; rfl) ?_
            refine WL.cq (gd_at (t := 39) rfl (by simp only [EN, Nat.reduceEqDiff, reduceIte, i4_1] <;> rfl)) (fun hg9_17 => by simp only [EN, Nat.reduceEqDiff, reduceIte, qv_move, i4_1, hg9_17, GR]; rfl) ?_
            refine WL.cq (gd_at (t := 39) rfl (by simp only [EN, Nat.reduceEqDiff, reduceIte] <;> rfl)) (fun hg9_18 => by have hq0 := hg9_18; (try simp only [BD] at hq0); simp only [EN, Nat.reduceEqDiff, reduceIte, qv_indexAddr, ha2, hg9_18, GR]; (try simp (disch := omega) only [ix43, Int.toNat_natCast]); rfl) ?_
            refine WL.cq (gd_at (t := 39) rfl (by simp only [EN, Nat.reduceEqDiff, reduceIte] <;> rfl)) (fun hg9_19 => by simp only [EN, Nat.reduceEqDiff, reduceIte, qv_fieldAddr, fa79_0, Nat.zero_add, Nat.reduceAdd, hg9_19, GR]; rfl) ?_
            refine WL.cq (gd_at (t := 39) rfl (by simp only [EN, Nat.reduceEqDiff, reduceIte] <;> rfl)) (fun hg9_20 => by simp only [EN, Nat.reduceEqDiff, reduceIte, k0_1, k3_1, i4_1, GR, hg9_20, qv_load, ld9, Int.toNat_natCast, hp0]; rfl) ?_
            refine WL.cq (gd_at (t := 39) rfl (by simp only [EN, Nat.reduceEqDiff, reduceIte] <;> rfl)) (fun hg9_21 => by simp only [EN, Nat.reduceEqDiff, reduceIte, qv_len, ln9, AR, hg9_21, GR]; rfl) ?_
            refine WL.cq (gd_at (t := 39) rfl (by simp only [EN, Nat.reduceEqDiff, reduceIte] <;> rfl)) (fun hg9_22 => by simp only [EN, Nat.reduceEqDiff, reduceIte, qv_binOp, binv_gtr, hg9_22, GR]; rfl) ?_
            refine WL.qq (by simp only [EN, Nat.reduceEqDiff, reduceIte, qv_pick, pk_and, pk_or, GR]; rfl) ?_
            refine WL.nil ?_
            refine th_norm ?_
            refine hx_cond (by simp only [EN, Nat.reduceEqDiff, reduceIte]; rfl) (fun hct51 => ?_) (fun hct51 => ?_)
            ·
              try simp only [BD] at hct51
              refine hx_seq ?_
              refine hx_region ?_
              refine WL.qq (by simp only [EN, Nat.reduceEqDiff, reduceIte, qv_assign]; rfl) ?_
              refine WL.nil ?_
              refine th_norm ?_
              refine hx_ret ?_
              refine bl_ret ?_
              refine th_ret ?_
              refine th_ret ?_
              refine bl_ret ?_
              refine bl_ret ?_
              refine th_ret ?_
              refine th_ret ?_
              refine bl_ret ?_
              refine th_ret ?_
              refine fin_ret [.tmp 2] rfl rfl (by simp only [EN, Nat.reduceEqDiff, reduceIte, resv, k0_1, k3_1, i4_1]; rfl) ?_  -- ret 1 r10
              exact ⟨by simp only [retOf]; congr 1; exact (decide_eq_false (fun hh => by have := (fb_iff.1 (hh.1 x (List.mem_of_getElem? hx))).2 y (List.mem_of_getElem? hy); omega)).symm, rfl⟩
            ·
              try simp only [BD] at hct51
              refine hx_skip ?_
              refine bl_norm ?_
              refine th_norm ?_
              refine hx_region ?_
              refine WL.qq (by simp only [EN, Nat.reduceEqDiff, reduceIte, qv_move, i4_1]; rfl) ?_
              refine WL.qq (by simp only [EN, Nat.reduceEqDiff, reduceIte, qv_binOp, binv_add]; (try simp (disch := omega) only [w64, w8, wu64]); rfl) ?_
              refine WL.qq (by simp only [EN, Nat.reduceEqDiff, reduceIte, qv_assign]; rfl) ?_
              refine WL.nil ?_
              refine th_norm ?_
              refine ⟨rfl, rfl, ?_, _, ?_, k2 + 1, rfl, ?_, ?_, ?_⟩  -- again 0 of loop 1
              · (repeat (first | exact Fr.refl _ _ | refine Fr.set rfl ?_ | refine Fr.put rfl ?_ | with_reducible refine Fr.put0 ?_))
              · omega
              · omega
              · exact all_take hok2 hy (by omega)
              · simp only [EN, Nat.reduceEqDiff, reduceIte, k0_1, k3_1, i4_1] <;> first | rfl | (congr 1; omega)
          ·
            try simp only [BD] at hct25
            have hall := all_end hok2 (by omega)
            refine hx_exit ?_
            refine th_exit ?_
            refine th_exit ?_
            refine bl_hit ?_
            refine bl_norm ?_
            refine th_norm ?_
            refine hx_region ?_
            refine WL.qq (by simp only [EN, Nat.reduceEqDiff, reduceIte, qv_move, k3_1]; rfl) ?_
            refine WL.qq (by simp only [EN, Nat.reduceEqDiff, reduceIte, qv_binOp, binv_add]; (try simp (disch := omega) only [w64, w8, wu64]); rfl) ?_
            refine WL.qq (by simp only [EN, Nat.reduceEqDiff, reduceIte, qv_assign]; rfl) ?_
            refine WL.nil ?_
            refine th_norm ?_
            refine ⟨rfl, rfl, ?_, _, ?_, i + 1, rfl, ?_, ?_, ?_⟩  -- again 0 of loop 0
            · (repeat (first | exact Fr.refl _ _ | refine Fr.set rfl ?_ | refine Fr.put rfl ?_ | with_reducible refine Fr.put0 ?_ | refine Fr.trans ?_ (Fr.of hfr1 rfl)))
            · omega
            · omega
            · exact all_take hok hx (fb_iff.2 ⟨by omega, hall⟩)
            · simp only [EN, Nat.reduceEqDiff, reduceIte, k0_1, k3_1, i4_1] <;> first | rfl | (congr 1; omega)
    ·
      try simp only [BD] at hct8
      have hall := all_end hok (by omega)
      refine hx_exit ?_
      refine th_exit ?_
      refine th_exit ?_
      refine bl_hit ?_
      refine th_norm ?_
      refine hx_seq ?_
      refine hx_region ?_
      refine WL.qq (by simp only [EN, Nat.reduceEqDiff, reduceIte, qv_move, k0_0]; rfl) ?_
      refine WL.qq (by simp only [EN, Nat.reduceEqDiff, reduceIte, qv_len, ln22, AR]; rfl) ?_
      refine WL.qq (by simp only [EN, Nat.reduceEqDiff, reduceIte, qv_binOp, binv_leq]; rfl) ?_
      refine WL.qq (by simp only [EN, Nat.reduceEqDiff, reduceIte, qv_assign]; rfl) ?_
      refine WL.nil ?_
      refine th_norm ?_
      refine hx_ret ?_
      refine fin_ret [.tmp 2] rfl rfl (by simp only [EN, Nat.reduceEqDiff, reduceIte, resv, k0_0, i3_0]; rfl) ?_  -- ret 2 r11
      exact ⟨by simp only [retOf]; congr 1; exact decide_eq_decide.2 ⟨fun hh => ⟨hall, by omega⟩, fun hh => by have := hh.2; omega⟩, rfl⟩
/-- A part whose rows are of type T and lie in blocks of F. -/
structure PXq (T : TypeId) (F : Nat → Prop) (h : Heap) (x : PX) : Prop where
  sl : SlR T 4 poL h x.a x.ps
  f : ∀ g off, x.a = some ⟨g, off, none⟩ → F g
  z : ∀ g off, x.a = some ⟨g, off, none⟩ → off = 0
def PQs (T : TypeId) (F : Nat → Prop) (h : Heap) (M : List PX) : Prop := ∀ m ∈ M, PXq T F h m
section
variable {T : TypeId} {F F' : Nat → Prop} {h h' : Heap} {M : List PX}
theorem PQs.ext (hp : PQs T F h M) (hx : Ext h h') : PQs T F h' M := fun m hm => ⟨(hp m hm).sl.ext hx, (hp m hm).f, (hp m hm).z⟩
theorem PQs.wr {b : Nat} {o : Obj} {c : Array Value} {S : TypeId} (hp : PQs T F h M) (hw : Wr h h' b o) (hb : Has h b (.cells c S)) (h1 : S ≠ T) : PQs T F h' M := fun m hm => ⟨(hp m hm).sl.wr hw hb h1, (hp m hm).f, (hp m hm).z⟩
theorem PQs.keep (hp : PQs T F h M) (hk : ∀ c, F c → c < h.size → h'[c]? = h[c]?) : PQs T F h' M := fun m hm => ⟨(hp m hm).sl.keep fun g off ha => hk g ((hp m hm).f g off ha) (by obtain ⟨cu, hc⟩ := (hp m hm).sl.ty g off ha; exact (Array.getElem?_eq_some_iff.1 hc).1), (hp m hm).f, (hp m hm).z⟩
theorem PQs.lt (hp : PQs T F h M) : PQs T (fun g => F g ∧ g < h.size) h M := fun m hm => ⟨(hp m hm).sl, fun g off ha => ⟨(hp m hm).f g off ha, by obtain ⟨cu, hc⟩ := (hp m hm).sl.ty g off ha; exact (Array.getElem?_eq_some_iff.1 hc).1⟩, (hp m hm).z⟩
theorem PQs.mono (hp : PQs T F h M) (hF : ∀ c, F c → F' c) : PQs T F' h M := fun m hm => ⟨(hp m hm).sl, fun g off ha => hF g ((hp m hm).f g off ha), (hp m hm).z⟩
theorem PQs.gr {n5 n sz : Nat} {v : Value} {xs : List Value} (hp : PQs T (fun g => F g ∧ g < n5) h M) (hg : Gr h h' v.ownBlock) (ho : Own h n5 T sz v n xs) : PQs T (fun g => F g ∧ g < n5) h' M :=
  hp.keep fun c hc hlt => hg.same c hlt fun hh => by have := (ho.block c hh).1; omega
theorem PQs.gro {N n sz : Nat} {el : TypeId} {v : Value} {xs : List Value} (hp : PQs T F h M) (hg : Gr h h' v.ownBlock) (ho : Own h N el sz v n xs) (h1 : el ≠ T) : PQs T F h' M := fun m hm => ⟨(hp m hm).sl.gro hg ho h1, (hp m hm).f, (hp m hm).z⟩
theorem PQs.snoc {y : PX} (hp : PQs T F h M) (hy : PXq T F h y) : PQs T F h (M ++ [y]) := fun m hm => by
  rcases List.mem_append.1 hm with hm | hm
  · exact hp m hm
  · simp at hm; subst hm; exact hy
end
theorem poL_one (x : PO) : ∀ u ∈ poL x, u.oneCell' = true := fun u hu => by simp at hu; rcases hu with rfl | rfl | rfl | rfl <;> rfl
theorem ptL_one (x : PX) : ∀ u ∈ ptL x, u.oneCell' = true := fun u hu => by simp at hu; rcases hu with rfl | rfl <;> rfl
set_option maxHeartbeats 4000000 in
theorem c_own (x : BX) (hlen : x.ps.length ≤ 1000000 ∧ ∀ p ∈ x.ps, p.ps.length ≤ 1000000) {h : Heap} (hbi : BXin h x) :
    HCalls Try.prog 34 #[.agg (bdL x).toArray] h fun v h' => Ext h h' ∧ ∃ y : BX, v = .agg (bdL y).toArray ∧ y.bd = x.bd ∧ BXr (fun g => h.size ≤ g) h' y := by
  have kbi := hbi
  refine hcalls2 Try.func34 rfl (by decide +kernel) (by simp only [Try.ntmps34]; exact of_decide_eq_true rfl) ?_
  intro e hin
  have e0 := hin 0 _ rfl
  refine hx_seq ?_
  refine hx_region ?_
  refine WL.box2 (by simp only [EN, Nat.reduceEqDiff, reduceIte, Value.cells, e0]; rfl) ?_
  intro h1 B1 hx1 hlt1 hB1
  have k1 := (Array.getElem?_eq_some_iff.1 hB1).1; have kz1 := hx1.size
  refine WL.alloc2 zr55 ?_
  intro h2 B2 hx2 hlt2 hB2
  replace hB1 := hB1.ext hx2
  simp only [Value.cells] at hB2
  refine WL.nil ?_
  refine th_norm ?_
  refine hx_seq ?_
  refine hx_region ?_
  have k2 := (Array.getElem?_eq_some_iff.1 hB2).1; have k1b := (Array.getElem?_eq_some_iff.1 hB1).1; have kz2 := Ext.size ((hx1).trans (hx2))
  refine WL.qq (by simp only [EN, Nat.reduceEqDiff, reduceIte, qv_fieldAddr, fa45_0, Nat.zero_add, Nat.reduceAdd, hB1.cell, hB2.cell]; rfl) ?_
  refine WL.qq (by simp only [EN, Nat.reduceEqDiff, reduceIte, qv_load, ld3, readN, AR, Nat.zero_add, Nat.reduceAdd, hB1.cell, hB2.cell]; rfl) ?_
  refine WL.qq (by simp only [EN, Nat.reduceEqDiff, reduceIte, qv_fieldAddr, fa45_1, Nat.zero_add, Nat.reduceAdd, hB1.cell, hB2.cell]; rfl) ?_
  refine WL.qq (by simp only [EN, Nat.reduceEqDiff, reduceIte, qv_load, ld3, readN, AR, Nat.zero_add, Nat.reduceAdd, hB1.cell, hB2.cell]; rfl) ?_
  refine WL.qq (by simp only [EN, Nat.reduceEqDiff, reduceIte, qv_fieldAddr, fa45_2, Nat.zero_add, Nat.reduceAdd, hB1.cell, hB2.cell]; rfl) ?_
  refine WL.qq (by simp only [EN, Nat.reduceEqDiff, reduceIte, qv_load, ld3, readN, AR, Nat.zero_add, Nat.reduceAdd, hB1.cell, hB2.cell]; rfl) ?_
  refine WL.qq (by refine qv_bld (by simp only [EN, Nat.reduceEqDiff, reduceIte, AR, hB1.cell, hB2.cell] <;> rfl) (by rw [bl41]; simp [Instr.fill, Value.cells]; rfl)) ?_
  refine WL.qq (by refine qv_bld (by simp only [EN, Nat.reduceEqDiff, reduceIte, AR, hB1.cell, hB2.cell] <;> rfl) (by rw [bl55]; simp [Instr.fill, Value.cells]; rfl)) ?_
  refine WL.allocSt zr55 sz55 (fun u => by simp only [EN, Nat.reduceEqDiff, reduceIte, Value.cells, hB1.cell, hB2.cell]; rfl) ⟨rfl, rfl⟩ (by simp [Value.oneCell']) ?_
  intro h3 B3 hx3 hlt3 hB3
  replace hB1 := hB1.ext hx3
  replace hB2 := hB2.ext hx3
  refine WL.nil ?_
  refine th_norm ?_
  refine hx_seq ?_
  refine hx_seq ?_
  refine hx_region ?_
  refine WL.qq (by simp only [EN, Nat.reduceEqDiff, reduceIte, qv_assign, hB1.cell, hB2.cell, hB3.cell]; rfl) ?_
  refine WL.nil ?_
  refine th_norm ?_
  refine hx_block ?_
  refine hx_loopG [4, 5, 6, 7, 16, 17, 18, 19, 20, 21, 22, 23, 24, 25, 26, 27, 28, 29, 30, 31, 32, 33, 34, 35, 36, 37, 38, 39, 40, 41, 42, 43, 44, 45, 46, 47, 48, 49, 50, 51, 52, 53, 54, 55, 56, 57, 58, 59, 60, 61, 62, 63, 64, 65, 66] (fun k e hL0 => ∃ (i : Nat) (M : List PX) (vo : Value), x.ps.length - i = k ∧ (i ≤ x.ps.length) ∧ (Ext h hL0) ∧ (Has hL0 B1 (.cells (bdL x).toArray 45)) ∧ (Has hL0 B2 (.cells #[iV 0, iV 0, iV 0, .slice none 0 0] tyB)) ∧ (Has hL0 B3 (.cells #[iV x.s, iV x.day, iV x.mn, vo] tyB)) ∧ (Own hL0 h.size tyPt 2 vo M.length (M.flatMap ptL)) ∧ (M.length = i) ∧ (M.map PX.pt = (x.ps.take i).map PX.pt) ∧ (PQs tyPo (fun g => h.size ≤ g) hL0 M) ∧ e 4 = .int .i64 i) _ ⟨0, [], .slice none 0 0, rfl, ?_, ?_, ?_, ?_, ?_, ?_, ?_, ?_, ?_, ?_⟩ ?_
  · omega
  · exact ((hx1).trans ((hx2).trans (hx3)))
  · exact hB1
  · exact hB2
  · exact hB3
  · exact Own.nil
  · rfl
  · rfl
  · intro m hm; cases hm
  · simp only [EN, Nat.reduceEqDiff, reduceIte, e0, hB1.cell, hB2.cell, hB3.cell] <;> rfl
  ·
    rintro k e0L hL0 hfr0 ⟨i, M, vo, rfl, hi, hXe, hB1, hB2, hB3, ho, hMl, hM, hMr, i4_0⟩
    have k1_0 := hfr0 1 rfl; try simp only [EN, Nat.reduceEqDiff, reduceIte, hB1.cell, hB2.cell, hB3.cell] at k1_0
    have k2_0 := hfr0 2 rfl; try simp only [EN, Nat.reduceEqDiff, reduceIte, hB1.cell, hB2.cell, hB3.cell] at k2_0
    have k3_0 := hfr0 3 rfl; try simp only [EN, Nat.reduceEqDiff, reduceIte, hB1.cell, hB2.cell, hB3.cell] at k3_0
    refine hx_seq ?_
    refine hx_seq ?_
    refine hx_region ?_
    refine WL.qq (by simp only [EN, Nat.reduceEqDiff, reduceIte, qv_move, i4_0, hB1.cell, hB2.cell, hB3.cell]; rfl) ?_
    refine WL.qq (by simp only [EN, Nat.reduceEqDiff, reduceIte, qv_fieldAddr, fa45_3, Nat.zero_add, Nat.reduceAdd, k1_0, hB1.cell, hB2.cell, hB3.cell]; rfl) ?_
    refine WL.qq (by simp only [EN, Nat.reduceEqDiff, reduceIte, qv_load, ld43, readN, AR, Nat.zero_add, Nat.reduceAdd, hB1.cell, hB2.cell, hB3.cell]; rfl) ?_
    refine WL.qq (by simp only [EN, Nat.reduceEqDiff, reduceIte, qv_len, ln43, AR, hB1.cell, hB2.cell, hB3.cell]; rfl) ?_
    refine WL.qq (by simp only [EN, Nat.reduceEqDiff, reduceIte, qv_binOp, binv_lss, hB1.cell, hB2.cell, hB3.cell]; rfl) ?_
    refine WL.nil ?_
    refine th_norm ?_
    refine hx_cond (by simp only [EN, Nat.reduceEqDiff, reduceIte, hB1.cell, hB2.cell, hB3.cell]; rfl) (fun hct20 => ?_) (fun hct20 => ?_)
    ·
      try simp only [BD] at hct20
      obtain ⟨q, hq⟩ := atG (l := x.ps) (i := i) (by omega)
      obtain ⟨b1, o1, ha1, _, hp0, hp1⟩ := pt_rd (kbi.1.ext hXe) hq
      have hql := hlen.2 q (List.mem_of_getElem? hq); have hqi : SlG 4 poL h q.a q.ps := kbi.2 q (List.mem_of_getElem? hq)
      have w1 := (Array.getElem?_eq_some_iff.1 hB1).1; have w2 := (Array.getElem?_eq_some_iff.1 hB2).1; have w3 := (Array.getElem?_eq_some_iff.1 hB3).1; have w4 := hXe.size; have w5 := ho.block
      replace hMr := hMr.lt
      refine hx_skip ?_
      refine th_norm ?_
      refine hx_seq ?_
      refine hx_block ?_
      refine hx_seq ?_
      refine hx_region ?_
      refine WL.qq (by simp only [EN, Nat.reduceEqDiff, reduceIte, qv_fieldAddr, fa45_3, Nat.zero_add, Nat.reduceAdd, k1_0, hB1.cell, hB2.cell, hB3.cell]; rfl) ?_
      refine WL.qq (by simp only [EN, Nat.reduceEqDiff, reduceIte, qv_load, ld43, readN, AR, Nat.zero_add, Nat.reduceAdd, hB1.cell, hB2.cell, hB3.cell]; rfl) ?_
      refine WL.qq (by simp only [EN, Nat.reduceEqDiff, reduceIte, qv_move, i4_0, hB1.cell, hB2.cell, hB3.cell]; rfl) ?_
      refine WL.qq (by simp only [EN, Nat.reduceEqDiff, reduceIte, qv_indexAddr, hB1.cell, hB2.cell, hB3.cell, ha1]; (try simp (disch := omega) only [ix43, Int.toNat_natCast]); rfl) ?_
      refine WL.qq (by simp only [EN, Nat.reduceEqDiff, reduceIte, qv_fieldAddr, fa79_0, Nat.zero_add, Nat.reduceAdd, hB1.cell, hB2.cell, hB3.cell]; rfl) ?_
      refine WL.qq (by simp only [EN, Nat.reduceEqDiff, reduceIte, k1_0, k2_0, k3_0, i4_0, hB1.cell, hB2.cell, hB3.cell, qv_load, ld9, Int.toNat_natCast, hp0]; rfl) ?_
      refine WL.qq (by refine qv_bld (by simp only [EN, Nat.reduceEqDiff, reduceIte, AR, hB1.cell, hB2.cell, hB3.cell] <;> rfl) (by rw [bl72]; simp [Instr.fill, Value.cells]; rfl)) ?_
      refine WL.allocSt zr72 sz72 (fun u => by simp only [EN, Nat.reduceEqDiff, reduceIte, Value.cells, hB1.cell, hB2.cell, hB3.cell]; rfl) ⟨rfl, rfl⟩ (by simp [Value.oneCell']) ?_
      intro h4 B4 hx4 hlt4 hB4
      replace hB1 := hB1.ext hx4
      replace hB2 := hB2.ext hx4
      replace hB3 := hB3.ext hx4
      replace ho := ho.ext hx4
      replace hMr := hMr.ext hx4
      refine WL.nil ?_
      refine th_norm ?_
      refine hx_seq ?_
      refine hx_seq ?_
      refine hx_region ?_
      have hX5 := hXe.trans (hx4); replace hMr := hMr.mono (F' := fun g => h.size ≤ g ∧ g < B4) (fun c hc => ⟨hc.1, by omega⟩)
      refine WL.qq (by simp only [EN, Nat.reduceEqDiff, reduceIte, qv_assign, hB1.cell, hB2.cell, hB3.cell, hB4.cell]; rfl) ?_
      refine WL.nil ?_
      refine th_norm ?_
      refine hx_block ?_
      refine hx_loopG [6, 7, 30, 31, 32, 33, 34, 35, 36, 37, 38, 39, 40, 41, 42, 43, 44, 45, 46, 47, 48, 49, 50, 51, 52, 53, 54, 55, 56, 57, 58, 59, 60] (fun k e hL1 => ∃ (j : Nat) (v : Value), q.ps.length - j = k ∧ (j ≤ q.ps.length) ∧ (Ext h hL1) ∧ (Has hL1 B1 (.cells (bdL x).toArray 45)) ∧ (Has hL1 B2 (.cells #[iV 0, iV 0, iV 0, .slice none 0 0] tyB)) ∧ (Has hL1 B3 (.cells #[iV x.s, iV x.day, iV x.mn, vo] tyB)) ∧ (Own hL1 h.size tyPt 2 vo M.length (M.flatMap ptL)) ∧ (PQs tyPo (fun g => h.size ≤ g ∧ g < B4) hL1 M) ∧ (Has hL1 B4 (.cells #[.string q.r, v] tyPt)) ∧ (Own hL1 B4 tyPo 4 v j ((q.ps.take j).flatMap poL)) ∧ e 6 = .int .i64 j) _ ⟨0, .slice none 0 0, rfl, ?_, ?_, ?_, ?_, ?_, ?_, ?_, ?_, ?_, ?_⟩ ?_
      · omega
      · exact hX5
      · exact hB1
      · exact hB2
      · exact hB3
      · exact ho
      · exact hMr
      · exact hB4
      · exact Own.nil
      · simp only [EN, Nat.reduceEqDiff, reduceIte, k1_0, k2_0, k3_0, i4_0, hB1.cell, hB2.cell, hB3.cell, hB4.cell] <;> rfl
      ·
        rintro k e1L hL1 hfr1 ⟨j, v, rfl, hj, hXe, hB1, hB2, hB3, ho, hMr, hB4, hv, i6_1⟩
        have k1_1 := hfr1 1 rfl; try simp only [EN, Nat.reduceEqDiff, reduceIte, k1_0, hB1.cell, hB2.cell, hB3.cell, hB4.cell] at k1_1
        have k2_1 := hfr1 2 rfl; try simp only [EN, Nat.reduceEqDiff, reduceIte, k2_0, hB1.cell, hB2.cell, hB3.cell, hB4.cell] at k2_1
        have k3_1 := hfr1 3 rfl; try simp only [EN, Nat.reduceEqDiff, reduceIte, k3_0, hB1.cell, hB2.cell, hB3.cell, hB4.cell] at k3_1
        have k4_1 := hfr1 4 rfl; try simp only [EN, Nat.reduceEqDiff, reduceIte, i4_0, hB1.cell, hB2.cell, hB3.cell, hB4.cell] at k4_1
        have k5_1 := hfr1 5 rfl; try simp only [EN, Nat.reduceEqDiff, reduceIte, hB1.cell, hB2.cell, hB3.cell, hB4.cell] at k5_1
        obtain ⟨b1, o1, ha1, _, hp0, hp1⟩ := pt_rd (kbi.1.ext hXe) hq
        refine hx_seq ?_
        refine hx_seq ?_
        refine hx_region ?_
        refine WL.qq (by simp only [EN, Nat.reduceEqDiff, reduceIte, qv_move, i6_1, hB1.cell, hB2.cell, hB3.cell, hB4.cell]; rfl) ?_
        refine WL.qq (by simp only [EN, Nat.reduceEqDiff, reduceIte, qv_fieldAddr, fa45_3, Nat.zero_add, Nat.reduceAdd, k1_1, hB1.cell, hB2.cell, hB3.cell, hB4.cell]; rfl) ?_
        refine WL.qq (by simp only [EN, Nat.reduceEqDiff, reduceIte, qv_load, ld43, readN, AR, Nat.zero_add, Nat.reduceAdd, hB1.cell, hB2.cell, hB3.cell, hB4.cell]; rfl) ?_
        refine WL.qq (by simp only [EN, Nat.reduceEqDiff, reduceIte, qv_move, k4_1, hB1.cell, hB2.cell, hB3.cell, hB4.cell]; rfl) ?_
        refine WL.qq (by simp only [EN, Nat.reduceEqDiff, reduceIte, qv_indexAddr, hB1.cell, hB2.cell, hB3.cell, hB4.cell, ha1]; (try simp (disch := omega) only [ix43, Int.toNat_natCast]); rfl) ?_
        refine WL.qq (by simp only [EN, Nat.reduceEqDiff, reduceIte, qv_fieldAddr, fa79_1, Nat.zero_add, Nat.reduceAdd, hB1.cell, hB2.cell, hB3.cell, hB4.cell]; rfl) ?_
        refine WL.qq (by simp only [EN, Nat.reduceEqDiff, reduceIte, k1_1, k2_1, k3_1, k4_1, k5_1, i6_1, hB1.cell, hB2.cell, hB3.cell, hB4.cell, qv_load, ld77, Int.toNat_natCast, hp1]; rfl) ?_
        refine WL.qq (by simp only [EN, Nat.reduceEqDiff, reduceIte, qv_len, ln77, AR, hB1.cell, hB2.cell, hB3.cell, hB4.cell]; rfl) ?_
        refine WL.qq (by simp only [EN, Nat.reduceEqDiff, reduceIte, qv_binOp, binv_lss, hB1.cell, hB2.cell, hB3.cell, hB4.cell]; rfl) ?_
        refine WL.nil ?_
        refine th_norm ?_
        refine hx_cond (by simp only [EN, Nat.reduceEqDiff, reduceIte, hB1.cell, hB2.cell, hB3.cell, hB4.cell]; rfl) (fun hct38 => ?_) (fun hct38 => ?_)
        ·
          try simp only [BD] at hct38
          obtain ⟨y, hy⟩ := atG (l := q.ps) (i := j) (by omega)
          obtain ⟨b2, o2, ha2, hr4, _⟩ := po_rd (hqi.ext hXe) hy
          refine hx_skip ?_
          refine th_norm ?_
          refine hx_seq ?_
          refine hx_block ?_
          refine hx_seq ?_
          refine hx_region ?_
          refine WL.qq (by simp only [EN, Nat.reduceEqDiff, reduceIte, qv_fieldAddr, fa45_3, Nat.zero_add, Nat.reduceAdd, k1_1, hB1.cell, hB2.cell, hB3.cell, hB4.cell]; rfl) ?_
          refine WL.qq (by simp only [EN, Nat.reduceEqDiff, reduceIte, qv_load, ld43, readN, AR, Nat.zero_add, Nat.reduceAdd, hB1.cell, hB2.cell, hB3.cell, hB4.cell]; rfl) ?_
          refine WL.qq (by simp only [EN, Nat.reduceEqDiff, reduceIte, qv_move, k4_1, hB1.cell, hB2.cell, hB3.cell, hB4.cell]; rfl) ?_
          refine WL.qq (by simp only [EN, Nat.reduceEqDiff, reduceIte, qv_indexAddr, hB1.cell, hB2.cell, hB3.cell, hB4.cell, ha1]; (try simp (disch := omega) only [ix43, Int.toNat_natCast]); rfl) ?_
          refine WL.qq (by simp only [EN, Nat.reduceEqDiff, reduceIte, qv_fieldAddr, fa79_1, Nat.zero_add, Nat.reduceAdd, hB1.cell, hB2.cell, hB3.cell, hB4.cell]; rfl) ?_
          refine WL.qq (by simp only [EN, Nat.reduceEqDiff, reduceIte, k1_1, k2_1, k3_1, k4_1, k5_1, i6_1, hB1.cell, hB2.cell, hB3.cell, hB4.cell, qv_load, ld77, Int.toNat_natCast, hp1]; rfl) ?_
          refine WL.qq (by simp only [EN, Nat.reduceEqDiff, reduceIte, qv_move, i6_1, hB1.cell, hB2.cell, hB3.cell, hB4.cell]; rfl) ?_
          refine WL.qq (by simp only [EN, Nat.reduceEqDiff, reduceIte, qv_indexAddr, hB1.cell, hB2.cell, hB3.cell, hB4.cell, ha2]; (try simp (disch := omega) only [ix77, Int.toNat_natCast]); rfl) ?_
          refine WL.qq (by simp only [EN, Nat.reduceEqDiff, reduceIte, k1_1, k2_1, k3_1, k4_1, k5_1, i6_1, hB1.cell, hB2.cell, hB3.cell, hB4.cell, qv_load, ld76, Int.toNat_natCast, hr4]; rfl) ?_
          refine WL.allocSt zr76 sz76 (fun u => by simp only [EN, Nat.reduceEqDiff, reduceIte, Value.cells, hB1.cell, hB2.cell, hB3.cell, hB4.cell]; rfl) ⟨rfl, rfl⟩ (by simp [Value.oneCell']) ?_
          intro h5 B5 hx5 hlt5 hB5
          replace hB1 := hB1.ext hx5
          replace hB2 := hB2.ext hx5
          replace hB3 := hB3.ext hx5
          replace hB4 := hB4.ext hx5
          replace ho := ho.ext hx5
          replace hMr := hMr.ext hx5
          replace hv := hv.ext hx5
          refine WL.nil ?_
          refine th_norm ?_
          apply hx_draw2 Rel.grows [9, 10, 11] [4, 8] [(4, Spec.is _), (8, (Spec.ls (Array.size h5) (poL y).toArray tyPo 1))] rfl (by decide +kernel) rfl
          have hX9 := hXe.trans (hx5); have w9 := hX9.size
          refine LD.qq rfl rfl (by simp only [EN, Nat.reduceEqDiff, reduceIte, qv_fieldAddr, fa72_1, Nat.zero_add, Nat.reduceAdd, k5_1, hB1.cell, hB2.cell, hB3.cell, hB4.cell, hB5.cell]; rfl) ?_
          refine LD.qq rfl rfl (by simp only [EN, Nat.reduceEqDiff, reduceIte, qv_load, ld70, readN, AR, Nat.zero_add, Nat.reduceAdd, hB1.cell, hB2.cell, hB3.cell, hB4.cell, hB5.cell]; rfl) ?_
          refine LD.qq rfl rfl (by simp only [EN, Nat.reduceEqDiff, reduceIte, qv_fieldAddr, fa76_0, Nat.zero_add, Nat.reduceAdd, hB1.cell, hB2.cell, hB3.cell, hB4.cell, hB5.cell]; rfl) ?_
          refine LD.qq rfl rfl (by simp only [EN, Nat.reduceEqDiff, reduceIte, qv_load, ld24, readN, AR, Nat.zero_add, Nat.reduceAdd, hB1.cell, hB2.cell, hB3.cell, hB4.cell, hB5.cell]; rfl) ?_
          refine LD.ck rfl rfl Try.call17 (by intro hD hr; have hx : Ext _ _ := hr; have hB1 := hB1.ext hx; have hB2 := hB2.ext hx; have hB3 := hB3.ext hx; have hB4 := hB4.ext hx; have ho := ho.ext hx; have hMr := hMr.ext hx; have hv := hv.ext hx; have hB5 := hB5.ext hx; simp only [EN, Nat.reduceEqDiff, reduceIte, AR, hB1.cell, hB2.cell, hB3.cell, hB4.cell, hB5.cell]; exact c_account y.c _) ?_
          refine LD.qq rfl rfl (by simp only [EN, Nat.reduceEqDiff, reduceIte, qv_fieldAddr, fa76_1, Nat.zero_add, Nat.reduceAdd, hB1.cell, hB2.cell, hB3.cell, hB4.cell, hB5.cell]; rfl) ?_
          refine LD.qq rfl rfl (by simp only [EN, Nat.reduceEqDiff, reduceIte, qv_load, ld2, readN, AR, Nat.zero_add, Nat.reduceAdd, hB1.cell, hB2.cell, hB3.cell, hB4.cell, hB5.cell]; rfl) ?_
          refine LD.qq rfl rfl (by refine qv_bld (by simp only [EN, Nat.reduceEqDiff, reduceIte, AR, hB1.cell, hB2.cell, hB3.cell, hB4.cell, hB5.cell] <;> rfl) (by rw [bl74]; simp [Instr.fill, Value.cells]; rfl)) ?_
          refine LD.es rfl rfl (by intro hD hr hf; have hx : Ext _ _ := hr; have hB1 := hB1.ext hx; have hB2 := hB2.ext hx; have hB3 := hB3.ext hx; have hB4 := hB4.ext hx; have ho := ho.ext hx; have hMr := hMr.ext hx; have hv := hv.ext hx; have hB5 := hB5.ext hx; exact e_lit1 (N := Array.size h5) hx.size Try.underlying70 sz74 zr74 (by decide) (by simp only [EN, Nat.reduceEqDiff, reduceIte, k1_1, k2_1, k3_1, k4_1, k5_1, i6_1, hB1.cell, hB2.cell, hB3.cell, hB4.cell, hB5.cell, Value.cells] <;> rfl) rfl) ?_
          intro u10_8 w10_8
          obtain ⟨B33, hlt33, rfl⟩ := w10_8
          refine LD.skip rfl ?_
          refine LD.skip rfl ?_
          refine LD.skip rfl ?_
          refine LD.nil ?_
          rintro h6 hx6 hF10
          replace hx6 : Ext _ _ := hx6
          replace hB1 := hB1.ext hx6
          replace hB2 := hB2.ext hx6
          replace hB3 := hB3.ext hx6
          replace hB4 := hB4.ext hx6
          replace ho := ho.ext hx6
          replace hMr := hMr.ext hx6
          replace hv := hv.ext hx6
          replace hB5 := hB5.ext hx6
          have hB33 := hF10 (8, .slice (some ⟨B33, 0, none⟩) 1 1) (by simp) _ rfl B33 rfl
          have w4b := (Array.getElem?_eq_some_iff.1 hB4).1
          refine WL.appG (f := poL) (base := B4) (n := j) (xs := (q.ps.take j).flatMap poL) (bytes := 48) (sz := 4) (L := [y]) Try.underlying70 (inf_of Try.type74) rfl rfl rfl rfl (by decide) (fun _ => rfl) poL_one (by simp only [EN, Nat.reduceEqDiff, reduceIte, k1_1, k2_1, k3_1, k4_1, k5_1, i6_1, hB1.cell, hB2.cell, hB3.cell, hB4.cell, hB5.cell] <;> rfl) hv (by simp only [EN, Nat.reduceEqDiff, reduceIte, k1_1, k2_1, k3_1, k4_1, k5_1, i6_1, hB1.cell, hB2.cell, hB3.cell, hB4.cell, hB5.cell] <;> rfl) rfl (by intro hh; cases hh) (slG_has (f := poL) (sz := 4) (fun _ => rfl) hB33 rfl) (by simp only [maxLen, List.length_singleton]; omega) (by rw [List.length_singleton]; omega) (by omega) ?_
          intro h40 v40 hv40 hg40 hpl40 hn40
          have hB440 := hB4.gr hg40 (hv.ncell hB4 (by decide))
          refine WL.qq (by simp only [EN, Nat.reduceEqDiff, reduceIte, qv_fieldAddr, fa72_1, Nat.zero_add, Nat.reduceAdd, k5_1, hB1.cell, hB2.cell, hB3.cell, hB4.cell, hB5.cell]; rfl) ?_
          refine WL.store (by simp only [EN, Nat.reduceEqDiff, reduceIte, k1_1, k2_1, k3_1, k4_1, k5_1, i6_1, hB1.cell, hB2.cell, hB3.cell, hB4.cell, hB5.cell] <;> rfl) sz70 (by simp only [EN, Nat.reduceEqDiff, reduceIte, k1_1, k2_1, k3_1, k4_1, k5_1, i6_1, hB1.cell, hB2.cell, hB3.cell, hB4.cell, hB5.cell]; exact hv40.cells) rfl hB440 (by simp) (by simp [hv40.one]) ?_
          intro h41 hw41
          have hv41 := hv40.keep (h' := h41) (fun c hc => hw41.same c fun hh => by subst hh; exact hv40.ncell hB440 (by decide) hc)
          have hB441 := hw41.at_
          simp only [splc, List.take_succ_cons, List.take_zero, List.take_nil, List.drop_succ_cons, List.drop_zero, List.drop_nil, List.cons_append, List.nil_append, List.length_cons, List.length_nil, Nat.zero_add, Nat.add_zero, Nat.reduceAdd, List.append_nil] at hB441
          have hM41 := (hMr.gr hg40 hv).wr hw41 hB440 (by decide)
          have ho41 := (ho.keep (h' := h40) (fun c hc => hg40.same c (ho.block c hc).2 (fun hh => by obtain ⟨cu, hcu⟩ := hv.typ c hh; exact ho.ncell hcu (by decide) hc))).keep (h' := h41) (fun c hc => hw41.same c (by have := w5 c hc; omega))
          refine WL.nil ?_
          refine bl_norm ?_
          refine th_norm ?_
          refine hx_region ?_
          refine WL.qq (by simp only [EN, Nat.reduceEqDiff, reduceIte, qv_move, i6_1, hB1.cell, hB2.cell, hB3.cell, hB4.cell, hB5.cell]; rfl) ?_
          refine WL.qq (by simp only [EN, Nat.reduceEqDiff, reduceIte, qv_binOp, binv_add, hB1.cell, hB2.cell, hB3.cell, hB4.cell, hB5.cell]; (try simp (disch := omega) only [w64, w8, wu64]); rfl) ?_
          refine WL.qq (by simp only [EN, Nat.reduceEqDiff, reduceIte, qv_assign, hB1.cell, hB2.cell, hB3.cell, hB4.cell, hB5.cell]; rfl) ?_
          refine WL.nil ?_
          refine th_norm ?_
          refine ⟨rfl, ?_, _, ?_, j + 1, v40, rfl, ?_, ?_, ?_, ?_, ?_, ?_, ?_, ?_, ?_, ?_⟩  -- again 0 of loop 1
          · (repeat (first | exact Fr.refl _ _ | refine Fr.set rfl ?_ | refine Fr.put rfl ?_ | with_reducible refine Fr.put0 ?_))
          · omega
          · omega
          · exact hw41.ext (hg40.ext (hX9.trans hx6) (fun c hc => by have := (hv.block c hc).1; omega)) (by omega)
          · exact (hB1.gr hg40 (hv.ncell hB1 (by decide))).wr hw41 (by omega)
          · exact (hB2.gr hg40 (hv.ncell hB2 (by decide))).wr hw41 (by omega)
          · exact (hB3.gr hg40 (hv.ncell hB3 (by decide))).wr hw41 (by omega)
          · exact ho41
          · exact hM41
          · exact hB441
          · rw [List.take_add_one, hy, List.flatMap_append]; exact hv41
          · simp only [EN, Nat.reduceEqDiff, reduceIte, k1_1, k2_1, k3_1, k4_1, k5_1, i6_1, hB1.cell, hB2.cell, hB3.cell, hB4.cell, hB5.cell] <;> first | rfl | (congr 1; omega)
        ·
          try simp only [BD] at hct38
          obtain rfl : j = q.ps.length := (by omega)
          rw [List.take_length] at hv
          obtain ⟨a9, c9, rfl, hle9, _, _⟩ := hv.shape
          have hsq := SlR.own (f := poL) (sz := 4) (fun _ => rfl) hv rfl; have hbq := hv.block
          refine hx_exit ?_
          refine th_exit ?_
          refine th_exit ?_
          refine bl_hit ?_
          refine th_norm ?_
          refine hx_region ?_
          refine WL.qq (by simp only [EN, Nat.reduceEqDiff, reduceIte, qv_fieldAddr, fa55_2, Nat.zero_add, Nat.reduceAdd, k3_1, hB1.cell, hB2.cell, hB3.cell, hB4.cell]; rfl) ?_
          refine WL.qq (by simp only [EN, Nat.reduceEqDiff, reduceIte, qv_load, ld53, readN, AR, Nat.zero_add, Nat.reduceAdd, hB1.cell, hB2.cell, hB3.cell, hB4.cell]; rfl) ?_
          refine WL.qq (by simp only [EN, Nat.reduceEqDiff, reduceIte, qv_load, ld72, readN, AR, Nat.zero_add, Nat.reduceAdd, k5_1, hB1.cell, hB2.cell, hB3.cell, hB4.cell]; rfl) ?_
          refine WL.push (bytes := 40) Try.underlying53 (inf_of Try.type72) rfl rfl rfl rfl (by decide) (by decide) sz72 zr72 (fun u => by simp only [EN, Nat.reduceEqDiff, reduceIte, k1_1, k2_1, k3_1, k4_1, k5_1, i6_1, hB1.cell, hB2.cell, hB3.cell, hB4.cell]) ho (c := (ptL ⟨q.r, a9, q.ps, c9⟩).toArray) (by simp only [EN, Nat.reduceEqDiff, reduceIte, k1_1, k2_1, k3_1, k4_1, k5_1, i6_1, hB1.cell, hB2.cell, hB3.cell, hB4.cell, Value.cells] <;> rfl) rfl (by simp [Value.oneCell']) (by simp only [maxLen]; omega) (by omega) hXe.size ?_
          intro h50 v50 B50 ho50 hg50 hpl50 hn50
          have hB350 := hB3.gr hg50 (ho.ncell hB3 (by decide))
          skip
          refine WL.qq (by simp only [EN, Nat.reduceEqDiff, reduceIte, qv_fieldAddr, fa55_2, Nat.zero_add, Nat.reduceAdd, k3_1, hB1.cell, hB2.cell, hB3.cell, hB4.cell]; rfl) ?_
          refine WL.store (by simp only [EN, Nat.reduceEqDiff, reduceIte, k1_1, k2_1, k3_1, k4_1, k5_1, i6_1, hB1.cell, hB2.cell, hB3.cell, hB4.cell] <;> rfl) sz53 (by simp only [EN, Nat.reduceEqDiff, reduceIte, k1_1, k2_1, k3_1, k4_1, k5_1, i6_1, hB1.cell, hB2.cell, hB3.cell, hB4.cell]; exact ho50.cells) rfl hB350 (by simp) (by simp [ho50.one]) ?_
          intro h51 hw51
          have ho51 := ho50.keep (h' := h51) (fun c hc => hw51.same c fun hh => by subst hh; exact ho50.ncell hB350 (by decide) hc)
          have hB351 := hw51.at_
          simp only [splc, List.take_succ_cons, List.take_zero, List.take_nil, List.drop_succ_cons, List.drop_zero, List.drop_nil, List.cons_append, List.nil_append, List.length_cons, List.length_nil, Nat.zero_add, Nat.add_zero, Nat.reduceAdd, List.append_nil] at hB351
          have hall : PQs tyPo (fun g => h.size ≤ g) hL1 (M ++ [⟨q.r, a9, q.ps, c9⟩]) := (hMr.mono (fun c hc => hc.1)).snoc ⟨hsq, fun c off ha => (by have := (hbq c (by rw [show a9 = some ⟨c, off, none⟩ from ha]; rfl)).1; omega), fun c off ha => hv.off0 c off ha⟩
          have hall51 := (hall.gro hg50 ho (by decide)).wr hw51 hB350 (by decide)
          refine WL.nil ?_
          refine bl_norm ?_
          refine th_norm ?_
          refine hx_region ?_
          refine WL.qq (by simp only [EN, Nat.reduceEqDiff, reduceIte, qv_move, k4_1, hB1.cell, hB2.cell, hB3.cell, hB4.cell]; rfl) ?_
          refine WL.qq (by simp only [EN, Nat.reduceEqDiff, reduceIte, qv_binOp, binv_add, hB1.cell, hB2.cell, hB3.cell, hB4.cell]; (try simp (disch := omega) only [w64, w8, wu64]); rfl) ?_
          refine WL.qq (by simp only [EN, Nat.reduceEqDiff, reduceIte, qv_assign, hB1.cell, hB2.cell, hB3.cell, hB4.cell]; rfl) ?_
          refine WL.nil ?_
          refine th_norm ?_
          refine ⟨rfl, ?_, _, ?_, i + 1, M ++ [⟨q.r, a9, q.ps, c9⟩], v50, rfl, ?_, ?_, ?_, ?_, ?_, ?_, ?_, ?_, ?_, ?_⟩  -- again 0 of loop 0
          · (repeat (first | exact Fr.refl _ _ | refine Fr.set rfl ?_ | refine Fr.put rfl ?_ | with_reducible refine Fr.put0 ?_ | refine Fr.trans ?_ (Fr.of hfr1 rfl)))
          · omega
          · omega
          · exact hw51.ext (hg50.ext hXe (fun c hc => (ho.block c hc).1)) (by omega)
          · exact (hB1.gr hg50 (ho.ncell hB1 (by decide))).wr hw51 (by omega)
          · exact (hB2.gr hg50 (ho.ncell hB2 (by decide))).wr hw51 (by omega)
          · exact hB351
          · rw [List.length_append, List.flatMap_append]; exact ho51
          · rw [List.length_append, hMl]; rfl
          · rw [List.map_append, hM, List.take_add_one, hq, List.map_append]; rfl
          · exact hall51
          · simp only [EN, Nat.reduceEqDiff, reduceIte, k1_1, k2_1, k3_1, k4_1, k5_1, i6_1, hB1.cell, hB2.cell, hB3.cell, hB4.cell] <;> first | rfl | (congr 1; omega)
    ·
      try simp only [BD] at hct20
      have hie2 : i = x.ps.length := (by omega)
      have hM9 : M.map PX.pt = x.ps.map PX.pt := (by rw [hM, hie2, List.take_length])
      obtain ⟨a8, c8, rfl, _, _⟩ := ho.shape
      refine hx_exit ?_
      refine th_exit ?_
      refine th_exit ?_
      refine bl_hit ?_
      refine th_norm ?_
      refine hx_seq ?_
      refine hx_region ?_
      refine WL.qq (by simp only [EN, Nat.reduceEqDiff, reduceIte, qv_load, ld55, readN, AR, Nat.zero_add, Nat.reduceAdd, k3_0, hB1.cell, hB2.cell, hB3.cell]; rfl) ?_
      refine WL.store (by simp only [EN, Nat.reduceEqDiff, reduceIte, k2_0, hB1.cell, hB2.cell, hB3.cell] <;> rfl) sz55 (by simp only [EN, Nat.reduceEqDiff, reduceIte, Value.cells, k2_0, hB1.cell, hB2.cell, hB3.cell] <;> rfl) rfl hB2 (by first | (simp [true_and]; done) | (simp [true_and]; omega) | omega) (by simp [Value.oneCell']) ?_
      intro h7 hw7
      have ho8 := ho.keep (fun c hc => hw7.same c (fun hh => by subst hh; exact ho.ncell hB2 (by decide) hc))
      have hMr8 := hMr.wr hw7 hB2 (by decide)
      have hX8 := hw7.ext hXe (by omega)
      replace hB2 := hw7.at_
      simp only [splc, List.take_succ_cons, List.take_zero, List.take_nil, List.drop_succ_cons, List.drop_zero, List.drop_nil, List.cons_append, List.nil_append, List.length_cons, List.length_nil, Nat.zero_add, Nat.add_zero, Nat.reduceAdd, List.append_nil] at hB2
      refine WL.nil ?_
      refine th_norm ?_
      refine hx_ret ?_
      refine fin_ret [.cell 2 55] rfl rfl (by simp only [EN, Nat.reduceEqDiff, reduceIte, resv, ld55, readN, AR, Nat.zero_add, Nat.reduceAdd, k1_0, k2_0, k3_0, i4_0, hB1.cell, hB2.cell, hB3.cell]; rfl) ?_  -- ret 0 r12
      exact ⟨hX8, ⟨x.s, x.day, x.mn, a8, M, c8⟩, rfl, by simp only [BX.bd]; rw [hM9], ⟨SlR.own (f := ptL) (sz := 2) (fun _ => rfl) ho8 rfl, fun c off ha => (ho8.block c (by rw [show a8 = some ⟨c, off, none⟩ from ha]; rfl)).1, fun m hm => ⟨(hMr8 m hm).sl, (hMr8 m hm).f, (hMr8 m hm).z⟩⟩⟩
end GL
set_option linter.unusedSimpArgs false
set_option linter.unusedVariables false
set_option linter.unnecessarySimpa false
namespace GL
open Go Go.Proofs
set_option maxRecDepth 8000
set_option maxHeartbeats 4000000 in
theorem c_back (x : BX) (hlen : x.ps.length ≤ 1000000 ∧ ∀ p ∈ x.ps, p.ps.length ≤ 1000000) {h : Heap} (hbi : BXin h x) :
    HCalls Try.prog 26 #[.agg (bdL x).toArray] h fun v h' => Ext h h' ∧ ∃ y : BX, v = .agg (bdL y).toArray ∧ y.bd = x.bd ∧ BXin h' y := by
  have kbi := hbi
  refine hcalls2 Try.func26 rfl (by decide +kernel) (by simp only [Try.ntmps26]; exact of_decide_eq_true rfl) ?_
  intro e hin
  have e0 := hin 0 _ rfl
  refine hx_seq ?_
  refine hx_region ?_
  refine WL.box2 (by simp only [EN, Nat.reduceEqDiff, reduceIte, Value.cells, e0]; rfl) ?_
  intro h1 B1 hx1 hlt1 hB1
  have k1 := (Array.getElem?_eq_some_iff.1 hB1).1; have kz1 := hx1.size
  refine WL.alloc2 zr45 ?_
  intro h2 B2 hx2 hlt2 hB2
  replace hB1 := hB1.ext hx2
  simp only [Value.cells] at hB2
  refine WL.nil ?_
  refine th_norm ?_
  refine hx_seq ?_
  refine hx_region ?_
  have k2 := (Array.getElem?_eq_some_iff.1 hB2).1; have k1b := (Array.getElem?_eq_some_iff.1 hB1).1; have kz2 := Ext.size ((hx1).trans (hx2))
  refine WL.qq (by simp only [EN, Nat.reduceEqDiff, reduceIte, qv_fieldAddr, fa55_0, Nat.zero_add, Nat.reduceAdd, hB1.cell, hB2.cell]; rfl) ?_
  refine WL.qq (by simp only [EN, Nat.reduceEqDiff, reduceIte, qv_load, ld3, readN, AR, Nat.zero_add, Nat.reduceAdd, hB1.cell, hB2.cell]; rfl) ?_
  refine WL.qq (by simp only [EN, Nat.reduceEqDiff, reduceIte, qv_fieldAddr, fa55_1, Nat.zero_add, Nat.reduceAdd, hB1.cell, hB2.cell]; rfl) ?_
  refine WL.qq (by simp only [EN, Nat.reduceEqDiff, reduceIte, qv_fieldAddr, fa41_0, Nat.zero_add, Nat.reduceAdd, hB1.cell, hB2.cell]; rfl) ?_
  refine WL.qq (by simp only [EN, Nat.reduceEqDiff, reduceIte, qv_load, ld3, readN, AR, Nat.zero_add, Nat.reduceAdd, hB1.cell, hB2.cell]; rfl) ?_
  refine WL.qq (by simp only [EN, Nat.reduceEqDiff, reduceIte, qv_fieldAddr, fa55_1, Nat.zero_add, Nat.reduceAdd, hB1.cell, hB2.cell]; rfl) ?_
  refine WL.qq (by simp only [EN, Nat.reduceEqDiff, reduceIte, qv_fieldAddr, fa41_1, Nat.zero_add, Nat.reduceAdd, hB1.cell, hB2.cell]; rfl) ?_
  refine WL.qq (by simp only [EN, Nat.reduceEqDiff, reduceIte, qv_load, ld3, readN, AR, Nat.zero_add, Nat.reduceAdd, hB1.cell, hB2.cell]; rfl) ?_
  refine WL.qq (by refine qv_bld (by simp only [EN, Nat.reduceEqDiff, reduceIte, AR, hB1.cell, hB2.cell] <;> rfl) (by rw [bl45]; simp [Instr.fill, Value.cells]; rfl)) ?_
  refine WL.allocSt zr45 sz45 (fun u => by simp only [EN, Nat.reduceEqDiff, reduceIte, Value.cells, hB1.cell, hB2.cell]; rfl) ⟨rfl, rfl⟩ (by simp [Value.oneCell']) ?_
  intro h3 B3 hx3 hlt3 hB3
  replace hB1 := hB1.ext hx3
  replace hB2 := hB2.ext hx3
  refine WL.nil ?_
  refine th_norm ?_
  refine hx_seq ?_
  refine hx_seq ?_
  refine hx_region ?_
  refine WL.qq (by simp only [EN, Nat.reduceEqDiff, reduceIte, qv_assign, hB1.cell, hB2.cell, hB3.cell]; rfl) ?_
  refine WL.nil ?_
  refine th_norm ?_
  refine hx_block ?_
  refine hx_loopG [4, 5, 6, 7, 17, 18, 19, 20, 21, 22, 23, 24, 25, 26, 27, 28, 29, 30, 31, 32, 33, 34, 35, 36, 37, 38, 39, 40, 41, 42, 43, 44, 45, 46, 47, 48, 49, 50, 51, 52, 53, 54, 55, 56, 57, 58, 59, 60, 61, 62, 63, 64, 65, 66, 67, 68, 69, 70, 71, 72, 73, 74] (fun k e hL0 => ∃ (i : Nat) (M : List PX) (vo : Value), x.ps.length - i = k ∧ (i ≤ x.ps.length) ∧ (Ext h hL0) ∧ (Has hL0 B1 (.cells (bdL x).toArray tyB)) ∧ (Has hL0 B2 (.cells #[iV 0, iV 0, iV 0, .slice none 0 0] 45)) ∧ (Has hL0 B3 (.cells #[iV x.s, iV x.day, iV x.mn, vo] 45)) ∧ (Own hL0 h.size 79 2 vo M.length (M.flatMap ptL)) ∧ (M.length = i) ∧ (M.map PX.pt = (x.ps.take i).map PX.pt) ∧ (PQs 76 (fun g => h.size ≤ g) hL0 M) ∧ e 4 = .int .i64 i) _ ⟨0, [], .slice none 0 0, rfl, ?_, ?_, ?_, ?_, ?_, ?_, ?_, ?_, ?_, ?_⟩ ?_
  · omega
  · exact ((hx1).trans ((hx2).trans (hx3)))
  · exact hB1
  · exact hB2
  · exact hB3
  · exact Own.nil
  · rfl
  · rfl
  · intro m hm; cases hm
  · simp only [EN, Nat.reduceEqDiff, reduceIte, e0, hB1.cell, hB2.cell, hB3.cell] <;> rfl
  ·
    rintro k e0L hL0 hfr0 ⟨i, M, vo, rfl, hi, hXe, hB1, hB2, hB3, ho, hMl, hM, hMr, i4_0⟩
    have k1_0 := hfr0 1 rfl; try simp only [EN, Nat.reduceEqDiff, reduceIte, hB1.cell, hB2.cell, hB3.cell] at k1_0
    have k2_0 := hfr0 2 rfl; try simp only [EN, Nat.reduceEqDiff, reduceIte, hB1.cell, hB2.cell, hB3.cell] at k2_0
    have k3_0 := hfr0 3 rfl; try simp only [EN, Nat.reduceEqDiff, reduceIte, hB1.cell, hB2.cell, hB3.cell] at k3_0
    refine hx_seq ?_
    refine hx_seq ?_
    refine hx_region ?_
    refine WL.qq (by simp only [EN, Nat.reduceEqDiff, reduceIte, qv_move, i4_0, hB1.cell, hB2.cell, hB3.cell]; rfl) ?_
    refine WL.qq (by simp only [EN, Nat.reduceEqDiff, reduceIte, qv_fieldAddr, fa55_2, Nat.zero_add, Nat.reduceAdd, k1_0, hB1.cell, hB2.cell, hB3.cell]; rfl) ?_
    refine WL.qq (by simp only [EN, Nat.reduceEqDiff, reduceIte, qv_load, ld53, readN, AR, Nat.zero_add, Nat.reduceAdd, hB1.cell, hB2.cell, hB3.cell]; rfl) ?_
    refine WL.qq (by simp only [EN, Nat.reduceEqDiff, reduceIte, qv_len, ln53, AR, hB1.cell, hB2.cell, hB3.cell]; rfl) ?_
    refine WL.qq (by simp only [EN, Nat.reduceEqDiff, reduceIte, qv_binOp, binv_lss, hB1.cell, hB2.cell, hB3.cell]; rfl) ?_
    refine WL.nil ?_
    refine th_norm ?_
    refine hx_cond (by simp only [EN, Nat.reduceEqDiff, reduceIte, hB1.cell, hB2.cell, hB3.cell]; rfl) (fun hct21 => ?_) (fun hct21 => ?_)
    ·
      try simp only [BD] at hct21
      obtain ⟨q, hq⟩ := atG (l := x.ps) (i := i) (by omega)
      obtain ⟨b1, o1, ha1, _, hp0, hp1⟩ := pt_rd (kbi.1.ext hXe) hq
      have hql := hlen.2 q (List.mem_of_getElem? hq); have hqi : SlG 4 poL h q.a q.ps := kbi.2 q (List.mem_of_getElem? hq)
      have w1 := (Array.getElem?_eq_some_iff.1 hB1).1; have w2 := (Array.getElem?_eq_some_iff.1 hB2).1; have w3 := (Array.getElem?_eq_some_iff.1 hB3).1; have w4 := hXe.size; have w5 := ho.block
      replace hMr := hMr.lt
      refine hx_skip ?_
      refine th_norm ?_
      refine hx_seq ?_
      refine hx_block ?_
      refine hx_seq ?_
      refine hx_region ?_
      refine WL.qq (by simp only [EN, Nat.reduceEqDiff, reduceIte, qv_fieldAddr, fa55_2, Nat.zero_add, Nat.reduceAdd, k1_0, hB1.cell, hB2.cell, hB3.cell]; rfl) ?_
      refine WL.qq (by simp only [EN, Nat.reduceEqDiff, reduceIte, qv_load, ld53, readN, AR, Nat.zero_add, Nat.reduceAdd, hB1.cell, hB2.cell, hB3.cell]; rfl) ?_
      refine WL.qq (by simp only [EN, Nat.reduceEqDiff, reduceIte, qv_move, i4_0, hB1.cell, hB2.cell, hB3.cell]; rfl) ?_
      refine WL.qq (by simp only [EN, Nat.reduceEqDiff, reduceIte, qv_indexAddr, hB1.cell, hB2.cell, hB3.cell, ha1]; (try simp (disch := omega) only [ix53, Int.toNat_natCast]); rfl) ?_
      refine WL.qq (by simp only [EN, Nat.reduceEqDiff, reduceIte, qv_fieldAddr, fa72_0, Nat.zero_add, Nat.reduceAdd, hB1.cell, hB2.cell, hB3.cell]; rfl) ?_
      refine WL.qq (by simp only [EN, Nat.reduceEqDiff, reduceIte, k1_0, k2_0, k3_0, i4_0, hB1.cell, hB2.cell, hB3.cell, qv_load, ld9, Int.toNat_natCast, hp0]; rfl) ?_
      refine WL.qq (by refine qv_bld (by simp only [EN, Nat.reduceEqDiff, reduceIte, AR, hB1.cell, hB2.cell, hB3.cell] <;> rfl) (by rw [bl79]; simp [Instr.fill, Value.cells]; rfl)) ?_
      refine WL.allocSt zr79 sz79 (fun u => by simp only [EN, Nat.reduceEqDiff, reduceIte, Value.cells, hB1.cell, hB2.cell, hB3.cell]; rfl) ⟨rfl, rfl⟩ (by simp [Value.oneCell']) ?_
      intro h4 B4 hx4 hlt4 hB4
      replace hB1 := hB1.ext hx4
      replace hB2 := hB2.ext hx4
      replace hB3 := hB3.ext hx4
      replace ho := ho.ext hx4
      replace hMr := hMr.ext hx4
      refine WL.nil ?_
      refine th_norm ?_
      refine hx_seq ?_
      refine hx_seq ?_
      refine hx_region ?_
      have hX5 := hXe.trans (hx4); replace hMr := hMr.mono (F' := fun g => h.size ≤ g ∧ g < B4) (fun c hc => ⟨hc.1, by omega⟩)
      refine WL.qq (by simp only [EN, Nat.reduceEqDiff, reduceIte, qv_assign, hB1.cell, hB2.cell, hB3.cell, hB4.cell]; rfl) ?_
      refine WL.nil ?_
      refine th_norm ?_
      refine hx_block ?_
      refine hx_loopG [6, 7, 31, 32, 33, 34, 35, 36, 37, 38, 39, 40, 41, 42, 43, 44, 45, 46, 47, 48, 49, 50, 51, 52, 53, 54, 55, 56, 57, 58, 59, 60, 61, 62, 63, 64, 65, 66, 67, 68] (fun k e hL1 => ∃ (j : Nat) (v : Value), q.ps.length - j = k ∧ (j ≤ q.ps.length) ∧ (Ext h hL1) ∧ (Has hL1 B1 (.cells (bdL x).toArray tyB)) ∧ (Has hL1 B2 (.cells #[iV 0, iV 0, iV 0, .slice none 0 0] 45)) ∧ (Has hL1 B3 (.cells #[iV x.s, iV x.day, iV x.mn, vo] 45)) ∧ (Own hL1 h.size 79 2 vo M.length (M.flatMap ptL)) ∧ (PQs 76 (fun g => h.size ≤ g ∧ g < B4) hL1 M) ∧ (Has hL1 B4 (.cells #[.string q.r, v] 79)) ∧ (Own hL1 B4 76 4 v j ((q.ps.take j).flatMap poL)) ∧ e 6 = .int .i64 j) _ ⟨0, .slice none 0 0, rfl, ?_, ?_, ?_, ?_, ?_, ?_, ?_, ?_, ?_, ?_⟩ ?_
      · omega
      · exact hX5
      · exact hB1
      · exact hB2
      · exact hB3
      · exact ho
      · exact hMr
      · exact hB4
      · exact Own.nil
      · simp only [EN, Nat.reduceEqDiff, reduceIte, k1_0, k2_0, k3_0, i4_0, hB1.cell, hB2.cell, hB3.cell, hB4.cell] <;> rfl
      ·
        rintro k e1L hL1 hfr1 ⟨j, v, rfl, hj, hXe, hB1, hB2, hB3, ho, hMr, hB4, hv, i6_1⟩
        have k1_1 := hfr1 1 rfl; try simp only [EN, Nat.reduceEqDiff, reduceIte, k1_0, hB1.cell, hB2.cell, hB3.cell, hB4.cell] at k1_1
        have k2_1 := hfr1 2 rfl; try simp only [EN, Nat.reduceEqDiff, reduceIte, k2_0, hB1.cell, hB2.cell, hB3.cell, hB4.cell] at k2_1
        have k3_1 := hfr1 3 rfl; try simp only [EN, Nat.reduceEqDiff, reduceIte, k3_0, hB1.cell, hB2.cell, hB3.cell, hB4.cell] at k3_1
        have k4_1 := hfr1 4 rfl; try simp only [EN, Nat.reduceEqDiff, reduceIte, i4_0, hB1.cell, hB2.cell, hB3.cell, hB4.cell] at k4_1
        have k5_1 := hfr1 5 rfl; try simp only [EN, Nat.reduceEqDiff, reduceIte, hB1.cell, hB2.cell, hB3.cell, hB4.cell] at k5_1
        obtain ⟨b1, o1, ha1, _, hp0, hp1⟩ := pt_rd (kbi.1.ext hXe) hq
        refine hx_seq ?_
        refine hx_seq ?_
        refine hx_region ?_
        refine WL.qq (by simp only [EN, Nat.reduceEqDiff, reduceIte, qv_move, i6_1, hB1.cell, hB2.cell, hB3.cell, hB4.cell]; rfl) ?_
        refine WL.qq (by simp only [EN, Nat.reduceEqDiff, reduceIte, qv_fieldAddr, fa55_2, Nat.zero_add, Nat.reduceAdd, k1_1, hB1.cell, hB2.cell, hB3.cell, hB4.cell]; rfl) ?_
        refine WL.qq (by simp only [EN, Nat.reduceEqDiff, reduceIte, qv_load, ld53, readN, AR, Nat.zero_add, Nat.reduceAdd, hB1.cell, hB2.cell, hB3.cell, hB4.cell]; rfl) ?_
        refine WL.qq (by simp only [EN, Nat.reduceEqDiff, reduceIte, qv_move, k4_1, hB1.cell, hB2.cell, hB3.cell, hB4.cell]; rfl) ?_
        refine WL.qq (by simp only [EN, Nat.reduceEqDiff, reduceIte, qv_indexAddr, hB1.cell, hB2.cell, hB3.cell, hB4.cell, ha1]; (try simp (disch := omega) only [ix53, Int.toNat_natCast]); rfl) ?_
        refine WL.qq (by simp only [EN, Nat.reduceEqDiff, reduceIte, qv_fieldAddr, fa72_1, Nat.zero_add, Nat.reduceAdd, hB1.cell, hB2.cell, hB3.cell, hB4.cell]; rfl) ?_
        refine WL.qq (by simp only [EN, Nat.reduceEqDiff, reduceIte, k1_1, k2_1, k3_1, k4_1, k5_1, i6_1, hB1.cell, hB2.cell, hB3.cell, hB4.cell, qv_load, ld70, Int.toNat_natCast, hp1]; rfl) ?_
        refine WL.qq (by simp only [EN, Nat.reduceEqDiff, reduceIte, qv_len, ln70, AR, hB1.cell, hB2.cell, hB3.cell, hB4.cell]; rfl) ?_
        refine WL.qq (by simp only [EN, Nat.reduceEqDiff, reduceIte, qv_binOp, binv_lss, hB1.cell, hB2.cell, hB3.cell, hB4.cell]; rfl) ?_
        refine WL.nil ?_
        refine th_norm ?_
        refine hx_cond (by simp only [EN, Nat.reduceEqDiff, reduceIte, hB1.cell, hB2.cell, hB3.cell, hB4.cell]; rfl) (fun hct39 => ?_) (fun hct39 => ?_)
        ·
          try simp only [BD] at hct39
          obtain ⟨y, hy⟩ := atG (l := q.ps) (i := j) (by omega)
          obtain ⟨b2, o2, ha2, hr4, _⟩ := po_rd (hqi.ext hXe) hy
          refine hx_skip ?_
          refine th_norm ?_
          refine hx_seq ?_
          refine hx_block ?_
          refine hx_seq ?_
          refine hx_region ?_
          refine WL.qq (by simp only [EN, Nat.reduceEqDiff, reduceIte, qv_fieldAddr, fa55_2, Nat.zero_add, Nat.reduceAdd, k1_1, hB1.cell, hB2.cell, hB3.cell, hB4.cell]; rfl) ?_
          refine WL.qq (by simp only [EN, Nat.reduceEqDiff, reduceIte, qv_load, ld53, readN, AR, Nat.zero_add, Nat.reduceAdd, hB1.cell, hB2.cell, hB3.cell, hB4.cell]; rfl) ?_
          refine WL.qq (by simp only [EN, Nat.reduceEqDiff, reduceIte, qv_move, k4_1, hB1.cell, hB2.cell, hB3.cell, hB4.cell]; rfl) ?_
          refine WL.qq (by simp only [EN, Nat.reduceEqDiff, reduceIte, qv_indexAddr, hB1.cell, hB2.cell, hB3.cell, hB4.cell, ha1]; (try simp (disch := omega) only [ix53, Int.toNat_natCast]); rfl) ?_
          refine WL.qq (by simp only [EN, Nat.reduceEqDiff, reduceIte, qv_fieldAddr, fa72_1, Nat.zero_add, Nat.reduceAdd, hB1.cell, hB2.cell, hB3.cell, hB4.cell]; rfl) ?_
          refine WL.qq (by simp only [EN, Nat.reduceEqDiff, reduceIte, k1_1, k2_1, k3_1, k4_1, k5_1, i6_1, hB1.cell, hB2.cell, hB3.cell, hB4.cell, qv_load, ld70, Int.toNat_natCast, hp1]; rfl) ?_
          refine WL.qq (by simp only [EN, Nat.reduceEqDiff, reduceIte, qv_move, i6_1, hB1.cell, hB2.cell, hB3.cell, hB4.cell]; rfl) ?_
          refine WL.qq (by simp only [EN, Nat.reduceEqDiff, reduceIte, qv_indexAddr, hB1.cell, hB2.cell, hB3.cell, hB4.cell, ha2]; (try simp (disch := omega) only [ix70, Int.toNat_natCast]); rfl) ?_
          refine WL.qq (by simp only [EN, Nat.reduceEqDiff, reduceIte, k1_1, k2_1, k3_1, k4_1, k5_1, i6_1, hB1.cell, hB2.cell, hB3.cell, hB4.cell, qv_load, ld74, Int.toNat_natCast, hr4]; rfl) ?_
          refine WL.allocSt zr74 sz74 (fun u => by simp only [EN, Nat.reduceEqDiff, reduceIte, Value.cells, hB1.cell, hB2.cell, hB3.cell, hB4.cell]; rfl) ⟨rfl, rfl⟩ (by simp [Value.oneCell']) ?_
          intro h5 B5 hx5 hlt5 hB5
          replace hB1 := hB1.ext hx5
          replace hB2 := hB2.ext hx5
          replace hB3 := hB3.ext hx5
          replace hB4 := hB4.ext hx5
          replace ho := ho.ext hx5
          replace hMr := hMr.ext hx5
          replace hv := hv.ext hx5
          refine WL.nil ?_
          refine th_norm ?_
          refine hx_region ?_
          have hX9 := hXe.trans (hx5); have w9 := hX9.size; have w4b := (Array.getElem?_eq_some_iff.1 hB4).1
          refine WL.qq (by simp only [EN, Nat.reduceEqDiff, reduceIte, qv_fieldAddr, fa79_1, Nat.zero_add, Nat.reduceAdd, k5_1, hB1.cell, hB2.cell, hB3.cell, hB4.cell, hB5.cell]; rfl) ?_
          refine WL.qq (by simp only [EN, Nat.reduceEqDiff, reduceIte, qv_load, ld77, readN, AR, Nat.zero_add, Nat.reduceAdd, hB1.cell, hB2.cell, hB3.cell, hB4.cell, hB5.cell]; rfl) ?_
          refine WL.qq (by simp only [EN, Nat.reduceEqDiff, reduceIte, qv_fieldAddr, fa74_0, Nat.zero_add, Nat.reduceAdd, hB1.cell, hB2.cell, hB3.cell, hB4.cell, hB5.cell]; rfl) ?_
          refine WL.qq (by simp only [EN, Nat.reduceEqDiff, reduceIte, qv_fieldAddr, fa35_0, Nat.zero_add, Nat.reduceAdd, hB1.cell, hB2.cell, hB3.cell, hB4.cell, hB5.cell]; rfl) ?_
          refine WL.qq (by simp only [EN, Nat.reduceEqDiff, reduceIte, qv_load, ld9, readN, AR, Nat.zero_add, Nat.reduceAdd, hB1.cell, hB2.cell, hB3.cell, hB4.cell, hB5.cell]; rfl) ?_
          refine WL.qq (by simp only [EN, Nat.reduceEqDiff, reduceIte, qv_fieldAddr, fa74_0, Nat.zero_add, Nat.reduceAdd, hB1.cell, hB2.cell, hB3.cell, hB4.cell, hB5.cell]; rfl) ?_
          refine WL.qq (by simp only [EN, Nat.reduceEqDiff, reduceIte, qv_fieldAddr, fa35_1, Nat.zero_add, Nat.reduceAdd, hB1.cell, hB2.cell, hB3.cell, hB4.cell, hB5.cell]; rfl) ?_
          refine WL.qq (by simp only [EN, Nat.reduceEqDiff, reduceIte, qv_load, ld3, readN, AR, Nat.zero_add, Nat.reduceAdd, hB1.cell, hB2.cell, hB3.cell, hB4.cell, hB5.cell]; rfl) ?_
          refine WL.qq (by simp only [EN, Nat.reduceEqDiff, reduceIte, qv_fieldAddr, fa74_0, Nat.zero_add, Nat.reduceAdd, hB1.cell, hB2.cell, hB3.cell, hB4.cell, hB5.cell]; rfl) ?_
          refine WL.qq (by simp only [EN, Nat.reduceEqDiff, reduceIte, qv_fieldAddr, fa35_2, Nat.zero_add, Nat.reduceAdd, hB1.cell, hB2.cell, hB3.cell, hB4.cell, hB5.cell]; rfl) ?_
          refine WL.qq (by simp only [EN, Nat.reduceEqDiff, reduceIte, qv_load, ld9, readN, AR, Nat.zero_add, Nat.reduceAdd, hB1.cell, hB2.cell, hB3.cell, hB4.cell, hB5.cell]; rfl) ?_
          refine WL.qq (by refine qv_bld (by simp only [EN, Nat.reduceEqDiff, reduceIte, AR, hB1.cell, hB2.cell, hB3.cell, hB4.cell, hB5.cell] <;> rfl) (by rw [bl24]; simp [Instr.fill, Value.cells]; rfl)) ?_
          refine WL.qq (by simp only [EN, Nat.reduceEqDiff, reduceIte, qv_fieldAddr, fa74_1, Nat.zero_add, Nat.reduceAdd, hB1.cell, hB2.cell, hB3.cell, hB4.cell, hB5.cell]; rfl) ?_
          refine WL.qq (by simp only [EN, Nat.reduceEqDiff, reduceIte, qv_load, ld2, readN, AR, Nat.zero_add, Nat.reduceAdd, hB1.cell, hB2.cell, hB3.cell, hB4.cell, hB5.cell]; rfl) ?_
          refine WL.qq (by refine qv_bld (by simp only [EN, Nat.reduceEqDiff, reduceIte, AR, hB1.cell, hB2.cell, hB3.cell, hB4.cell, hB5.cell] <;> rfl) (by rw [bl76]; simp [Instr.fill, Value.cells]; rfl)) ?_
          refine WL.push (bytes := 48) Try.underlying77 (inf_of Try.type76) rfl rfl rfl rfl (by decide) (by decide) sz76 zr76 (fun u => by simp only [EN, Nat.reduceEqDiff, reduceIte, k1_1, k2_1, k3_1, k4_1, k5_1, i6_1, hB1.cell, hB2.cell, hB3.cell, hB4.cell, hB5.cell]) hv (c := (poL y).toArray) (by simp only [EN, Nat.reduceEqDiff, reduceIte, k1_1, k2_1, k3_1, k4_1, k5_1, i6_1, hB1.cell, hB2.cell, hB3.cell, hB4.cell, hB5.cell, Value.cells] <;> rfl) rfl (by simp [Value.oneCell']) (by simp only [maxLen]; omega) (by omega) (by omega) ?_
          intro h40 v40 B40 hv40 hg40 hpl40 hn40
          have hB440 := hB4.gr hg40 (hv.ncell hB4 (by decide))
          skip
          refine WL.qq (by simp only [EN, Nat.reduceEqDiff, reduceIte, qv_fieldAddr, fa79_1, Nat.zero_add, Nat.reduceAdd, k5_1, hB1.cell, hB2.cell, hB3.cell, hB4.cell, hB5.cell]; rfl) ?_
          refine WL.store (by simp only [EN, Nat.reduceEqDiff, reduceIte, k1_1, k2_1, k3_1, k4_1, k5_1, i6_1, hB1.cell, hB2.cell, hB3.cell, hB4.cell, hB5.cell] <;> rfl) sz77 (by simp only [EN, Nat.reduceEqDiff, reduceIte, k1_1, k2_1, k3_1, k4_1, k5_1, i6_1, hB1.cell, hB2.cell, hB3.cell, hB4.cell, hB5.cell]; exact hv40.cells) rfl hB440 (by simp) (by simp [hv40.one]) ?_
          intro h41 hw41
          have hv41 := hv40.keep (h' := h41) (fun c hc => hw41.same c fun hh => by subst hh; exact hv40.ncell hB440 (by decide) hc)
          have hB441 := hw41.at_
          simp only [splc, List.take_succ_cons, List.take_zero, List.take_nil, List.drop_succ_cons, List.drop_zero, List.drop_nil, List.cons_append, List.nil_append, List.length_cons, List.length_nil, Nat.zero_add, Nat.add_zero, Nat.reduceAdd, List.append_nil] at hB441
          have hM41 := (hMr.gr hg40 hv).wr hw41 hB440 (by decide)
          have ho41 := (ho.keep (h' := h40) (fun c hc => hg40.same c (ho.block c hc).2 (fun hh => by obtain ⟨cu, hcu⟩ := hv.typ c hh; exact ho.ncell hcu (by decide) hc))).keep (h' := h41) (fun c hc => hw41.same c (by have := w5 c hc; omega))
          refine WL.nil ?_
          refine bl_norm ?_
          refine th_norm ?_
          refine hx_region ?_
          refine WL.qq (by simp only [EN, Nat.reduceEqDiff, reduceIte, qv_move, i6_1, hB1.cell, hB2.cell, hB3.cell, hB4.cell, hB5.cell]; rfl) ?_
          refine WL.qq (by simp only [EN, Nat.reduceEqDiff, reduceIte, qv_binOp, binv_add, hB1.cell, hB2.cell, hB3.cell, hB4.cell, hB5.cell]; (try simp (disch := omega) only [w64, w8, wu64]); rfl) ?_
          refine WL.qq (by simp only [EN, Nat.reduceEqDiff, reduceIte, qv_assign, hB1.cell, hB2.cell, hB3.cell, hB4.cell, hB5.cell]; rfl) ?_
          refine WL.nil ?_
          refine th_norm ?_
          refine ⟨rfl, ?_, _, ?_, j + 1, v40, rfl, ?_, ?_, ?_, ?_, ?_, ?_, ?_, ?_, ?_, ?_⟩  -- again 0 of loop 1
          · (repeat (first | exact Fr.refl _ _ | refine Fr.set rfl ?_ | refine Fr.put rfl ?_ | with_reducible refine Fr.put0 ?_))
          · omega
          · omega
          · exact hw41.ext (hg40.ext hX9 (fun c hc => by have := (hv.block c hc).1; omega)) (by omega)
          · exact (hB1.gr hg40 (hv.ncell hB1 (by decide))).wr hw41 (by omega)
          · exact (hB2.gr hg40 (hv.ncell hB2 (by decide))).wr hw41 (by omega)
          · exact (hB3.gr hg40 (hv.ncell hB3 (by decide))).wr hw41 (by omega)
          · exact ho41
          · exact hM41
          · exact hB441
          · rw [List.take_add_one, hy, List.flatMap_append]; exact hv41
          · simp only [EN, Nat.reduceEqDiff, reduceIte, k1_1, k2_1, k3_1, k4_1, k5_1, i6_1, hB1.cell, hB2.cell, hB3.cell, hB4.cell, hB5.cell] <;> first | rfl | (congr 1; omega)
        ·
          try simp only [BD] at hct39
          obtain rfl : j = q.ps.length := (by omega)
          rw [List.take_length] at hv
          obtain ⟨a9, c9, rfl, hle9, _, _⟩ := hv.shape
          have hsq := SlR.own (f := poL) (sz := 4) (fun _ => rfl) hv rfl; have hbq := hv.block
          refine hx_exit ?_
          refine th_exit ?_
          refine th_exit ?_
          refine bl_hit ?_
          refine th_norm ?_
          refine hx_region ?_
          refine WL.qq (by simp only [EN, Nat.reduceEqDiff, reduceIte, qv_fieldAddr, fa45_3, Nat.zero_add, Nat.reduceAdd, k3_1, hB1.cell, hB2.cell, hB3.cell, hB4.cell]; rfl) ?_
          refine WL.qq (by simp only [EN, Nat.reduceEqDiff, reduceIte, qv_load, ld43, readN, AR, Nat.zero_add, Nat.reduceAdd, hB1.cell, hB2.cell, hB3.cell, hB4.cell]; rfl) ?_
          refine WL.qq (by simp only [EN, Nat.reduceEqDiff, reduceIte, qv_load, ld79, readN, AR, Nat.zero_add, Nat.reduceAdd, k5_1, hB1.cell, hB2.cell, hB3.cell, hB4.cell]; rfl) ?_
          refine WL.push (bytes := 40) Try.underlying43 (inf_of Try.type79) rfl rfl rfl rfl (by decide) (by decide) sz79 zr79 (fun u => by simp only [EN, Nat.reduceEqDiff, reduceIte, k1_1, k2_1, k3_1, k4_1, k5_1, i6_1, hB1.cell, hB2.cell, hB3.cell, hB4.cell]) ho (c := (ptL ⟨q.r, a9, q.ps, c9⟩).toArray) (by simp only [EN, Nat.reduceEqDiff, reduceIte, k1_1, k2_1, k3_1, k4_1, k5_1, i6_1, hB1.cell, hB2.cell, hB3.cell, hB4.cell, Value.cells] <;> rfl) rfl (by simp [Value.oneCell']) (by simp only [maxLen]; omega) (by omega) hXe.size ?_
          intro h50 v50 B50 ho50 hg50 hpl50 hn50
          have hB350 := hB3.gr hg50 (ho.ncell hB3 (by decide))
          skip
          refine WL.qq (by simp only [EN, Nat.reduceEqDiff, reduceIte, qv_fieldAddr, fa45_3, Nat.zero_add, Nat.reduceAdd, k3_1, hB1.cell, hB2.cell, hB3.cell, hB4.cell]; rfl) ?_
          refine WL.store (by simp only [EN, Nat.reduceEqDiff, reduceIte, k1_1, k2_1, k3_1, k4_1, k5_1, i6_1, hB1.cell, hB2.cell, hB3.cell, hB4.cell] <;> rfl) sz43 (by simp only [EN, Nat.reduceEqDiff, reduceIte, k1_1, k2_1, k3_1, k4_1, k5_1, i6_1, hB1.cell, hB2.cell, hB3.cell, hB4.cell]; exact ho50.cells) rfl hB350 (by simp) (by simp [ho50.one]) ?_
          intro h51 hw51
          have ho51 := ho50.keep (h' := h51) (fun c hc => hw51.same c fun hh => by subst hh; exact ho50.ncell hB350 (by decide) hc)
          have hB351 := hw51.at_
          simp only [splc, List.take_succ_cons, List.take_zero, List.take_nil, List.drop_succ_cons, List.drop_zero, List.drop_nil, List.cons_append, List.nil_append, List.length_cons, List.length_nil, Nat.zero_add, Nat.add_zero, Nat.reduceAdd, List.append_nil] at hB351
          have hall : PQs 76 (fun g => h.size ≤ g) hL1 (M ++ [⟨q.r, a9, q.ps, c9⟩]) := (hMr.mono (fun c hc => hc.1)).snoc ⟨hsq, fun c off ha => (by have := (hbq c (by rw [show a9 = some ⟨c, off, none⟩ from ha]; rfl)).1; omega), fun c off ha => hv.off0 c off ha⟩
          have hall51 := (hall.gro hg50 ho (by decide)).wr hw51 hB350 (by decide)
          refine WL.nil ?_
          refine bl_norm ?_
          refine th_norm ?_
          refine hx_region ?_
          refine WL.qq (by simp only [EN, Nat.reduceEqDiff, reduceIte, qv_move, k4_1, hB1.cell, hB2.cell, hB3.cell, hB4.cell]; rfl) ?_
          refine WL.qq (by simp only [EN, Nat.reduceEqDiff, reduceIte, qv_binOp, binv_add, hB1.cell, hB2.cell, hB3.cell, hB4.cell]; (try simp (disch := omega) only [w64, w8, wu64]); rfl) ?_
          refine WL.qq (by simp only [EN, Nat.reduceEqDiff, reduceIte, qv_assign, hB1.cell, hB2.cell, hB3.cell, hB4.cell]; rfl) ?_
          refine WL.nil ?_
          refine th_norm ?_
          refine ⟨rfl, ?_, _, ?_, i + 1, M ++ [⟨q.r, a9, q.ps, c9⟩], v50, rfl, ?_, ?_, ?_, ?_, ?_, ?_, ?_, ?_, ?_, ?_⟩  -- again 0 of loop 0
          · (repeat (first | exact Fr.refl _ _ | refine Fr.set rfl ?_ | refine Fr.put rfl ?_ | with_reducible refine Fr.put0 ?_ | refine Fr.trans ?_ (Fr.of hfr1 rfl)))
          · omega
          · omega
          · exact hw51.ext (hg50.ext hXe (fun c hc => (ho.block c hc).1)) (by omega)
          · exact (hB1.gr hg50 (ho.ncell hB1 (by decide))).wr hw51 (by omega)
          · exact (hB2.gr hg50 (ho.ncell hB2 (by decide))).wr hw51 (by omega)
          · exact hB351
          · rw [List.length_append, List.flatMap_append]; exact ho51
          · rw [List.length_append, hMl]; rfl
          · rw [List.map_append, hM, List.take_add_one, hq, List.map_append]; rfl
          · exact hall51
          · simp only [EN, Nat.reduceEqDiff, reduceIte, k1_1, k2_1, k3_1, k4_1, k5_1, i6_1, hB1.cell, hB2.cell, hB3.cell, hB4.cell] <;> first | rfl | (congr 1; omega)
    ·
      try simp only [BD] at hct21
      have hie2 : i = x.ps.length := (by omega)
      have hM9 : M.map PX.pt = x.ps.map PX.pt := (by rw [hM, hie2, List.take_length])
      obtain ⟨a8, c8, rfl, _, _⟩ := ho.shape
      refine hx_exit ?_
      refine th_exit ?_
      refine th_exit ?_
      refine bl_hit ?_
      refine th_norm ?_
      refine hx_seq ?_
      refine hx_region ?_
      refine WL.qq (by simp only [EN, Nat.reduceEqDiff, reduceIte, qv_load, ld45, readN, AR, Nat.zero_add, Nat.reduceAdd, k3_0, hB1.cell, hB2.cell, hB3.cell]; rfl) ?_
      refine WL.store (by simp only [EN, Nat.reduceEqDiff, reduceIte, k2_0, hB1.cell, hB2.cell, hB3.cell] <;> rfl) sz45 (by simp only [EN, Nat.reduceEqDiff, reduceIte, Value.cells, k2_0, hB1.cell, hB2.cell, hB3.cell] <;> rfl) rfl hB2 (by first | (simp [true_and]; done) | (simp [true_and]; omega) | omega) (by simp [Value.oneCell']) ?_
      intro h6 hw6
      have ho8 := ho.keep (fun c hc => hw6.same c (fun hh => by subst hh; exact ho.ncell hB2 (by decide) hc))
      have hMr8 := hMr.wr hw6 hB2 (by decide)
      have hX8 := hw6.ext hXe (by omega)
      replace hB2 := hw6.at_
      simp only [splc, List.take_succ_cons, List.take_zero, List.take_nil, List.drop_succ_cons, List.drop_zero, List.drop_nil, List.cons_append, List.nil_append, List.length_cons, List.length_nil, Nat.zero_add, Nat.add_zero, Nat.reduceAdd, List.append_nil] at hB2
      refine WL.nil ?_
      refine th_norm ?_
      refine hx_ret ?_
      refine fin_ret [.cell 2 45] rfl rfl (by simp only [EN, Nat.reduceEqDiff, reduceIte, resv, ld45, readN, AR, Nat.zero_add, Nat.reduceAdd, k1_0, k2_0, k3_0, i4_0, hB1.cell, hB2.cell, hB3.cell]; rfl) ?_  -- ret 0 r12
      exact ⟨hX8, ⟨x.s, x.day, x.mn, a8, M, c8⟩, rfl, by simp only [BX.bd]; rw [hM9], slG_own (f := ptL) (sz := 2) (fun _ => rfl) ho8 rfl, fun m hm => (hMr8 m hm).sl.rd⟩
end GL
set_option linter.unusedSimpArgs false
set_option linter.unusedVariables false
set_option linter.unnecessarySimpa false
namespace GL
open Go Go.Proofs
set_option maxRecDepth 8000
theorem bd_iff {x y : BX} : x.bd = y.bd ↔ x.s = y.s ∧ x.day = y.day ∧ x.mn = y.mn ∧ x.ps.map PX.pt = y.ps.map PX.pt := by
  simp only [BX.bd, HB.mk.injEq]
theorem po_iff {a b : PO} : a = b ↔ a.c.o = b.c.o ∧ a.c.k = b.c.k ∧ a.c.a = b.c.a ∧ a.d = b.d := by
  obtain ⟨⟨a1, a2, a3⟩, a4⟩ := a
  obtain ⟨⟨b1, b2, b3⟩, b4⟩ := b
  simp [and_assoc]
theorem pt_ne {x y : BX} {i : Nat} {q r : PX} (hx : x.ps[i]? = some q) (hy : y.ps[i]? = some r) (h : q.pt ≠ r.pt) : x.bd ≠ y.bd := fun hh => by
  have h1 := (bd_iff.1 hh).2.2.2
  have h2 : (x.ps.map PX.pt)[i]? = some q.pt := by rw [List.getElem?_map, hx]; rfl
  have h3 : (y.ps.map PX.pt)[i]? = some r.pt := by rw [List.getElem?_map, hy]; rfl
  rw [h1, h3] at h2
  exact h (Option.some.inj h2).symm
set_option maxHeartbeats 2000000 in
theorem c_same (x y : BX) (hlx : x.ps.length ≤ 1000000 ∧ ∀ p ∈ x.ps, p.ps.length ≤ 1000000) {h : Heap} (hbx : BXin h x) (hby : BXin h y) :
    HCalls Try.prog 25 #[.agg (bdL x).toArray, .agg (bdL y).toArray] h (Grow (.bool (decide (x.bd = y.bd))) h) := by
  refine hcalls2 Try.func25 rfl (by decide +kernel) (by simp only [Try.ntmps25]; exact of_decide_eq_true rfl) ?_
  intro e hin
  have e0 := hin 0 _ rfl
  have e1 := hin 1 _ rfl
  refine hx_seq ?_
  refine hx_region ?_
  refine WL.box2 (by simp only [EN, Nat.reduceEqDiff, reduceIte, Value.cells, e0, strEq]; rfl) ?_
  intro h1 B1 hx1 hlt1 hB1
  replace hbx := hbx.ext hx1
  replace hby := hby.ext hx1
  refine WL.box2 (by simp only [EN, Nat.reduceEqDiff, reduceIte, Value.cells, e1, strEq, hB1.cell]; rfl) ?_
  intro h2 B2 hx2 hlt2 hB2
  replace hbx := hbx.ext hx2
  replace hby := hby.ext hx2
  replace hB1 := hB1.ext hx2
  refine WL.qq (by simp only [EN, Nat.reduceEqDiff, reduceIte, qv_assign, strEq, hB1.cell, hB2.cell]; rfl) ?_
  refine WL.nil ?_
  refine th_norm ?_
  refine hx_seq ?_
  refine hx_seq ?_
  refine hx_region ?_
  refine WL.qq (by simp only [EN, Nat.reduceEqDiff, reduceIte, qv_fieldAddr, fa45_0, Nat.zero_add, Nat.reduceAdd, strEq, hB1.cell, hB2.cell]; rfl) ?_
  refine WL.qq (by simp only [EN, Nat.reduceEqDiff, reduceIte, qv_load, ld3, readN, AR, Nat.zero_add, Nat.reduceAdd, strEq, hB1.cell, hB2.cell]; rfl) ?_
  refine WL.qq (by simp only [EN, Nat.reduceEqDiff, reduceIte, qv_fieldAddr, fa45_0, Nat.zero_add, Nat.reduceAdd, strEq, hB1.cell, hB2.cell]; rfl) ?_
  refine WL.qq (by simp only [EN, Nat.reduceEqDiff, reduceIte, qv_load, ld3, readN, AR, Nat.zero_add, Nat.reduceAdd, strEq, hB1.cell, hB2.cell]; rfl) ?_
  refine WL.qq (by simp only [EN, Nat.reduceEqDiff, reduceIte, qv_binOp, binv_neq, eq3, Option.map_some, strEq, hB1.cell, hB2.cell]; rfl) ?_
  refine WL.qq (by simp only [EN, Nat.reduceEqDiff, reduceIte, qv_move, strEq, hB1.cell, hB2.cell]; rfl) ?_
  refine WL.cq (gd_at (t := 14) rfl (by simp only [EN, Nat.reduceEqDiff, reduceIte, strEq, hB1.cell, hB2.cell] <;> rfl)) (fun hg1_6 => by simp only [EN, Nat.reduceEqDiff, reduceIte, qv_fieldAddr, fa45_1, Nat.zero_add, Nat.reduceAdd, strEq, hB1.cell, hB2.cell, hg1_6, GR]; rfl) ?_
  refine WL.cq (gd_at (t := 14) rfl (by simp only [EN, Nat.reduceEqDiff, reduceIte, strEq, hB1.cell, hB2.cell] <;> rfl)) (fun hg1_7 => by simp only [EN, Nat.reduceEqDiff, reduceIte, qv_load, ld3, readN, AR, Nat.zero_add, Nat.reduceAdd, strEq, hB1.cell, hB2.cell, hg1_7, GR]; rfl) ?_
  refine WL.cq (gd_at (t := 14) rfl (by simp only [EN, Nat.reduceEqDiff, reduceIte, strEq, hB1.cell, hB2.cell] <;> rfl)) (fun hg1_8 => by simp only [EN, Nat.reduceEqDiff, reduceIte, qv_fieldAddr, fa45_1, Nat.zero_add, Nat.reduceAdd, strEq, hB1.cell, hB2.cell, hg1_8, GR]; rfl) ?_
  refine WL.cq (gd_at (t := 14) rfl (by simp only [EN, Nat.reduceEqDiff, reduceIte, strEq, hB1.cell, hB2.cell] <;> rfl)) (fun hg1_9 => by simp only [EN, Nat.reduceEqDiff, reduceIte, qv_load, ld3, readN, AR, Nat.zero_add, Nat.reduceAdd, strEq, hB1.cell, hB2.cell, hg1_9, GR]; rfl) ?_
  refine WL.cq (gd_at (t := 14) rfl (by simp only [EN, Nat.reduceEqDiff, reduceIte, strEq, hB1.cell, hB2.cell] <;> rfl)) (fun hg1_10 => by simp only [EN, Nat.reduceEqDiff, reduceIte, qv_binOp, binv_neq, eq3, Option.map_some, strEq, hB1.cell, hB2.cell, hg1_10, GR]; rfl) ?_
  refine WL.qq (by simp only [EN, Nat.reduceEqDiff, reduceIte, qv_pick, pk_and, pk_or, GR, strEq, hB1.cell, hB2.cell]; rfl) ?_
  refine WL.qq (by simp only [EN, Nat.reduceEqDiff, reduceIte, qv_move, strEq, hB1.cell, hB2.cell]; rfl) ?_
  refine WL.cq (gd_at (t := 21) rfl (by simp only [EN, Nat.reduceEqDiff, reduceIte, strEq, hB1.cell, hB2.cell] <;> rfl)) (fun hg1_13 => by simp only [EN, Nat.reduceEqDiff, reduceIte, qv_fieldAddr, fa45_2, Nat.zero_add, Nat.reduceAdd, strEq, hB1.cell, hB2.cell, hg1_13, GR]; rfl) ?_
  refine WL.cq (gd_at (t := 21) rfl (by simp only [EN, Nat.reduceEqDiff, reduceIte, strEq, hB1.cell, hB2.cell] <;> rfl)) (fun hg1_14 => by simp only [EN, Nat.reduceEqDiff, reduceIte, qv_load, ld3, readN, AR, Nat.zero_add, Nat.reduceAdd, strEq, hB1.cell, hB2.cell, hg1_14, GR]; rfl) ?_
  refine WL.cq (gd_at (t := 21) rfl (by simp only [EN, Nat.reduceEqDiff, reduceIte, strEq, hB1.cell, hB2.cell] <;> rfl)) (fun hg1_15 => by simp only [EN, Nat.reduceEqDiff, reduceIte, qv_fieldAddr, fa45_2, Nat.zero_add, Nat.reduceAdd, strEq, hB1.cell, hB2.cell, hg1_15, GR]; rfl) ?_
  refine WL.cq (gd_at (t := 21) rfl (by simp only [EN, Nat.reduceEqDiff, reduceIte, strEq, hB1.cell, hB2.cell] <;> rfl)) (fun hg1_16 => by simp only [EN, Nat.reduceEqDiff, reduceIte, qv_load, ld3, readN, AR, Nat.zero_add, Nat.reduceAdd, strEq, hB1.cell, hB2.cell, hg1_16, GR]; rfl) ?_
  refine WL.cq (gd_at (t := 21) rfl (by simp only [EN, Nat.reduceEqDiff, reduceIte, strEq, hB1.cell, hB2.cell] <;> rfl)) (fun hg1_17 => by simp only [EN, Nat.reduceEqDiff, reduceIte, qv_binOp, binv_neq, eq3, Option.map_some, strEq, hB1.cell, hB2.cell, hg1_17, GR]; rfl) ?_
  refine WL.qq (by simp only [EN, Nat.reduceEqDiff, reduceIte, qv_pick, pk_and, pk_or, GR, strEq, hB1.cell, hB2.cell]; rfl) ?_
  refine WL.qq (by simp only [EN, Nat.reduceEqDiff, reduceIte, qv_move, strEq, hB1.cell, hB2.cell]; rfl) ?_
  refine WL.cq (gd_at (t := 28) rfl (by simp only [EN, Nat.reduceEqDiff, reduceIte, strEq, hB1.cell, hB2.cell] <;> rfl)) (fun hg1_20 => by simp only [EN, Nat.reduceEqDiff, reduceIte, qv_fieldAddr, fa45_3, Nat.zero_add, Nat.reduceAdd, strEq, hB1.cell, hB2.cell, hg1_20, GR]; rfl) ?_
  refine WL.cq (gd_at (t := 28) rfl (by simp only [EN, Nat.reduceEqDiff, reduceIte, strEq, hB1.cell, hB2.cell] <;> rfl)) (fun hg1_21 => by simp only [EN, Nat.reduceEqDiff, reduceIte, qv_load, ld43, readN, AR, Nat.zero_add, Nat.reduceAdd, strEq, hB1.cell, hB2.cell, hg1_21, GR]; rfl) ?_
  refine WL.cq (gd_at (t := 28) rfl (by simp only [EN, Nat.reduceEqDiff, reduceIte, strEq, hB1.cell, hB2.cell] <;> rfl)) (fun hg1_22 => by simp only [EN, Nat.reduceEqDiff, reduceIte, qv_len, ln43, AR, strEq, hB1.cell, hB2.cell, hg1_22, GR]; rfl) ?_
  refine WL.cq (gd_at (t := 28) rfl (by simp only [EN, Nat.reduceEqDiff, reduceIte, strEq, hB1.cell, hB2.cell] <;> rfl)) (fun hg1_23 => by simp only [EN, Nat.reduceEqDiff, reduceIte, qv_fieldAddr, fa45_3, Nat.zero_add, Nat.reduceAdd, strEq, hB1.cell, hB2.cell, hg1_23, GR]; rfl) ?_
  refine WL.cq (gd_at (t := 28) rfl (by simp only [EN, Nat.reduceEqDiff, reduceIte, strEq, hB1.cell, hB2.cell] <;> rfl)) (fun hg1_24 => by simp only [EN, Nat.reduceEqDiff, reduceIte, qv_load, ld43, readN, AR, Nat.zero_add, Nat.reduceAdd, strEq, hB1.cell, hB2.cell, hg1_24, GR]; rfl) ?_
  refine WL.cq (gd_at (t := 28) rfl (by simp only [EN, Nat.reduceEqDiff, reduceIte, strEq, hB1.cell, hB2.cell] <;> rfl)) (fun hg1_25 => by simp only [EN, Nat.reduceEqDiff, reduceIte, qv_len, ln43, AR, strEq, hB1.cell, hB2.cell, hg1_25, GR]; rfl) ?_
  refine WL.cq (gd_at (t := 28) rfl (by simp only [EN, Nat.reduceEqDiff, reduceIte, strEq, hB1.cell, hB2.cell] <;> rfl)) (fun hg1_26 => by simp only [EN, Nat.reduceEqDiff, reduceIte, qv_binOp, binv_neq, eq3, Option.map_some, strEq, hB1.cell, hB2.cell, hg1_26, GR]; rfl) ?_
  refine WL.qq (by simp only [EN, Nat.reduceEqDiff, reduceIte, qv_pick, pk_and, pk_or, GR, strEq, hB1.cell, hB2.cell]; rfl) ?_
  refine WL.nil ?_
  refine th_norm ?_
  refine hx_cond (by simp only [EN, Nat.reduceEqDiff, reduceIte, strEq, hB1.cell, hB2.cell]; rfl) (fun hct36 => ?_) (fun hct36 => ?_)
  ·
    try simp only [BD] at hct36
    refine hx_seq ?_
    refine hx_region ?_
    refine WL.qq (by simp only [EN, Nat.reduceEqDiff, reduceIte, qv_assign, strEq, hB1.cell, hB2.cell]; rfl) ?_
    refine WL.nil ?_
    refine th_norm ?_
    refine hx_ret ?_
    refine th_ret ?_
    refine fin_ret [.tmp 4] rfl rfl (by simp only [EN, Nat.reduceEqDiff, reduceIte, resv, e0, e1, strEq, hB1.cell, hB2.cell]; rfl) ?_  -- ret 0 r2
    have hne : x.bd ≠ y.bd := (fun hh => by have h1 := bd_iff.1 hh; have h2 : x.ps.length = y.ps.length := (by have := congrArg List.length h1.2.2.2; simpa using this); omega)
    exact ⟨by simp only [retOf]; congr 1; exact (decide_eq_false hne).symm, ((hx1).trans (hx2))⟩
  ·
    try simp only [BD] at hct36
    have hle : x.ps.length = y.ps.length := (by omega)
    have he1 : x.s = y.s ∧ x.day = y.day ∧ x.mn = y.mn := (by omega)
    refine hx_skip ?_
    refine th_norm ?_
    refine hx_seq ?_
    refine hx_seq ?_
    refine hx_region ?_
    refine WL.qq (by simp only [EN, Nat.reduceEqDiff, reduceIte, qv_assign, strEq, hB1.cell, hB2.cell]; rfl) ?_
    refine WL.nil ?_
    refine th_norm ?_
    refine hx_block ?_
    refine hx_loopX [4, 5, 6, 7, 8, 37, 38, 39, 40, 41, 42, 43, 44, 45, 46, 47, 48, 49, 50, 51, 52, 53, 54, 55, 56, 57, 58, 59, 60, 61, 62, 63, 64, 65, 66, 67, 68, 69, 70, 71, 72, 73, 74, 75, 76, 77, 78, 79, 80, 81, 82, 83, 84, 85] (fun k e => ∃ (i : Nat), x.ps.length - i = k ∧ (i ≤ x.ps.length) ∧ ((x.ps.map PX.pt).take i = (y.ps.map PX.pt).take i) ∧ e 5 = .int .i64 i) _ ⟨0, rfl, ?_, ?_, ?_⟩ ?_
    · omega
    · rfl
    · simp only [EN, Nat.reduceEqDiff, reduceIte, e0, e1, strEq, hB1.cell, hB2.cell] <;> rfl
    ·
      rintro k e0L hL0 hX0 hfr0 ⟨i, rfl, hi, hz, i5_0⟩
      replace hbx := hbx.ext hX0
      replace hby := hby.ext hX0
      replace hB1 := hB1.ext hX0
      replace hB2 := hB2.ext hX0
      have k2_0 := hfr0 2 rfl; try simp only [EN, Nat.reduceEqDiff, reduceIte, strEq, hB1.cell, hB2.cell] at k2_0
      have k3_0 := hfr0 3 rfl; try simp only [EN, Nat.reduceEqDiff, reduceIte, strEq, hB1.cell, hB2.cell] at k3_0
      refine hx_seq ?_
      refine hx_seq ?_
      refine hx_region ?_
      refine WL.qq (by simp only [EN, Nat.reduceEqDiff, reduceIte, qv_move, i5_0, strEq, hB1.cell, hB2.cell]; rfl) ?_
      refine WL.qq (by simp only [EN, Nat.reduceEqDiff, reduceIte, qv_fieldAddr, fa45_3, Nat.zero_add, Nat.reduceAdd, k2_0, strEq, hB1.cell, hB2.cell]; rfl) ?_
      refine WL.qq (by simp only [EN, Nat.reduceEqDiff, reduceIte, qv_load, ld43, readN, AR, Nat.zero_add, Nat.reduceAdd, strEq, hB1.cell, hB2.cell]; rfl) ?_
      refine WL.qq (by simp only [EN, Nat.reduceEqDiff, reduceIte, qv_len, ln43, AR, strEq, hB1.cell, hB2.cell]; rfl) ?_
      refine WL.qq (by simp only [EN, Nat.reduceEqDiff, reduceIte, qv_binOp, binv_lss, strEq, hB1.cell, hB2.cell]; rfl) ?_
      refine WL.nil ?_
      refine th_norm ?_
      refine hx_cond (by simp only [EN, Nat.reduceEqDiff, reduceIte, strEq, hB1.cell, hB2.cell]; rfl) (fun hct41 => ?_) (fun hct41 => ?_)
      ·
        try simp only [BD] at hct41
        obtain ⟨q, hq⟩ := atG (l := x.ps) (i := i) (by omega)
        obtain ⟨r, hr⟩ := atG (l := y.ps) (i := i) (by omega)
        obtain ⟨b1, o1, ha1, hq2, _⟩ := pt_rd hbx.1 hq
        obtain ⟨b2, o2, ha2, hr2, _⟩ := pt_rd hby.1 hr
        have kbx := hbx; have kby := hby
        have hqs : SlG 4 poL _ q.a q.ps := hbx.2 q (List.mem_of_getElem? hq); have hrs : SlG 4 poL _ r.a r.ps := hby.2 r (List.mem_of_getElem? hr); have hql := hlx.2 q (List.mem_of_getElem? hq)
        refine hx_skip ?_
        refine th_norm ?_
        refine hx_seq ?_
        refine hx_block ?_
        refine hx_seq ?_
        apply hx_drawT [10, 11] [5, 6, 7, 8, 9] [12, 13] [10, 11] [(10, Spec.blk _ _ 79), (11, Spec.blk _ _ 79)] rfl (by decide +kernel) rfl (FrS.two (by intro k hk; simp at hk; rcases hk with rfl | rfl <;> exact ⟨_, _, _, rfl⟩))
        refine LD.qq rfl rfl (by simp only [EN, Nat.reduceEqDiff, reduceIte, qv_fieldAddr, fa45_3, Nat.zero_add, Nat.reduceAdd, k2_0, strEq, hB1.cell, hB2.cell]; rfl) ?_
        refine LD.qq rfl rfl (by simp only [EN, Nat.reduceEqDiff, reduceIte, qv_load, ld43, readN, AR, Nat.zero_add, Nat.reduceAdd, strEq, hB1.cell, hB2.cell]; rfl) ?_
        refine LD.qq rfl rfl (by simp only [EN, Nat.reduceEqDiff, reduceIte, qv_move, i5_0, strEq, hB1.cell, hB2.cell]; rfl) ?_
        refine LD.qq rfl rfl (by simp only [EN, Nat.reduceEqDiff, reduceIte, qv_indexAddr, strEq, hB1.cell, hB2.cell, ha1]; (try simp (disch := omega) only [ix43, Int.toNat_natCast]); rfl) ?_
        refine LD.qq rfl rfl (by simp only [EN, Nat.reduceEqDiff, reduceIte, k2_0, k3_0, i5_0, strEq, hB1.cell, hB2.cell, qv_load, ld79, Int.toNat_natCast, hq2]; rfl) ?_
        refine LD.qq rfl rfl (by simp only [EN, Nat.reduceEqDiff, reduceIte, qv_fieldAddr, fa45_3, Nat.zero_add, Nat.reduceAdd, k3_0, strEq, hB1.cell, hB2.cell]; rfl) ?_
        refine LD.qq rfl rfl (by simp only [EN, Nat.reduceEqDiff, reduceIte, qv_load, ld43, readN, AR, Nat.zero_add, Nat.reduceAdd, strEq, hB1.cell, hB2.cell]; rfl) ?_
        refine LD.qq rfl rfl (by simp only [EN, Nat.reduceEqDiff, reduceIte, qv_move, i5_0, strEq, hB1.cell, hB2.cell]; rfl) ?_
        refine LD.qq rfl rfl (by simp only [EN, Nat.reduceEqDiff, reduceIte, qv_indexAddr, strEq, hB1.cell, hB2.cell, ha2]; (try simp (disch := omega) only [ix43, Int.toNat_natCast]); rfl) ?_
        refine LD.qq rfl rfl (by simp only [EN, Nat.reduceEqDiff, reduceIte, k2_0, k3_0, i5_0, strEq, hB1.cell, hB2.cell, qv_load, ld79, Int.toNat_natCast, hr2]; rfl) ?_
        refine LD.alT rfl rfl zr79 (Nat.le_refl _) ?_
        intro B3 hlt3
        refine LD.alT rfl rfl zr79 (Nat.le_refl _) ?_
        intro B4 hlt4
        refine LD.skip rfl ?_
        refine LD.skip rfl ?_
        refine LD.nilJ ?_
        rintro h5 hx5 hF6 hD6
        replace hx5 : Ext _ _ := hx5
        replace hbx := hbx.ext hx5
        replace hby := hby.ext hx5
        replace hB1 := hB1.ext hx5
        replace hB2 := hB2.ext hx5
        have hB3 := hF6 (10, .pointer (some ⟨B3, 0, none⟩)) (by simp) _ rfl B3 rfl
        simp only [Value.cells] at hB3
        have hB4 := hF6 (11, .pointer (some ⟨B4, 0, none⟩)) (by simp) _ rfl B4 rfl
        simp only [Value.cells] at hB4
        have hne3_4 : B4 ≠ B3 := fun hh => hD6 (10, .pointer (some ⟨B3, 0, none⟩)) (by simp) (11, .pointer (some ⟨B4, 0, none⟩)) (by simp) (by simp) rfl rfl B3 rfl (congrArg some hh)
        have hn43 : B4 ≠ B3 := hne3_4
        refine WLJ.store (by simp only [EN, Nat.reduceEqDiff, reduceIte, k2_0, k3_0, i5_0, strEq, hB1.cell, hB2.cell, hB3.cell, hB4.cell] <;> rfl) sz79 (by simp only [EN, Nat.reduceEqDiff, reduceIte, k2_0, k3_0, i5_0, strEq, hB1.cell, hB2.cell, hB3.cell, hB4.cell, Value.cells] <;> rfl) rfl hB3 (by simp) (by simp [Value.oneCell']) ?_
        intro h21 hw21
        have hE21 := hw21.ext hx5 (by omega)
        refine ⟨hE21, ?_⟩
        replace hB4 := hB4.wr hw21 hn43
        replace hB3 := hw21.at_
        refine WLJ.store (by simp only [EN, Nat.reduceEqDiff, reduceIte, k2_0, k3_0, i5_0, strEq, hB1.cell, hB2.cell, hB3.cell, hB4.cell] <;> rfl) sz79 (by simp only [EN, Nat.reduceEqDiff, reduceIte, k2_0, k3_0, i5_0, strEq, hB1.cell, hB2.cell, hB3.cell, hB4.cell, Value.cells] <;> rfl) rfl hB4 (by simp) (by simp [Value.oneCell']) ?_
        intro h22 hw22
        have hE22 := hw22.ext hE21 (by omega)
        refine ⟨hE22, ?_⟩
        replace hB3 := hB3.wr hw22 (Ne.symm hn43)
        replace hB4 := hw22.at_
        simp only [splc, List.take_succ_cons, List.take_zero, List.take_nil, List.drop_succ_cons, List.drop_zero, List.drop_nil, List.cons_append, List.nil_append, List.length_cons, List.length_nil, Nat.zero_add, Nat.add_zero, Nat.reduceAdd, List.append_nil] at hB3 hB4
        replace hx5 := hE22
        replace hbx := kbx.ext hE22
        replace hby := kby.ext hE22
        refine WLJ.nil ?_
        refine th_norm ?_
        refine hx_seq ?_
        refine hx_seq ?_
        refine hx_region ?_
        refine WL.qq (by simp only [EN, Nat.reduceEqDiff, reduceIte, qv_fieldAddr, fa79_0, Nat.zero_add, Nat.reduceAdd, strEq, hB1.cell, hB2.cell, hB3.cell, hB4.cell]; rfl) ?_
        refine WL.qq (by simp only [EN, Nat.reduceEqDiff, reduceIte, qv_load, ld9, readN, AR, Nat.zero_add, Nat.reduceAdd, strEq, hB1.cell, hB2.cell, hB3.cell, hB4.cell]; rfl) ?_
        refine WL.qq (by simp only [EN, Nat.reduceEqDiff, reduceIte, qv_fieldAddr, fa79_0, Nat.zero_add, Nat.reduceAdd, strEq, hB1.cell, hB2.cell, hB3.cell, hB4.cell]; rfl) ?_
        refine WL.qq (by simp only [EN, Nat.reduceEqDiff, reduceIte, qv_load, ld9, readN, AR, Nat.zero_add, Nat.reduceAdd, strEq, hB1.cell, hB2.cell, hB3.cell, hB4.cell]; rfl) ?_
        refine WL.qq (by simp only [EN, Nat.reduceEqDiff, reduceIte, qv_binOp, binv_neq, eq9, Option.map_some, strEq, hB1.cell, hB2.cell, hB3.cell, hB4.cell]; rfl) ?_
        refine WL.qq (by simp only [EN, Nat.reduceEqDiff, reduceIte, qv_move, strEq, hB1.cell, hB2.cell, hB3.cell, hB4.cell]; rfl) ?_
        refine WL.cq (gd_at (t := 59) rfl (by simp only [EN, Nat.reduceEqDiff, reduceIte, strEq, hB1.cell, hB2.cell, hB3.cell, hB4.cell] <;> rfl)) (fun hg7_6 => by simp only [EN, Nat.reduceEqDiff, reduceIte, qv_fieldAddr, fa79_1, Nat.zero_add, Nat.reduceAdd, strEq, hB1.cell, hB2.cell, hB3.cell, hB4.cell, hg7_6, GR]; rfl) ?_
        refine WL.cq (gd_at (t := 59) rfl (by simp only [EN, Nat.reduceEqDiff, reduceIte, strEq, hB1.cell, hB2.cell, hB3.cell, hB4.cell] <;> rfl)) (fun hg7_7 => by simp only [EN, Nat.reduceEqDiff, reduceIte, qv_load, ld77, readN, AR, Nat.zero_add, Nat.reduceAdd, strEq, hB1.cell, hB2.cell, hB3.cell, hB4.cell, hg7_7, GR]; rfl) ?_
        refine WL.cq (gd_at (t := 59) rfl (by simp only [EN, Nat.reduceEqDiff, reduceIte, strEq, hB1.cell, hB2.cell, hB3.cell, hB4.cell] <;> rfl)) (fun hg7_8 => by simp only [EN, Nat.reduceEqDiff, reduceIte, qv_len, ln77, AR, strEq, hB1.cell, hB2.cell, hB3.cell, hB4.cell, hg7_8, GR]; rfl) ?_
        refine WL.cq (gd_at (t := 59) rfl (by simp only [EN, Nat.reduceEqDiff, reduceIte, strEq, hB1.cell, hB2.cell, hB3.cell, hB4.cell] <;> rfl)) (fun hg7_9 => by simp only [EN, Nat.reduceEqDiff, reduceIte, qv_fieldAddr, fa79_1, Nat.zero_add, Nat.reduceAdd, strEq, hB1.cell, hB2.cell, hB3.cell, hB4.cell, hg7_9, GR]; rfl) ?_
        refine WL.cq (gd_at (t := 59) rfl (by simp only [EN, Nat.reduceEqDiff, reduceIte, strEq, hB1.cell, hB2.cell, hB3.cell, hB4.cell] <;> rfl)) (fun hg7_10 => by simp only [EN, Nat.reduceEqDiff, reduceIte, qv_load, ld77, readN, AR, Nat.zero_add, Nat.reduceAdd, strEq, hB1.cell, hB2.cell, hB3.cell, hB4.cell, hg7_10, GR]; rfl) ?_
        refine WL.cq (gd_at (t := 59) rfl (by simp only [EN, Nat.reduceEqDiff, reduceIte, strEq, hB1.cell, hB2.cell, hB3.cell, hB4.cell] <;> rfl)) (fun hg7_11 => by simp only [EN, Nat.reduceEqDiff, reduceIte, qv_len, ln77, AR, strEq, hB1.cell, hB2.cell, hB3.cell, hB4.cell, hg7_11, GR]; rfl) ?_
        refine WL.cq (gd_at (t := 59) rfl (by simp only [EN, Nat.reduceEqDiff, reduceIte, strEq, hB1.cell, hB2.cell, hB3.cell, hB4.cell] <;> rfl)) (fun hg7_12 => by simp only [EN, Nat.reduceEqDiff, reduceIte, qv_binOp, binv_neq, eq3, Option.map_some, strEq, hB1.cell, hB2.cell, hB3.cell, hB4.cell, hg7_12, GR]; rfl) ?_
        refine WL.qq (by simp only [EN, Nat.reduceEqDiff, reduceIte, qv_pick, pk_and, pk_or, GR, strEq, hB1.cell, hB2.cell, hB3.cell, hB4.cell]; rfl) ?_
        refine WL.nil ?_
        refine th_norm ?_
        refine hx_cond (by simp only [EN, Nat.reduceEqDiff, reduceIte, strEq, hB1.cell, hB2.cell, hB3.cell, hB4.cell]; rfl) (fun hct67 => ?_) (fun hct67 => ?_)
        ·
          try simp only [BD] at hct67
          refine hx_seq ?_
          refine hx_region ?_
          refine WL.qq (by simp only [EN, Nat.reduceEqDiff, reduceIte, qv_assign, strEq, hB1.cell, hB2.cell, hB3.cell, hB4.cell]; rfl) ?_
          refine WL.nil ?_
          refine th_norm ?_
          refine hx_ret ?_
          refine th_ret ?_
          refine bl_ret ?_
          refine th_ret ?_
          refine th_ret ?_
          refine bl_ret ?_
          refine th_ret ?_
          refine fin_ret [.tmp 4] rfl rfl (by simp only [EN, Nat.reduceEqDiff, reduceIte, resv, k2_0, k3_0, i5_0, strEq, hB1.cell, hB2.cell, hB3.cell, hB4.cell]; rfl) ?_  -- ret 1 r8
          have hne : q.pt ≠ r.pt := (fun hh => by simp only [PX.pt, PT.mk.injEq] at hh; have h3 := congrArg List.length hh.2; rcases hct67 with h4 | h4; exact h4 hh.1; omega)
          exact ⟨by simp only [retOf]; congr 1; exact (decide_eq_false (pt_ne hq hr hne)).symm, ((hx1).trans ((hx2).trans ((hX0).trans (hx5))))⟩
        ·
          try simp only [BD] at hct67
          have hre : q.r = r.r := (by simpa using hct67.1); have hlr : q.ps.length = r.ps.length := (by omega)
          replace hqs := SlG.ext hqs hE22; replace hrs := SlG.ext hrs hE22
          refine hx_skip ?_
          refine th_norm ?_
          refine hx_seq ?_
          refine hx_region ?_
          refine WL.qq (by simp only [EN, Nat.reduceEqDiff, reduceIte, qv_assign, strEq, hB1.cell, hB2.cell, hB3.cell, hB4.cell]; rfl) ?_
          refine WL.nil ?_
          refine th_norm ?_
          refine hx_block ?_
          refine hx_loopS [4, 8, 68, 69, 70, 71, 72, 73, 74, 75, 76, 77, 78, 79, 80, 81, 82, 83, 84, 85] (fun k e => ∃ (j : Nat), q.ps.length - j = k ∧ (j ≤ q.ps.length) ∧ (q.ps.take j = r.ps.take j) ∧ e 8 = .int .i64 j) _ ⟨0, rfl, ?_, ?_, ?_⟩ ?_
          · omega
          · rfl
          · simp only [EN, Nat.reduceEqDiff, reduceIte, k2_0, k3_0, i5_0, strEq, hB1.cell, hB2.cell, hB3.cell, hB4.cell] <;> rfl
          ·
            rintro k e1L hfr1 ⟨j, rfl, hj, hz2, i8_1⟩
            have k2_1 := hfr1 2 rfl; try simp only [EN, Nat.reduceEqDiff, reduceIte, k2_0, strEq, hB1.cell, hB2.cell, hB3.cell, hB4.cell] at k2_1
            have k3_1 := hfr1 3 rfl; try simp only [EN, Nat.reduceEqDiff, reduceIte, k3_0, strEq, hB1.cell, hB2.cell, hB3.cell, hB4.cell] at k3_1
            have k5_1 := hfr1 5 rfl; try simp only [EN, Nat.reduceEqDiff, reduceIte, i5_0, strEq, hB1.cell, hB2.cell, hB3.cell, hB4.cell] at k5_1
            have k6_1 := hfr1 6 rfl; try simp only [EN, Nat.reduceEqDiff, reduceIte, strEq, hB1.cell, hB2.cell, hB3.cell, hB4.cell] at k6_1
            have k7_1 := hfr1 7 rfl; try simp only [EN, Nat.reduceEqDiff, reduceIte, strEq, hB1.cell, hB2.cell, hB3.cell, hB4.cell] at k7_1
            refine hx_seq ?_
            refine hx_seq ?_
            refine hx_region ?_
            refine WL.qq (by simp only [EN, Nat.reduceEqDiff, reduceIte, qv_move, i8_1, strEq, hB1.cell, hB2.cell, hB3.cell, hB4.cell]; rfl) ?_
            refine WL.qq (by simp only [EN, Nat.reduceEqDiff, reduceIte, qv_fieldAddr, fa79_1, Nat.zero_add, Nat.reduceAdd, k6_1, strEq, hB1.cell, hB2.cell, hB3.cell, hB4.cell]; rfl) ?_
            refine WL.qq (by simp only [EN, Nat.reduceEqDiff, reduceIte, qv_load, ld77, readN, AR, Nat.zero_add, Nat.reduceAdd, strEq, hB1.cell, hB2.cell, hB3.cell, hB4.cell]; rfl) ?_
            refine WL.qq (by simp only [EN, Nat.reduceEqDiff, reduceIte, qv_len, ln77, AR, strEq, hB1.cell, hB2.cell, hB3.cell, hB4.cell]; rfl) ?_
            refine WL.qq (by simp only [EN, Nat.reduceEqDiff, reduceIte, qv_binOp, binv_lss, strEq, hB1.cell, hB2.cell, hB3.cell, hB4.cell]; rfl) ?_
            refine WL.nil ?_
            refine th_norm ?_
            refine hx_cond (by simp only [EN, Nat.reduceEqDiff, reduceIte, strEq, hB1.cell, hB2.cell, hB3.cell, hB4.cell]; rfl) (fun hct72 => ?_) (fun hct72 => ?_)
            ·
              try simp only [BD] at hct72
              obtain ⟨a, haq⟩ := atG (l := q.ps) (i := j) (by omega)
              obtain ⟨b, hbr⟩ := atG (l := r.ps) (i := j) (by omega)
              obtain ⟨b3, o3, ha3, ha4, _⟩ := po_rd hqs haq
              obtain ⟨b5, o5, ha5, ha6, _⟩ := po_rd hrs hbr
              refine hx_skip ?_
              refine th_norm ?_
              refine hx_seq ?_
              refine hx_block ?_
              refine hx_seq ?_
              apply hx_draw2 Rel.same [] [] [] rfl (by decide +kernel) rfl
              refine LD.qq rfl rfl (by simp only [EN, Nat.reduceEqDiff, reduceIte, qv_fieldAddr, fa79_1, Nat.zero_add, Nat.reduceAdd, k6_1, strEq, hB1.cell, hB2.cell, hB3.cell, hB4.cell]; rfl) ?_
              refine LD.qq rfl rfl (by simp only [EN, Nat.reduceEqDiff, reduceIte, qv_load, ld77, readN, AR, Nat.zero_add, Nat.reduceAdd, strEq, hB1.cell, hB2.cell, hB3.cell, hB4.cell]; rfl) ?_
              refine LD.qq rfl rfl (by simp only [EN, Nat.reduceEqDiff, reduceIte, qv_move, i8_1, strEq, hB1.cell, hB2.cell, hB3.cell, hB4.cell]; rfl) ?_
              refine LD.qq rfl rfl (by simp only [EN, Nat.reduceEqDiff, reduceIte, qv_indexAddr, strEq, hB1.cell, hB2.cell, hB3.cell, hB4.cell, ha3]; (try simp (disch := omega) only [ix77, Int.toNat_natCast]); rfl) ?_
              refine LD.qq rfl rfl (by simp only [EN, Nat.reduceEqDiff, reduceIte, k2_1, k3_1, k5_1, k6_1, k7_1, i8_1, strEq, hB1.cell, hB2.cell, hB3.cell, hB4.cell, qv_load, ld76, Int.toNat_natCast, ha4]; rfl) ?_
              refine LD.qq rfl rfl (by simp only [EN, Nat.reduceEqDiff, reduceIte, qv_fieldAddr, fa79_1, Nat.zero_add, Nat.reduceAdd, k7_1, strEq, hB1.cell, hB2.cell, hB3.cell, hB4.cell]; rfl) ?_
              refine LD.qq rfl rfl (by simp only [EN, Nat.reduceEqDiff, reduceIte, qv_load, ld77, readN, AR, Nat.zero_add, Nat.reduceAdd, strEq, hB1.cell, hB2.cell, hB3.cell, hB4.cell]; rfl) ?_
              refine LD.qq rfl rfl (by simp only [EN, Nat.reduceEqDiff, reduceIte, qv_move, i8_1, strEq, hB1.cell, hB2.cell, hB3.cell, hB4.cell]; rfl) ?_
              refine LD.qq rfl rfl (by simp only [EN, Nat.reduceEqDiff, reduceIte, qv_indexAddr, strEq, hB1.cell, hB2.cell, hB3.cell, hB4.cell, ha5]; (try simp (disch := omega) only [ix77, Int.toNat_natCast]); rfl) ?_
              refine LD.qq rfl rfl (by simp only [EN, Nat.reduceEqDiff, reduceIte, k2_1, k3_1, k5_1, k6_1, k7_1, i8_1, strEq, hB1.cell, hB2.cell, hB3.cell, hB4.cell, qv_load, ld76, Int.toNat_natCast, ha6]; rfl) ?_
              refine LD.qq rfl rfl (by simp only [EN, Nat.reduceEqDiff, reduceIte, qv_binOp, binv_neq, eqs76, Option.map_some, strEq, hB1.cell, hB2.cell, hB3.cell, hB4.cell]; rfl) ?_
              refine LD.nil ?_
              rintro _ rfl -
              refine WL.nil ?_
              refine th_norm ?_
              refine hx_cond (by simp only [EN, Nat.reduceEqDiff, reduceIte, strEq, hB1.cell, hB2.cell, hB3.cell, hB4.cell]; rfl) (fun hct85 => ?_) (fun hct85 => ?_)
              ·
                try simp only [BD] at hct85
                refine hx_seq ?_
                refine hx_region ?_
                refine WL.qq (by simp only [EN, Nat.reduceEqDiff, reduceIte, qv_assign, strEq, hB1.cell, hB2.cell, hB3.cell, hB4.cell]; rfl) ?_
                refine WL.nil ?_
                refine th_norm ?_
                refine hx_ret ?_
                refine bl_ret ?_
                refine th_ret ?_
                refine th_ret ?_
                refine bl_ret ?_
                refine bl_ret ?_
                refine th_ret ?_
                refine th_ret ?_
                refine bl_ret ?_
                refine th_ret ?_
                refine fin_ret [.tmp 4] rfl rfl (by simp only [EN, Nat.reduceEqDiff, reduceIte, resv, k2_1, k3_1, k5_1, k6_1, k7_1, i8_1, strEq, hB1.cell, hB2.cell, hB3.cell, hB4.cell]; rfl) ?_  -- ret 2 r13
                have hne : a ≠ b := (fun hh => by rw [hh] at hct85; simp at hct85)
                have hne2 : q.pt ≠ r.pt := (fun hh => by simp only [PX.pt, PT.mk.injEq] at hh; exact ne_tk haq hbr hne hh.2)
                exact ⟨by simp only [retOf]; congr 1; exact (decide_eq_false (pt_ne hq hr hne2)).symm, ((hx1).trans ((hx2).trans ((hX0).trans (hx5))))⟩
              ·
                try simp only [BD] at hct85
                have heq : a = b := (by rw [po_iff]; simpa [and_assoc] using hct85)
                subst heq
                refine hx_skip ?_
                refine bl_norm ?_
                refine th_norm ?_
                refine hx_region ?_
                refine WL.qq (by simp only [EN, Nat.reduceEqDiff, reduceIte, qv_move, i8_1, strEq, hB1.cell, hB2.cell, hB3.cell, hB4.cell]; rfl) ?_
                refine WL.qq (by simp only [EN, Nat.reduceEqDiff, reduceIte, qv_binOp, binv_add, strEq, hB1.cell, hB2.cell, hB3.cell, hB4.cell]; (try simp (disch := omega) only [w64, w8, wu64]); rfl) ?_
                refine WL.qq (by simp only [EN, Nat.reduceEqDiff, reduceIte, qv_assign, strEq, hB1.cell, hB2.cell, hB3.cell, hB4.cell]; rfl) ?_
                refine WL.nil ?_
                refine th_norm ?_
                refine ⟨rfl, rfl, ?_, _, ?_, j + 1, rfl, ?_, ?_, ?_⟩  -- again 0 of loop 1
                · (repeat (first | exact Fr.refl _ _ | refine Fr.set rfl ?_ | refine Fr.put rfl ?_ | with_reducible refine Fr.put0 ?_))
                · omega
                · omega
                · exact tk_step haq hbr hz2
                · simp only [EN, Nat.reduceEqDiff, reduceIte, k2_1, k3_1, k5_1, k6_1, k7_1, i8_1, strEq, hB1.cell, hB2.cell, hB3.cell, hB4.cell] <;> first | rfl | (congr 1; omega)
            ·
              try simp only [BD] at hct72
              have hps : q.ps = r.ps := (by rw [List.take_of_length_le (by omega), List.take_of_length_le (by omega)] at hz2; exact hz2)
              have hpt : q.pt = r.pt := (by simp only [PX.pt, hre, hps])
              refine hx_exit ?_
              refine th_exit ?_
              refine th_exit ?_
              refine bl_hit ?_
              refine bl_norm ?_
              refine th_norm ?_
              refine hx_region ?_
              refine WL.qq (by simp only [EN, Nat.reduceEqDiff, reduceIte, qv_move, k5_1, strEq, hB1.cell, hB2.cell, hB3.cell, hB4.cell]; rfl) ?_
              refine WL.qq (by simp only [EN, Nat.reduceEqDiff, reduceIte, qv_binOp, binv_add, strEq, hB1.cell, hB2.cell, hB3.cell, hB4.cell]; (try simp (disch := omega) only [w64, w8, wu64]); rfl) ?_
              refine WL.qq (by simp only [EN, Nat.reduceEqDiff, reduceIte, qv_assign, strEq, hB1.cell, hB2.cell, hB3.cell, hB4.cell]; rfl) ?_
              refine WL.nil ?_
              refine th_norm ?_
              refine ⟨rfl, ?_, ?_, _, ?_, i + 1, rfl, ?_, ?_, ?_⟩  -- again 0 of loop 0
              · exact hx5
              · (repeat (first | exact Fr.refl _ _ | refine Fr.set rfl ?_ | refine Fr.put rfl ?_ | with_reducible refine Fr.put0 ?_ | refine Fr.trans ?_ (Fr.of hfr1 rfl)))
              · omega
              · omega
              · exact tk_step (x := q.pt) (by rw [List.getElem?_map, hq]; rfl) (by rw [List.getElem?_map, hr, hpt]; rfl) hz
              · simp only [EN, Nat.reduceEqDiff, reduceIte, k2_1, k3_1, k5_1, k6_1, k7_1, i8_1, strEq, hB1.cell, hB2.cell, hB3.cell, hB4.cell] <;> first | rfl | (congr 1; omega)
      ·
        try simp only [BD] at hct41
        have hall : x.ps.map PX.pt = y.ps.map PX.pt := (by rw [List.take_of_length_le (by rw [List.length_map]; omega), List.take_of_length_le (by rw [List.length_map]; omega)] at hz; exact hz)
        refine hx_exit ?_
        refine th_exit ?_
        refine th_exit ?_
        refine bl_hit ?_
        refine th_norm ?_
        refine hx_seq ?_
        refine hx_region ?_
        refine WL.qq (by simp only [EN, Nat.reduceEqDiff, reduceIte, qv_assign, strEq, hB1.cell, hB2.cell]; rfl) ?_
        refine WL.nil ?_
        refine th_norm ?_
        refine hx_ret ?_
        refine fin_ret [.tmp 4] rfl rfl (by simp only [EN, Nat.reduceEqDiff, reduceIte, resv, k2_0, k3_0, i5_0, strEq, hB1.cell, hB2.cell]; rfl) ?_  -- ret 3 r14
        exact ⟨by simp only [retOf]; congr 1; exact (decide_eq_true (bd_iff.2 ⟨he1.1, he1.2.1, he1.2.2, hall⟩)).symm, ((hx1).trans ((hx2).trans (hX0)))⟩
def zB : HB := ⟨0, 0, 0, []⟩
abbrev zX : BX := ⟨0, 0, 0, none, [], 0⟩
def atB (l : List HB) (i : Int) : HB := if 1 ≤ i ∧ i ≤ l.length then (l[(i - 1).toNat]?).getD zB else zB
def atI (l : List HB) (i : Int) : Bool := decide (1 ≤ i ∧ i ≤ l.length)
set_option maxHeartbeats 2000000 in
theorem c_at {h : Heap} {p : Nat} {l : List HB} (i : Int) (hi64 : -9223372036854775808 ≤ i) (hl12 : l.length ≤ 1000) (hgf : ∀ b ∈ l, FB b) (hr : HR h p l) :
    HCalls Try.prog 24 #[ptr p, iV i] h fun v h' => Ext h h' ∧ ∃ y : BX, v = .tuple #[.agg (bdL y).toArray, .bool (atI l i)] ∧ y.bd = atB l i ∧ BXr (fun g => h.size ≤ g) h' y := by
  have hr0 := hr
  obtain ⟨av, cap, xs, hp, hsx, hxl, hbx, hcap, hsp⟩ := hr.ex
  have hs1 : (l.length : Int) = xs.length := by rw [← hxl, List.length_map]
  refine hcalls2 Try.func24 rfl (by decide +kernel) (by simp only [Try.ntmps24]; exact of_decide_eq_true rfl) ?_
  intro e hin
  have e0 := hin 0 _ rfl
  have e1 := hin 1 _ rfl
  refine hx_seq ?_
  refine hx_region ?_
  refine WL.alloc2 zr55 ?_
  intro h1 B1 hx1 hlt1 hB1
  replace hp := hp.ext hx1
  replace hr0 := hr0.ext hx1
  replace hsx := hsx.ext hx1
  replace hbx := hbx.ext hx1
  simp only [Value.cells] at hB1
  refine WL.qq (by simp only [EN, Nat.reduceEqDiff, reduceIte, qv_assign, hp.cell, hB1.cell]; rfl) ?_
  refine WL.nil ?_
  refine th_norm ?_
  refine hx_seq ?_
  refine hx_seq ?_
  refine hx_region ?_
  refine WL.qq (by simp only [EN, Nat.reduceEqDiff, reduceIte, qv_move, e1, hp.cell, hB1.cell]; rfl) ?_
  refine WL.qq (by simp only [EN, Nat.reduceEqDiff, reduceIte, qv_binOp, binv_lss, hp.cell, hB1.cell]; rfl) ?_
  refine WL.qq (by simp only [EN, Nat.reduceEqDiff, reduceIte, qv_move, hp.cell, hB1.cell]; rfl) ?_
  refine WL.cq (gd_at (t := 8) rfl (by simp only [EN, Nat.reduceEqDiff, reduceIte, e1, hp.cell, hB1.cell] <;> rfl)) (fun hg1_3 => by simp only [EN, Nat.reduceEqDiff, reduceIte, qv_move, e1, hp.cell, hB1.cell, hg1_3, GR]; rfl) ?_
  refine WL.cq (gd_at (t := 8) rfl (by simp only [EN, Nat.reduceEqDiff, reduceIte, e0, hp.cell, hB1.cell] <;> rfl)) (fun hg1_4 => by simp only [EN, Nat.reduceEqDiff, reduceIte, qv_move, e0, hp.cell, hB1.cell, hg1_4, GR]; rfl) ?_
  refine WL.cck (gd_at (t := 8) rfl (by simp only [EN, Nat.reduceEqDiff, reduceIte, hp.cell, hB1.cell] <;> rfl)) Try.call23 (fun hg1_5 => by simp only [EN, Nat.reduceEqDiff, reduceIte, AR, hp.cell, hB1.cell, hg1_5, GR]; exact c_len hr0) ?_
  refine WL.cq (gd_at (t := 8) rfl (by simp only [EN, Nat.reduceEqDiff, reduceIte, hp.cell, hB1.cell] <;> rfl)) (fun hg1_6 => by simp only [EN, Nat.reduceEqDiff, reduceIte, qv_binOp, binv_gtr, hp.cell, hB1.cell, hg1_6, GR]; rfl) ?_
  refine WL.qq (by simp only [EN, Nat.reduceEqDiff, reduceIte, qv_pick, pk_and, pk_or, GR, hp.cell, hB1.cell]; rfl) ?_
  refine WL.nil ?_
  refine th_norm ?_
  refine hx_cond (by simp only [EN, Nat.reduceEqDiff, reduceIte, hp.cell, hB1.cell]; rfl) (fun hct13 => ?_) (fun hct13 => ?_)
  ·
    try simp only [BD] at hct13
    refine hx_seq ?_
    refine hx_region ?_
    refine WL.qq (by refine qv_bld (by simp only [EN, Nat.reduceEqDiff, reduceIte, AR, hp.cell, hB1.cell] <;> rfl) (by rw [bl55]; simp [Instr.fill, Value.cells]; rfl)) ?_
    refine WL.store (by simp only [EN, Nat.reduceEqDiff, reduceIte, hp.cell, hB1.cell] <;> rfl) sz55 (by simp only [EN, Nat.reduceEqDiff, reduceIte, Value.cells, hp.cell, hB1.cell] <;> rfl) rfl hB1 (by first | (simp [true_and]; done) | (simp [true_and]; omega) | omega) (by simp [Value.oneCell']) ?_
    intro h2 hw2
    have hX2 := hw2.ext (hx1) hlt1
    replace hB1 := hw2.at_
    simp only [splc, List.take_succ_cons, List.take_zero, List.take_nil, List.drop_succ_cons, List.drop_zero, List.drop_nil, List.cons_append, List.nil_append, List.length_cons, List.length_nil, Nat.zero_add, Nat.add_zero, Nat.reduceAdd, List.append_nil] at hB1
    refine WL.qq (by simp only [EN, Nat.reduceEqDiff, reduceIte, qv_assign, hp.cell, hB1.cell]; rfl) ?_
    refine WL.nil ?_
    refine th_norm ?_
    refine hx_ret ?_
    refine th_ret ?_
    refine fin_ret [.cell 4 55, .tmp 5] rfl rfl (by simp only [EN, Nat.reduceEqDiff, reduceIte, resv, ld55, readN, AR, Nat.zero_add, Nat.reduceAdd, e0, e1, hp.cell, hB1.cell]; rfl) ?_  -- ret 0 r2
    have hn : ¬ (1 ≤ i ∧ i ≤ l.length) := (by omega)
    exact ⟨hX2, zX, by rw [show atI l i = false from decide_eq_false hn]; rfl, by rw [atB, if_neg hn]; rfl, slR_nil, (fun g off hh => by cases hh), fun m hm => by cases hm⟩
  ·
    try simp only [BD] at hct13
    have hn : 1 ≤ i ∧ i ≤ l.length := (by omega)
    obtain ⟨m, rfl⟩ : ∃ m : Nat, i = (m : Int) + 1 := ⟨(i - 1).toNat, by omega⟩
    obtain ⟨x, hx⟩ := atG (l := xs) (i := m) (by omega)
    obtain ⟨b1, o1, ha1, hr4, _⟩ := bd_rd hsx hx
    have hxm : x.bd ∈ l := (by rw [← hxl]; exact List.mem_map.2 ⟨x, List.mem_of_getElem? hx, rfl⟩)
    have hmm : IntKind.i64.wrap ((m : Int) + 1 - 1) = (m : Int) := (by rw [w64 (by omega) (by omega)]; omega)
    refine hx_skip ?_
    refine th_norm ?_
    refine hx_seq ?_
    refine hx_region ?_
    refine WL.qq (by simp only [EN, Nat.reduceEqDiff, reduceIte, qv_move, e0, hp.cell, hB1.cell]; rfl) ?_
    refine WL.qq (by simp only [EN, Nat.reduceEqDiff, reduceIte, qv_nilCheck, hp.cell, hB1.cell]; rfl) ?_
    refine WL.qq (by simp only [EN, Nat.reduceEqDiff, reduceIte, qv_fieldAddr, fa93_0, Nat.zero_add, Nat.reduceAdd, hp.cell, hB1.cell]; rfl) ?_
    refine WL.qq (by simp only [EN, Nat.reduceEqDiff, reduceIte, qv_load, ld91, readN, AR, Nat.zero_add, Nat.reduceAdd, hp.cell, hB1.cell]; rfl) ?_
    refine WL.qq (by simp only [EN, Nat.reduceEqDiff, reduceIte, qv_move, e1, hp.cell, hB1.cell]; rfl) ?_
    refine WL.qq (by simp only [EN, Nat.reduceEqDiff, reduceIte, e0, e1, hp.cell, hB1.cell, qv_binOp, binv_sub, hmm]; rfl) ?_
    refine WL.qq (by simp only [EN, Nat.reduceEqDiff, reduceIte, qv_indexAddr, hp.cell, hB1.cell, ha1]; (try simp (disch := omega) only [ix91, Int.toNat_natCast]); rfl) ?_
    refine WL.qq (by simp only [EN, Nat.reduceEqDiff, reduceIte, e0, e1, hp.cell, hB1.cell, qv_load, ld55, Int.toNat_natCast, hr4]; rfl) ?_
    refine WL.ce Try.call49 (by simp only [EN, Nat.reduceEqDiff, reduceIte, AR, hp.cell, hB1.cell]; exact c_clone x (hgf _ hxm).lens (hbx x (List.mem_of_getElem? hx))) ?_
    rintro _ h3 ⟨hx3, y, rfl, hyb, hyr⟩
    replace hp := hp.ext hx3
    replace hr0 := hr0.ext hx3
    replace hsx := hsx.ext hx3
    replace hbx := hbx.ext hx3
    replace hB1 := hB1.ext hx3
    simp only [put_some]
    refine WL.store (by simp only [EN, Nat.reduceEqDiff, reduceIte, hp.cell, hB1.cell] <;> rfl) sz55 (by simp only [EN, Nat.reduceEqDiff, reduceIte, Value.cells, hp.cell, hB1.cell] <;> rfl) rfl hB1 (by first | (simp [true_and]; done) | (simp [true_and]; omega) | omega) (by simp [Value.oneCell']) ?_
    intro h4 hw4
    have hX3 := hw4.ext ((hx1).trans (hx3)) hlt1
    have hyr9 := hyr.wr hw4 hB1 (by decide) (by decide)
    replace hB1 := hw4.at_
    simp only [splc, List.take_succ_cons, List.take_zero, List.take_nil, List.drop_succ_cons, List.drop_zero, List.drop_nil, List.cons_append, List.nil_append, List.length_cons, List.length_nil, Nat.zero_add, Nat.add_zero, Nat.reduceAdd, List.append_nil] at hB1
    refine WL.qq (by simp only [EN, Nat.reduceEqDiff, reduceIte, qv_assign, hp.cell, hB1.cell]; rfl) ?_
    refine WL.nil ?_
    refine th_norm ?_
    refine hx_ret ?_
    refine fin_ret [.cell 4 55, .tmp 5] rfl rfl (by simp only [EN, Nat.reduceEqDiff, reduceIte, resv, ld55, readN, AR, Nat.zero_add, Nat.reduceAdd, e0, e1, hp.cell, hB1.cell]; rfl) ?_  -- ret 1 r3
    have kz := hx1.size
    exact ⟨hX3, y, by rw [show atI l ((m : Int) + 1) = true from decide_eq_true hn]; rfl, by rw [hyb, atB, if_pos hn, show ((m : Int) + 1 - 1).toNat = m by omega, ← hxl, bd_at hx]; rfl, hyr9.mono (fun c hc => by omega)⟩
end GL


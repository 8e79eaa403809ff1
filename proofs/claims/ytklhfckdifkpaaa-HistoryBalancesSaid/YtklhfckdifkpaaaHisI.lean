/- History: few; bundles converted to and fro. -/
import Derived.Test.YtklhfckdifkpaaaHisF
import Derived.Test.YtklhfckdifkpaaaHisH
set_option linter.unusedSimpArgs false
set_option linter.unusedVariables false
set_option linter.unnecessarySimpa false
namespace GL
open Go Go.Proofs
set_option maxRecDepth 8000
instance (b : HB) : Decidable (FB b) := inferInstanceAs (Decidable (_ ∧ _))
def FW (L : List BX) : Prop := (∀ x ∈ L, FB x.bd) ∧ L.length ≤ 12
instance (L : List BX) : Decidable (FW L) := inferInstanceAs (Decidable (_ ∧ _))
theorem fb_iff {x : BX} : FB x.bd ↔ x.ps.length ≤ 8 ∧ ∀ p ∈ x.ps, p.ps.length ≤ 12 ∧ p.r.size ≤ 200 := by
  simp only [FB, BX.bd, List.length_map, List.mem_map, forall_exists_index, and_imp, forall_apply_eq_imp_iff₂]
  rfl
set_option maxHeartbeats 1000000 in
theorem c_few (a : Option Addr) (L : List BX) (c : Nat) (ll : L.length ≤ 9223372036854775807) {h : Heap} (hs : SlG 4 bdL h a L) (hb : BXs h L) : HCalls Try.prog 12 #[.slice a L.length c] h (Pure (.bool (decide (FW L))) h) := by
  refine hcalls2 Try.func12 rfl (by decide +kernel) (by simp only [Try.ntmps12]; exact of_decide_eq_true rfl) ?_
  intro e hin
  have e0 := hin 0 _ rfl
  refine hx_seq ?_
  refine hx_region ?_
  refine WL.qq (by simp only [EN, Nat.reduceEqDiff, reduceIte, qv_assign]; rfl) ?_
  refine WL.nil ?_
  refine th_norm ?_
  refine hx_seq ?_
  refine hx_seq ?_
  refine hx_region ?_
  refine WL.qq (by simp only [EN, Nat.reduceEqDiff, reduceIte, qv_assign]; rfl) ?_
  refine WL.nil ?_
  refine th_norm ?_
  refine hx_block ?_
  refine hx_loopS [2, 3, 4, 5, 6, 7, 8, 9, 10, 11, 12, 13, 14, 15, 16, 17, 18, 19, 20, 21, 22, 23, 24, 25, 26, 27, 28, 29, 30, 31, 32, 33, 34, 35, 36, 37, 38, 39, 40, 41, 42, 43, 44, 45, 46, 47, 48, 49, 50, 51] (fun k e => ∃ (i : Nat), L.length - i = k ∧ (i ≤ L.length) ∧ ((∀ x ∈ L.take i, FB x.bd)) ∧ e 3 = .int .i64 i) _ ⟨0, rfl, ?_, ?_, ?_⟩ ?_
  · omega
  · intro y hy; simp at hy
  · simp only [EN, Nat.reduceEqDiff, reduceIte, e0] <;> rfl
  ·
    rintro k e0L hfr0 ⟨i, rfl, hi, hok, i3_0⟩
    have k0_0 := hfr0 0 rfl; try simp only [EN, Nat.reduceEqDiff, reduceIte, e0] at k0_0
    refine hx_seq ?_
    refine hx_seq ?_
    refine hx_region ?_
    refine WL.qq (by simp only [EN, Nat.reduceEqDiff, reduceIte, qv_move, i3_0]; rfl) ?_
    refine WL.qq (by simp only [EN, Nat.reduceEqDiff, reduceIte, qv_move, k0_0]; rfl) ?_
    refine WL.qq (by simp only [EN, Nat.reduceEqDiff, reduceIte, qv_len, ln22, AR]; rfl) ?_
    refine WL.qq (by simp only [EN, Nat.reduceEqDiff, reduceIte, qv_binOp, binv_lss]; rfl) ?_
    refine WL.nil ?_
    refine th_norm ?_
    refine hx_cond (by simp only [EN, Nat.reduceEqDiff, reduceIte]; rfl) (fun hct8 => ?_) (fun hct8 => ?_)
    ·
      try simp only [BD] at hct8
      obtain ⟨x, hx⟩ := atG (l := L) (i := i) (by omega)
      obtain ⟨b, off, rfl, _, _, _, _, hc3, _⟩ := bd_rd hs hx
      have hxi := hb x (List.mem_of_getElem? hx)
      refine hx_skip ?_
      refine th_norm ?_
      refine hx_seq ?_
      refine hx_block ?_
      refine hx_seq ?_
      refine hx_seq ?_
      refine hx_region ?_
      refine WL.qq (by simp only [EN, Nat.reduceEqDiff, reduceIte, qv_move, k0_0]; rfl) ?_
      refine WL.qq (by simp only [EN, Nat.reduceEqDiff, reduceIte, qv_move, i3_0]; rfl) ?_
      refine WL.qq (by simp only [EN, Nat.reduceEqDiff, reduceIte, qv_indexAddr]; (try simp (disch := omega) only [ix22, Int.toNat_natCast]); rfl) ?_
      refine WL.qq (by simp only [EN, Nat.reduceEqDiff, reduceIte, qv_fieldAddr, fa45_3, Nat.zero_add, Nat.reduceAdd]; rfl) ?_
      refine WL.qq (by simp only [EN, Nat.reduceEqDiff, reduceIte, k0_0, i3_0, qv_load, ld43, Int.toNat_natCast, hc3]; rfl) ?_
      refine WL.qq (by simp only [EN, Nat.reduceEqDiff, reduceIte, qv_len, ln43, AR]; rfl) ?_
      refine WL.qq (by simp only [EN, Nat.reduceEqDiff, reduceIte, qv_binOp, binv_gtr]; rfl) ?_
      refine WL.nil ?_
      refine th_norm ?_
      refine hx_cond (by simp only [EN, Nat.reduceEqDiff, reduceIte]; rfl) (fun hct17 => ?_) (fun hct17 => ?_)
      ·
        try simp only [BD] at hct17
        refine hx_seq ?_
        refine hx_region ?_
        refine WL.qq (by simp only [EN, Nat.reduceEqDiff, reduceIte, qv_assign]; rfl) ?_
        refine WL.nil ?_
        refine th_norm ?_
        refine hx_ret ?_
        refine th_ret ?_
        refine bl_ret ?_
        refine th_ret ?_
        refine th_ret ?_
        refine bl_ret ?_
        refine th_ret ?_
        refine fin_ret [.tmp 2] rfl rfl (by simp only [EN, Nat.reduceEqDiff, reduceIte, resv, k0_0, i3_0]; rfl) ?_  -- ret 0 r5
        exact ⟨by simp only [retOf]; congr 1; exact (decide_eq_false (fun hh => by have := (fb_iff.1 (hh.1 x (List.mem_of_getElem? hx))).1; omega)).symm, rfl⟩
      ·
        try simp only [BD] at hct17
        refine hx_skip ?_
        refine th_norm ?_
        refine hx_seq ?_
        refine hx_region ?_
        refine WL.qq (by simp only [EN, Nat.reduceEqDiff, reduceIte, qv_assign]; rfl) ?_
        refine WL.nil ?_
        refine th_norm ?_
        refine hx_block ?_
        refine hx_loopS [2, 4, 18, 19, 20, 21, 22, 23, 24, 25, 26, 27, 28, 29, 30, 31, 32, 33, 34, 35, 36, 37, 38, 39, 40, 41, 42, 43, 44, 45, 46, 47, 48, 49, 50, 51] (fun k e => ∃ (k2 : Nat), x.ps.length - k2 = k ∧ (k2 ≤ x.ps.length) ∧ ((∀ p ∈ x.ps.take k2, p.ps.length ≤ 12 ∧ p.r.size ≤ 200)) ∧ e 4 = .int .i64 k2) _ ⟨0, rfl, ?_, ?_, ?_⟩ ?_
        · omega
        · intro y hy; simp at hy
        · simp only [EN, Nat.reduceEqDiff, reduceIte, k0_0, i3_0] <;> rfl
        ·
          rintro k e1L hfr1 ⟨k2, rfl, hk2, hok2, i4_1⟩
          have k0_1 := hfr1 0 rfl; try simp only [EN, Nat.reduceEqDiff, reduceIte, k0_0] at k0_1
          have k3_1 := hfr1 3 rfl; try simp only [EN, Nat.reduceEqDiff, reduceIte, i3_0] at k3_1
          refine hx_seq ?_
          refine hx_seq ?_
          refine hx_region ?_
          refine WL.qq (by simp only [EN, Nat.reduceEqDiff, reduceIte, qv_move, i4_1]; rfl) ?_
          refine WL.qq (by simp only [EN, Nat.reduceEqDiff, reduceIte, qv_move, k0_1]; rfl) ?_
          refine WL.qq (by simp only [EN, Nat.reduceEqDiff, reduceIte, qv_move, k3_1]; rfl) ?_
          refine WL.qq (by simp only [EN, Nat.reduceEqDiff, reduceIte, qv_indexAddr]; (try simp (disch := omega) only [ix22, Int.toNat_natCast]); rfl) ?_
          refine WL.qq (by simp only [EN, Nat.reduceEqDiff, reduceIte, qv_fieldAddr, fa45_3, Nat.zero_add, Nat.reduceAdd]; rfl) ?_
          refine WL.qq (by simp only [EN, Nat.reduceEqDiff, reduceIte, k0_1, k3_1, i4_1, qv_load, ld43, Int.toNat_natCast, hc3]; rfl) ?_
          refine WL.qq (by simp only [EN, Nat.reduceEqDiff, reduceIte, qv_len, ln43, AR]; rfl) ?_
          refine WL.qq (by simp only [EN, Nat.reduceEqDiff, reduceIte, qv_binOp, binv_lss]; rfl) ?_
          refine WL.nil ?_
          refine th_norm ?_
          refine hx_cond (by simp only [EN, Nat.reduceEqDiff, reduceIte]; rfl) (fun hct25 => ?_) (fun hct25 => ?_)
          ·
            try simp only [BD] at hct25
            obtain ⟨y, hy⟩ := atG (l := x.ps) (i := k2) (by omega)
            obtain ⟨b2, off2, ha2, _, hp0, hp1⟩ := pt_rd hxi.1 hy
            refine hx_skip ?_
            refine th_norm ?_
            refine hx_seq ?_
            refine hx_block ?_
            refine hx_seq ?_
            refine hx_region ?_
            refine WL.qq (by simp only [EN, Nat.reduceEqDiff, reduceIte, qv_move, k0_1]; rfl) ?_
            refine WL.qq (by simp only [EN, Nat.reduceEqDiff, reduceIte, qv_move, k3_1]; rfl) ?_
            refine WL.qq (by simp only [EN, Nat.reduceEqDiff, reduceIte, qv_indexAddr]; (try simp (disch := omega) only [ix22, Int.toNat_natCast]); rfl) ?_
            refine WL.qq (by simp only [EN, Nat.reduceEqDiff, reduceIte, qv_fieldAddr, fa45_3, Nat.zero_add, Nat.reduceAdd]; rfl) ?_
            refine WL.qq (by simp only [EN, Nat.reduceEqDiff, reduceIte, k0_1, k3_1, i4_1, qv_load, ld43, Int.toNat_natCast, hc3]; rfl) ?_
            refine WL.qq (by simp only [EN, Nat.reduceEqDiff, reduceIte, qv_move, i4_1]; rfl) ?_
            refine WL.qq (by simp only [EN, Nat.reduceEqDiff, reduceIte, qv_indexAddr, ha2]; (try simp (disch := omega) only [ix43, Int.toNat_natCast]); rfl) ?_
            refine WL.qq (by simp only [EN, Nat.reduceEqDiff, reduceIte, qv_fieldAddr, fa79_1, Nat.zero_add, Nat.reduceAdd]; rfl) ?_
            refine WL.qq (by simp only [EN, Nat.reduceEqDiff, reduceIte, k0_1, k3_1, i4_1, qv_load, ld77, Int.toNat_natCast, hp1]; rfl) ?_
            refine WL.qq (by simp only [EN, Nat.reduceEqDiff, reduceIte, qv_len, ln77, AR]; rfl) ?_
            refine WL.qq (by simp only [EN, Nat.reduceEqDiff, reduceIte, qv_binOp, binv_gtr]; rfl) ?_
            refine WL.qq (by simp only [EN, Nat.reduceEqDiff, reduceIte, qv_move]; rfl) ?_
            refine WL.cq (gd_at (t := 39) rfl (by simp only [EN, Nat.reduceEqDiff, reduceIte, k0_1] <;> rfl)) (fun hg9_12 => by simp only [EN, Nat.reduceEqDiff, reduceIte, qv_move, k0_1, hg9_12, GR]; rfl) ?_
            refine WL.cq (gd_at (t := 39) rfl (by simp only [EN, Nat.reduceEqDiff, reduceIte, k3_1] <;> rfl)) (fun hg9_13 => by simp only [EN, Nat.reduceEqDiff, reduceIte, qv_move, k3_1, hg9_13, GR]; rfl) ?_
            refine WL.cq (gd_at (t := 39) rfl (by simp only [EN, Nat.reduceEqDiff, reduceIte] <;> rfl)) (fun hg9_14 => by have hq0 := hg9_14; (try simp only [BD] at hq0); simp only [EN, Nat.reduceEqDiff, reduceIte, qv_indexAddr, hg9_14, GR]; (try simp (disch := omega) only [ix22, Int.toNat_natCast]); rfl) ?_
            refine WL.cq (gd_at (t := 39) rfl (by simp only [EN, Nat.reduceEqDiff, reduceIte] <;> rfl)) (fun hg9_15 => by simp only [EN, Nat.reduceEqDiff, reduceIte, qv_fieldAddr, fa45_3, Nat.zero_add, Nat.reduceAdd, hg9_15, GR]; rfl) ?_
            refine WL.cq (gd_at (t := 39) rfl (by simp only [EN, Nat.reduceEqDiff, reduceIte] <;> rfl)) (fun hg9_16 => by simp only [EN, Nat.reduceEqDiff, reduceIte, k0_1, k3_1, i4_1, GR, hg9_16, qv_load, ld43, Int.toNat_natCast, hc3]; rfl) ?_
            refine WL.cq (gd_at (t := 39) rfl (by simp only [EN, Nat.reduceEqDiff, reduceIte, i4_1] <;> rfl)) (fun hg9_17 => by simp only [EN, Nat.reduceEqDiff, reduceIte, qv_move, i4_1, hg9_17, GR]; rfl) ?_
            refine WL.cq (gd_at (t := 39) rfl (by simp only [EN, Nat.reduceEqDiff, reduceIte] <;> rfl)) (fun hg9_18 => by have hq0 := hg9_18; (try simp only [BD] at hq0); simp only [EN, Nat.reduceEqDiff, reduceIte, qv_indexAddr, ha2, hg9_18, GR]; (try simp (disch := omega) only [ix43, Int.toNat_natCast]); rfl) ?_
            refine WL.cq (gd_at (t := 39) rfl (by simp only [EN, Nat.reduceEqDiff, reduceIte] <;> rfl)) (fun hg9_19 => by simp only [EN, Nat.reduceEqDiff, reduceIte, qv_fieldAddr, fa79_0, Nat.zero_add, Nat.reduceAdd, hg9_19, GR]; rfl) ?_
            refine WL.cq (gd_at (t := 39) rfl (by simp only [EN, Nat.reduceEqDiff, reduceIte] <;> rfl)) (fun hg9_20 => by simp only [EN, Nat.reduceEqDiff, reduceIte, k0_1, k3_1, i4_1, GR, hg9_20, qv_load, ld9, Int.toNat_natCast, hp0]; rfl) ?_
            refine WL.cq (gd_at (t := 39) rfl (by simp only [EN, Nat.reduceEqDiff, reduceIte] <;> rfl)) (fun hg9_21 => by simp only [EN, Nat.reduceEqDiff, reduceIte, qv_len, ln9, AR, hg9_21, GR]; rfl) ?_
            refine WL.cq (gd_at (t := 39) rfl (by simp only [EN, Nat.reduceEqDiff, reduceIte] <;> rfl)) (fun hg9_22 => by simp only [EN, Nat.reduceEqDiff, reduceIte, qv_binOp, binv_gtr, hg9_22, GR]; rfl) ?_
            refine WL.qq (by simp only [EN, Nat.reduceEqDiff, reduceIte, qv_pick, pk_and, pk_or, GR]; rfl) ?_
            refine WL.nil ?_
            refine th_norm ?_
            refine hx_cond (by simp only [EN, Nat.reduceEqDiff, reduceIte]; rfl) (fun hct51 => ?_) (fun hct51 => ?_)
            ·
              try simp only [BD] at hct51
              refine hx_seq ?_
              refine hx_region ?_
              refine WL.qq (by simp only [EN, Nat.reduceEqDiff, reduceIte, qv_assign]; rfl) ?_
              refine WL.nil ?_
              refine th_norm ?_
              refine hx_ret ?_
              refine bl_ret ?_
              refine th_ret ?_
              refine th_ret ?_
              refine bl_ret ?_
              refine bl_ret ?_
              refine th_ret ?_
              refine th_ret ?_
              refine bl_ret ?_
              refine th_ret ?_
              refine fin_ret [.tmp 2] rfl rfl (by simp only [EN, Nat.reduceEqDiff, reduceIte, resv, k0_1, k3_1, i4_1]; rfl) ?_  -- ret 1 r10
              exact ⟨by simp only [retOf]; congr 1; exact (decide_eq_false (fun hh => by have := (fb_iff.1 (hh.1 x (List.mem_of_getElem? hx))).2 y (List.mem_of_getElem? hy); omega)).symm, rfl⟩
            ·
              try simp only [BD] at hct51
              refine hx_skip ?_
              refine bl_norm ?_
              refine th_norm ?_
              refine hx_region ?_
              refine WL.qq (by simp only [EN, Nat.reduceEqDiff, reduceIte, qv_move, i4_1]; rfl) ?_
              refine WL.qq (by simp only [EN, Nat.reduceEqDiff, reduceIte, qv_binOp, binv_add]; (try simp (disch := omega) only [w64, w8, wu64]); rfl) ?_
              refine WL.qq (by simp only [EN, Nat.reduceEqDiff, reduceIte, qv_assign]; rfl) ?_
              refine WL.nil ?_
              refine th_norm ?_
              refine ⟨rfl, rfl, ?_, _, ?_, k2 + 1, rfl, ?_, ?_, ?_⟩  -- again 0 of loop 1
              · (repeat (first | exact Fr.refl _ _ | refine Fr.set rfl ?_ | refine Fr.put rfl ?_ | with_reducible refine Fr.put0 ?_))
              · omega
              · omega
              · exact all_take hok2 hy (by omega)
              · simp only [EN, Nat.reduceEqDiff, reduceIte, k0_1, k3_1, i4_1] <;> first | rfl | (congr 1; omega)
          ·
            try simp only [BD] at hct25
            have hall := all_end hok2 (by omega)
            refine hx_exit ?_
            refine th_exit ?_
            refine th_exit ?_
            refine bl_hit ?_
            refine bl_norm ?_
            refine th_norm ?_
            refine hx_region ?_
            refine WL.qq (by simp only [EN, Nat.reduceEqDiff, reduceIte, qv_move, k3_1]; rfl) ?_
            refine WL.qq (by simp only [EN, Nat.reduceEqDiff, reduceIte, qv_binOp, binv_add]; (try simp (disch := omega) only [w64, w8, wu64]); rfl) ?_
            refine WL.qq (by simp only [EN, Nat.reduceEqDiff, reduceIte, qv_assign]; rfl) ?_
            refine WL.nil ?_
            refine th_norm ?_
            refine ⟨rfl, rfl, ?_, _, ?_, i + 1, rfl, ?_, ?_, ?_⟩  -- again 0 of loop 0
            · (repeat (first | exact Fr.refl _ _ | refine Fr.set rfl ?_ | refine Fr.put rfl ?_ | with_reducible refine Fr.put0 ?_ | refine Fr.trans ?_ (Fr.of hfr1 rfl)))
            · omega
            · omega
            · exact all_take hok hx (fb_iff.2 ⟨by omega, hall⟩)
            · simp only [EN, Nat.reduceEqDiff, reduceIte, k0_1, k3_1, i4_1] <;> first | rfl | (congr 1; omega)
    ·
      try simp only [BD] at hct8
      have hall := all_end hok (by omega)
      refine hx_exit ?_
      refine th_exit ?_
      refine th_exit ?_
      refine bl_hit ?_
      refine th_norm ?_
      refine hx_seq ?_
      refine hx_region ?_
      refine WL.qq (by simp only [EN, Nat.reduceEqDiff, reduceIte, qv_move, k0_0]; rfl) ?_
      refine WL.qq (by simp only [EN, Nat.reduceEqDiff, reduceIte, qv_len, ln22, AR]; rfl) ?_
      refine WL.qq (by simp only [EN, Nat.reduceEqDiff, reduceIte, qv_binOp, binv_leq]; rfl) ?_
      refine WL.qq (by simp only [EN, Nat.reduceEqDiff, reduceIte, qv_assign]; rfl) ?_
      refine WL.nil ?_
      refine th_norm ?_
      refine hx_ret ?_
      refine fin_ret [.tmp 2] rfl rfl (by simp only [EN, Nat.reduceEqDiff, reduceIte, resv, k0_0, i3_0]; rfl) ?_  -- ret 2 r11
      exact ⟨by simp only [retOf]; congr 1; exact decide_eq_decide.2 ⟨fun hh => ⟨hall, by omega⟩, fun hh => by have := hh.2; omega⟩, rfl⟩
/-- A part whose rows are of type T and lie in blocks of F. -/
structure PXq (T : TypeId) (F : Nat → Prop) (h : Heap) (x : PX) : Prop where
  sl : SlR T 4 poL h x.a x.ps
  f : ∀ g off, x.a = some ⟨g, off, none⟩ → F g
def PQs (T : TypeId) (F : Nat → Prop) (h : Heap) (M : List PX) : Prop := ∀ m ∈ M, PXq T F h m
section
variable {T : TypeId} {F F' : Nat → Prop} {h h' : Heap} {M : List PX}
theorem PQs.ext (hp : PQs T F h M) (hx : Ext h h') : PQs T F h' M := fun m hm => ⟨(hp m hm).sl.ext hx, (hp m hm).f⟩
theorem PQs.wr {b : Nat} {o : Obj} {c : Array Value} {S : TypeId} (hp : PQs T F h M) (hw : Wr h h' b o) (hb : Has h b (.cells c S)) (h1 : S ≠ T) : PQs T F h' M := fun m hm => ⟨(hp m hm).sl.wr hw hb h1, (hp m hm).f⟩
theorem PQs.keep (hp : PQs T F h M) (hk : ∀ c, F c → c < h.size → h'[c]? = h[c]?) : PQs T F h' M := fun m hm => ⟨(hp m hm).sl.keep fun g off ha => hk g ((hp m hm).f g off ha) (by obtain ⟨cu, hc⟩ := (hp m hm).sl.ty g off ha; exact (Array.getElem?_eq_some_iff.1 hc).1), (hp m hm).f⟩
theorem PQs.lt (hp : PQs T F h M) : PQs T (fun g => F g ∧ g < h.size) h M := fun m hm => ⟨(hp m hm).sl, fun g off ha => ⟨(hp m hm).f g off ha, by obtain ⟨cu, hc⟩ := (hp m hm).sl.ty g off ha; exact (Array.getElem?_eq_some_iff.1 hc).1⟩⟩
theorem PQs.mono (hp : PQs T F h M) (hF : ∀ c, F c → F' c) : PQs T F' h M := fun m hm => ⟨(hp m hm).sl, fun g off ha => hF g ((hp m hm).f g off ha)⟩
theorem PQs.gr {n5 n sz : Nat} {v : Value} {xs : List Value} (hp : PQs T (fun g => F g ∧ g < n5) h M) (hg : Gr h h' v.ownBlock) (ho : Own h n5 T sz v n xs) : PQs T (fun g => F g ∧ g < n5) h' M :=
  hp.keep fun c hc hlt => hg.same c hlt fun hh => by have := (ho.block c hh).1; omega
theorem PQs.gro {N n sz : Nat} {el : TypeId} {v : Value} {xs : List Value} (hp : PQs T F h M) (hg : Gr h h' v.ownBlock) (ho : Own h N el sz v n xs) (h1 : el ≠ T) : PQs T F h' M := fun m hm => ⟨(hp m hm).sl.gro hg ho h1, (hp m hm).f⟩
theorem PQs.snoc {y : PX} (hp : PQs T F h M) (hy : PXq T F h y) : PQs T F h (M ++ [y]) := fun m hm => by
  rcases List.mem_append.1 hm with hm | hm
  · exact hp m hm
  · simp at hm; subst hm; exact hy
end
theorem poL_one (x : PO) : ∀ u ∈ poL x, u.oneCell' = true := fun u hu => by simp at hu; rcases hu with rfl | rfl | rfl | rfl <;> rfl
theorem ptL_one (x : PX) : ∀ u ∈ ptL x, u.oneCell' = true := fun u hu => by simp at hu; rcases hu with rfl | rfl <;> rfl
set_option maxHeartbeats 4000000 in
theorem c_own (x : BX) (hlen : x.ps.length ≤ 1000000 ∧ ∀ p ∈ x.ps, p.ps.length ≤ 1000000) {h : Heap} (hbi : BXin h x) :
    HCalls Try.prog 34 #[.agg (bdL x).toArray] h fun v h' => Ext h h' ∧ ∃ y : BX, v = .agg (bdL y).toArray ∧ y.bd = x.bd ∧ BXr (fun g => h.size ≤ g) h' y := by
  have kbi := hbi
  refine hcalls2 Try.func34 rfl (by decide +kernel) (by simp only [Try.ntmps34]; exact of_decide_eq_true rfl) ?_
  intro e hin
  have e0 := hin 0 _ rfl
  refine hx_seq ?_
  refine hx_region ?_
  refine WL.box2 (by simp only [EN, Nat.reduceEqDiff, reduceIte, Value.cells, e0]; rfl) ?_
  intro h1 B1 hx1 hlt1 hB1
  have k1 := (Array.getElem?_eq_some_iff.1 hB1).1; have kz1 := hx1.size
  refine WL.alloc2 zr55 ?_
  intro h2 B2 hx2 hlt2 hB2
  replace hB1 := hB1.ext hx2
  simp only [Value.cells] at hB2
  refine WL.nil ?_
  refine th_norm ?_
  refine hx_seq ?_
  refine hx_region ?_
  have k2 := (Array.getElem?_eq_some_iff.1 hB2).1; have k1b := (Array.getElem?_eq_some_iff.1 hB1).1; have kz2 := Ext.size ((hx1).trans (hx2))
  refine WL.qq (by simp only [EN, Nat.reduceEqDiff, reduceIte, qv_fieldAddr, fa45_0, Nat.zero_add, Nat.reduceAdd, hB1.cell, hB2.cell]; rfl) ?_
  refine WL.qq (by simp only [EN, Nat.reduceEqDiff, reduceIte, qv_load, ld3, readN, AR, Nat.zero_add, Nat.reduceAdd, hB1.cell, hB2.cell]; rfl) ?_
  refine WL.qq (by simp only [EN, Nat.reduceEqDiff, reduceIte, qv_fieldAddr, fa45_1, Nat.zero_add, Nat.reduceAdd, hB1.cell, hB2.cell]; rfl) ?_
  refine WL.qq (by simp only [EN, Nat.reduceEqDiff, reduceIte, qv_load, ld3, readN, AR, Nat.zero_add, Nat.reduceAdd, hB1.cell, hB2.cell]; rfl) ?_
  refine WL.qq (by simp only [EN, Nat.reduceEqDiff, reduceIte, qv_fieldAddr, fa45_2, Nat.zero_add, Nat.reduceAdd, hB1.cell, hB2.cell]; rfl) ?_
  refine WL.qq (by simp only [EN, Nat.reduceEqDiff, reduceIte, qv_load, ld3, readN, AR, Nat.zero_add, Nat.reduceAdd, hB1.cell, hB2.cell]; rfl) ?_
  refine WL.qq (by refine qv_bld (by simp only [EN, Nat.reduceEqDiff, reduceIte, AR, hB1.cell, hB2.cell] <;> rfl) (by rw [bl41]; simp [Instr.fill, Value.cells]; rfl)) ?_
  refine WL.qq (by refine qv_bld (by simp only [EN, Nat.reduceEqDiff, reduceIte, AR, hB1.cell, hB2.cell] <;> rfl) (by rw [bl55]; simp [Instr.fill, Value.cells]; rfl)) ?_
  refine WL.allocSt zr55 sz55 (fun u => by simp only [EN, Nat.reduceEqDiff, reduceIte, Value.cells, hB1.cell, hB2.cell]; rfl) ⟨rfl, rfl⟩ (by simp [Value.oneCell']) ?_
  intro h3 B3 hx3 hlt3 hB3
  replace hB1 := hB1.ext hx3
  replace hB2 := hB2.ext hx3
  refine WL.nil ?_
  refine th_norm ?_
  refine hx_seq ?_
  refine hx_seq ?_
  refine hx_region ?_
  refine WL.qq (by simp only [EN, Nat.reduceEqDiff, reduceIte, qv_assign, hB1.cell, hB2.cell, hB3.cell]; rfl) ?_
  refine WL.nil ?_
  refine th_norm ?_
  refine hx_block ?_
  refine hx_loopG [4, 5, 6, 7, 16, 17, 18, 19, 20, 21, 22, 23, 24, 25, 26, 27, 28, 29, 30, 31, 32, 33, 34, 35, 36, 37, 38, 39, 40, 41, 42, 43, 44, 45, 46, 47, 48, 49, 50, 51, 52, 53, 54, 55, 56, 57, 58, 59, 60, 61, 62, 63, 64, 65, 66] (fun k e hL0 => ∃ (i : Nat) (M : List PX) (vo : Value), x.ps.length - i = k ∧ (i ≤ x.ps.length) ∧ (Ext h hL0) ∧ (Has hL0 B1 (.cells (bdL x).toArray 45)) ∧ (Has hL0 B2 (.cells #[iV 0, iV 0, iV 0, .slice none 0 0] tyB)) ∧ (Has hL0 B3 (.cells #[iV x.s, iV x.day, iV x.mn, vo] tyB)) ∧ (Own hL0 h.size tyPt 2 vo M.length (M.flatMap ptL)) ∧ (M.length = i) ∧ (M.map PX.pt = (x.ps.take i).map PX.pt) ∧ (PQs tyPo (fun g => h.size ≤ g) hL0 M) ∧ e 4 = .int .i64 i) _ ⟨0, [], .slice none 0 0, rfl, ?_, ?_, ?_, ?_, ?_, ?_, ?_, ?_, ?_, ?_⟩ ?_
  · omega
  · exact ((hx1).trans ((hx2).trans (hx3)))
  · exact hB1
  · exact hB2
  · exact hB3
  · exact Own.nil
  · rfl
  · rfl
  · intro m hm; cases hm
  · simp only [EN, Nat.reduceEqDiff, reduceIte, e0, hB1.cell, hB2.cell, hB3.cell] <;> rfl
  ·
    rintro k e0L hL0 hfr0 ⟨i, M, vo, rfl, hi, hXe, hB1, hB2, hB3, ho, hMl, hM, hMr, i4_0⟩
    have k1_0 := hfr0 1 rfl; try simp only [EN, Nat.reduceEqDiff, reduceIte, hB1.cell, hB2.cell, hB3.cell] at k1_0
    have k2_0 := hfr0 2 rfl; try simp only [EN, Nat.reduceEqDiff, reduceIte, hB1.cell, hB2.cell, hB3.cell] at k2_0
    have k3_0 := hfr0 3 rfl; try simp only [EN, Nat.reduceEqDiff, reduceIte, hB1.cell, hB2.cell, hB3.cell] at k3_0
    refine hx_seq ?_
    refine hx_seq ?_
    refine hx_region ?_
    refine WL.qq (by simp only [EN, Nat.reduceEqDiff, reduceIte, qv_move, i4_0, hB1.cell, hB2.cell, hB3.cell]; rfl) ?_
    refine WL.qq (by simp only [EN, Nat.reduceEqDiff, reduceIte, qv_fieldAddr, fa45_3, Nat.zero_add, Nat.reduceAdd, k1_0, hB1.cell, hB2.cell, hB3.cell]; rfl) ?_
    refine WL.qq (by simp only [EN, Nat.reduceEqDiff, reduceIte, qv_load, ld43, readN, AR, Nat.zero_add, Nat.reduceAdd, hB1.cell, hB2.cell, hB3.cell]; rfl) ?_
    refine WL.qq (by simp only [EN, Nat.reduceEqDiff, reduceIte, qv_len, ln43, AR, hB1.cell, hB2.cell, hB3.cell]; rfl) ?_
    refine WL.qq (by simp only [EN, Nat.reduceEqDiff, reduceIte, qv_binOp, binv_lss, hB1.cell, hB2.cell, hB3.cell]; rfl) ?_
    refine WL.nil ?_
    refine th_norm ?_
    refine hx_cond (by simp only [EN, Nat.reduceEqDiff, reduceIte, hB1.cell, hB2.cell, hB3.cell]; rfl) (fun hct20 => ?_) (fun hct20 => ?_)
    ·
      try simp only [BD] at hct20
      obtain ⟨q, hq⟩ := atG (l := x.ps) (i := i) (by omega)
      obtain ⟨b1, o1, ha1, _, hp0, hp1⟩ := pt_rd (kbi.1.ext hXe) hq
      have hql := hlen.2 q (List.mem_of_getElem? hq); have hqi : SlG 4 poL h q.a q.ps := kbi.2 q (List.mem_of_getElem? hq)
      have w1 := (Array.getElem?_eq_some_iff.1 hB1).1; have w2 := (Array.getElem?_eq_some_iff.1 hB2).1; have w3 := (Array.getElem?_eq_some_iff.1 hB3).1; have w4 := hXe.size; have w5 := ho.block
      replace hMr := hMr.lt
      refine hx_skip ?_
      refine th_norm ?_
      refine hx_seq ?_
      refine hx_block ?_
      refine hx_seq ?_
      refine hx_region ?_
      refine WL.qq (by simp only [EN, Nat.reduceEqDiff, reduceIte, qv_fieldAddr, fa45_3, Nat.zero_add, Nat.reduceAdd, k1_0, hB1.cell, hB2.cell, hB3.cell]; rfl) ?_
      refine WL.qq (by simp only [EN, Nat.reduceEqDiff, reduceIte, qv_load, ld43, readN, AR, Nat.zero_add, Nat.reduceAdd, hB1.cell, hB2.cell, hB3.cell]; rfl) ?_
      refine WL.qq (by simp only [EN, Nat.reduceEqDiff, reduceIte, qv_move, i4_0, hB1.cell, hB2.cell, hB3.cell]; rfl) ?_
      refine WL.qq (by simp only [EN, Nat.reduceEqDiff, reduceIte, qv_indexAddr, hB1.cell, hB2.cell, hB3.cell, ha1]; (try simp (disch := omega) only [ix43, Int.toNat_natCast]); rfl) ?_
      refine WL.qq (by simp only [EN, Nat.reduceEqDiff, reduceIte, qv_fieldAddr, fa79_0, Nat.zero_add, Nat.reduceAdd, hB1.cell, hB2.cell, hB3.cell]; rfl) ?_
      refine WL.qq (by simp only [EN, Nat.reduceEqDiff, reduceIte, k1_0, k2_0, k3_0, i4_0, hB1.cell, hB2.cell, hB3.cell, qv_load, ld9, Int.toNat_natCast, hp0]; rfl) ?_
      refine WL.qq (by refine qv_bld (by simp only [EN, Nat.reduceEqDiff, reduceIte, AR, hB1.cell, hB2.cell, hB3.cell] <;> rfl) (by rw [bl72]; simp [Instr.fill, Value.cells]; rfl)) ?_
      refine WL.allocSt zr72 sz72 (fun u => by simp only [EN, Nat.reduceEqDiff, reduceIte, Value.cells, hB1.cell, hB2.cell, hB3.cell]; rfl) ⟨rfl, rfl⟩ (by simp [Value.oneCell']) ?_
      intro h4 B4 hx4 hlt4 hB4
      replace hB1 := hB1.ext hx4
      replace hB2 := hB2.ext hx4
      replace hB3 := hB3.ext hx4
      replace ho := ho.ext hx4
      replace hMr := hMr.ext hx4
      refine WL.nil ?_
      refine th_norm ?_
      refine hx_seq ?_
      refine hx_seq ?_
      refine hx_region ?_
      have hX5 := hXe.trans (hx4); replace hMr := hMr.mono (F' := fun g => h.size ≤ g ∧ g < B4) (fun c hc => ⟨hc.1, by omega⟩)
      refine WL.qq (by simp only [EN, Nat.reduceEqDiff, reduceIte, qv_assign, hB1.cell, hB2.cell, hB3.cell, hB4.cell]; rfl) ?_
      refine WL.nil ?_
      refine th_norm ?_
      refine hx_block ?_
      refine hx_loopG [6, 7, 30, 31, 32, 33, 34, 35, 36, 37, 38, 39, 40, 41, 42, 43, 44, 45, 46, 47, 48, 49, 50, 51, 52, 53, 54, 55, 56, 57, 58, 59, 60] (fun k e hL1 => ∃ (j : Nat) (v : Value), q.ps.length - j = k ∧ (j ≤ q.ps.length) ∧ (Ext h hL1) ∧ (Has hL1 B1 (.cells (bdL x).toArray 45)) ∧ (Has hL1 B2 (.cells #[iV 0, iV 0, iV 0, .slice none 0 0] tyB)) ∧ (Has hL1 B3 (.cells #[iV x.s, iV x.day, iV x.mn, vo] tyB)) ∧ (Own hL1 h.size tyPt 2 vo M.length (M.flatMap ptL)) ∧ (PQs tyPo (fun g => h.size ≤ g ∧ g < B4) hL1 M) ∧ (Has hL1 B4 (.cells #[.string q.r, v] tyPt)) ∧ (Own hL1 B4 tyPo 4 v j ((q.ps.take j).flatMap poL)) ∧ e 6 = .int .i64 j) _ ⟨0, .slice none 0 0, rfl, ?_, ?_, ?_, ?_, ?_, ?_, ?_, ?_, ?_, ?_⟩ ?_
      · omega
      · exact hX5
      · exact hB1
      · exact hB2
      · exact hB3
      · exact ho
      · exact hMr
      · exact hB4
      · exact Own.nil
      · simp only [EN, Nat.reduceEqDiff, reduceIte, k1_0, k2_0, k3_0, i4_0, hB1.cell, hB2.cell, hB3.cell, hB4.cell] <;> rfl
      ·
        rintro k e1L hL1 hfr1 ⟨j, v, rfl, hj, hXe, hB1, hB2, hB3, ho, hMr, hB4, hv, i6_1⟩
        have k1_1 := hfr1 1 rfl; try simp only [EN, Nat.reduceEqDiff, reduceIte, k1_0, hB1.cell, hB2.cell, hB3.cell, hB4.cell] at k1_1
        have k2_1 := hfr1 2 rfl; try simp only [EN, Nat.reduceEqDiff, reduceIte, k2_0, hB1.cell, hB2.cell, hB3.cell, hB4.cell] at k2_1
        have k3_1 := hfr1 3 rfl; try simp only [EN, Nat.reduceEqDiff, reduceIte, k3_0, hB1.cell, hB2.cell, hB3.cell, hB4.cell] at k3_1
        have k4_1 := hfr1 4 rfl; try simp only [EN, Nat.reduceEqDiff, reduceIte, i4_0, hB1.cell, hB2.cell, hB3.cell, hB4.cell] at k4_1
        have k5_1 := hfr1 5 rfl; try simp only [EN, Nat.reduceEqDiff, reduceIte, hB1.cell, hB2.cell, hB3.cell, hB4.cell] at k5_1
        obtain ⟨b1, o1, ha1, _, hp0, hp1⟩ := pt_rd (kbi.1.ext hXe) hq
        refine hx_seq ?_
        refine hx_seq ?_
        refine hx_region ?_
        refine WL.qq (by simp only [EN, Nat.reduceEqDiff, reduceIte, qv_move, i6_1, hB1.cell, hB2.cell, hB3.cell, hB4.cell]; rfl) ?_
        refine WL.qq (by simp only [EN, Nat.reduceEqDiff, reduceIte, qv_fieldAddr, fa45_3, Nat.zero_add, Nat.reduceAdd, k1_1, hB1.cell, hB2.cell, hB3.cell, hB4.cell]; rfl) ?_
        refine WL.qq (by simp only [EN, Nat.reduceEqDiff, reduceIte, qv_load, ld43, readN, AR, Nat.zero_add, Nat.reduceAdd, hB1.cell, hB2.cell, hB3.cell, hB4.cell]; rfl) ?_
        refine WL.qq (by simp only [EN, Nat.reduceEqDiff, reduceIte, qv_move, k4_1, hB1.cell, hB2.cell, hB3.cell, hB4.cell]; rfl) ?_
        refine WL.qq (by simp only [EN, Nat.reduceEqDiff, reduceIte, qv_indexAddr, hB1.cell, hB2.cell, hB3.cell, hB4.cell, ha1]; (try simp (disch := omega) only [ix43, Int.toNat_natCast]); rfl) ?_
        refine WL.qq (by simp only [EN, Nat.reduceEqDiff, reduceIte, qv_fieldAddr, fa79_1, Nat.zero_add, Nat.reduceAdd, hB1.cell, hB2.cell, hB3.cell, hB4.cell]; rfl) ?_
        refine WL.qq (by simp only [EN, Nat.reduceEqDiff, reduceIte, k1_1, k2_1, k3_1, k4_1, k5_1, i6_1, hB1.cell, hB2.cell, hB3.cell, hB4.cell, qv_load, ld77, Int.toNat_natCast, hp1]; rfl) ?_
        refine WL.qq (by simp only [EN, Nat.reduceEqDiff, reduceIte, qv_len, ln77, AR, hB1.cell, hB2.cell, hB3.cell, hB4.cell]; rfl) ?_
        refine WL.qq (by simp only [EN, Nat.reduceEqDiff, reduceIte, qv_binOp, binv_lss, hB1.cell, hB2.cell, hB3.cell, hB4.cell]; rfl) ?_
        refine WL.nil ?_
        refine th_norm ?_
        refine hx_cond (by simp only [EN, Nat.reduceEqDiff, reduceIte, hB1.cell, hB2.cell, hB3.cell, hB4.cell]; rfl) (fun hct38 => ?_) (fun hct38 => ?_)
        ·
          try simp only [BD] at hct38
          obtain ⟨y, hy⟩ := atG (l := q.ps) (i := j) (by omega)
          obtain ⟨b2, o2, ha2, hr4, _⟩ := po_rd (hqi.ext hXe) hy
          refine hx_skip ?_
          refine th_norm ?_
          refine hx_seq ?_
          refine hx_block ?_
          refine hx_seq ?_
          refine hx_region ?_
          refine WL.qq (by simp only [EN, Nat.reduceEqDiff, reduceIte, qv_fieldAddr, fa45_3, Nat.zero_add, Nat.reduceAdd, k1_1, hB1.cell, hB2.cell, hB3.cell, hB4.cell]; rfl) ?_
          refine WL.qq (by simp only [EN, Nat.reduceEqDiff, reduceIte, qv_load, ld43, readN, AR, Nat.zero_add, Nat.reduceAdd, hB1.cell, hB2.cell, hB3.cell, hB4.cell]; rfl) ?_
          refine WL.qq (by simp only [EN, Nat.reduceEqDiff, reduceIte, qv_move, k4_1, hB1.cell, hB2.cell, hB3.cell, hB4.cell]; rfl) ?_
          refine WL.qq (by simp only [EN, Nat.reduceEqDiff, reduceIte, qv_indexAddr, hB1.cell, hB2.cell, hB3.cell, hB4.cell, ha1]; (try simp (disch := omega) only [ix43, Int.toNat_natCast]); rfl) ?_
          refine WL.qq (by simp only [EN, Nat.reduceEqDiff, reduceIte, qv_fieldAddr, fa79_1, Nat.zero_add, Nat.reduceAdd, hB1.cell, hB2.cell, hB3.cell, hB4.cell]; rfl) ?_
          refine WL.qq (by simp only [EN, Nat.reduceEqDiff, reduceIte, k1_1, k2_1, k3_1, k4_1, k5_1, i6_1, hB1.cell, hB2.cell, hB3.cell, hB4.cell, qv_load, ld77, Int.toNat_natCast, hp1]; rfl) ?_
          refine WL.qq (by simp only [EN, Nat.reduceEqDiff, reduceIte, qv_move, i6_1, hB1.cell, hB2.cell, hB3.cell, hB4.cell]; rfl) ?_
          refine WL.qq (by simp only [EN, Nat.reduceEqDiff, reduceIte, qv_indexAddr, hB1.cell, hB2.cell, hB3.cell, hB4.cell, ha2]; (try simp (disch := omega) only [ix77, Int.toNat_natCast]); rfl) ?_
          refine WL.qq (by simp only [EN, Nat.reduceEqDiff, reduceIte, k1_1, k2_1, k3_1, k4_1, k5_1, i6_1, hB1.cell, hB2.cell, hB3.cell, hB4.cell, qv_load, ld76, Int.toNat_natCast, hr4]; rfl) ?_
          refine WL.allocSt zr76 sz76 (fun u => by simp only [EN, Nat.reduceEqDiff, reduceIte, Value.cells, hB1.cell, hB2.cell, hB3.cell, hB4.cell]; rfl) ⟨rfl, rfl⟩ (by simp [Value.oneCell']) ?_
          intro h5 B5 hx5 hlt5 hB5
          replace hB1 := hB1.ext hx5
          replace hB2 := hB2.ext hx5
          replace hB3 := hB3.ext hx5
          replace hB4 := hB4.ext hx5
          replace ho := ho.ext hx5
          replace hMr := hMr.ext hx5
          replace hv := hv.ext hx5
          refine WL.nil ?_
          refine th_norm ?_
          apply hx_draw2 Rel.grows [9, 10, 11] [4, 8] [(4, Spec.is _), (8, (Spec.ls (Array.size h5) (poL y).toArray tyPo 1))] rfl (by decide +kernel) rfl
          have hX9 := hXe.trans (hx5); have w9 := hX9.size
          refine LD.qq rfl rfl (by simp only [EN, Nat.reduceEqDiff, reduceIte, qv_fieldAddr, fa72_1, Nat.zero_add, Nat.reduceAdd, k5_1, hB1.cell, hB2.cell, hB3.cell, hB4.cell, hB5.cell]; rfl) ?_
          refine LD.qq rfl rfl (by simp only [EN, Nat.reduceEqDiff, reduceIte, qv_load, ld70, readN, AR, Nat.zero_add, Nat.reduceAdd, hB1.cell, hB2.cell, hB3.cell, hB4.cell, hB5.cell]; rfl) ?_
          refine LD.qq rfl rfl (by simp only [EN, Nat.reduceEqDiff, reduceIte, qv_fieldAddr, fa76_0, Nat.zero_add, Nat.reduceAdd, hB1.cell, hB2.cell, hB3.cell, hB4.cell, hB5.cell]; rfl) ?_
          refine LD.qq rfl rfl (by simp only [EN, Nat.reduceEqDiff, reduceIte, qv_load, ld24, readN, AR, Nat.zero_add, Nat.reduceAdd, hB1.cell, hB2.cell, hB3.cell, hB4.cell, hB5.cell]; rfl) ?_
          refine LD.ck rfl rfl Try.call17 (by intro hD hr; have hx : Ext _ _ := hr; have hB1 := hB1.ext hx; have hB2 := hB2.ext hx; have hB3 := hB3.ext hx; have hB4 := hB4.ext hx; have ho := ho.ext hx; have hMr := hMr.ext hx; have hv := hv.ext hx; have hB5 := hB5.ext hx; simp only [EN, Nat.reduceEqDiff, reduceIte, AR, hB1.cell, hB2.cell, hB3.cell, hB4.cell, hB5.cell]; exact c_account y.c _) ?_
          refine LD.qq rfl rfl (by simp only [EN, Nat.reduceEqDiff, reduceIte, qv_fieldAddr, fa76_1, Nat.zero_add, Nat.reduceAdd, hB1.cell, hB2.cell, hB3.cell, hB4.cell, hB5.cell]; rfl) ?_
          refine LD.qq rfl rfl (by simp only [EN, Nat.reduceEqDiff, reduceIte, qv_load, ld2, readN, AR, Nat.zero_add, Nat.reduceAdd, hB1.cell, hB2.cell, hB3.cell, hB4.cell, hB5.cell]; rfl) ?_
          refine LD.qq rfl rfl (by refine qv_bld (by simp only [EN, Nat.reduceEqDiff, reduceIte, AR, hB1.cell, hB2.cell, hB3.cell, hB4.cell, hB5.cell] <;> rfl) (by rw [bl74]; simp [Instr.fill, Value.cells]; rfl)) ?_
          refine LD.es rfl rfl (by intro hD hr hf; have hx : Ext _ _ := hr; have hB1 := hB1.ext hx; have hB2 := hB2.ext hx; have hB3 := hB3.ext hx; have hB4 := hB4.ext hx; have ho := ho.ext hx; have hMr := hMr.ext hx; have hv := hv.ext hx; have hB5 := hB5.ext hx; exact e_lit1 (N := Array.size h5) hx.size Try.underlying70 sz74 zr74 (by decide) (by simp only [EN, Nat.reduceEqDiff, reduceIte, k1_1, k2_1, k3_1, k4_1, k5_1, i6_1, hB1.cell, hB2.cell, hB3.cell, hB4.cell, hB5.cell, Value.cells] <;> rfl) rfl) ?_
          intro u10_8 w10_8
          obtain ⟨B33, hlt33, rfl⟩ := w10_8
          refine LD.skip rfl ?_
          refine LD.skip rfl ?_
          refine LD.skip rfl ?_
          refine LD.nil ?_
          rintro h6 hx6 hF10
          replace hx6 : Ext _ _ := hx6
          replace hB1 := hB1.ext hx6
          replace hB2 := hB2.ext hx6
          replace hB3 := hB3.ext hx6
          replace hB4 := hB4.ext hx6
          replace ho := ho.ext hx6
          replace hMr := hMr.ext hx6
          replace hv := hv.ext hx6
          replace hB5 := hB5.ext hx6
          have hB33 := hF10 (8, .slice (some ⟨B33, 0, none⟩) 1 1) (by simp) _ rfl B33 rfl
          have w4b := (Array.getElem?_eq_some_iff.1 hB4).1
          refine WL.appG (f := poL) (base := B4) (n := j) (xs := (q.ps.take j).flatMap poL) (bytes := 48) (sz := 4) (L := [y]) Try.underlying70 (inf_of Try.type74) rfl rfl rfl rfl (by decide) (fun _ => rfl) poL_one (by simp only [EN, Nat.reduceEqDiff, reduceIte, k1_1, k2_1, k3_1, k4_1, k5_1, i6_1, hB1.cell, hB2.cell, hB3.cell, hB4.cell, hB5.cell] <;> rfl) hv (by simp only [EN, Nat.reduceEqDiff, reduceIte, k1_1, k2_1, k3_1, k4_1, k5_1, i6_1, hB1.cell, hB2.cell, hB3.cell, hB4.cell, hB5.cell] <;> rfl) rfl (by intro hh; cases hh) (slG_has (f := poL) (sz := 4) (fun _ => rfl) hB33 rfl) (by simp only [maxLen, List.length_singleton]; omega) (by rw [List.length_singleton]; omega) (by omega) ?_
          intro h40 v40 hv40 hg40 hpl40 hn40
          have hB440 := hB4.gr hg40 (hv.ncell hB4 (by decide))
          refine WL.qq (by simp only [EN, Nat.reduceEqDiff, reduceIte, qv_fieldAddr, fa72_1, Nat.zero_add, Nat.reduceAdd, k5_1, hB1.cell, hB2.cell, hB3.cell, hB4.cell, hB5.cell]; rfl) ?_
          refine WL.store (by simp only [EN, Nat.reduceEqDiff, reduceIte, k1_1, k2_1, k3_1, k4_1, k5_1, i6_1, hB1.cell, hB2.cell, hB3.cell, hB4.cell, hB5.cell] <;> rfl) sz70 (by simp only [EN, Nat.reduceEqDiff, reduceIte, k1_1, k2_1, k3_1, k4_1, k5_1, i6_1, hB1.cell, hB2.cell, hB3.cell, hB4.cell, hB5.cell]; exact hv40.cells) rfl hB440 (by simp) (by simp [hv40.one]) ?_
          intro h41 hw41
          have hv41 := hv40.keep (h' := h41) (fun c hc => hw41.same c fun hh => by subst hh; exact hv40.ncell hB440 (by decide) hc)
          have hB441 := hw41.at_
          simp only [splc, List.take_succ_cons, List.take_zero, List.take_nil, List.drop_succ_cons, List.drop_zero, List.drop_nil, List.cons_append, List.nil_append, List.length_cons, List.length_nil, Nat.zero_add, Nat.add_zero, Nat.reduceAdd, List.append_nil] at hB441
          have hM41 := (hMr.gr hg40 hv).wr hw41 hB440 (by decide)
          have ho41 := (ho.keep (h' := h40) (fun c hc => hg40.same c (ho.block c hc).2 (fun hh => by obtain ⟨cu, hcu⟩ := hv.typ c hh; exact ho.ncell hcu (by decide) hc))).keep (h' := h41) (fun c hc => hw41.same c (by have := w5 c hc; omega))
          refine WL.nil ?_
          refine bl_norm ?_
          refine th_norm ?_
          refine hx_region ?_
          refine WL.qq (by simp only [EN, Nat.reduceEqDiff, reduceIte, qv_move, i6_1, hB1.cell, hB2.cell, hB3.cell, hB4.cell, hB5.cell]; rfl) ?_
          refine WL.qq (by simp only [EN, Nat.reduceEqDiff, reduceIte, qv_binOp, binv_add, hB1.cell, hB2.cell, hB3.cell, hB4.cell, hB5.cell]; (try simp (disch := omega) only [w64, w8, wu64]); rfl) ?_
          refine WL.qq (by simp only [EN, Nat.reduceEqDiff, reduceIte, qv_assign, hB1.cell, hB2.cell, hB3.cell, hB4.cell, hB5.cell]; rfl) ?_
          refine WL.nil ?_
          refine th_norm ?_
          refine ⟨rfl, ?_, _, ?_, j + 1, v40, rfl, ?_, ?_, ?_, ?_, ?_, ?_, ?_, ?_, ?_, ?_⟩  -- again 0 of loop 1
          · (repeat (first | exact Fr.refl _ _ | refine Fr.set rfl ?_ | refine Fr.put rfl ?_ | with_reducible refine Fr.put0 ?_))
          · omega
          · omega
          · exact hw41.ext (hg40.ext (hX9.trans hx6) (fun c hc => by have := (hv.block c hc).1; omega)) (by omega)
          · exact (hB1.gr hg40 (hv.ncell hB1 (by decide))).wr hw41 (by omega)
          · exact (hB2.gr hg40 (hv.ncell hB2 (by decide))).wr hw41 (by omega)
          · exact (hB3.gr hg40 (hv.ncell hB3 (by decide))).wr hw41 (by omega)
          · exact ho41
          · exact hM41
          · exact hB441
          · rw [List.take_add_one, hy, List.flatMap_append]; exact hv41
          · simp only [EN, Nat.reduceEqDiff, reduceIte, k1_1, k2_1, k3_1, k4_1, k5_1, i6_1, hB1.cell, hB2.cell, hB3.cell, hB4.cell, hB5.cell] <;> first | rfl | (congr 1; omega)
        ·
          try simp only [BD] at hct38
          obtain rfl : j = q.ps.length := (by omega)
          rw [List.take_length] at hv
          obtain ⟨a9, c9, rfl, hle9, _, _⟩ := hv.shape
          have hsq := SlR.own (f := poL) (sz := 4) (fun _ => rfl) hv rfl; have hbq := hv.block
          refine hx_exit ?_
          refine th_exit ?_
          refine th_exit ?_
          refine bl_hit ?_
          refine th_norm ?_
          refine hx_region ?_
          refine WL.qq (by simp only [EN, Nat.reduceEqDiff, reduceIte, qv_fieldAddr, fa55_2, Nat.zero_add, Nat.reduceAdd, k3_1, hB1.cell, hB2.cell, hB3.cell, hB4.cell]; rfl) ?_
          refine WL.qq (by simp only [EN, Nat.reduceEqDiff, reduceIte, qv_load, ld53, readN, AR, Nat.zero_add, Nat.reduceAdd, hB1.cell, hB2.cell, hB3.cell, hB4.cell]; rfl) ?_
          refine WL.qq (by simp only [EN, Nat.reduceEqDiff, reduceIte, qv_load, ld72, readN, AR, Nat.zero_add, Nat.reduceAdd, k5_1, hB1.cell, hB2.cell, hB3.cell, hB4.cell]; rfl) ?_
          refine WL.push (bytes := 40) Try.underlying53 (inf_of Try.type72) rfl rfl rfl rfl (by decide) (by decide) sz72 zr72 (fun u => by simp only [EN, Nat.reduceEqDiff, reduceIte, k1_1, k2_1, k3_1, k4_1, k5_1, i6_1, hB1.cell, hB2.cell, hB3.cell, hB4.cell]) ho (c := (ptL ⟨q.r, a9, q.ps, c9⟩).toArray) (by simp only [EN, Nat.reduceEqDiff, reduceIte, k1_1, k2_1, k3_1, k4_1, k5_1, i6_1, hB1.cell, hB2.cell, hB3.cell, hB4.cell, Value.cells] <;> rfl) rfl (by simp [Value.oneCell']) (by simp only [maxLen]; omega) (by omega) hXe.size ?_
          intro h50 v50 B50 ho50 hg50 hpl50 hn50
          have hB350 := hB3.gr hg50 (ho.ncell hB3 (by decide))
          skip
          refine WL.qq (by simp only [EN, Nat.reduceEqDiff, reduceIte, qv_fieldAddr, fa55_2, Nat.zero_add, Nat.reduceAdd, k3_1, hB1.cell, hB2.cell, hB3.cell, hB4.cell]; rfl) ?_
          refine WL.store (by simp only [EN, Nat.reduceEqDiff, reduceIte, k1_1, k2_1, k3_1, k4_1, k5_1, i6_1, hB1.cell, hB2.cell, hB3.cell, hB4.cell] <;> rfl) sz53 (by simp only [EN, Nat.reduceEqDiff, reduceIte, k1_1, k2_1, k3_1, k4_1, k5_1, i6_1, hB1.cell, hB2.cell, hB3.cell, hB4.cell]; exact ho50.cells) rfl hB350 (by simp) (by simp [ho50.one]) ?_
          intro h51 hw51
          have ho51 := ho50.keep (h' := h51) (fun c hc => hw51.same c fun hh => by subst hh; exact ho50.ncell hB350 (by decide) hc)
          have hB351 := hw51.at_
          simp only [splc, List.take_succ_cons, List.take_zero, List.take_nil, List.drop_succ_cons, List.drop_zero, List.drop_nil, List.cons_append, List.nil_append, List.length_cons, List.length_nil, Nat.zero_add, Nat.add_zero, Nat.reduceAdd, List.append_nil] at hB351
          have hall : PQs tyPo (fun g => h.size ≤ g) hL1 (M ++ [⟨q.r, a9, q.ps, c9⟩]) := (hMr.mono (fun c hc => hc.1)).snoc ⟨hsq, fun c off ha => by have := (hbq c (by rw [show a9 = some ⟨c, off, none⟩ from ha]; rfl)).1; omega⟩
          have hall51 := (hall.gro hg50 ho (by decide)).wr hw51 hB350 (by decide)
          refine WL.nil ?_
          refine bl_norm ?_
          refine th_norm ?_
          refine hx_region ?_
          refine WL.qq (by simp only [EN, Nat.reduceEqDiff, reduceIte, qv_move, k4_1, hB1.cell, hB2.cell, hB3.cell, hB4.cell]; rfl) ?_
          refine WL.qq (by simp only [EN, Nat.reduceEqDiff, reduceIte, qv_binOp, binv_add, hB1.cell, hB2.cell, hB3.cell, hB4.cell]; (try simp (disch := omega) only [w64, w8, wu64]); rfl) ?_
          refine WL.qq (by simp only [EN, Nat.reduceEqDiff, reduceIte, qv_assign, hB1.cell, hB2.cell, hB3.cell, hB4.cell]; rfl) ?_
          refine WL.nil ?_
          refine th_norm ?_
          refine ⟨rfl, ?_, _, ?_, i + 1, M ++ [⟨q.r, a9, q.ps, c9⟩], v50, rfl, ?_, ?_, ?_, ?_, ?_, ?_, ?_, ?_, ?_, ?_⟩  -- again 0 of loop 0
          · (repeat (first | exact Fr.refl _ _ | refine Fr.set rfl ?_ | refine Fr.put rfl ?_ | with_reducible refine Fr.put0 ?_ | refine Fr.trans ?_ (Fr.of hfr1 rfl)))
          · omega
          · omega
          · exact hw51.ext (hg50.ext hXe (fun c hc => (ho.block c hc).1)) (by omega)
          · exact (hB1.gr hg50 (ho.ncell hB1 (by decide))).wr hw51 (by omega)
          · exact (hB2.gr hg50 (ho.ncell hB2 (by decide))).wr hw51 (by omega)
          · exact hB351
          · rw [List.length_append, List.flatMap_append]; exact ho51
          · rw [List.length_append, hMl]; rfl
          · rw [List.map_append, hM, List.take_add_one, hq, List.map_append]; rfl
          · exact hall51
          · simp only [EN, Nat.reduceEqDiff, reduceIte, k1_1, k2_1, k3_1, k4_1, k5_1, i6_1, hB1.cell, hB2.cell, hB3.cell, hB4.cell] <;> first | rfl | (congr 1; omega)
    ·
      try simp only [BD] at hct20
      have hie2 : i = x.ps.length := (by omega)
      have hM9 : M.map PX.pt = x.ps.map PX.pt := (by rw [hM, hie2, List.take_length])
      obtain ⟨a8, c8, rfl, _, _⟩ := ho.shape
      refine hx_exit ?_
      refine th_exit ?_
      refine th_exit ?_
      refine bl_hit ?_
      refine th_norm ?_
      refine hx_seq ?_
      refine hx_region ?_
      refine WL.qq (by simp only [EN, Nat.reduceEqDiff, reduceIte, qv_load, ld55, readN, AR, Nat.zero_add, Nat.reduceAdd, k3_0, hB1.cell, hB2.cell, hB3.cell]; rfl) ?_
      refine WL.store (by simp only [EN, Nat.reduceEqDiff, reduceIte, k2_0, hB1.cell, hB2.cell, hB3.cell] <;> rfl) sz55 (by simp only [EN, Nat.reduceEqDiff, reduceIte, Value.cells, k2_0, hB1.cell, hB2.cell, hB3.cell] <;> rfl) rfl hB2 (by first | (simp [true_and]; done) | (simp [true_and]; omega) | omega) (by simp [Value.oneCell']) ?_
      intro h7 hw7
      have ho8 := ho.keep (fun c hc => hw7.same c (fun hh => by subst hh; exact ho.ncell hB2 (by decide) hc))
      have hMr8 := hMr.wr hw7 hB2 (by decide)
      have hX8 := hw7.ext hXe (by omega)
      replace hB2 := hw7.at_
      simp only [splc, List.take_succ_cons, List.take_zero, List.take_nil, List.drop_succ_cons, List.drop_zero, List.drop_nil, List.cons_append, List.nil_append, List.length_cons, List.length_nil, Nat.zero_add, Nat.add_zero, Nat.reduceAdd, List.append_nil] at hB2
      refine WL.nil ?_
      refine th_norm ?_
      refine hx_ret ?_
      refine fin_ret [.cell 2 55] rfl rfl (by simp only [EN, Nat.reduceEqDiff, reduceIte, resv, ld55, readN, AR, Nat.zero_add, Nat.reduceAdd, k1_0, k2_0, k3_0, i4_0, hB1.cell, hB2.cell, hB3.cell]; rfl) ?_  -- ret 0 r12
      exact ⟨hX8, ⟨x.s, x.day, x.mn, a8, M, c8⟩, rfl, by simp only [BX.bd]; rw [hM9], ⟨SlR.own (f := ptL) (sz := 2) (fun _ => rfl) ho8 rfl, fun c off ha => (ho8.block c (by rw [show a8 = some ⟨c, off, none⟩ from ha]; rfl)).1, fun m hm => ⟨(hMr8 m hm).sl, (hMr8 m hm).f⟩⟩⟩
end GL


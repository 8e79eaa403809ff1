/- Part 4 of the texts of one law: what it needs of the logic of heaps, of the walks, of the plain facts. -/
import Derived.Test.YtmooinekoeiajaaGreatDoorOrc
set_option linter.unusedSimpArgs false
set_option linter.unusedVariables false
set_option linter.unnecessarySimpa false
namespace GL
open Go Go.Proofs
set_option maxRecDepth 8000
abbrev tyRE : TypeId := 34
abbrev tyRH : TypeId := 66
abbrev tyRO : TypeId := 68
abbrev tySl : TypeId := 55
structure SV where
  a : Option Addr
  n : Nat
  c : Nat
abbrev svL (x : SV) : List Value := [.slice x.a x.n x.c]
theorem svL_one (x : SV) : ∀ u ∈ svL x, u.oneCell' = true := fun u hu => by simp at hu; subst hu; rfl
def lc (c : UInt8) : Bool := (65 ≤ c && c ≤ 90) || (48 ≤ c && c ≤ 57)
theorem lc_iff (c : UInt8) : lc c = true ↔ (65 ≤ (c.toNat : Int) ∧ (c.toNat : Int) ≤ 90) ∨ (48 ≤ (c.toNat : Int) ∧ (c.toNat : Int) ≤ 57) := by
  simp only [lc, Bool.or_eq_true, Bool.and_eq_true, decide_eq_true_eq, UInt8.le_iff_toNat_le]
  have e1 : (65 : UInt8).toNat = 65 := rfl
  have e2 : (90 : UInt8).toNat = 90 := rfl
  have e3 : (48 : UInt8).toNat = 48 := rfl
  have e4 : (57 : UInt8).toNat = 57 := rfl
  rw [e1, e2, e3, e4]
  omega
def okC (s : ByteArray) : Bool := decide (¬ (s = em ∨ 16 < s.size ∨ ltS s = false))
theorem em_size {s : ByteArray} : s = em ↔ s.size = 0 := by
  constructor
  · rintro rfl; rfl
  · intro h
    apply ByteArray.ext
    exact Array.eq_empty_of_size_eq_zero h
theorem elS {s : ByteArray} {i : Nat} {c : UInt8} (h : s[i]? = some c) : elemv Tryz.prog 9 (.string s) (iV i) = some (.int .u8 (c.toNat : Int)) := by
  rw [el9 _ _ _ (by omega), Int.toNat_natCast, h]; rfl
theorem all_step {α : Type} {p : α → Bool} {l : List α} {i : Nat} {x : α} (hx : l[i]? = some x) : (l.take (i + 1)).all p = ((l.take i).all p && p x) := by
  rw [List.take_add_one, hx, List.all_append]; simp
theorem c_code (s : ByteArray) (hs : s.size ≤ 9223372036854775807) (h : Heap) : HCalls Tryz.prog 61 #[.string s] h (Pure (.bool (okC s)) h) := by
  refine hcalls2 Tryz.func61 rfl (by decide +kernel) (by simp only [Tryz.ntmps61]; exact of_decide_eq_true rfl) ?_
  intro e hin
  have e0 := hin 0 _ rfl
  refine hx_seq (hx_region ?_)
  refine WL.qq (by simp only [EN, Nat.reduceEqDiff, reduceIte, qv_assign]; rfl) ?_
  refine WL.nil (th_norm (hx_seq (hx_seq (hx_region ?_))))
  refine WL.qq (by simp only [EN, Nat.reduceEqDiff, reduceIte, qv_assign]; rfl) ?_
  refine WL.nil (th_norm (hx_block ?_))
  refine hx_loopS [2, 3, 4, 5, 6, 7, 8, 9, 10, 11, 12, 13, 14, 15, 16, 17, 18, 19, 20, 21, 22, 23, 24, 25, 26, 27, 28, 29, 30, 31, 32] (fun k e => ∃ (i : Nat), s.size - i = k ∧ (i ≤ s.size) ∧ ((s.toList.take i).all lc = true) ∧ e 3 = .int .i64 i) _ ⟨0, rfl, ?_, ?_, ?_⟩ ?_
  · omega
  · rfl
  · simp only [EN, Nat.reduceEqDiff, reduceIte, e0] <;> rfl
  ·
   rintro k e0L hfr0 ⟨i, rfl, hi, hall, i3_0⟩
   have k0_0 := hfr0 0 rfl; try simp only [EN, Nat.reduceEqDiff, reduceIte, e0] at k0_0
   refine hx_seq (hx_seq (hx_region ?_))
   iterate 4 refine WL.qq (by simp only [EN, Nat.reduceEqDiff, reduceIte, qv_move, i3_0, k0_0, qv_len, ln9, AR, qv_binOp, binv_lss]; rfl) ?_
   refine WL.nil (th_norm ?_)
   refine hx_cond (by simp only [EN, Nat.reduceEqDiff, reduceIte]; rfl) (fun hct7 => ?_) (fun hct7 => ?_)
   ·
    try simp only [BD] at hct7
    obtain ⟨c, hc, hc2⟩ := ba_at (a := s) (i := i) (by omega)
    have hel := elS hc; have hst := all_step (p := lc) hc2; rw [hall, Bool.true_and] at hst; have hli := lc_iff c
    refine hx_skip (th_norm (hx_seq (hx_block (hx_seq (hx_region ?_)))))
    iterate 5 refine WL.qq (by simp only [EN, Nat.reduceEqDiff, reduceIte, qv_move, k0_0, i3_0, qv_index, hel, qv_binOp, binv_geq]; (try simp (disch := omega) only [el9, Int.toNat_natCast]); rfl) ?_
    refine WL.cq (gd_at (t := 14) rfl (by simp only [EN, Nat.reduceEqDiff, reduceIte, k0_0] <;> rfl)) (fun hg4_5 => by simp only [EN, Nat.reduceEqDiff, reduceIte, qv_move, k0_0, hg4_5, GR]; rfl) ?_
    refine WL.cq (gd_at (t := 14) rfl (by simp only [EN, Nat.reduceEqDiff, reduceIte, i3_0] <;> rfl)) (fun hg4_6 => by simp only [EN, Nat.reduceEqDiff, reduceIte, qv_move, i3_0, hg4_6, GR]; rfl) ?_
    refine WL.cq (gd_at (t := 14) rfl (by simp only [EN, Nat.reduceEqDiff, reduceIte] <;> rfl)) (fun hg4_7 => by have hq0 := hg4_7; (try simp only [BD] at hq0); simp only [EN, Nat.reduceEqDiff, reduceIte, qv_index, hel, hg4_7, GR]; (try simp (disch := omega) only [el9, Int.toNat_natCast]); rfl) ?_
    refine WL.cq (gd_at (t := 14) rfl (by simp only [EN, Nat.reduceEqDiff, reduceIte] <;> rfl)) (fun hg4_8 => by simp only [EN, Nat.reduceEqDiff, reduceIte, qv_binOp, binv_leq, hg4_8, GR]; rfl) ?_
    iterate 2 refine WL.qq (by simp only [EN, Nat.reduceEqDiff, reduceIte, qv_pick, pk_and, pk_or, GR, qv_move]; rfl) ?_
    refine WL.cq (gd_at (t := 20) rfl (by simp only [EN, Nat.reduceEqDiff, reduceIte, k0_0] <;> rfl)) (fun hg4_11 => by simp only [EN, Nat.reduceEqDiff, reduceIte, qv_move, k0_0, hg4_11, GR]; rfl) ?_
    refine WL.cq (gd_at (t := 20) rfl (by simp only [EN, Nat.reduceEqDiff, reduceIte, i3_0] <;> rfl)) (fun hg4_12 => by simp only [EN, Nat.reduceEqDiff, reduceIte, qv_move, i3_0, hg4_12, GR]; rfl) ?_
    refine WL.cq (gd_at (t := 20) rfl (by simp only [EN, Nat.reduceEqDiff, reduceIte] <;> rfl)) (fun hg4_13 => by have hq0 := hg4_13; (try simp only [BD] at hq0); simp only [EN, Nat.reduceEqDiff, reduceIte, qv_index, hel, hg4_13, GR]; (try simp (disch := omega) only [el9, Int.toNat_natCast]); rfl) ?_
    refine WL.cq (gd_at (t := 20) rfl (by simp only [EN, Nat.reduceEqDiff, reduceIte] <;> rfl)) (fun hg4_14 => by simp only [EN, Nat.reduceEqDiff, reduceIte, qv_binOp, binv_geq, hg4_14, GR]; rfl) ?_
    refine WL.cq (gd_at (t := 20) rfl (by simp only [EN, Nat.reduceEqDiff, reduceIte] <;> rfl)) (fun hg4_15 => by simp only [EN, Nat.reduceEqDiff, reduceIte, qv_move, hg4_15, GR]; rfl) ?_
    refine WL.cq2 (t := 25) rfl (by simp only [EN, Nat.reduceEqDiff, reduceIte, k0_0]; rfl) (fun hC4_16 hg4_16 => by simp only [EN, Nat.reduceEqDiff, reduceIte, qv_move, k0_0, hC4_16, hg4_16, GR]; rfl) ?_
    refine WL.cq2 (t := 25) rfl (by simp only [EN, Nat.reduceEqDiff, reduceIte, i3_0]; rfl) (fun hC4_17 hg4_17 => by simp only [EN, Nat.reduceEqDiff, reduceIte, qv_move, i3_0, hC4_17, hg4_17, GR]; rfl) ?_
    refine WL.cq2 (t := 25) rfl (by simp only [EN, Nat.reduceEqDiff, reduceIte]; rfl) (fun hC4_18 hg4_18 => by have hC4_18o := hC4_18; (try simp only [hg4_18] at hC4_18); have hq0 := hC4_18; (try simp only [BD] at hq0); have hq1 := hg4_18; (try simp only [BD] at hq1); simp only [EN, Nat.reduceEqDiff, reduceIte, qv_index, hel, hC4_18o, hC4_18, hg4_18, GR]; (try simp (disch := omega) only [el9, Int.toNat_natCast]); rfl) ?_
    refine WL.cq2 (t := 25) rfl (by simp only [EN, Nat.reduceEqDiff, reduceIte]; rfl) (fun hC4_19 hg4_19 => by have hC4_19o := hC4_19; (try simp only [hg4_19] at hC4_19); simp only [EN, Nat.reduceEqDiff, reduceIte, qv_binOp, binv_leq, hC4_19o, hC4_19, hg4_19, GR]; rfl) ?_
    refine WL.cq (gd_at (t := 20) rfl (by simp only [EN, Nat.reduceEqDiff, reduceIte] <;> rfl)) (fun hg4_20 => by simp only [EN, Nat.reduceEqDiff, reduceIte, qv_pick, pk_and, pk_or, GR, hg4_20, GR]; rfl) ?_
    iterate 2 refine WL.qq (by simp only [EN, Nat.reduceEqDiff, reduceIte, qv_pick, pk_and, pk_or, GR, qv_unOp, unv_not]; rfl) ?_
    refine WL.nil (th_norm ?_)
    refine hx_cond (by simp only [EN, Nat.reduceEqDiff, reduceIte]; rfl) (fun hct32 => ?_) (fun hct32 => ?_)
    ·
     try simp only [BD] at hct32
     refine hx_seq (hx_region ?_)
     refine WL.qq (by simp only [EN, Nat.reduceEqDiff, reduceIte, qv_assign]; rfl) ?_
     refine WL.nil (th_norm (hx_ret (bl_ret (th_ret (th_ret (bl_ret (th_ret ?_)))))))
     refine fin_ret [.tmp 2] rfl rfl (by simp only [EN, Nat.reduceEqDiff, reduceIte, resv, k0_0, i3_0]; rfl) ?_
     exact ⟨by have h9 : lc c = false := (by rw [← Bool.not_eq_true, hli]; omega); have h8 : ltS s = false := (by rw [← Bool.not_eq_true]; intro hh; have h7 := List.all_eq_true.1 hh c (List.mem_of_getElem? hc2); change lc c = true at h7; rw [h9] at h7; cases h7); simp [retOf, okC, h8], rfl⟩
    ·
     try simp only [BD] at hct32
     refine hx_skip (bl_norm (th_norm (hx_region ?_)))
     iterate 3 refine WL.qq (by simp only [EN, Nat.reduceEqDiff, reduceIte, qv_move, i3_0, qv_binOp, binv_add, qv_assign]; (try simp (disch := omega) only [w64, w8, wu64]); rfl) ?_
     refine WL.nil (th_norm ?_)
     refine ⟨rfl, rfl, ?_, _, ?_, i + 1, rfl, ?_, ?_, ?_⟩
     · (repeat (first | exact Fr.refl _ _ | refine Fr.set rfl ?_ | refine Fr.put rfl ?_ | with_reducible refine Fr.put0 ?_))
     · omega
     · omega
     · rw [hst, hli]; omega
     · simp only [EN, Nat.reduceEqDiff, reduceIte, k0_0, i3_0] <;> first | rfl | (congr 1; omega)
   ·
    try simp only [BD] at hct7
    have hfin : ltS s = true := (by rw [List.take_of_length_le (by rw [ba_len]; omega)] at hall; exact hall)
    refine hx_exit (th_exit (th_exit (bl_hit (th_norm (hx_seq (hx_region ?_))))))
    iterate 4 refine WL.qq (by simp only [EN, Nat.reduceEqDiff, reduceIte, qv_move, k0_0, qv_len, ln9, AR, qv_binOp, binv_geq]; rfl) ?_
    refine WL.cq (gd_at (t := 36) rfl (by simp only [EN, Nat.reduceEqDiff, reduceIte, k0_0] <;> rfl)) (fun hg6_4 => by simp only [EN, Nat.reduceEqDiff, reduceIte, qv_move, k0_0, hg6_4, GR]; rfl) ?_
    refine WL.cq (gd_at (t := 36) rfl (by simp only [EN, Nat.reduceEqDiff, reduceIte] <;> rfl)) (fun hg6_5 => by simp only [EN, Nat.reduceEqDiff, reduceIte, qv_len, ln9, AR, hg6_5, GR]; rfl) ?_
    refine WL.cq (gd_at (t := 36) rfl (by simp only [EN, Nat.reduceEqDiff, reduceIte] <;> rfl)) (fun hg6_6 => by simp only [EN, Nat.reduceEqDiff, reduceIte, qv_binOp, binv_leq, hg6_6, GR]; rfl) ?_
    iterate 2 refine WL.qq (by simp only [EN, Nat.reduceEqDiff, reduceIte, qv_pick, pk_and, pk_or, GR, qv_assign]; rfl) ?_
    refine WL.nil (th_norm (hx_ret ?_))
    refine fin_ret [.tmp 2] rfl rfl (by simp only [EN, Nat.reduceEqDiff, reduceIte, resv, k0_0, i3_0]; rfl) ?_
    exact ⟨by have h8 := em_size (s := s); simp only [retOf, okC]; rw [Value.bool.injEq, hfin, Bool.eq_iff_iff]; simp; rw [h8]; omega, rfl⟩
def rowM (E : EL) (x : SI) : List Int := (List.range E.os.length).map (chE E x.s)
abbrev reV (vh vo vc : Value) (E : EL) : Value := .agg #[vh, vo, iV E.d, iV E.dd, iV E.dm, vc, .bool E.cl]
def RowI (h : Heap) (E : EL) (rows : List SV) : Prop := rows.length = E.hs.length ∧ ∀ (i : Nat) (x : SI), E.hs[i]? = some x → ∃ b c, rows[i]? = some ⟨b, E.os.length, c⟩ ∧ SlR tyI 1 intL h b (rowM E x)
structure RI (h : Heap) (vh vo vc : Value) (E : EL) : Prop where
  sh : ∃ a c, vh = .slice a E.hs.length c ∧ E.hs.length ≤ c ∧ SlR tyRH 2 siL h a E.hs
  so : ∃ a c, vo = .slice a E.os.length c ∧ E.os.length ≤ c ∧ SlR tyRO 2 siL h a E.os
  sc : ∃ a c rows, vc = .slice a E.hs.length c ∧ E.hs.length ≤ c ∧ SlR tySl 1 svL h a rows ∧ RowI h E rows
section
variable {h h' : Heap} {vh vo vc : Value} {E : EL}
theorem RowI.ext {rows : List SV} (hr : RowI h E rows) (hx : Ext h h') : RowI h' E rows := ⟨hr.1, fun i x hi => by
  obtain ⟨b, c, h1, h2⟩ := hr.2 i x hi
  exact ⟨b, c, h1, h2.ext hx⟩⟩
theorem RI.ext (hI : RI h vh vo vc E) (hx : Ext h h') : RI h' vh vo vc E := by
  obtain ⟨⟨a, c, h1, h2, h3⟩, ⟨a', c', h1', h2', h3'⟩, ⟨a2, c2, rows, h4, h5, h6, h7⟩⟩ := hI
  exact ⟨⟨a, c, h1, h2, h3.ext hx⟩, ⟨a', c', h1', h2', h3'.ext hx⟩, ⟨a2, c2, rows, h4, h5, h6.ext hx, h7.ext hx⟩⟩
end
theorem idxS_miss {s : ByteArray} {l : List SI} {i : Nat} {x : SI} (hx : l[i]? = some x) (h : x.s ≠ s) : idxS s (l.take (i + 1)) = idxS s (l.take i) := by
  have hil := (List.getElem?_eq_some_iff.1 hx).1
  rcases idxS_cases s (l.take i) with ⟨h2, hno⟩ | ⟨j, y, h2, hy, hys, hno⟩
  · rw [h2]
    exact idxS_no (all_take hno hx h)
  · rw [h2]
    have hjl := (List.getElem?_eq_some_iff.1 hy).1
    rw [List.length_take] at hjl
    rw [List.getElem?_take, if_pos (by omega)] at hy
    rw [List.take_take, Nat.min_eq_left (by omega)] at hno
    refine idxS_yes (p := y) (fun z hz => ?_) (by rw [List.getElem?_take, if_pos (by omega)]; exact hy) hys
    rw [List.take_take, Nat.min_eq_left (by omega)] at hz
    exact hno z hz
end GL
namespace GL
open Go Go.Proofs
set_option maxRecDepth 8000
abbrev zRE : Value := .agg #[.slice none 0 0, .slice none 0 0, iV 0, iV 0, iV 0, .slice none 0 0, .bool false]
theorem sl_lo {α : Type} {P : Program} {t el : TypeId} {sz : Nat} {f : α → List Value} {h : Heap} {a : Option Addr} {L : List α} {cap : Nat} (hu : P.underlying t = some (.slice el)) (hz : sizeB P el = some sz) (hs : SlG sz f h a L)
    (hc : L.length ≤ cap) (hn : a = none → cap = 0) (ha : ∀ x, a = some x → ∃ g, x = ⟨g, 0, none⟩) (lo : Nat) (hl : lo ≤ L.length) :
    ∃ a', slicev P t (.slice a L.length cap) (some (iV lo)) none none = some (.slice a' (L.length - lo) (cap - lo)) ∧ SlG sz f h a' (L.drop lo) ∧ (a' = none → cap - lo = 0) := by
  cases a with
  | none =>
    have h1 := hn rfl
    subst h1
    obtain rfl : L = [] := hs.emp
    have h2 := slicev_lo hu hz (P := P) none 0 0 .i64 (lo : Int) (by omega) (by simpa using hl) (Nat.le_refl _)
    refine ⟨none, ?_, by rw [List.drop_nil]; exact SlG.nil, fun _ => by omega⟩
    simp only [Option.map_none, ite_self, Int.toNat_natCast] at h2
    exact h2
  | some x =>
    obtain ⟨g, rfl⟩ := ha x rfl
    have h2 := slicev_l hu hz (P := P) g 0 L.length cap .i64 (lo : Int) (by omega) (by omega)
    rw [Int.toNat_natCast] at h2
    exact ⟨_, h2, hs.drop lo hc, fun hh => by cases hh⟩
theorem idxS_hit2 {s : ByteArray} {l : List SI} {i : Nat} {x : SI} (hno : ∀ y ∈ l.take i, y.s ≠ x.s) (hx : l[i]? = some x) (h : x.s = s) : idxS s (l.take (i + 1)) = (i : Int) := by
  have hil := (List.getElem?_eq_some_iff.1 hx).1
  refine idxS_yes (p := x) (fun z hz => ?_) (by rw [List.getElem?_take, if_pos (by omega)]; exact hx) h
  rw [List.take_take, Nat.min_eq_left (by omega)] at hz
  rw [← h]; exact hno z hz
theorem ordH_step {l : List SI} {i : Nat} {x : SI} (hx : l[i]? = some x) : ordH (l.take (i + 1)) = insH x (ordH (l.take i)) := by
  unfold ordH
  rw [List.take_add_one, hx, List.foldl_append]; rfl
theorem insH_len (x : SI) (out : List SI) : (insH x out).length = out.length + 1 := (insH_perm x out).length_eq
theorem ordH_len : ∀ {l : List SI} {i : Nat}, i ≤ l.length → (ordH (l.take i)).length = i
  | l, 0, _ => by simp [ordH]
  | l, i + 1, h => by
    obtain ⟨x, hx⟩ := atG (l := l) (i := i) (by omega)
    rw [ordH_step hx, insH_len, ordH_len (by omega)]
def Spec.lr (N n : Nat) : Spec := ⟨fun v => ∃ B, N ≤ B ∧ v = .slice (some ⟨B, 0, none⟩) 1 1,
  fun v h => ∀ B, v = .slice (some ⟨B, 0, none⟩) 1 1 → ∃ x : SV, x.n = n ∧ Has h B (.cells #[.slice x.a x.n x.c] tySl) ∧ SlR tyI 1 intL h x.a (List.replicate n (0 : Int)),
  ⟨.slice (some ⟨N, 0, none⟩) 1 1, N, Nat.le_refl _, rfl⟩, fun v h h' hx hm B hv => by
    obtain ⟨x, h1, h2, h3⟩ := hm B hv
    exact ⟨x, h1, h2.ext hx, h3.ext hx⟩⟩
def RowZ (h : Heap) (n : Nat) (rows : List SV) : Prop := ∀ v ∈ rows, v.n = n ∧ SlR tyI 1 intL h v.a (List.replicate n (0 : Int))
section
variable {h h' : Heap} {n : Nat} {rows : List SV}
theorem RowZ.ext (hr : RowZ h n rows) (hx : Ext h h') : RowZ h' n rows := fun v hv => by
  exact ⟨(hr v hv).1, (hr v hv).2.ext hx⟩
theorem RowZ.wr {b : Nat} {o : Obj} {c : Array Value} {T : TypeId} (hr : RowZ h n rows) (hw : Wr h h' b o) (hb : Has h b (.cells c T)) (hT : T ≠ tyI) : RowZ h' n rows := fun v hv => by
  exact ⟨(hr v hv).1, (hr v hv).2.wr hw hb hT⟩
theorem RowZ.gro {el : TypeId} {sz N m : Nat} {v : Value} {xs : List Value} (hr : RowZ h n rows) (hg : Gr h h' v.ownBlock) (ho : Own h N el sz v m xs) (hT : el ≠ tyI) : RowZ h' n rows := fun v hv => by
  exact ⟨(hr v hv).1, (hr v hv).2.gro hg ho hT⟩
end
theorem rowM_new (l os : List SI) (s : ByteArray) (d m : Int) (x : SI) : rowM (newE l os s d m) x = List.replicate os.length 0 := by
  unfold rowM
  have : (newE l os s d m).os = os := rfl
  rw [this]
  apply List.ext_getElem?
  intro j
  rw [List.getElem?_map, List.getElem?_replicate]
  by_cases hj : j < os.length
  · rw [List.getElem?_range hj, if_pos hj]; rfl
  · rw [if_neg hj, List.getElem?_eq_none (by rw [List.length_range]; omega)]; rfl
set_option maxHeartbeats 4000000 in
theorem c_rNew (al : Option Addr) (l : List SI) (cl : Nat) (ao : Option Addr) (os : List SI) (co : Nat) (s : ByteArray) (d m : Int) (hl : l.length ≤ 1000000) (hol : os.length ≤ 1000000) (hb : ∀ x ∈ os, x.s.size ≤ 9223372036854775807) (hon : ao = none → co = 0)
    {h : Heap} (hs : SlG 2 siL h al l) (ho : SlG 2 siL h ao os) :
    HCalls Tryz.prog 46 #[.slice al l.length cl, .slice ao os.length co, .string s, .agg #[iV d, iV m]] h fun v h' => Ext h h' ∧ ∃ w, v = .tuple #[w, iV (erN l os s d m)] ∧
      ((erN l os s d m ≠ 0 ∧ w = zRE) ∨ (erN l os s d m = 0 ∧ ∃ vh vo vc, w = reV vh vo vc (newE l os s d m) ∧ RI h' vh vo vc (newE l os s d m))) := by
  have hs0 := hs
  have ho0 := ho
  refine hcalls2 Tryz.func46 rfl (by decide +kernel) (by simp only [Tryz.ntmps46]; exact of_decide_eq_true rfl) ?_
  intro e hin
  have e0 := hin 0 _ rfl
  have e1 := hin 1 _ rfl
  have e2 := hin 2 _ rfl
  have e3 := hin 3 _ rfl
  refine hx_seq (hx_region ?_)
  refine WL.box2 (by simp only [EN, Nat.reduceEqDiff, reduceIte, Value.cells, e3, strEq]; rfl) ?_
  intro h1 B1 hx1 hlt1 hB1
  replace hs := hs.ext hx1
  replace ho := ho.ext hx1
  refine WL.alloc2 zr34 ?_
  intro h2 B2 hx2 hlt2 hB2
  replace hs := hs.ext hx2
  replace ho := ho.ext hx2
  replace hB1 := hB1.ext hx2
  simp only [Value.cells] at hB2
  refine WL.qq (by simp only [EN, Nat.reduceEqDiff, reduceIte, qv_assign, strEq, hB1.cell, hB2.cell]; rfl) ?_
  refine WL.nil (th_norm (hx_seq (hx_seq (hx_region ?_))))
  iterate 4 refine WL.qq (by simp only [EN, Nat.reduceEqDiff, reduceIte, qv_move, e0, strEq, hB1.cell, hB2.cell, qv_len, ln22, AR, qv_binOp, binv_eql, eq3, Option.map_some]; rfl) ?_
  refine WL.cq (gd_at (t := 23) rfl (by simp only [EN, Nat.reduceEqDiff, reduceIte, e0, strEq, hB1.cell, hB2.cell] <;> rfl)) (fun hg1_4 => by simp only [EN, Nat.reduceEqDiff, reduceIte, qv_move, e0, strEq, hB1.cell, hB2.cell, hg1_4, GR]; rfl) ?_
  refine WL.cq (gd_at (t := 23) rfl (by simp only [EN, Nat.reduceEqDiff, reduceIte, strEq, hB1.cell, hB2.cell] <;> rfl)) (fun hg1_5 => by simp only [EN, Nat.reduceEqDiff, reduceIte, qv_len, ln22, AR, strEq, hB1.cell, hB2.cell, hg1_5, GR]; rfl) ?_
  refine WL.cq (gd_at (t := 23) rfl (by simp only [EN, Nat.reduceEqDiff, reduceIte, strEq, hB1.cell, hB2.cell] <;> rfl)) (fun hg1_6 => by simp only [EN, Nat.reduceEqDiff, reduceIte, qv_binOp, binv_gtr, strEq, hB1.cell, hB2.cell, hg1_6, GR]; rfl) ?_
  refine WL.qq (by simp only [EN, Nat.reduceEqDiff, reduceIte, qv_pick, pk_and, pk_or, GR, strEq, hB1.cell, hB2.cell]; rfl) ?_
  refine WL.nil (th_norm ?_)
  refine hx_cond (by simp only [EN, Nat.reduceEqDiff, reduceIte, strEq, hB1.cell, hB2.cell]; rfl) (fun hct27 => ?_) (fun hct27 => ?_)
  ·
   try simp only [BD] at hct27
   refine hx_seq (hx_region ?_)
   refine WL.qq (by refine qv_bld (by simp only [EN, Nat.reduceEqDiff, reduceIte, AR, strEq, hB1.cell, hB2.cell] <;> rfl) (by rw [bl34]; simp [Instr.fill, Value.cells]; rfl)) ?_
   refine WL.store (by simp only [EN, Nat.reduceEqDiff, reduceIte, strEq, hB1.cell, hB2.cell] <;> rfl) sz34 (by simp only [EN, Nat.reduceEqDiff, reduceIte, Value.cells, strEq, hB1.cell, hB2.cell] <;> rfl) rfl hB2 (by first | (simp [true_and]; done) | (simp [true_and]; omega) | omega) (by simp [Value.oneCell']) ?_
   intro h3 hw3
   have hXe := hw3.ext ((hx1).trans (hx2)) (by have := hx1.size; omega)
   replace hB2 := hw3.at_
   try simp only [splc, List.take_succ_cons, List.take_zero, List.take_nil, List.drop_succ_cons, List.drop_zero, List.drop_nil, List.cons_append, List.nil_append, List.length_cons, List.length_nil, Nat.zero_add, Nat.add_zero, Nat.reduceAdd, List.append_nil] at hB2
   refine WL.qq (by simp only [EN, Nat.reduceEqDiff, reduceIte, qv_assign, strEq, hB1.cell, hB2.cell]; rfl) ?_
   refine WL.nil (th_norm (hx_ret (th_ret ?_)))
   refine fin_ret [.cell 8 34, .tmp 9] rfl rfl (by simp only [EN, Nat.reduceEqDiff, reduceIte, resv, ld34, readN, AR, Nat.zero_add, Nat.reduceAdd, e0, e1, e2, e3, strEq, hB1.cell, hB2.cell]; rfl) ?_
   have hz2 : erH l = 8 := (by rw [erH, if_pos (by omega)])
   have he : erN l os s d m = 8 := (by unfold erN; rw [hz2]; rfl)
   exact ⟨hXe, _, by rw [he]; rfl, .inl ⟨by rw [he]; decide, rfl⟩⟩
  ·
   try simp only [BD] at hct27
   have hne : ¬ (l.length = 0 ∨ 1024 < l.length) := (by omega)
   have her : erH l = if goH [] l ≠ 0 then goH [] l else if 1000000000000000 < sumF SI.n l then 12 else 0 := if_neg hne
   have hX2 := ((hx1).trans (hx2)); have hb2 : h.size ≤ B2 := (by have := hx1.size; omega)
   refine hx_skip (th_norm (hx_seq (hx_region ?_)))
   refine WL.qq (by simp only [EN, Nat.reduceEqDiff, reduceIte, qv_assign, strEq, hB1.cell, hB2.cell]; rfl) ?_
   refine WL.nil (th_norm (hx_seq (hx_seq (hx_region ?_))))
   refine WL.qq (by simp only [EN, Nat.reduceEqDiff, reduceIte, qv_assign, strEq, hB1.cell, hB2.cell]; rfl) ?_
   refine WL.nil (th_norm (hx_block ?_))
   refine hx_loopS [9, 10, 11, 12, 29, 30, 31, 32, 33, 34, 35, 36, 37, 38, 39, 40, 41, 42, 43, 44, 45, 46, 47, 48, 49, 50, 51, 52, 53, 54, 55, 56, 57, 58, 59, 60, 61, 62, 63, 64, 65, 66, 67, 68, 69, 70, 71, 72, 73, 74, 75, 76, 77, 78, 79, 80] (fun k e => ∃ (i : Nat), l.length - i = k ∧ (i ≤ l.length) ∧ (goH (l.take i) (l.drop i) = goH [] l) ∧ (∀ y ∈ l.take i, 0 ≤ y.n ∧ y.n ≤ 1000000000000000) ∧ e 11 = .int .i64 i ∧ e 10 = iV (sumF SI.n (l.take i))) _ ⟨0, rfl, ?_, ?_, ?_, ?_, ?_⟩ ?_
   · omega
   · rfl
   · intro y hy; simp at hy
   · simp only [EN, Nat.reduceEqDiff, reduceIte, e0, e1, e2, e3, strEq, hB1.cell, hB2.cell] <;> rfl
   · simp only [EN, Nat.reduceEqDiff, reduceIte, e0, e1, e2, e3, strEq, hB1.cell, hB2.cell] <;> rfl
   ·
    rintro k e0L hfr0 ⟨i, rfl, hi, hg, hq, i11_0, i10_0⟩
    have k0_0 := hfr0 0 rfl; try simp only [EN, Nat.reduceEqDiff, reduceIte, e0, strEq, hB1.cell, hB2.cell] at k0_0
    have k1_0 := hfr0 1 rfl; try simp only [EN, Nat.reduceEqDiff, reduceIte, e1, strEq, hB1.cell, hB2.cell] at k1_0
    have k2_0 := hfr0 2 rfl; try simp only [EN, Nat.reduceEqDiff, reduceIte, e2, strEq, hB1.cell, hB2.cell] at k2_0
    have k7_0 := hfr0 7 rfl; try simp only [EN, Nat.reduceEqDiff, reduceIte, strEq, hB1.cell, hB2.cell] at k7_0
    have k8_0 := hfr0 8 rfl; try simp only [EN, Nat.reduceEqDiff, reduceIte, strEq, hB1.cell, hB2.cell] at k8_0
    refine hx_seq (hx_seq (hx_region ?_))
    iterate 4 refine WL.qq (by simp only [EN, Nat.reduceEqDiff, reduceIte, qv_move, i11_0, strEq, hB1.cell, hB2.cell, k0_0, qv_len, ln22, AR, qv_binOp, binv_lss]; rfl) ?_
    refine WL.nil (th_norm ?_)
    refine hx_cond (by simp only [EN, Nat.reduceEqDiff, reduceIte, strEq, hB1.cell, hB2.cell]; rfl) (fun hct32 => ?_) (fun hct32 => ?_)
    ·
     try simp only [BD] at hct32
     obtain ⟨x, hx⟩ := atG (l := l) (i := i) (by omega)
     obtain ⟨b1, o1, ha1, hr1, hr2, hr3⟩ := si_rd hs hx
     have hst := goH_step hx; rw [hg] at hst; have hsu := sumF_step (f := SI.n) hx; have hsb := sumF_bd hq; have hln : (l.take i).length ≤ 1024 := (by rw [List.length_take]; omega)
     refine hx_skip (th_norm (hx_seq (hx_block (hx_seq (hx_seq (hx_region ?_))))))
     iterate 3 refine WL.qq (by simp only [EN, Nat.reduceEqDiff, reduceIte, qv_move, k0_0, strEq, hB1.cell, hB2.cell, i11_0, qv_indexAddr, ha1]; (try simp (disch := omega) only [ix22, Int.toNat_natCast]); rfl) ?_
     refine WL.qq (by simp only [EN, Nat.reduceEqDiff, reduceIte, qv_fieldAddr, fa66_0, Nat.zero_add, Nat.reduceAdd, strEq, hB1.cell, hB2.cell]; rfl) ?_
     refine WL.qq (by simp only [EN, Nat.reduceEqDiff, reduceIte, k0_0, k1_0, k2_0, k7_0, k8_0, i11_0, i10_0, strEq, hB1.cell, hB2.cell, qv_load, ld9, Int.toNat_natCast, hr2]; rfl) ?_
     refine WL.qq (by simp only [EN, Nat.reduceEqDiff, reduceIte, qv_binOp, binv_eql, eq9, Option.map_some, strEq, hB1.cell, hB2.cell]; rfl) ?_
     refine WL.nil (th_norm ?_)
     refine hx_cond (by simp only [EN, Nat.reduceEqDiff, reduceIte, strEq, hB1.cell, hB2.cell]; rfl) (fun hct40 => ?_) (fun hct40 => ?_)
     ·
      try simp only [BD] at hct40
      refine hx_seq (hx_region ?_)
      refine WL.qq (by refine qv_bld (by simp only [EN, Nat.reduceEqDiff, reduceIte, AR, strEq, hB1.cell, hB2.cell] <;> rfl) (by rw [bl34]; simp [Instr.fill, Value.cells]; rfl)) ?_
      refine WL.store (by simp only [EN, Nat.reduceEqDiff, reduceIte, k8_0, strEq, hB1.cell, hB2.cell] <;> rfl) sz34 (by simp only [EN, Nat.reduceEqDiff, reduceIte, Value.cells, k8_0, strEq, hB1.cell, hB2.cell] <;> rfl) rfl hB2 (by first | (simp [true_and]; done) | (simp [true_and]; omega) | omega) (by simp [Value.oneCell']) ?_
      intro h4 hw4
      have hXe := hw4.ext hX2 hb2
      replace hB2 := hw4.at_
      try simp only [splc, List.take_succ_cons, List.take_zero, List.take_nil, List.drop_succ_cons, List.drop_zero, List.drop_nil, List.cons_append, List.nil_append, List.length_cons, List.length_nil, Nat.zero_add, Nat.add_zero, Nat.reduceAdd, List.append_nil] at hB2
      refine WL.qq (by simp only [EN, Nat.reduceEqDiff, reduceIte, qv_assign, strEq, hB1.cell, hB2.cell]; rfl) ?_
      refine WL.nil (th_norm (hx_ret (th_ret (bl_ret (th_ret (th_ret (bl_ret (th_ret ?_))))))))
      refine fin_ret [.cell 8 34, .tmp 9] rfl rfl (by simp only [EN, Nat.reduceEqDiff, reduceIte, resv, ld34, readN, AR, Nat.zero_add, Nat.reduceAdd, k0_0, k1_0, k2_0, k7_0, k8_0, i11_0, i10_0, strEq, hB1.cell, hB2.cell]; rfl) ?_
      have hz : ckH (l.take i) x = 6 := if_pos (by simpa using hct40)
      have hz2 : erH l = 6 := (by rw [her, hst, hz]; rfl)
      have he : erN l os s d m = 6 := (by unfold erN; rw [hz2]; rfl)
      exact ⟨hXe, _, by rw [he]; rfl, .inl ⟨by rw [he]; decide, rfl⟩⟩
     ·
      try simp only [BD] at hct40
      have c1 : ¬ x.s = em := (by simpa using hct40)
      refine hx_skip (th_norm (hx_seq (hx_seq (hx_region ?_))))
      refine WL.qq (by simp only [EN, Nat.reduceEqDiff, reduceIte, qv_assign, strEq, hB1.cell, hB2.cell]; rfl) ?_
      refine WL.nil (th_norm (hx_block ?_))
      refine hx_loopS [9, 12, 42, 43, 44, 45, 46, 47, 48, 49, 50, 51, 52, 53, 54, 55, 56, 57, 58] (fun k e => ∃ (j : Nat), i - j = k ∧ (j ≤ i) ∧ ((∀ y ∈ l.take j, y.s ≠ x.s)) ∧ e 12 = .int .i64 j) _ ⟨0, rfl, ?_, ?_, ?_⟩ ?_
      · omega
      · intro y hy; simp at hy
      · simp only [EN, Nat.reduceEqDiff, reduceIte, k0_0, k1_0, k2_0, k7_0, k8_0, i11_0, i10_0, strEq, hB1.cell, hB2.cell] <;> rfl
      ·
       rintro k e1L hfr1 ⟨j, rfl, hj, hno, i12_1⟩
       have k0_1 := hfr1 0 rfl; try simp only [EN, Nat.reduceEqDiff, reduceIte, k0_0, strEq, hB1.cell, hB2.cell] at k0_1
       have k1_1 := hfr1 1 rfl; try simp only [EN, Nat.reduceEqDiff, reduceIte, k1_0, strEq, hB1.cell, hB2.cell] at k1_1
       have k2_1 := hfr1 2 rfl; try simp only [EN, Nat.reduceEqDiff, reduceIte, k2_0, strEq, hB1.cell, hB2.cell] at k2_1
       have k7_1 := hfr1 7 rfl; try simp only [EN, Nat.reduceEqDiff, reduceIte, k7_0, strEq, hB1.cell, hB2.cell] at k7_1
       have k8_1 := hfr1 8 rfl; try simp only [EN, Nat.reduceEqDiff, reduceIte, k8_0, strEq, hB1.cell, hB2.cell] at k8_1
       have k10_1 := hfr1 10 rfl; try simp only [EN, Nat.reduceEqDiff, reduceIte, i10_0, strEq, hB1.cell, hB2.cell] at k10_1
       have k11_1 := hfr1 11 rfl; try simp only [EN, Nat.reduceEqDiff, reduceIte, i11_0, strEq, hB1.cell, hB2.cell] at k11_1
       refine hx_seq (hx_seq (hx_region ?_))
       iterate 3 refine WL.qq (by simp only [EN, Nat.reduceEqDiff, reduceIte, qv_move, i12_1, strEq, hB1.cell, hB2.cell, k11_1, qv_binOp, binv_lss]; rfl) ?_
       refine WL.nil (th_norm ?_)
       refine hx_cond (by simp only [EN, Nat.reduceEqDiff, reduceIte, strEq, hB1.cell, hB2.cell]; rfl) (fun hct44 => ?_) (fun hct44 => ?_)
       ·
        try simp only [BD] at hct44
        obtain ⟨y, hy⟩ := atG (l := l) (i := j) (by omega)
        obtain ⟨b2, o2, ha2, _, hr22, _⟩ := si_rd hs hy
        refine hx_skip (th_norm (hx_seq (hx_block (hx_seq ?_))))
        apply hx_draw2 Rel.same [] [] [] rfl (by decide +kernel) rfl
        iterate 3 refine LD.qq rfl rfl (by simp only [EN, Nat.reduceEqDiff, reduceIte, qv_move, k0_1, strEq, hB1.cell, hB2.cell, i12_1, qv_indexAddr, ha2]; (try simp (disch := omega) only [ix22, Int.toNat_natCast]); rfl) ?_
        refine LD.qq rfl rfl (by simp only [EN, Nat.reduceEqDiff, reduceIte, qv_fieldAddr, fa66_0, Nat.zero_add, Nat.reduceAdd, strEq, hB1.cell, hB2.cell]; rfl) ?_
        refine LD.qq rfl rfl (by simp only [EN, Nat.reduceEqDiff, reduceIte, k0_1, k1_1, k2_1, k7_1, k8_1, k10_1, k11_1, i12_1, strEq, hB1.cell, hB2.cell, qv_load, ld9, Int.toNat_natCast, hr22]; rfl) ?_
        iterate 3 refine LD.qq rfl rfl (by simp only [EN, Nat.reduceEqDiff, reduceIte, qv_move, k0_1, strEq, hB1.cell, hB2.cell, k11_1, qv_indexAddr, ha1]; (try simp (disch := omega) only [ix22, Int.toNat_natCast]); rfl) ?_
        refine LD.qq rfl rfl (by simp only [EN, Nat.reduceEqDiff, reduceIte, qv_fieldAddr, fa66_0, Nat.zero_add, Nat.reduceAdd, strEq, hB1.cell, hB2.cell]; rfl) ?_
        refine LD.qq rfl rfl (by simp only [EN, Nat.reduceEqDiff, reduceIte, k0_1, k1_1, k2_1, k7_1, k8_1, k10_1, k11_1, i12_1, strEq, hB1.cell, hB2.cell, qv_load, ld9, Int.toNat_natCast, hr2]; rfl) ?_
        refine LD.qq rfl rfl (by simp only [EN, Nat.reduceEqDiff, reduceIte, qv_binOp, binv_eql, eq9, Option.map_some, strEq, hB1.cell, hB2.cell]; rfl) ?_
        refine LD.nil ?_
        rintro h2 rfl -
        refine WL.nil (th_norm ?_)
        refine hx_cond (by simp only [EN, Nat.reduceEqDiff, reduceIte, strEq, hB1.cell, hB2.cell]; rfl) (fun hct57 => ?_) (fun hct57 => ?_)
        ·
         try simp only [BD] at hct57
         refine hx_seq (hx_region ?_)
         refine WL.qq (by refine qv_bld (by simp only [EN, Nat.reduceEqDiff, reduceIte, AR, strEq, hB1.cell, hB2.cell] <;> rfl) (by rw [bl34]; simp [Instr.fill, Value.cells]; rfl)) ?_
         refine WL.store (by simp only [EN, Nat.reduceEqDiff, reduceIte, k8_1, strEq, hB1.cell, hB2.cell] <;> rfl) sz34 (by simp only [EN, Nat.reduceEqDiff, reduceIte, Value.cells, k8_1, strEq, hB1.cell, hB2.cell] <;> rfl) rfl hB2 (by first | (simp [true_and]; done) | (simp [true_and]; omega) | omega) (by simp [Value.oneCell']) ?_
         intro h5 hw5
         have hXe := hw5.ext hX2 hb2
         replace hB2 := hw5.at_
         try simp only [splc, List.take_succ_cons, List.take_zero, List.take_nil, List.drop_succ_cons, List.drop_zero, List.drop_nil, List.cons_append, List.nil_append, List.length_cons, List.length_nil, Nat.zero_add, Nat.add_zero, Nat.reduceAdd, List.append_nil] at hB2
         refine WL.qq (by simp only [EN, Nat.reduceEqDiff, reduceIte, qv_assign, strEq, hB1.cell, hB2.cell]; rfl) ?_
         refine WL.nil (th_norm (hx_ret (bl_ret (th_ret (th_ret (bl_ret (th_ret (bl_ret (th_ret (th_ret (bl_ret (th_ret ?_))))))))))))
         refine fin_ret [.cell 8 34, .tmp 9] rfl rfl (by simp only [EN, Nat.reduceEqDiff, reduceIte, resv, ld34, readN, AR, Nat.zero_add, Nat.reduceAdd, k0_1, k1_1, k2_1, k7_1, k8_1, k10_1, k11_1, i12_1, strEq, hB1.cell, hB2.cell]; rfl) ?_
         have hz : ckH (l.take i) x = 7 := (by unfold ckH; rw [if_neg c1, if_pos (List.any_eq_true.2 ⟨y, List.mem_of_getElem? (i := j) (by rw [List.getElem?_take, if_pos (by omega)]; exact hy), by simpa using hct57⟩)])
         have hz2 : erH l = 7 := (by rw [her, hst, hz]; rfl)
         have he : erN l os s d m = 7 := (by unfold erN; rw [hz2]; rfl)
         exact ⟨hXe, _, by rw [he]; rfl, .inl ⟨by rw [he]; decide, rfl⟩⟩
        ·
         try simp only [BD] at hct57
         refine hx_skip (bl_norm (th_norm (hx_region ?_)))
         iterate 3 refine WL.qq (by simp only [EN, Nat.reduceEqDiff, reduceIte, qv_move, i12_1, strEq, hB1.cell, hB2.cell, qv_binOp, binv_add, qv_assign]; (try simp (disch := omega) only [w64, w8, wu64]); rfl) ?_
         refine WL.nil (th_norm ?_)
         refine ⟨rfl, rfl, ?_, _, ?_, j + 1, rfl, ?_, ?_, ?_⟩
         · (repeat (first | exact Fr.refl _ _ | refine Fr.set rfl ?_ | refine Fr.put rfl ?_ | with_reducible refine Fr.put0 ?_))
         · omega
         · omega
         · exact all_take hno hy (by simpa using hct57)
         · simp only [EN, Nat.reduceEqDiff, reduceIte, k0_1, k1_1, k2_1, k7_1, k8_1, k10_1, k11_1, i12_1, strEq, hB1.cell, hB2.cell] <;> first | rfl | (congr 1; omega)
       ·
        try simp only [BD] at hct44
        obtain rfl : j = i := (by omega)
        have c2 : ¬ (l.take j).any (fun y => decide (y.s = x.s)) = true := (fun hh => by obtain ⟨y, hy, hyx⟩ := List.any_eq_true.1 hh; exact hno y hy (by simpa using hyx))
        refine hx_exit (th_exit (th_exit (bl_hit (th_norm (hx_seq (hx_seq (hx_region ?_)))))))
        iterate 3 refine WL.qq (by simp only [EN, Nat.reduceEqDiff, reduceIte, qv_move, k0_1, strEq, hB1.cell, hB2.cell, k11_1, qv_indexAddr, ha1]; (try simp (disch := omega) only [ix22, Int.toNat_natCast]); rfl) ?_
        refine WL.qq (by simp only [EN, Nat.reduceEqDiff, reduceIte, qv_fieldAddr, fa66_1, Nat.zero_add, Nat.reduceAdd, strEq, hB1.cell, hB2.cell]; rfl) ?_
        refine WL.qq (by simp only [EN, Nat.reduceEqDiff, reduceIte, k0_1, k1_1, k2_1, k7_1, k8_1, k10_1, k11_1, i12_1, strEq, hB1.cell, hB2.cell, qv_load, ld2, Int.toNat_natCast, hr3]; rfl) ?_
        iterate 2 refine WL.qq (by simp only [EN, Nat.reduceEqDiff, reduceIte, qv_binOp, binv_lss, strEq, hB1.cell, hB2.cell, qv_move]; rfl) ?_
        refine WL.cq (gd_at (t := 65) rfl (by simp only [EN, Nat.reduceEqDiff, reduceIte, k0_1, strEq, hB1.cell, hB2.cell] <;> rfl)) (fun hg14_7 => by simp only [EN, Nat.reduceEqDiff, reduceIte, qv_move, k0_1, strEq, hB1.cell, hB2.cell, hg14_7, GR]; rfl) ?_
        refine WL.cq (gd_at (t := 65) rfl (by simp only [EN, Nat.reduceEqDiff, reduceIte, k11_1, strEq, hB1.cell, hB2.cell] <;> rfl)) (fun hg14_8 => by simp only [EN, Nat.reduceEqDiff, reduceIte, qv_move, k11_1, strEq, hB1.cell, hB2.cell, hg14_8, GR]; rfl) ?_
        refine WL.cq (gd_at (t := 65) rfl (by simp only [EN, Nat.reduceEqDiff, reduceIte, strEq, hB1.cell, hB2.cell] <;> rfl)) (fun hg14_9 => by have hq0 := hg14_9; (try simp only [BD] at hq0); simp only [EN, Nat.reduceEqDiff, reduceIte, qv_indexAddr, strEq, hB1.cell, hB2.cell, ha1, hg14_9, GR]; (try simp (disch := omega) only [ix22, Int.toNat_natCast]); rfl) ?_
        refine WL.cq (gd_at (t := 65) rfl (by simp only [EN, Nat.reduceEqDiff, reduceIte, strEq, hB1.cell, hB2.cell] <;> rfl)) (fun hg14_10 => by simp only [EN, Nat.reduceEqDiff, reduceIte, qv_fieldAddr, fa66_1, Nat.zero_add, Nat.reduceAdd, strEq, hB1.cell, hB2.cell, hg14_10, GR]; rfl) ?_
        refine WL.cq (gd_at (t := 65) rfl (by simp only [EN, Nat.reduceEqDiff, reduceIte, strEq, hB1.cell, hB2.cell] <;> rfl)) (fun hg14_11 => by simp only [EN, Nat.reduceEqDiff, reduceIte, k0_1, k1_1, k2_1, k7_1, k8_1, k10_1, k11_1, i12_1, strEq, hB1.cell, hB2.cell, GR, hg14_11, qv_load, ld2, Int.toNat_natCast, hr3]; rfl) ?_
        refine WL.cq (gd_at (t := 65) rfl (by simp only [EN, Nat.reduceEqDiff, reduceIte, strEq, hB1.cell, hB2.cell] <;> rfl)) (fun hg14_12 => by simp only [EN, Nat.reduceEqDiff, reduceIte, qv_binOp, binv_gtr, strEq, hB1.cell, hB2.cell, hg14_12, GR]; rfl) ?_
        refine WL.qq (by simp only [EN, Nat.reduceEqDiff, reduceIte, qv_pick, pk_and, pk_or, GR, strEq, hB1.cell, hB2.cell]; rfl) ?_
        refine WL.nil (th_norm ?_)
        refine hx_cond (by simp only [EN, Nat.reduceEqDiff, reduceIte, strEq, hB1.cell, hB2.cell]; rfl) (fun hct72 => ?_) (fun hct72 => ?_)
        ·
         try simp only [BD] at hct72
         refine hx_seq (hx_region ?_)
         refine WL.qq (by refine qv_bld (by simp only [EN, Nat.reduceEqDiff, reduceIte, AR, strEq, hB1.cell, hB2.cell] <;> rfl) (by rw [bl34]; simp [Instr.fill, Value.cells]; rfl)) ?_
         refine WL.store (by simp only [EN, Nat.reduceEqDiff, reduceIte, k8_1, strEq, hB1.cell, hB2.cell] <;> rfl) sz34 (by simp only [EN, Nat.reduceEqDiff, reduceIte, Value.cells, k8_1, strEq, hB1.cell, hB2.cell] <;> rfl) rfl hB2 (by first | (simp [true_and]; done) | (simp [true_and]; omega) | omega) (by simp [Value.oneCell']) ?_
         intro h6 hw6
         have hXe := hw6.ext hX2 hb2
         replace hB2 := hw6.at_
         try simp only [splc, List.take_succ_cons, List.take_zero, List.take_nil, List.drop_succ_cons, List.drop_zero, List.drop_nil, List.cons_append, List.nil_append, List.length_cons, List.length_nil, Nat.zero_add, Nat.add_zero, Nat.reduceAdd, List.append_nil] at hB2
         refine WL.qq (by simp only [EN, Nat.reduceEqDiff, reduceIte, qv_assign, strEq, hB1.cell, hB2.cell]; rfl) ?_
         refine WL.nil (th_norm (hx_ret (th_ret (bl_ret (th_ret (th_ret (bl_ret (th_ret ?_))))))))
         refine fin_ret [.cell 8 34, .tmp 9] rfl rfl (by simp only [EN, Nat.reduceEqDiff, reduceIte, resv, ld34, readN, AR, Nat.zero_add, Nat.reduceAdd, k0_1, k1_1, k2_1, k7_1, k8_1, k10_1, k11_1, i12_1, strEq, hB1.cell, hB2.cell]; rfl) ?_
         have hz : ckH (l.take j) x = 2 := (by unfold ckH; rw [if_neg c1, if_neg c2, if_pos (by omega)])
         have hz2 : erH l = 2 := (by rw [her, hst, hz]; rfl)
         have he : erN l os s d m = 2 := (by unfold erN; rw [hz2]; rfl)
         exact ⟨hXe, _, by rw [he]; rfl, .inl ⟨by rw [he]; decide, rfl⟩⟩
        ·
         try simp only [BD] at hct72
         have c3 : ¬ (x.n < 1 ∨ 1000000000000000 < x.n) := (by omega)
         have hz : ckH (l.take j) x = 0 := (by unfold ckH; rw [if_neg c1, if_neg c2, if_neg c3]); rw [if_pos hz] at hst
         refine hx_skip (th_norm (hx_region ?_))
         iterate 4 refine WL.qq (by simp only [EN, Nat.reduceEqDiff, reduceIte, qv_move, k10_1, strEq, hB1.cell, hB2.cell, k0_1, k11_1, qv_indexAddr, ha1]; (try simp (disch := omega) only [ix22, Int.toNat_natCast]); rfl) ?_
         refine WL.qq (by simp only [EN, Nat.reduceEqDiff, reduceIte, qv_fieldAddr, fa66_1, Nat.zero_add, Nat.reduceAdd, strEq, hB1.cell, hB2.cell]; rfl) ?_
         refine WL.qq (by simp only [EN, Nat.reduceEqDiff, reduceIte, k0_1, k1_1, k2_1, k7_1, k8_1, k10_1, k11_1, i12_1, strEq, hB1.cell, hB2.cell, qv_load, ld2, Int.toNat_natCast, hr3]; rfl) ?_
         iterate 2 refine WL.qq (by simp only [EN, Nat.reduceEqDiff, reduceIte, qv_binOp, binv_add, strEq, hB1.cell, hB2.cell, qv_assign]; (try simp (disch := omega) only [w64, w8, wu64]); rfl) ?_
         refine WL.nil (bl_norm (th_norm (hx_region ?_)))
         iterate 3 refine WL.qq (by simp only [EN, Nat.reduceEqDiff, reduceIte, qv_move, k11_1, strEq, hB1.cell, hB2.cell, qv_binOp, binv_add, qv_assign]; (try simp (disch := omega) only [w64, w8, wu64]); rfl) ?_
         refine WL.nil (th_norm ?_)
         refine ⟨rfl, rfl, ?_, _, ?_, j + 1, rfl, ?_, ?_, ?_, ?_, ?_⟩
         · (repeat (first | exact Fr.refl _ _ | refine Fr.set rfl ?_ | refine Fr.put rfl ?_ | with_reducible refine Fr.put0 ?_ | refine Fr.trans ?_ (Fr.of hfr1 rfl)))
         · omega
         · omega
         · exact hst.symm
         · exact all_take (p := fun y => 0 ≤ y.n ∧ y.n ≤ 1000000000000000) hq hx (by omega)
         · simp only [EN, Nat.reduceEqDiff, reduceIte, k0_1, k1_1, k2_1, k7_1, k8_1, k10_1, k11_1, i12_1, strEq, hB1.cell, hB2.cell] <;> first | rfl | (congr 1; omega)
         · simp only [EN, Nat.reduceEqDiff, reduceIte, k0_1, k1_1, k2_1, k7_1, k8_1, k10_1, k11_1, i12_1, strEq, hB1.cell, hB2.cell] <;> rw [hsu]
    ·
     try simp only [BD] at hct32
     obtain rfl : i = l.length := (by omega)
     rw [List.drop_length, List.take_length] at hg; have hg0 : goH [] l = 0 := hg.symm; rw [List.take_length] at i10_0; rw [hg0, if_neg (by decide)] at her
     refine hx_exit (th_exit (th_exit (bl_hit (th_norm (hx_seq (hx_seq (hx_region ?_)))))))
     iterate 2 refine WL.qq (by simp only [EN, Nat.reduceEqDiff, reduceIte, qv_move, i10_0, strEq, hB1.cell, hB2.cell, qv_binOp, binv_gtr]; rfl) ?_
     refine WL.nil (th_norm ?_)
     refine hx_cond (by simp only [EN, Nat.reduceEqDiff, reduceIte, strEq, hB1.cell, hB2.cell]; rfl) (fun hct82 => ?_) (fun hct82 => ?_)
     ·
      try simp only [BD] at hct82
      refine hx_seq (hx_region ?_)
      refine WL.qq (by refine qv_bld (by simp only [EN, Nat.reduceEqDiff, reduceIte, AR, strEq, hB1.cell, hB2.cell] <;> rfl) (by rw [bl34]; simp [Instr.fill, Value.cells]; rfl)) ?_
      refine WL.store (by simp only [EN, Nat.reduceEqDiff, reduceIte, k8_0, strEq, hB1.cell, hB2.cell] <;> rfl) sz34 (by simp only [EN, Nat.reduceEqDiff, reduceIte, Value.cells, k8_0, strEq, hB1.cell, hB2.cell] <;> rfl) rfl hB2 (by first | (simp [true_and]; done) | (simp [true_and]; omega) | omega) (by simp [Value.oneCell']) ?_
      intro h7 hw7
      have hXe := hw7.ext hX2 hb2
      replace hB2 := hw7.at_
      try simp only [splc, List.take_succ_cons, List.take_zero, List.take_nil, List.drop_succ_cons, List.drop_zero, List.drop_nil, List.cons_append, List.nil_append, List.length_cons, List.length_nil, Nat.zero_add, Nat.add_zero, Nat.reduceAdd, List.append_nil] at hB2
      refine WL.qq (by simp only [EN, Nat.reduceEqDiff, reduceIte, qv_assign, strEq, hB1.cell, hB2.cell]; rfl) ?_
      refine WL.nil (th_norm (hx_ret (th_ret ?_)))
      refine fin_ret [.cell 8 34, .tmp 9] rfl rfl (by simp only [EN, Nat.reduceEqDiff, reduceIte, resv, ld34, readN, AR, Nat.zero_add, Nat.reduceAdd, k0_0, k1_0, k2_0, k7_0, k8_0, i11_0, i10_0, strEq, hB1.cell, hB2.cell]; rfl) ?_
      have hz2 : erH l = 12 := (by rw [her, if_pos (by omega)])
      have he : erN l os s d m = 12 := (by unfold erN; rw [hz2]; rfl)
      exact ⟨hXe, _, by rw [he]; rfl, .inl ⟨by rw [he]; decide, rfl⟩⟩
     ·
      try simp only [BD] at hct82
      have hH : erH l = 0 := (by rw [her, if_neg (by omega)])
      have heN : erN l os s d m = if erO os ≠ 0 then erO os else if idxS s os < 0 then 9 else if capE os (idxS s os) ≠ 0 then 11 else if clkE d m ≠ 0 then 28 else 0 := (by unfold erN; rw [hH]; rfl)
      refine hx_skip (th_norm (hx_seq (hx_seq (hx_region ?_))))
      iterate 4 refine WL.qq (by simp only [EN, Nat.reduceEqDiff, reduceIte, qv_move, k1_0, strEq, hB1.cell, hB2.cell, qv_len, ln23, AR, qv_binOp, binv_eql, eq3, Option.map_some]; rfl) ?_
      refine WL.cq (gd_at (t := 87) rfl (by simp only [EN, Nat.reduceEqDiff, reduceIte, k1_0, strEq, hB1.cell, hB2.cell] <;> rfl)) (fun hg19_4 => by simp only [EN, Nat.reduceEqDiff, reduceIte, qv_move, k1_0, strEq, hB1.cell, hB2.cell, hg19_4, GR]; rfl) ?_
      refine WL.cq (gd_at (t := 87) rfl (by simp only [EN, Nat.reduceEqDiff, reduceIte, strEq, hB1.cell, hB2.cell] <;> rfl)) (fun hg19_5 => by simp only [EN, Nat.reduceEqDiff, reduceIte, qv_len, ln23, AR, strEq, hB1.cell, hB2.cell, hg19_5, GR]; rfl) ?_
      refine WL.cq (gd_at (t := 87) rfl (by simp only [EN, Nat.reduceEqDiff, reduceIte, strEq, hB1.cell, hB2.cell] <;> rfl)) (fun hg19_6 => by simp only [EN, Nat.reduceEqDiff, reduceIte, qv_binOp, binv_gtr, strEq, hB1.cell, hB2.cell, hg19_6, GR]; rfl) ?_
      refine WL.qq (by simp only [EN, Nat.reduceEqDiff, reduceIte, qv_pick, pk_and, pk_or, GR, strEq, hB1.cell, hB2.cell]; rfl) ?_
      refine WL.nil (th_norm ?_)
      refine hx_cond (by simp only [EN, Nat.reduceEqDiff, reduceIte, strEq, hB1.cell, hB2.cell]; rfl) (fun hct91 => ?_) (fun hct91 => ?_)
      ·
       try simp only [BD] at hct91
       refine hx_seq (hx_region ?_)
       refine WL.qq (by refine qv_bld (by simp only [EN, Nat.reduceEqDiff, reduceIte, AR, strEq, hB1.cell, hB2.cell] <;> rfl) (by rw [bl34]; simp [Instr.fill, Value.cells]; rfl)) ?_
       refine WL.store (by simp only [EN, Nat.reduceEqDiff, reduceIte, k8_0, strEq, hB1.cell, hB2.cell] <;> rfl) sz34 (by simp only [EN, Nat.reduceEqDiff, reduceIte, Value.cells, k8_0, strEq, hB1.cell, hB2.cell] <;> rfl) rfl hB2 (by first | (simp [true_and]; done) | (simp [true_and]; omega) | omega) (by simp [Value.oneCell']) ?_
       intro h8 hw8
       have hXe := hw8.ext hX2 hb2
       replace hB2 := hw8.at_
       try simp only [splc, List.take_succ_cons, List.take_zero, List.take_nil, List.drop_succ_cons, List.drop_zero, List.drop_nil, List.cons_append, List.nil_append, List.length_cons, List.length_nil, Nat.zero_add, Nat.add_zero, Nat.reduceAdd, List.append_nil] at hB2
       refine WL.qq (by simp only [EN, Nat.reduceEqDiff, reduceIte, qv_assign, strEq, hB1.cell, hB2.cell]; rfl) ?_
       refine WL.nil (th_norm (hx_ret (th_ret ?_)))
       refine fin_ret [.cell 8 34, .tmp 9] rfl rfl (by simp only [EN, Nat.reduceEqDiff, reduceIte, resv, ld34, readN, AR, Nat.zero_add, Nat.reduceAdd, k0_0, k1_0, k2_0, k7_0, k8_0, i11_0, i10_0, strEq, hB1.cell, hB2.cell]; rfl) ?_
       have hz2 : erO os = 8 := (by rw [erO, if_pos (by omega)])
       have he : erN l os s d m = 8 := (by rw [heN, hz2]; rfl)
       exact ⟨hXe, _, by rw [he]; rfl, .inl ⟨by rw [he]; decide, rfl⟩⟩
      ·
       try simp only [BD] at hct91
       have hne2 : ¬ (os.length = 0 ∨ 16 < os.length) := (by omega)
       have her2 : erO os = goO [] os := if_neg hne2
       refine hx_skip (th_norm (hx_seq ?_))
       apply hx_draw2 Rel.grows [6] [1, 3, 5] [(1, (Spec.ls (Array.size h2) #[] tyRO 0)), (3, (Spec.own (Array.size h2) tyRO 2 os.length (os.flatMap siL))), (5, Spec.blk _ _ 34)] rfl (by decide +kernel) rfl
       have hB1o := hB1; have hB2o := hB2; have hl1 := (Array.getElem?_eq_some_iff.1 hB1o).1; have hl2 := (Array.getElem?_eq_some_iff.1 hB2o).1
       refine LD.qq rfl rfl (by simp only [EN, Nat.reduceEqDiff, reduceIte, qv_load, ld25, readN, AR, Nat.zero_add, Nat.reduceAdd, k7_0, strEq, hB1.cell, hB2.cell]; rfl) ?_
       refine LD.es rfl rfl (by intro hD hr hf; have hx : Ext _ _ := hr; have hs := hs.ext hx; have ho := ho.ext hx; have hB1 := hB1.ext hx; have hB2 := hB2.ext hx; exact e_lit0 (N := Array.size h2) hx.size Tryz.underlying23 sz68) ?_
       intro u21_1 w21_1
       obtain ⟨B21, hlt21, rfl⟩ := w21_1
       refine LD.qq rfl rfl (by simp only [EN, Nat.reduceEqDiff, reduceIte, qv_move, k1_0, strEq, hB1.cell, hB2.cell]; rfl) ?_
       refine LD.es rfl rfl (by intro hD hr hf; have hx : Ext _ _ := hr; have hs := hs.ext hx; have ho := ho.ext hx; have hB1 := hB1.ext hx; have hB2 := hB2.ext hx; have m1 := hf (1, .slice (some ⟨B21, 0, none⟩) 0 0) (by simp) (by show tb _ _ 1 = true; decide +kernel) _ rfl B21 rfl; exact e_copyG (f := siL) (base := Array.size h2) (bytes := 24) Tryz.underlying23 (inf_of Tryz.type68) rfl rfl rfl rfl (by decide) (fun _ => rfl) (by simp only [EN, Nat.reduceEqDiff, reduceIte, k0_0, k1_0, k2_0, k7_0, k8_0, i11_0, i10_0, strEq, hB1.cell, hB2.cell] <;> rfl) m1 hlt21 (by simp only [EN, Nat.reduceEqDiff, reduceIte, k0_0, k1_0, k2_0, k7_0, k8_0, i11_0, i10_0, strEq, hB1.cell, hB2.cell] <;> rfl) rfl ho (by simp only [maxLen]; omega) (by omega) hx.size) ?_
       intro u21_3 w21_3
       obtain ⟨a21, c21, rfl⟩ := w21_3
       refine LD.qq rfl rfl (by refine qv_bld (by simp only [EN, Nat.reduceEqDiff, reduceIte, AR, strEq, hB1.cell, hB2.cell] <;> rfl) (by rw [bl34]; simp [Instr.fill, Value.cells]; rfl)) ?_
       refine LD.al rfl rfl zr34 (Nat.le_refl _) ?_
       intro B9 hlt9
       refine LD.skip rfl ?_
       refine LD.nil ?_
       rintro h10 hx10 hF21
       replace hx10 : Ext _ _ := hx10
       replace hs := hs.ext hx10
       replace ho := ho.ext hx10
       replace hB1 := hB1.ext hx10
       replace hB2 := hB2.ext hx10
       have hB9 := hF21 (5, .pointer (some ⟨B9, 0, none⟩)) (by simp) _ rfl B9 rfl
       simp only [Value.cells] at hB9
       refine WL.store (by simp only [EN, Nat.reduceEqDiff, reduceIte, strEq, hB1.cell, hB2.cell, hB9.cell] <;> rfl) sz34 (by simp only [EN, Nat.reduceEqDiff, reduceIte, Value.cells, strEq, hB1.cell, hB2.cell, hB9.cell] <;> rfl) rfl hB9 (by first | (simp [true_and]; done) | (simp [true_and]; omega) | omega) (by simp [Value.oneCell']) ?_
       intro h11 hw11
       have ho21 := hF21 (3, .slice a21 os.length c21) (by simp) _ rfl
       have hx21 := hw11.ext hx10 hlt9
       replace ho21 := Own.keep (h' := h11) ho21 (fun c hc => hw11.same c (fun hh => by subst hh; exact Own.ncell ho21 hB9 (by decide) hc))
       have hX := hX2.trans hx21
       replace hB2 := hB2o.ext hx21
       replace hB1 := hB1o.ext hx21
       have hso := SlR.own (f := siL) (sz := 2) (fun _ => rfl) ho21 rfl
       have hoc : os.length ≤ c21 := (by obtain ⟨a9, c9, h9, h8, _⟩ := ho21.shape; cases h9; exact h8)
       replace hB9 := hw11.at_
       try simp only [splc, List.take_succ_cons, List.take_zero, List.take_nil, List.drop_succ_cons, List.drop_zero, List.drop_nil, List.cons_append, List.nil_append, List.length_cons, List.length_nil, Nat.zero_add, Nat.add_zero, Nat.reduceAdd, List.append_nil] at hB9
       have hb9 : h.size ≤ B9 := (by have := hX2.size; omega)
       have hn19 : B1 ≠ B9 := (by omega)
       have hn29 : B2 ≠ B9 := (by omega)
       refine WL.nil (th_norm (hx_seq (hx_seq (hx_region ?_))))
       refine WL.qq (by simp only [EN, Nat.reduceEqDiff, reduceIte, qv_assign, strEq, hB1.cell, hB2.cell, hB9.cell]; rfl) ?_
       refine WL.nil (th_norm (hx_block ?_))
       refine hx_loopG [9, 14, 15, 98, 99, 100, 101, 102, 103, 104, 105, 106, 107, 108, 109, 110, 111, 112, 113, 114, 115, 116, 117, 118, 119, 120, 121, 122, 123, 124, 125, 126, 127, 128, 129, 130, 131, 132, 133, 134, 135, 136, 137, 138, 139, 140, 141, 142, 143, 144, 145, 146, 147, 148, 149, 150, 151, 152] (fun k e hL2 => ∃ (j : Nat), os.length - j = k ∧ (j ≤ os.length) ∧ (Ext h hL2) ∧ (Has hL2 B1 (.cells #[iV d, iV m] 25)) ∧ (Has hL2 B2 (.cells #[.slice none 0 0, .slice none 0 0, iV 0, iV 0, iV 0, .slice none 0 0, .bool false] tyRE)) ∧ (Has hL2 B9 (.cells #[.slice none 0 0, .slice a21 os.length c21, iV (idxS s (os.take j)), iV d, iV m, .slice none 0 0, .bool false] tyRE)) ∧ (SlR tyRO 2 siL hL2 a21 os) ∧ (goO (os.take j) (os.drop j) = goO [] os) ∧ e 14 = .int .i64 j) _ ⟨0, rfl, ?_, ?_, ?_, ?_, ?_, ?_, ?_, ?_⟩ ?_
       · omega
       · exact hX
       · exact hB1
       · exact hB2
       · rw [show idxS s (os.take 0) = -1 from rfl]; exact hB9
       · exact hso
       · rfl
       · simp only [EN, Nat.reduceEqDiff, reduceIte, k0_0, k1_0, k2_0, k7_0, k8_0, i11_0, i10_0, strEq, hB1.cell, hB2.cell, hB9.cell] <;> rfl
       ·
        rintro k e2L hL2 hfr2 ⟨j, rfl, hj, hX, hB1, hB2, hB9, hso, hg, i14_2⟩
        have k0_2 := hfr2 0 rfl; try simp only [EN, Nat.reduceEqDiff, reduceIte, k0_0, strEq, hB1.cell, hB2.cell, hB9.cell] at k0_2
        have k1_2 := hfr2 1 rfl; try simp only [EN, Nat.reduceEqDiff, reduceIte, k1_0, strEq, hB1.cell, hB2.cell, hB9.cell] at k1_2
        have k2_2 := hfr2 2 rfl; try simp only [EN, Nat.reduceEqDiff, reduceIte, k2_0, strEq, hB1.cell, hB2.cell, hB9.cell] at k2_2
        have k7_2 := hfr2 7 rfl; try simp only [EN, Nat.reduceEqDiff, reduceIte, k7_0, strEq, hB1.cell, hB2.cell, hB9.cell] at k7_2
        have k8_2 := hfr2 8 rfl; try simp only [EN, Nat.reduceEqDiff, reduceIte, k8_0, strEq, hB1.cell, hB2.cell, hB9.cell] at k8_2
        have k13_2 := hfr2 13 rfl; try simp only [EN, Nat.reduceEqDiff, reduceIte, strEq, hB1.cell, hB2.cell, hB9.cell] at k13_2
        refine hx_seq (hx_seq (hx_region ?_))
        iterate 4 refine WL.qq (by simp only [EN, Nat.reduceEqDiff, reduceIte, qv_move, i14_2, strEq, hB1.cell, hB2.cell, hB9.cell, hB1.cell, hB2.cell, hB9.cell, k1_2, qv_len, ln23, AR, qv_binOp, binv_lss]; rfl) ?_
        refine WL.nil (th_norm ?_)
        refine hx_cond (by simp only [EN, Nat.reduceEqDiff, reduceIte, strEq, hB1.cell, hB2.cell, hB9.cell, hB1.cell, hB2.cell, hB9.cell]; rfl) (fun hct101 => ?_) (fun hct101 => ?_)
        ·
         try simp only [BD] at hct101
         obtain ⟨x, hx⟩ := atG (l := os) (i := j) (by omega)
         obtain ⟨b1, o1, ha1, hr1, hr2, hr3⟩ := si_rd (ho0.ext hX) hx
         have hst := goO_step hx; rw [hg] at hst
         refine hx_skip (th_norm (hx_seq (hx_block (hx_seq (hx_seq (hx_region ?_))))))
         iterate 3 refine WL.qq (by simp only [EN, Nat.reduceEqDiff, reduceIte, qv_move, k1_2, strEq, hB1.cell, hB2.cell, hB9.cell, hB1.cell, hB2.cell, hB9.cell, i14_2, qv_indexAddr, ha1]; (try simp (disch := omega) only [ix23, Int.toNat_natCast]); rfl) ?_
         refine WL.qq (by simp only [EN, Nat.reduceEqDiff, reduceIte, qv_fieldAddr, fa68_0, Nat.zero_add, Nat.reduceAdd, strEq, hB1.cell, hB2.cell, hB9.cell, hB1.cell, hB2.cell, hB9.cell]; rfl) ?_
         refine WL.qq (by simp only [EN, Nat.reduceEqDiff, reduceIte, k0_2, k1_2, k2_2, k7_2, k8_2, k13_2, i14_2, strEq, hB1.cell, hB2.cell, hB9.cell, hB1.cell, hB2.cell, hB9.cell, qv_load, ld9, Int.toNat_natCast, hr2]; rfl) ?_
         refine WL.ck Tryz.call61 (by simp only [EN, Nat.reduceEqDiff, reduceIte, AR, strEq, hB1.cell, hB2.cell, hB9.cell, hB1.cell, hB2.cell, hB9.cell]; exact c_code x.s (hb x (List.mem_of_getElem? hx)) _) ?_
         refine WL.qq (by simp only [EN, Nat.reduceEqDiff, reduceIte, qv_unOp, unv_not, strEq, hB1.cell, hB2.cell, hB9.cell, hB1.cell, hB2.cell, hB9.cell]; rfl) ?_
         refine WL.nil (th_norm ?_)
         refine hx_cond (by simp only [EN, Nat.reduceEqDiff, reduceIte, strEq, hB1.cell, hB2.cell, hB9.cell, hB1.cell, hB2.cell, hB9.cell]; rfl) (fun hct110 => ?_) (fun hct110 => ?_)
         ·
          try simp only [BD] at hct110
          refine hx_seq (hx_region ?_)
          refine WL.qq (by refine qv_bld (by simp only [EN, Nat.reduceEqDiff, reduceIte, AR, strEq, hB1.cell, hB2.cell, hB9.cell, hB1.cell, hB2.cell, hB9.cell] <;> rfl) (by rw [bl34]; simp [Instr.fill, Value.cells]; rfl)) ?_
          refine WL.store (by simp only [EN, Nat.reduceEqDiff, reduceIte, k8_2, strEq, hB1.cell, hB2.cell, hB9.cell, hB1.cell, hB2.cell, hB9.cell] <;> rfl) sz34 (by simp only [EN, Nat.reduceEqDiff, reduceIte, Value.cells, k8_2, strEq, hB1.cell, hB2.cell, hB9.cell, hB1.cell, hB2.cell, hB9.cell] <;> rfl) rfl hB2 (by first | (simp [true_and]; done) | (simp [true_and]; omega) | omega) (by simp [Value.oneCell']) ?_
          intro h12 hw12
          have hXe := hw12.ext hX hb2
          replace hB2 := hw12.at_
          try simp only [splc, List.take_succ_cons, List.take_zero, List.take_nil, List.drop_succ_cons, List.drop_zero, List.drop_nil, List.cons_append, List.nil_append, List.length_cons, List.length_nil, Nat.zero_add, Nat.add_zero, Nat.reduceAdd, List.append_nil] at hB2
          refine WL.qq (by simp only [EN, Nat.reduceEqDiff, reduceIte, qv_assign, strEq, hB1.cell, hB2.cell, hB9.cell, hB1.cell, hB2.cell, hB9.cell]; rfl) ?_
          refine WL.nil (th_norm (hx_ret (th_ret (bl_ret (th_ret (th_ret (bl_ret (th_ret ?_))))))))
          refine fin_ret [.cell 8 34, .tmp 9] rfl rfl (by simp only [EN, Nat.reduceEqDiff, reduceIte, resv, ld34, readN, AR, Nat.zero_add, Nat.reduceAdd, k0_2, k1_2, k2_2, k7_2, k8_2, k13_2, i14_2, strEq, hB1.cell, hB2.cell, hB9.cell, hB1.cell, hB2.cell, hB9.cell]; rfl) ?_
          have hz : ckO (os.take j) x = 3 := (by unfold ckO; rw [if_pos (Classical.not_not.1 (of_decide_eq_false hct110))])
          have hz2 : erO os = 3 := (by rw [her2, hst, hz]; rfl)
          have he : erN l os s d m = 3 := (by rw [heN, hz2]; rfl)
          exact ⟨hXe, _, by rw [he]; rfl, .inl ⟨by rw [he]; decide, rfl⟩⟩
         ·
          try simp only [BD] at hct110
          have c1 : ¬ (x.s = em ∨ 16 < x.s.size ∨ ltS x.s = false) := of_decide_eq_true hct110
          refine hx_skip (th_norm (hx_seq (hx_seq (hx_region ?_))))
          refine WL.qq (by simp only [EN, Nat.reduceEqDiff, reduceIte, qv_assign, strEq, hB1.cell, hB2.cell, hB9.cell, hB1.cell, hB2.cell, hB9.cell]; rfl) ?_
          refine WL.nil (th_norm (hx_block ?_))
          refine hx_loopS [9, 15, 112, 113, 114, 115, 116, 117, 118, 119, 120, 121, 122, 123, 124, 125, 126, 127, 128] (fun k e => ∃ (j2 : Nat), j - j2 = k ∧ (j2 ≤ j) ∧ ((∀ y ∈ os.take j2, y.s ≠ x.s)) ∧ e 15 = .int .i64 j2) _ ⟨0, rfl, ?_, ?_, ?_⟩ ?_
          · omega
          · intro y hy; simp at hy
          · simp only [EN, Nat.reduceEqDiff, reduceIte, k0_2, k1_2, k2_2, k7_2, k8_2, k13_2, i14_2, strEq, hB1.cell, hB2.cell, hB9.cell, hB1.cell, hB2.cell, hB9.cell] <;> rfl
          ·
           rintro k e3L hfr3 ⟨j2, rfl, hj2, hno, i15_3⟩
           have k0_3 := hfr3 0 rfl; try simp only [EN, Nat.reduceEqDiff, reduceIte, k0_2, strEq, hB1.cell, hB2.cell, hB9.cell, hB1.cell, hB2.cell, hB9.cell] at k0_3
           have k1_3 := hfr3 1 rfl; try simp only [EN, Nat.reduceEqDiff, reduceIte, k1_2, strEq, hB1.cell, hB2.cell, hB9.cell, hB1.cell, hB2.cell, hB9.cell] at k1_3
           have k2_3 := hfr3 2 rfl; try simp only [EN, Nat.reduceEqDiff, reduceIte, k2_2, strEq, hB1.cell, hB2.cell, hB9.cell, hB1.cell, hB2.cell, hB9.cell] at k2_3
           have k7_3 := hfr3 7 rfl; try simp only [EN, Nat.reduceEqDiff, reduceIte, k7_2, strEq, hB1.cell, hB2.cell, hB9.cell, hB1.cell, hB2.cell, hB9.cell] at k7_3
           have k8_3 := hfr3 8 rfl; try simp only [EN, Nat.reduceEqDiff, reduceIte, k8_2, strEq, hB1.cell, hB2.cell, hB9.cell, hB1.cell, hB2.cell, hB9.cell] at k8_3
           have k13_3 := hfr3 13 rfl; try simp only [EN, Nat.reduceEqDiff, reduceIte, k13_2, strEq, hB1.cell, hB2.cell, hB9.cell, hB1.cell, hB2.cell, hB9.cell] at k13_3
           have k14_3 := hfr3 14 rfl; try simp only [EN, Nat.reduceEqDiff, reduceIte, i14_2, strEq, hB1.cell, hB2.cell, hB9.cell, hB1.cell, hB2.cell, hB9.cell] at k14_3
           refine hx_seq (hx_seq (hx_region ?_))
           iterate 3 refine WL.qq (by simp only [EN, Nat.reduceEqDiff, reduceIte, qv_move, i15_3, strEq, hB1.cell, hB2.cell, hB9.cell, hB1.cell, hB2.cell, hB9.cell, k14_3, qv_binOp, binv_lss]; rfl) ?_
           refine WL.nil (th_norm ?_)
           refine hx_cond (by simp only [EN, Nat.reduceEqDiff, reduceIte, strEq, hB1.cell, hB2.cell, hB9.cell, hB1.cell, hB2.cell, hB9.cell]; rfl) (fun hct114 => ?_) (fun hct114 => ?_)
           ·
            try simp only [BD] at hct114
            obtain ⟨y, hy⟩ := atG (l := os) (i := j2) (by omega)
            obtain ⟨b2, o2, ha2, _, hr22, _⟩ := si_rd (ho0.ext hX) hy
            refine hx_skip (th_norm (hx_seq (hx_block (hx_seq ?_))))
            apply hx_draw2 Rel.same [] [] [] rfl (by decide +kernel) rfl
            iterate 3 refine LD.qq rfl rfl (by simp only [EN, Nat.reduceEqDiff, reduceIte, qv_move, k1_3, strEq, hB1.cell, hB2.cell, hB9.cell, hB1.cell, hB2.cell, hB9.cell, i15_3, qv_indexAddr, ha2]; (try simp (disch := omega) only [ix23, Int.toNat_natCast]); rfl) ?_
            refine LD.qq rfl rfl (by simp only [EN, Nat.reduceEqDiff, reduceIte, qv_fieldAddr, fa68_0, Nat.zero_add, Nat.reduceAdd, strEq, hB1.cell, hB2.cell, hB9.cell, hB1.cell, hB2.cell, hB9.cell]; rfl) ?_
            refine LD.qq rfl rfl (by simp only [EN, Nat.reduceEqDiff, reduceIte, k0_3, k1_3, k2_3, k7_3, k8_3, k13_3, k14_3, i15_3, strEq, hB1.cell, hB2.cell, hB9.cell, hB1.cell, hB2.cell, hB9.cell, qv_load, ld9, Int.toNat_natCast, hr22]; rfl) ?_
            iterate 3 refine LD.qq rfl rfl (by simp only [EN, Nat.reduceEqDiff, reduceIte, qv_move, k1_3, strEq, hB1.cell, hB2.cell, hB9.cell, hB1.cell, hB2.cell, hB9.cell, k14_3, qv_indexAddr, ha1]; (try simp (disch := omega) only [ix23, Int.toNat_natCast]); rfl) ?_
            refine LD.qq rfl rfl (by simp only [EN, Nat.reduceEqDiff, reduceIte, qv_fieldAddr, fa68_0, Nat.zero_add, Nat.reduceAdd, strEq, hB1.cell, hB2.cell, hB9.cell, hB1.cell, hB2.cell, hB9.cell]; rfl) ?_
            refine LD.qq rfl rfl (by simp only [EN, Nat.reduceEqDiff, reduceIte, k0_3, k1_3, k2_3, k7_3, k8_3, k13_3, k14_3, i15_3, strEq, hB1.cell, hB2.cell, hB9.cell, hB1.cell, hB2.cell, hB9.cell, qv_load, ld9, Int.toNat_natCast, hr2]; rfl) ?_
            refine LD.qq rfl rfl (by simp only [EN, Nat.reduceEqDiff, reduceIte, qv_binOp, binv_eql, eq9, Option.map_some, strEq, hB1.cell, hB2.cell, hB9.cell, hB1.cell, hB2.cell, hB9.cell]; rfl) ?_
            refine LD.nil ?_
            rintro hL2 rfl -
            refine WL.nil (th_norm ?_)
            refine hx_cond (by simp only [EN, Nat.reduceEqDiff, reduceIte, strEq, hB1.cell, hB2.cell, hB9.cell, hB1.cell, hB2.cell, hB9.cell]; rfl) (fun hct127 => ?_) (fun hct127 => ?_)
            ·
             try simp only [BD] at hct127
             refine hx_seq (hx_region ?_)
             refine WL.qq (by refine qv_bld (by simp only [EN, Nat.reduceEqDiff, reduceIte, AR, strEq, hB1.cell, hB2.cell, hB9.cell, hB1.cell, hB2.cell, hB9.cell] <;> rfl) (by rw [bl34]; simp [Instr.fill, Value.cells]; rfl)) ?_
             refine WL.store (by simp only [EN, Nat.reduceEqDiff, reduceIte, k8_3, strEq, hB1.cell, hB2.cell, hB9.cell, hB1.cell, hB2.cell, hB9.cell] <;> rfl) sz34 (by simp only [EN, Nat.reduceEqDiff, reduceIte, Value.cells, k8_3, strEq, hB1.cell, hB2.cell, hB9.cell, hB1.cell, hB2.cell, hB9.cell] <;> rfl) rfl hB2 (by first | (simp [true_and]; done) | (simp [true_and]; omega) | omega) (by simp [Value.oneCell']) ?_
             intro h13 hw13
             have hXe := hw13.ext hX hb2
             replace hB2 := hw13.at_
             try simp only [splc, List.take_succ_cons, List.take_zero, List.take_nil, List.drop_succ_cons, List.drop_zero, List.drop_nil, List.cons_append, List.nil_append, List.length_cons, List.length_nil, Nat.zero_add, Nat.add_zero, Nat.reduceAdd, List.append_nil] at hB2
             refine WL.qq (by simp only [EN, Nat.reduceEqDiff, reduceIte, qv_assign, strEq, hB1.cell, hB2.cell, hB9.cell, hB1.cell, hB2.cell, hB9.cell]; rfl) ?_
             refine WL.nil (th_norm (hx_ret (bl_ret (th_ret (th_ret (bl_ret (th_ret (bl_ret (th_ret (th_ret (bl_ret (th_ret ?_))))))))))))
             refine fin_ret [.cell 8 34, .tmp 9] rfl rfl (by simp only [EN, Nat.reduceEqDiff, reduceIte, resv, ld34, readN, AR, Nat.zero_add, Nat.reduceAdd, k0_3, k1_3, k2_3, k7_3, k8_3, k13_3, k14_3, i15_3, strEq, hB1.cell, hB2.cell, hB9.cell, hB1.cell, hB2.cell, hB9.cell]; rfl) ?_
             have hz : ckO (os.take j) x = 7 := (by unfold ckO; rw [if_neg c1, if_pos (by rcases idxS_cases x.s (os.take j) with ⟨_, h8⟩ | ⟨i8, _, h8, _⟩; exact absurd (by simpa using hct127) (h8 y (List.mem_of_getElem? (i := j2) (by rw [List.getElem?_take, if_pos (by omega)]; exact hy))); omega)])
             have hz2 : erO os = 7 := (by rw [her2, hst, hz]; rfl)
             have he : erN l os s d m = 7 := (by rw [heN, hz2]; rfl)
             exact ⟨hXe, _, by rw [he]; rfl, .inl ⟨by rw [he]; decide, rfl⟩⟩
            ·
             try simp only [BD] at hct127
             refine hx_skip (bl_norm (th_norm (hx_region ?_)))
             iterate 3 refine WL.qq (by simp only [EN, Nat.reduceEqDiff, reduceIte, qv_move, i15_3, strEq, hB1.cell, hB2.cell, hB9.cell, hB1.cell, hB2.cell, hB9.cell, qv_binOp, binv_add, qv_assign]; (try simp (disch := omega) only [w64, w8, wu64]); rfl) ?_
             refine WL.nil (th_norm ?_)
             refine ⟨rfl, rfl, ?_, _, ?_, j2 + 1, rfl, ?_, ?_, ?_⟩
             · (repeat (first | exact Fr.refl _ _ | refine Fr.set rfl ?_ | refine Fr.put rfl ?_ | with_reducible refine Fr.put0 ?_))
             · omega
             · omega
             · exact all_take hno hy (by simpa using hct127)
             · simp only [EN, Nat.reduceEqDiff, reduceIte, k0_3, k1_3, k2_3, k7_3, k8_3, k13_3, k14_3, i15_3, strEq, hB1.cell, hB2.cell, hB9.cell, hB1.cell, hB2.cell, hB9.cell] <;> first | rfl | (congr 1; omega)
           ·
            try simp only [BD] at hct114
            obtain rfl : j2 = j := (by omega)
            have c2 : ¬ 0 ≤ idxS x.s (os.take j2) := (by rw [idxS_no hno]; decide)
            refine hx_exit (th_exit (th_exit (bl_hit (th_norm (hx_seq (hx_seq (hx_region ?_)))))))
            iterate 3 refine WL.qq (by simp only [EN, Nat.reduceEqDiff, reduceIte, qv_move, k1_3, strEq, hB1.cell, hB2.cell, hB9.cell, hB1.cell, hB2.cell, hB9.cell, k14_3, qv_indexAddr, ha1]; (try simp (disch := omega) only [ix23, Int.toNat_natCast]); rfl) ?_
            refine WL.qq (by simp only [EN, Nat.reduceEqDiff, reduceIte, qv_fieldAddr, fa68_1, Nat.zero_add, Nat.reduceAdd, strEq, hB1.cell, hB2.cell, hB9.cell, hB1.cell, hB2.cell, hB9.cell]; rfl) ?_
            refine WL.qq (by simp only [EN, Nat.reduceEqDiff, reduceIte, k0_3, k1_3, k2_3, k7_3, k8_3, k13_3, k14_3, i15_3, strEq, hB1.cell, hB2.cell, hB9.cell, hB1.cell, hB2.cell, hB9.cell, qv_load, ld2, Int.toNat_natCast, hr3]; rfl) ?_
            iterate 2 refine WL.qq (by simp only [EN, Nat.reduceEqDiff, reduceIte, qv_binOp, binv_lss, strEq, hB1.cell, hB2.cell, hB9.cell, hB1.cell, hB2.cell, hB9.cell, qv_move]; rfl) ?_
            refine WL.cq (gd_at (t := 135) rfl (by simp only [EN, Nat.reduceEqDiff, reduceIte, k1_3, strEq, hB1.cell, hB2.cell, hB9.cell, hB1.cell, hB2.cell, hB9.cell] <;> rfl)) (fun hg32_7 => by simp only [EN, Nat.reduceEqDiff, reduceIte, qv_move, k1_3, strEq, hB1.cell, hB2.cell, hB9.cell, hB1.cell, hB2.cell, hB9.cell, hg32_7, GR]; rfl) ?_
            refine WL.cq (gd_at (t := 135) rfl (by simp only [EN, Nat.reduceEqDiff, reduceIte, k14_3, strEq, hB1.cell, hB2.cell, hB9.cell, hB1.cell, hB2.cell, hB9.cell] <;> rfl)) (fun hg32_8 => by simp only [EN, Nat.reduceEqDiff, reduceIte, qv_move, k14_3, strEq, hB1.cell, hB2.cell, hB9.cell, hB1.cell, hB2.cell, hB9.cell, hg32_8, GR]; rfl) ?_
            refine WL.cq (gd_at (t := 135) rfl (by simp only [EN, Nat.reduceEqDiff, reduceIte, strEq, hB1.cell, hB2.cell, hB9.cell, hB1.cell, hB2.cell, hB9.cell] <;> rfl)) (fun hg32_9 => by have hq0 := hg32_9; (try simp only [BD] at hq0); simp only [EN, Nat.reduceEqDiff, reduceIte, qv_indexAddr, strEq, hB1.cell, hB2.cell, hB9.cell, hB1.cell, hB2.cell, hB9.cell, ha1, hg32_9, GR]; (try simp (disch := omega) only [ix23, Int.toNat_natCast]); rfl) ?_
            refine WL.cq (gd_at (t := 135) rfl (by simp only [EN, Nat.reduceEqDiff, reduceIte, strEq, hB1.cell, hB2.cell, hB9.cell, hB1.cell, hB2.cell, hB9.cell] <;> rfl)) (fun hg32_10 => by simp only [EN, Nat.reduceEqDiff, reduceIte, qv_fieldAddr, fa68_1, Nat.zero_add, Nat.reduceAdd, strEq, hB1.cell, hB2.cell, hB9.cell, hB1.cell, hB2.cell, hB9.cell, hg32_10, GR]; rfl) ?_
            refine WL.cq (gd_at (t := 135) rfl (by simp only [EN, Nat.reduceEqDiff, reduceIte, strEq, hB1.cell, hB2.cell, hB9.cell, hB1.cell, hB2.cell, hB9.cell] <;> rfl)) (fun hg32_11 => by simp only [EN, Nat.reduceEqDiff, reduceIte, k0_3, k1_3, k2_3, k7_3, k8_3, k13_3, k14_3, i15_3, strEq, hB1.cell, hB2.cell, hB9.cell, hB1.cell, hB2.cell, hB9.cell, GR, hg32_11, qv_load, ld2, Int.toNat_natCast, hr3]; rfl) ?_
            refine WL.cq (gd_at (t := 135) rfl (by simp only [EN, Nat.reduceEqDiff, reduceIte, strEq, hB1.cell, hB2.cell, hB9.cell, hB1.cell, hB2.cell, hB9.cell] <;> rfl)) (fun hg32_12 => by simp only [EN, Nat.reduceEqDiff, reduceIte, qv_binOp, binv_gtr, strEq, hB1.cell, hB2.cell, hB9.cell, hB1.cell, hB2.cell, hB9.cell, hg32_12, GR]; rfl) ?_
            refine WL.qq (by simp only [EN, Nat.reduceEqDiff, reduceIte, qv_pick, pk_and, pk_or, GR, strEq, hB1.cell, hB2.cell, hB9.cell, hB1.cell, hB2.cell, hB9.cell]; rfl) ?_
            refine WL.nil (th_norm ?_)
            refine hx_cond (by simp only [EN, Nat.reduceEqDiff, reduceIte, strEq, hB1.cell, hB2.cell, hB9.cell, hB1.cell, hB2.cell, hB9.cell]; rfl) (fun hct142 => ?_) (fun hct142 => ?_)
            ·
             try simp only [BD] at hct142
             refine hx_seq (hx_region ?_)
             refine WL.qq (by refine qv_bld (by simp only [EN, Nat.reduceEqDiff, reduceIte, AR, strEq, hB1.cell, hB2.cell, hB9.cell, hB1.cell, hB2.cell, hB9.cell] <;> rfl) (by rw [bl34]; simp [Instr.fill, Value.cells]; rfl)) ?_
             refine WL.store (by simp only [EN, Nat.reduceEqDiff, reduceIte, k8_3, strEq, hB1.cell, hB2.cell, hB9.cell, hB1.cell, hB2.cell, hB9.cell] <;> rfl) sz34 (by simp only [EN, Nat.reduceEqDiff, reduceIte, Value.cells, k8_3, strEq, hB1.cell, hB2.cell, hB9.cell, hB1.cell, hB2.cell, hB9.cell] <;> rfl) rfl hB2 (by first | (simp [true_and]; done) | (simp [true_and]; omega) | omega) (by simp [Value.oneCell']) ?_
             intro h14 hw14
             have hXe := hw14.ext hX hb2
             replace hB2 := hw14.at_
             try simp only [splc, List.take_succ_cons, List.take_zero, List.take_nil, List.drop_succ_cons, List.drop_zero, List.drop_nil, List.cons_append, List.nil_append, List.length_cons, List.length_nil, Nat.zero_add, Nat.add_zero, Nat.reduceAdd, List.append_nil] at hB2
             refine WL.qq (by simp only [EN, Nat.reduceEqDiff, reduceIte, qv_assign, strEq, hB1.cell, hB2.cell, hB9.cell, hB1.cell, hB2.cell, hB9.cell]; rfl) ?_
             refine WL.nil (th_norm (hx_ret (th_ret (bl_ret (th_ret (th_ret (bl_ret (th_ret ?_))))))))
             refine fin_ret [.cell 8 34, .tmp 9] rfl rfl (by simp only [EN, Nat.reduceEqDiff, reduceIte, resv, ld34, readN, AR, Nat.zero_add, Nat.reduceAdd, k0_3, k1_3, k2_3, k7_3, k8_3, k13_3, k14_3, i15_3, strEq, hB1.cell, hB2.cell, hB9.cell, hB1.cell, hB2.cell, hB9.cell]; rfl) ?_
             have hz : ckO (os.take j2) x = 2 := (by unfold ckO; rw [if_neg c1, if_neg c2, if_pos (by omega)])
             have hz2 : erO os = 2 := (by rw [her2, hst, hz]; rfl)
             have he : erN l os s d m = 2 := (by rw [heN, hz2]; rfl)
             exact ⟨hXe, _, by rw [he]; rfl, .inl ⟨by rw [he]; decide, rfl⟩⟩
            ·
             try simp only [BD] at hct142
             have hz : ckO (os.take j2) x = 0 := (by unfold ckO; rw [if_neg c1, if_neg c2, if_neg (by omega)]); rw [if_pos hz] at hst
             refine hx_skip (th_norm (hx_seq (hx_region ?_)))
             iterate 3 refine WL.qq (by simp only [EN, Nat.reduceEqDiff, reduceIte, qv_move, k1_3, strEq, hB1.cell, hB2.cell, hB9.cell, hB1.cell, hB2.cell, hB9.cell, k14_3, qv_indexAddr, ha1]; (try simp (disch := omega) only [ix23, Int.toNat_natCast]); rfl) ?_
             refine WL.qq (by simp only [EN, Nat.reduceEqDiff, reduceIte, qv_fieldAddr, fa68_0, Nat.zero_add, Nat.reduceAdd, strEq, hB1.cell, hB2.cell, hB9.cell, hB1.cell, hB2.cell, hB9.cell]; rfl) ?_
             refine WL.qq (by simp only [EN, Nat.reduceEqDiff, reduceIte, k0_3, k1_3, k2_3, k7_3, k8_3, k13_3, k14_3, i15_3, strEq, hB1.cell, hB2.cell, hB9.cell, hB1.cell, hB2.cell, hB9.cell, qv_load, ld9, Int.toNat_natCast, hr2]; rfl) ?_
             iterate 2 refine WL.qq (by simp only [EN, Nat.reduceEqDiff, reduceIte, qv_move, k2_3, strEq, hB1.cell, hB2.cell, hB9.cell, hB1.cell, hB2.cell, hB9.cell, qv_binOp, binv_eql, eq9, Option.map_some]; rfl) ?_
             refine WL.nil (th_norm ?_)
             refine hx_cond (by simp only [EN, Nat.reduceEqDiff, reduceIte, strEq, hB1.cell, hB2.cell, hB9.cell, hB1.cell, hB2.cell, hB9.cell]; rfl) (fun hct150 => ?_) (fun hct150 => ?_)
             ·
              try simp only [BD] at hct150
              have hq := idxS_hit2 (s := s) hno hx (by simpa using hct150)
              refine hx_region ?_
              iterate 2 refine WL.qq (by simp only [EN, Nat.reduceEqDiff, reduceIte, qv_move, k14_3, strEq, hB1.cell, hB2.cell, hB9.cell, hB1.cell, hB2.cell, hB9.cell, qv_fieldAddr, fa34_2, Nat.zero_add, Nat.reduceAdd, k13_3]; rfl) ?_
              refine WL.store (by simp only [EN, Nat.reduceEqDiff, reduceIte, strEq, hB1.cell, hB2.cell, hB9.cell, hB1.cell, hB2.cell, hB9.cell] <;> rfl) sz3 (by simp only [EN, Nat.reduceEqDiff, reduceIte, Value.cells, strEq, hB1.cell, hB2.cell, hB9.cell, hB1.cell, hB2.cell, hB9.cell] <;> rfl) rfl hB9 (by first | (simp [true_and]; done) | (simp [true_and]; omega) | omega) (by simp [Value.oneCell']) ?_
              intro h15 hw15
              replace hX := hw15.ext hX hb9
              replace hB1 := hB1.wr hw15 hn19
              replace hB2 := hB2.wr hw15 hn29
              replace hso := hso.wr hw15 hB9 (by decide)
              replace hB9 := hw15.at_
              try simp only [splc, List.take_succ_cons, List.take_zero, List.take_nil, List.drop_succ_cons, List.drop_zero, List.drop_nil, List.cons_append, List.nil_append, List.length_cons, List.length_nil, Nat.zero_add, Nat.add_zero, Nat.reduceAdd, List.append_nil] at hB9
              refine WL.nil (bl_norm (th_norm (hx_region ?_)))
              iterate 3 refine WL.qq (by simp only [EN, Nat.reduceEqDiff, reduceIte, qv_move, k14_3, strEq, hB1.cell, hB2.cell, hB9.cell, hB1.cell, hB2.cell, hB9.cell, qv_binOp, binv_add, qv_assign]; (try simp (disch := omega) only [w64, w8, wu64]); rfl) ?_
              refine WL.nil (th_norm ?_)
              refine ⟨rfl, ?_, _, ?_, j2 + 1, rfl, ?_, ?_, ?_, ?_, ?_, ?_, ?_, ?_⟩
              · (repeat (first | exact Fr.refl _ _ | refine Fr.set rfl ?_ | refine Fr.put rfl ?_ | with_reducible refine Fr.put0 ?_ | refine Fr.trans ?_ (Fr.of hfr3 rfl)))
              · omega
              · omega
              · exact hX
              · exact hB1
              · exact hB2
              · rw [hq]; exact hB9
              · exact hso
              · exact hst.symm
              · simp only [EN, Nat.reduceEqDiff, reduceIte, k0_3, k1_3, k2_3, k7_3, k8_3, k13_3, k14_3, i15_3, strEq, hB1.cell, hB2.cell, hB9.cell, hB1.cell, hB2.cell, hB9.cell] <;> first | rfl | (congr 1; omega)
             ·
              try simp only [BD] at hct150
              have hq := idxS_miss (s := s) hx (by simpa using hct150)
              refine hx_skip (bl_norm (th_norm (hx_region ?_)))
              iterate 3 refine WL.qq (by simp only [EN, Nat.reduceEqDiff, reduceIte, qv_move, k14_3, strEq, hB1.cell, hB2.cell, hB9.cell, hB1.cell, hB2.cell, hB9.cell, qv_binOp, binv_add, qv_assign]; (try simp (disch := omega) only [w64, w8, wu64]); rfl) ?_
              refine WL.nil (th_norm ?_)
              refine ⟨rfl, ?_, _, ?_, j2 + 1, rfl, ?_, ?_, ?_, ?_, ?_, ?_, ?_, ?_⟩
              · (repeat (first | exact Fr.refl _ _ | refine Fr.set rfl ?_ | refine Fr.put rfl ?_ | with_reducible refine Fr.put0 ?_ | refine Fr.trans ?_ (Fr.of hfr3 rfl)))
              · omega
              · omega
              · exact hX
              · exact hB1
              · exact hB2
              · rw [hq]; exact hB9
              · exact hso
              · exact hst.symm
              · simp only [EN, Nat.reduceEqDiff, reduceIte, k0_3, k1_3, k2_3, k7_3, k8_3, k13_3, k14_3, i15_3, strEq, hB1.cell, hB2.cell, hB9.cell, hB1.cell, hB2.cell, hB9.cell] <;> first | rfl | (congr 1; omega)
        ·
         try simp only [BD] at hct101
         obtain rfl : j = os.length := (by omega)
         rw [List.drop_length, List.take_length] at hg; rw [List.take_length] at hB9; have hO : erO os = 0 := (by rw [her2, ← hg]; rfl); have oo := erO_0 hO
         replace heN : erN l os s d m = if idxS s os < 0 then 9 else if capE os (idxS s os) ≠ 0 then 11 else if clkE d m ≠ 0 then 28 else 0 := (by rw [heN, hO]; rfl)
         refine hx_exit (th_exit (th_exit (bl_hit (th_norm (hx_seq (hx_seq (hx_region ?_)))))))
         iterate 3 refine WL.qq (by simp only [EN, Nat.reduceEqDiff, reduceIte, qv_fieldAddr, fa34_2, Nat.zero_add, Nat.reduceAdd, k13_2, strEq, hB1.cell, hB2.cell, hB9.cell, hB1.cell, hB2.cell, hB9.cell, qv_load, ld3, readN, AR, qv_binOp, binv_lss]; rfl) ?_
         refine WL.nil (th_norm ?_)
         refine hx_cond (by simp only [EN, Nat.reduceEqDiff, reduceIte, strEq, hB1.cell, hB2.cell, hB9.cell, hB1.cell, hB2.cell, hB9.cell]; rfl) (fun hct155 => ?_) (fun hct155 => ?_)
         ·
          try simp only [BD] at hct155
          refine hx_seq (hx_region ?_)
          refine WL.qq (by refine qv_bld (by simp only [EN, Nat.reduceEqDiff, reduceIte, AR, strEq, hB1.cell, hB2.cell, hB9.cell, hB1.cell, hB2.cell, hB9.cell] <;> rfl) (by rw [bl34]; simp [Instr.fill, Value.cells]; rfl)) ?_
          refine WL.store (by simp only [EN, Nat.reduceEqDiff, reduceIte, k8_2, strEq, hB1.cell, hB2.cell, hB9.cell, hB1.cell, hB2.cell, hB9.cell] <;> rfl) sz34 (by simp only [EN, Nat.reduceEqDiff, reduceIte, Value.cells, k8_2, strEq, hB1.cell, hB2.cell, hB9.cell, hB1.cell, hB2.cell, hB9.cell] <;> rfl) rfl hB2 (by first | (simp [true_and]; done) | (simp [true_and]; omega) | omega) (by simp [Value.oneCell']) ?_
          intro h16 hw16
          have hXe := hw16.ext hX hb2
          replace hB2 := hw16.at_
          try simp only [splc, List.take_succ_cons, List.take_zero, List.take_nil, List.drop_succ_cons, List.drop_zero, List.drop_nil, List.cons_append, List.nil_append, List.length_cons, List.length_nil, Nat.zero_add, Nat.add_zero, Nat.reduceAdd, List.append_nil] at hB2
          refine WL.qq (by simp only [EN, Nat.reduceEqDiff, reduceIte, qv_assign, strEq, hB1.cell, hB2.cell, hB9.cell, hB1.cell, hB2.cell, hB9.cell]; rfl) ?_
          refine WL.nil (th_norm (hx_ret (th_ret ?_)))
          refine fin_ret [.cell 8 34, .tmp 9] rfl rfl (by simp only [EN, Nat.reduceEqDiff, reduceIte, resv, ld34, readN, AR, Nat.zero_add, Nat.reduceAdd, k0_2, k1_2, k2_2, k7_2, k8_2, k13_2, i14_2, strEq, hB1.cell, hB2.cell, hB9.cell, hB1.cell, hB2.cell, hB9.cell]; rfl) ?_
          have he : erN l os s d m = 9 := (by rw [heN, if_pos (by omega)])
          exact ⟨hXe, _, by rw [he]; rfl, .inl ⟨by rw [he]; decide, rfl⟩⟩
         ·
          try simp only [BD] at hct155
          obtain ⟨i9, x9, h91, hx9, _⟩ : ∃ i x, idxS s os = (i : Nat) ∧ os[i]? = some x ∧ x.s = s ∧ ∀ y ∈ os.take i, y.s ≠ s := (idxS_cases s os).resolve_left (fun hh => by omega)
          rw [h91] at hB9; have hi9 := (List.getElem?_eq_some_iff.1 hx9).1; have hq9 := oo.q x9 (List.mem_of_getElem? hx9)
          obtain ⟨b1, o1, ha1, _, _, hr3⟩ := si_rd (ho0.ext hX) hx9; have hcap : capE os (idxS s os) = x9.n := (by unfold capE; rw [h91, Int.toNat_natCast, hx9]; rfl)
          rw [if_neg (by omega), hcap] at heN
          refine hx_skip (th_norm (hx_seq (hx_seq (hx_region ?_))))
          iterate 3 refine WL.qq (by simp only [EN, Nat.reduceEqDiff, reduceIte, qv_move, k1_2, strEq, hB1.cell, hB2.cell, hB9.cell, hB1.cell, hB2.cell, hB9.cell, qv_fieldAddr, fa34_2, Nat.zero_add, Nat.reduceAdd, k13_2, qv_load, ld3, readN, AR]; rfl) ?_
          refine WL.qq (by simp only [EN, Nat.reduceEqDiff, reduceIte, qv_indexAddr, strEq, hB1.cell, hB2.cell, hB9.cell, hB1.cell, hB2.cell, hB9.cell, ha1]; (try simp (disch := omega) only [ix23, Int.toNat_natCast]); rfl) ?_
          refine WL.qq (by simp only [EN, Nat.reduceEqDiff, reduceIte, qv_fieldAddr, fa68_1, Nat.zero_add, Nat.reduceAdd, strEq, hB1.cell, hB2.cell, hB9.cell, hB1.cell, hB2.cell, hB9.cell]; rfl) ?_
          refine WL.qq (by simp only [EN, Nat.reduceEqDiff, reduceIte, k0_2, k1_2, k2_2, k7_2, k8_2, k13_2, i14_2, strEq, hB1.cell, hB2.cell, hB9.cell, hB1.cell, hB2.cell, hB9.cell, qv_load, ld2, Int.toNat_natCast, hr3]; rfl) ?_
          refine WL.qq (by simp only [EN, Nat.reduceEqDiff, reduceIte, qv_binOp, binv_gtr, strEq, hB1.cell, hB2.cell, hB9.cell, hB1.cell, hB2.cell, hB9.cell]; rfl) ?_
          refine WL.nil (th_norm ?_)
          refine hx_cond (by simp only [EN, Nat.reduceEqDiff, reduceIte, strEq, hB1.cell, hB2.cell, hB9.cell, hB1.cell, hB2.cell, hB9.cell]; rfl) (fun hct163 => ?_) (fun hct163 => ?_)
          ·
           try simp only [BD] at hct163
           refine hx_seq (hx_region ?_)
           refine WL.qq (by refine qv_bld (by simp only [EN, Nat.reduceEqDiff, reduceIte, AR, strEq, hB1.cell, hB2.cell, hB9.cell, hB1.cell, hB2.cell, hB9.cell] <;> rfl) (by rw [bl34]; simp [Instr.fill, Value.cells]; rfl)) ?_
           refine WL.store (by simp only [EN, Nat.reduceEqDiff, reduceIte, k8_2, strEq, hB1.cell, hB2.cell, hB9.cell, hB1.cell, hB2.cell, hB9.cell] <;> rfl) sz34 (by simp only [EN, Nat.reduceEqDiff, reduceIte, Value.cells, k8_2, strEq, hB1.cell, hB2.cell, hB9.cell, hB1.cell, hB2.cell, hB9.cell] <;> rfl) rfl hB2 (by first | (simp [true_and]; done) | (simp [true_and]; omega) | omega) (by simp [Value.oneCell']) ?_
           intro h17 hw17
           have hXe := hw17.ext hX hb2
           replace hB2 := hw17.at_
           try simp only [splc, List.take_succ_cons, List.take_zero, List.take_nil, List.drop_succ_cons, List.drop_zero, List.drop_nil, List.cons_append, List.nil_append, List.length_cons, List.length_nil, Nat.zero_add, Nat.add_zero, Nat.reduceAdd, List.append_nil] at hB2
           refine WL.qq (by simp only [EN, Nat.reduceEqDiff, reduceIte, qv_assign, strEq, hB1.cell, hB2.cell, hB9.cell, hB1.cell, hB2.cell, hB9.cell]; rfl) ?_
           refine WL.nil (th_norm (hx_ret (th_ret ?_)))
           refine fin_ret [.cell 8 34, .tmp 9] rfl rfl (by simp only [EN, Nat.reduceEqDiff, reduceIte, resv, ld34, readN, AR, Nat.zero_add, Nat.reduceAdd, k0_2, k1_2, k2_2, k7_2, k8_2, k13_2, i14_2, strEq, hB1.cell, hB2.cell, hB9.cell, hB1.cell, hB2.cell, hB9.cell]; rfl) ?_
           have he : erN l os s d m = 11 := (by rw [heN, if_pos (by omega)])
           exact ⟨hXe, _, by rw [he]; rfl, .inl ⟨by rw [he]; decide, rfl⟩⟩
          ·
           try simp only [BD] at hct163
           rw [if_neg (by omega)] at heN
           refine hx_skip (th_norm (hx_seq (hx_seq (hx_region ?_))))
           iterate 4 refine WL.qq (by simp only [EN, Nat.reduceEqDiff, reduceIte, qv_fieldAddr, fa25_0, Nat.zero_add, Nat.reduceAdd, k7_2, strEq, hB1.cell, hB2.cell, hB9.cell, hB1.cell, hB2.cell, hB9.cell, qv_load, ld3, readN, AR, qv_binOp, binv_lss, qv_move]; rfl) ?_
           refine WL.cq (gd_at (t := 168) rfl (by simp only [EN, Nat.reduceEqDiff, reduceIte, k7_2, strEq, hB1.cell, hB2.cell, hB9.cell, hB1.cell, hB2.cell, hB9.cell] <;> rfl)) (fun hg40_4 => by simp only [EN, Nat.reduceEqDiff, reduceIte, qv_fieldAddr, fa25_0, Nat.zero_add, Nat.reduceAdd, k7_2, strEq, hB1.cell, hB2.cell, hB9.cell, hB1.cell, hB2.cell, hB9.cell, hg40_4, GR]; rfl) ?_
           refine WL.cq (gd_at (t := 168) rfl (by simp only [EN, Nat.reduceEqDiff, reduceIte, strEq, hB1.cell, hB2.cell, hB9.cell, hB1.cell, hB2.cell, hB9.cell] <;> rfl)) (fun hg40_5 => by simp only [EN, Nat.reduceEqDiff, reduceIte, qv_load, ld3, readN, AR, Nat.zero_add, Nat.reduceAdd, strEq, hB1.cell, hB2.cell, hB9.cell, hB1.cell, hB2.cell, hB9.cell, hg40_5, GR]; rfl) ?_
           refine WL.cq (gd_at (t := 168) rfl (by simp only [EN, Nat.reduceEqDiff, reduceIte, strEq, hB1.cell, hB2.cell, hB9.cell, hB1.cell, hB2.cell, hB9.cell] <;> rfl)) (fun hg40_6 => by simp only [EN, Nat.reduceEqDiff, reduceIte, qv_binOp, binv_gtr, strEq, hB1.cell, hB2.cell, hB9.cell, hB1.cell, hB2.cell, hB9.cell, hg40_6, GR]; rfl) ?_
           iterate 2 refine WL.qq (by simp only [EN, Nat.reduceEqDiff, reduceIte, qv_pick, pk_and, pk_or, GR, strEq, hB1.cell, hB2.cell, hB9.cell, hB1.cell, hB2.cell, hB9.cell, qv_move]; rfl) ?_
           refine WL.cq (gd_at (t := 173) rfl (by simp only [EN, Nat.reduceEqDiff, reduceIte, k7_2, strEq, hB1.cell, hB2.cell, hB9.cell, hB1.cell, hB2.cell, hB9.cell] <;> rfl)) (fun hg40_9 => by simp only [EN, Nat.reduceEqDiff, reduceIte, qv_fieldAddr, fa25_1, Nat.zero_add, Nat.reduceAdd, k7_2, strEq, hB1.cell, hB2.cell, hB9.cell, hB1.cell, hB2.cell, hB9.cell, hg40_9, GR]; rfl) ?_
           refine WL.cq (gd_at (t := 173) rfl (by simp only [EN, Nat.reduceEqDiff, reduceIte, strEq, hB1.cell, hB2.cell, hB9.cell, hB1.cell, hB2.cell, hB9.cell] <;> rfl)) (fun hg40_10 => by simp only [EN, Nat.reduceEqDiff, reduceIte, qv_load, ld3, readN, AR, Nat.zero_add, Nat.reduceAdd, strEq, hB1.cell, hB2.cell, hB9.cell, hB1.cell, hB2.cell, hB9.cell, hg40_10, GR]; rfl) ?_
           refine WL.cq (gd_at (t := 173) rfl (by simp only [EN, Nat.reduceEqDiff, reduceIte, strEq, hB1.cell, hB2.cell, hB9.cell, hB1.cell, hB2.cell, hB9.cell] <;> rfl)) (fun hg40_11 => by simp only [EN, Nat.reduceEqDiff, reduceIte, qv_binOp, binv_lss, strEq, hB1.cell, hB2.cell, hB9.cell, hB1.cell, hB2.cell, hB9.cell, hg40_11, GR]; rfl) ?_
           iterate 2 refine WL.qq (by simp only [EN, Nat.reduceEqDiff, reduceIte, qv_pick, pk_and, pk_or, GR, strEq, hB1.cell, hB2.cell, hB9.cell, hB1.cell, hB2.cell, hB9.cell, qv_move]; rfl) ?_
           refine WL.cq (gd_at (t := 178) rfl (by simp only [EN, Nat.reduceEqDiff, reduceIte, k7_2, strEq, hB1.cell, hB2.cell, hB9.cell, hB1.cell, hB2.cell, hB9.cell] <;> rfl)) (fun hg40_14 => by simp only [EN, Nat.reduceEqDiff, reduceIte, qv_fieldAddr, fa25_1, Nat.zero_add, Nat.reduceAdd, k7_2, strEq, hB1.cell, hB2.cell, hB9.cell, hB1.cell, hB2.cell, hB9.cell, hg40_14, GR]; rfl) ?_
           refine WL.cq (gd_at (t := 178) rfl (by simp only [EN, Nat.reduceEqDiff, reduceIte, strEq, hB1.cell, hB2.cell, hB9.cell, hB1.cell, hB2.cell, hB9.cell] <;> rfl)) (fun hg40_15 => by simp only [EN, Nat.reduceEqDiff, reduceIte, qv_load, ld3, readN, AR, Nat.zero_add, Nat.reduceAdd, strEq, hB1.cell, hB2.cell, hB9.cell, hB1.cell, hB2.cell, hB9.cell, hg40_15, GR]; rfl) ?_
           refine WL.cq (gd_at (t := 178) rfl (by simp only [EN, Nat.reduceEqDiff, reduceIte, strEq, hB1.cell, hB2.cell, hB9.cell, hB1.cell, hB2.cell, hB9.cell] <;> rfl)) (fun hg40_16 => by simp only [EN, Nat.reduceEqDiff, reduceIte, qv_binOp, binv_gtr, strEq, hB1.cell, hB2.cell, hB9.cell, hB1.cell, hB2.cell, hB9.cell, hg40_16, GR]; rfl) ?_
           refine WL.qq (by simp only [EN, Nat.reduceEqDiff, reduceIte, qv_pick, pk_and, pk_or, GR, strEq, hB1.cell, hB2.cell, hB9.cell, hB1.cell, hB2.cell, hB9.cell]; rfl) ?_
           refine WL.nil (th_norm ?_)
           refine hx_cond (by simp only [EN, Nat.reduceEqDiff, reduceIte, strEq, hB1.cell, hB2.cell, hB9.cell, hB1.cell, hB2.cell, hB9.cell]; rfl) (fun hct182 => ?_) (fun hct182 => ?_)
           ·
            try simp only [BD] at hct182
            refine hx_seq (hx_region ?_)
            refine WL.qq (by refine qv_bld (by simp only [EN, Nat.reduceEqDiff, reduceIte, AR, strEq, hB1.cell, hB2.cell, hB9.cell, hB1.cell, hB2.cell, hB9.cell] <;> rfl) (by rw [bl34]; simp [Instr.fill, Value.cells]; rfl)) ?_
            refine WL.store (by simp only [EN, Nat.reduceEqDiff, reduceIte, k8_2, strEq, hB1.cell, hB2.cell, hB9.cell, hB1.cell, hB2.cell, hB9.cell] <;> rfl) sz34 (by simp only [EN, Nat.reduceEqDiff, reduceIte, Value.cells, k8_2, strEq, hB1.cell, hB2.cell, hB9.cell, hB1.cell, hB2.cell, hB9.cell] <;> rfl) rfl hB2 (by first | (simp [true_and]; done) | (simp [true_and]; omega) | omega) (by simp [Value.oneCell']) ?_
            intro h18 hw18
            have hXe := hw18.ext hX hb2
            replace hB2 := hw18.at_
            try simp only [splc, List.take_succ_cons, List.take_zero, List.take_nil, List.drop_succ_cons, List.drop_zero, List.drop_nil, List.cons_append, List.nil_append, List.length_cons, List.length_nil, Nat.zero_add, Nat.add_zero, Nat.reduceAdd, List.append_nil] at hB2
            refine WL.qq (by simp only [EN, Nat.reduceEqDiff, reduceIte, qv_assign, strEq, hB1.cell, hB2.cell, hB9.cell, hB1.cell, hB2.cell, hB9.cell]; rfl) ?_
            refine WL.nil (th_norm (hx_ret (th_ret ?_)))
            refine fin_ret [.cell 8 34, .tmp 9] rfl rfl (by simp only [EN, Nat.reduceEqDiff, reduceIte, resv, ld34, readN, AR, Nat.zero_add, Nat.reduceAdd, k0_2, k1_2, k2_2, k7_2, k8_2, k13_2, i14_2, strEq, hB1.cell, hB2.cell, hB9.cell, hB1.cell, hB2.cell, hB9.cell]; rfl) ?_
            have hck : clkE d m = 2 := (by unfold clkE; rw [if_neg (by simp only [validM, Bool.and_eq_true, decide_eq_true_eq]; omega)])
            have he : erN l os s d m = 28 := (by rw [heN, hck]; rfl)
            exact ⟨hXe, _, by rw [he]; rfl, .inl ⟨by rw [he]; decide, rfl⟩⟩
           ·
            try simp only [BD] at hct182
            have hck : clkE d m = 0 := (by unfold clkE; rw [if_pos (by simp only [validM, Bool.and_eq_true, decide_eq_true_eq]; omega)])
            have hez : erN l os s d m = 0 := (by rw [heN, hck]; rfl)
            refine hx_skip (th_norm (hx_seq (hx_seq (hx_region ?_))))
            refine WL.qq (by simp only [EN, Nat.reduceEqDiff, reduceIte, qv_assign, strEq, hB1.cell, hB2.cell, hB9.cell, hB1.cell, hB2.cell, hB9.cell]; rfl) ?_
            refine WL.nil (th_norm (hx_block ?_))
            refine hx_loopG [16, 17, 18, 184, 185, 186, 187, 188, 189, 190, 191, 192, 193, 194, 195, 196, 197, 198, 199, 200, 201, 202, 203, 204, 205, 206, 207, 208, 209, 210, 211, 212, 213, 214, 215, 216, 217, 218, 219, 220, 221, 222, 223, 224, 225, 226, 227, 228, 229, 230, 231] (fun k e hL4 => ∃ (i : Nat) (av : Option Addr) (cv : Nat), l.length - i = k ∧ (i ≤ l.length) ∧ (Ext h hL4) ∧ (Has hL4 B2 (.cells #[.slice none 0 0, .slice none 0 0, iV 0, iV 0, iV 0, .slice none 0 0, .bool false] tyRE)) ∧ (Has hL4 B9 (.cells #[.slice av i cv, .slice a21 os.length c21, iV i9, iV d, iV m, .slice none 0 0, .bool false] tyRE)) ∧ (SlR tyRO 2 siL hL4 a21 os) ∧ (Own hL4 h.size tyRH 2 (.slice av i cv) i ((ordH (l.take i)).flatMap siL)) ∧ e 16 = .int .i64 i) _ ⟨0, none, 0, rfl, ?_, ?_, ?_, ?_, ?_, ?_, ?_⟩ ?_
            · omega
            · exact hX
            · exact hB2
            · exact hB9
            · exact hso
            · exact Own.nil
            · simp only [EN, Nat.reduceEqDiff, reduceIte, k0_2, k1_2, k2_2, k7_2, k8_2, k13_2, i14_2, strEq, hB1.cell, hB2.cell, hB9.cell, hB1.cell, hB2.cell, hB9.cell] <;> rfl
            ·
             rintro k e4L hL4 hfr4 ⟨i, av, cv, rfl, hi, hX, hB2, hB9, hso, hv, i16_4⟩
             have k0_4 := hfr4 0 rfl; try simp only [EN, Nat.reduceEqDiff, reduceIte, k0_2, strEq, hB1.cell, hB2.cell, hB9.cell, hB1.cell, hB2.cell, hB9.cell] at k0_4
             have k1_4 := hfr4 1 rfl; try simp only [EN, Nat.reduceEqDiff, reduceIte, k1_2, strEq, hB1.cell, hB2.cell, hB9.cell, hB1.cell, hB2.cell, hB9.cell] at k1_4
             have k8_4 := hfr4 8 rfl; try simp only [EN, Nat.reduceEqDiff, reduceIte, k8_2, strEq, hB1.cell, hB2.cell, hB9.cell, hB1.cell, hB2.cell, hB9.cell] at k8_4
             have k13_4 := hfr4 13 rfl; try simp only [EN, Nat.reduceEqDiff, reduceIte, k13_2, strEq, hB1.cell, hB2.cell, hB9.cell, hB1.cell, hB2.cell, hB9.cell] at k13_4
             refine hx_seq (hx_seq (hx_region ?_))
             iterate 4 refine WL.qq (by simp only [EN, Nat.reduceEqDiff, reduceIte, qv_move, i16_4, strEq, hB1.cell, hB2.cell, hB9.cell, hB1.cell, hB2.cell, hB9.cell, hB2.cell, hB9.cell, k0_4, qv_len, ln22, AR, qv_binOp, binv_lss]; rfl) ?_
             refine WL.nil (th_norm ?_)
             refine hx_cond (by simp only [EN, Nat.reduceEqDiff, reduceIte, strEq, hB1.cell, hB2.cell, hB9.cell, hB1.cell, hB2.cell, hB9.cell, hB2.cell, hB9.cell]; rfl) (fun hct187 => ?_) (fun hct187 => ?_)
             ·
              try simp only [BD] at hct187
              obtain ⟨x, hx⟩ := atG (l := l) (i := i) (by omega)
              obtain ⟨b1, o1, ha1, hr1, hr2, hr3⟩ := si_rd (hs0.ext hX) hx
              have hOl := ordH_len (l := l) (i := i) hi; have hst := ordH_step hx
              obtain ⟨hcv, hnv, hzv⟩ : i ≤ cv ∧ (av = none → cv = 0) ∧ (∀ x, av = some x → ∃ g, x = ⟨g, 0, none⟩) := (by obtain ⟨a9, c9, h9, h8, h7, h6⟩ := hv.shape; cases h9; exact ⟨h8, h7, fun x hx => by obtain ⟨g, hg, _⟩ := h6 x hx; exact ⟨g, hg⟩⟩)
              have hsv := slG_own (f := siL) (sz := 2) (fun _ => rfl) hv hOl.symm
              generalize hOO : ordH (l.take i) = O at hv hOl hst hsv
              refine hx_skip (th_norm (hx_seq (hx_block (hx_seq (hx_region ?_)))))
              iterate 4 refine WL.qq (by simp only [EN, Nat.reduceEqDiff, reduceIte, qv_fieldAddr, fa34_0, Nat.zero_add, Nat.reduceAdd, k13_4, strEq, hB1.cell, hB2.cell, hB9.cell, hB1.cell, hB2.cell, hB9.cell, hB2.cell, hB9.cell, qv_load, ld22, readN, AR, qv_len, ln22, qv_assign]; rfl) ?_
              refine WL.nil (th_norm ?_)
              refine hx_cutS [17, 193, 194, 195, 196, 197, 198, 199, 200, 201, 202, 203, 204, 205, 206, 207, 208, 209, 210, 211] (fun e => ∃ (p3 : Nat), (p3 ≤ i) ∧ (atH x O i = p3) ∧ e 17 = .int .i64 p3) ?_ ?_
              ·
               refine hx_block ?_
               refine hx_loopS [17, 193, 194, 195, 196, 197, 198, 199, 200, 201, 202, 203, 204, 205, 206, 207, 208, 209, 210, 211] (fun k e => ∃ (p2 : Nat), p2 = k ∧ (p2 ≤ i) ∧ (atH x O p2 = atH x O i) ∧ e 17 = .int .i64 p2) _ ⟨i, rfl, ?_, ?_, ?_⟩ ?_
               · omega
               · rfl
               · simp only [EN, Nat.reduceEqDiff, reduceIte, k0_4, k1_4, k8_4, k13_4, i16_4, strEq, hB1.cell, hB2.cell, hB9.cell, hB1.cell, hB2.cell, hB9.cell, hB2.cell, hB9.cell] <;> rfl
               ·
                rintro k e5L hfr5 ⟨p2, rfl, hp2, hpe, i17_5⟩
                have k0_5 := hfr5 0 rfl; try simp only [EN, Nat.reduceEqDiff, reduceIte, k0_4, strEq, hB1.cell, hB2.cell, hB9.cell, hB1.cell, hB2.cell, hB9.cell, hB2.cell, hB9.cell] at k0_5
                have k1_5 := hfr5 1 rfl; try simp only [EN, Nat.reduceEqDiff, reduceIte, k1_4, strEq, hB1.cell, hB2.cell, hB9.cell, hB1.cell, hB2.cell, hB9.cell, hB2.cell, hB9.cell] at k1_5
                have k8_5 := hfr5 8 rfl; try simp only [EN, Nat.reduceEqDiff, reduceIte, k8_4, strEq, hB1.cell, hB2.cell, hB9.cell, hB1.cell, hB2.cell, hB9.cell, hB2.cell, hB9.cell] at k8_5
                have k13_5 := hfr5 13 rfl; try simp only [EN, Nat.reduceEqDiff, reduceIte, k13_4, strEq, hB1.cell, hB2.cell, hB9.cell, hB1.cell, hB2.cell, hB9.cell, hB2.cell, hB9.cell] at k13_5
                have k16_5 := hfr5 16 rfl; try simp only [EN, Nat.reduceEqDiff, reduceIte, i16_4, strEq, hB1.cell, hB2.cell, hB9.cell, hB1.cell, hB2.cell, hB9.cell, hB2.cell, hB9.cell] at k16_5
                refine hx_seq (hx_seq ?_)
                by_cases hp0 : 0 < p2
                ·
                 obtain ⟨q, rfl⟩ : ∃ q, p2 = q + 1 := ⟨p2 - 1, by omega⟩
                 obtain ⟨y, hy⟩ := atG (l := O) (i := q) (by omega)
                 obtain ⟨b2, o2, ha2, _, hr22, _⟩ := si_rd hsv hy
                 have hstp : atH x O (q + 1) = if sLt x.s y.s = true then atH x O q else q + 1 := (by rw [atH, hy])
                 have kd : decide ((0 : Int) < ((q + 1 : Nat) : Int)) = true := decide_eq_true (by omega)
                 apply hx_draw2 Rel.same [] [] [] rfl (by decide +kernel) rfl
                 iterate 3 refine LD.qq rfl rfl (by simp only [EN, Nat.reduceEqDiff, reduceIte, qv_move, i17_5, strEq, hB1.cell, hB2.cell, hB9.cell, hB1.cell, hB2.cell, hB9.cell, hB2.cell, hB9.cell, qv_binOp, binv_gtr, kd]; rfl) ?_
                 refine LD.on (by rw [gOk_s (gd_at (t := 195) rfl (by simp only [EN, Nat.reduceEqDiff, reduceIte, k13_5, strEq, hB1.cell, hB2.cell, hB9.cell, hB1.cell, hB2.cell, hB9.cell, hB2.cell, hB9.cell] <;> rfl))]; rfl) ?_
                 refine LD.qq rfl rfl (by simp only [EN, Nat.reduceEqDiff, reduceIte, qv_fieldAddr, fa34_0, Nat.zero_add, Nat.reduceAdd, k13_5, strEq, hB1.cell, hB2.cell, hB9.cell, hB1.cell, hB2.cell, hB9.cell, hB2.cell, hB9.cell]; rfl) ?_
                 refine LD.on (by rw [gOk_s (gd_at (t := 195) rfl (by simp only [EN, Nat.reduceEqDiff, reduceIte, strEq, hB1.cell, hB2.cell, hB9.cell, hB1.cell, hB2.cell, hB9.cell, hB2.cell, hB9.cell] <;> rfl))]; rfl) ?_
                 refine LD.qq rfl rfl (by simp only [EN, Nat.reduceEqDiff, reduceIte, qv_load, ld22, readN, AR, Nat.zero_add, Nat.reduceAdd, strEq, hB1.cell, hB2.cell, hB9.cell, hB1.cell, hB2.cell, hB9.cell, hB2.cell, hB9.cell]; rfl) ?_
                 refine LD.on (by rw [gOk_s (gd_at (t := 195) rfl (by simp only [EN, Nat.reduceEqDiff, reduceIte, i17_5, strEq, hB1.cell, hB2.cell, hB9.cell, hB1.cell, hB2.cell, hB9.cell, hB2.cell, hB9.cell] <;> rfl))]; rfl) ?_
                 refine LD.qq rfl rfl (by simp only [EN, Nat.reduceEqDiff, reduceIte, qv_move, i17_5, strEq, hB1.cell, hB2.cell, hB9.cell, hB1.cell, hB2.cell, hB9.cell, hB2.cell, hB9.cell]; rfl) ?_
                 refine LD.on (by rw [gOk_s (gd_at (t := 195) rfl (by simp only [EN, Nat.reduceEqDiff, reduceIte, strEq, hB1.cell, hB2.cell, hB9.cell, hB1.cell, hB2.cell, hB9.cell, hB2.cell, hB9.cell] <;> rfl))]; rfl) ?_
                 refine LD.qq rfl rfl (by refine Eq.trans (b := some (iV q)) ?_ rfl; simp only [EN, Nat.reduceEqDiff, reduceIte, k0_5, k1_5, k8_5, k13_5, k16_5, i17_5, strEq, hB1.cell, hB2.cell, hB9.cell, hB1.cell, hB2.cell, hB9.cell, hB2.cell, hB9.cell, qv_binOp, binv_sub]; rw [w64 (by omega) (by omega)]; congr 2; omega) ?_
                 refine LD.on (by rw [gOk_s (gd_at (t := 195) rfl (by simp only [EN, Nat.reduceEqDiff, reduceIte, strEq, hB1.cell, hB2.cell, hB9.cell, hB1.cell, hB2.cell, hB9.cell, hB2.cell, hB9.cell] <;> rfl))]; rfl) ?_
                 refine LD.qq rfl rfl (by simp only [EN, Nat.reduceEqDiff, reduceIte, qv_indexAddr, strEq, hB1.cell, hB2.cell, hB9.cell, hB1.cell, hB2.cell, hB9.cell, hB2.cell, hB9.cell, ha2]; (try simp (disch := omega) only [ix22, Int.toNat_natCast]); rfl) ?_
                 refine LD.on (by rw [gOk_s (gd_at (t := 195) rfl (by simp only [EN, Nat.reduceEqDiff, reduceIte, strEq, hB1.cell, hB2.cell, hB9.cell, hB1.cell, hB2.cell, hB9.cell, hB2.cell, hB9.cell] <;> rfl))]; rfl) ?_
                 refine LD.qq rfl rfl (by simp only [EN, Nat.reduceEqDiff, reduceIte, qv_fieldAddr, fa66_0, Nat.zero_add, Nat.reduceAdd, strEq, hB1.cell, hB2.cell, hB9.cell, hB1.cell, hB2.cell, hB9.cell, hB2.cell, hB9.cell]; rfl) ?_
                 refine LD.on (by rw [gOk_s (gd_at (t := 195) rfl (by simp only [EN, Nat.reduceEqDiff, reduceIte, strEq, hB1.cell, hB2.cell, hB9.cell, hB1.cell, hB2.cell, hB9.cell, hB2.cell, hB9.cell] <;> rfl))]; rfl) ?_
                 refine LD.qq rfl rfl (by simp only [EN, Nat.reduceEqDiff, reduceIte, k0_5, k1_5, k8_5, k13_5, k16_5, i17_5, strEq, hB1.cell, hB2.cell, hB9.cell, hB1.cell, hB2.cell, hB9.cell, hB2.cell, hB9.cell, qv_load, ld9, Int.toNat_natCast, hr22]; rfl) ?_
                 refine LD.on (by rw [gOk_s (gd_at (t := 195) rfl (by simp only [EN, Nat.reduceEqDiff, reduceIte, k0_5, strEq, hB1.cell, hB2.cell, hB9.cell, hB1.cell, hB2.cell, hB9.cell, hB2.cell, hB9.cell] <;> rfl))]; rfl) ?_
                 refine LD.qq rfl rfl (by simp only [EN, Nat.reduceEqDiff, reduceIte, qv_move, k0_5, strEq, hB1.cell, hB2.cell, hB9.cell, hB1.cell, hB2.cell, hB9.cell, hB2.cell, hB9.cell]; rfl) ?_
                 refine LD.on (by rw [gOk_s (gd_at (t := 195) rfl (by simp only [EN, Nat.reduceEqDiff, reduceIte, k16_5, strEq, hB1.cell, hB2.cell, hB9.cell, hB1.cell, hB2.cell, hB9.cell, hB2.cell, hB9.cell] <;> rfl))]; rfl) ?_
                 refine LD.qq rfl rfl (by simp only [EN, Nat.reduceEqDiff, reduceIte, qv_move, k16_5, strEq, hB1.cell, hB2.cell, hB9.cell, hB1.cell, hB2.cell, hB9.cell, hB2.cell, hB9.cell]; rfl) ?_
                 refine LD.on (by rw [gOk_s (gd_at (t := 195) rfl (by simp only [EN, Nat.reduceEqDiff, reduceIte, strEq, hB1.cell, hB2.cell, hB9.cell, hB1.cell, hB2.cell, hB9.cell, hB2.cell, hB9.cell] <;> rfl))]; rfl) ?_
                 refine LD.qq rfl rfl (by simp only [EN, Nat.reduceEqDiff, reduceIte, qv_indexAddr, strEq, hB1.cell, hB2.cell, hB9.cell, hB1.cell, hB2.cell, hB9.cell, hB2.cell, hB9.cell, ha1]; (try simp (disch := omega) only [ix22, Int.toNat_natCast]); rfl) ?_
                 refine LD.on (by rw [gOk_s (gd_at (t := 195) rfl (by simp only [EN, Nat.reduceEqDiff, reduceIte, strEq, hB1.cell, hB2.cell, hB9.cell, hB1.cell, hB2.cell, hB9.cell, hB2.cell, hB9.cell] <;> rfl))]; rfl) ?_
                 refine LD.qq rfl rfl (by simp only [EN, Nat.reduceEqDiff, reduceIte, qv_fieldAddr, fa66_0, Nat.zero_add, Nat.reduceAdd, strEq, hB1.cell, hB2.cell, hB9.cell, hB1.cell, hB2.cell, hB9.cell, hB2.cell, hB9.cell]; rfl) ?_
                 refine LD.on (by rw [gOk_s (gd_at (t := 195) rfl (by simp only [EN, Nat.reduceEqDiff, reduceIte, strEq, hB1.cell, hB2.cell, hB9.cell, hB1.cell, hB2.cell, hB9.cell, hB2.cell, hB9.cell] <;> rfl))]; rfl) ?_
                 refine LD.qq rfl rfl (by simp only [EN, Nat.reduceEqDiff, reduceIte, k0_5, k1_5, k8_5, k13_5, k16_5, i17_5, strEq, hB1.cell, hB2.cell, hB9.cell, hB1.cell, hB2.cell, hB9.cell, hB2.cell, hB9.cell, qv_load, ld9, Int.toNat_natCast, hr2]; rfl) ?_
                 refine LD.on (by rw [gOk_s (gd_at (t := 195) rfl (by simp only [EN, Nat.reduceEqDiff, reduceIte, strEq, hB1.cell, hB2.cell, hB9.cell, hB1.cell, hB2.cell, hB9.cell, hB2.cell, hB9.cell] <;> rfl))]; rfl) ?_
                 refine LD.qq rfl rfl (by simp only [EN, Nat.reduceEqDiff, reduceIte, k0_5, k1_5, k8_5, k13_5, k16_5, i17_5, strEq, hB1.cell, hB2.cell, hB9.cell, hB1.cell, hB2.cell, hB9.cell, hB2.cell, hB9.cell, qv_binOp, binv_gtrS]; rfl) ?_
                 refine LD.qq rfl rfl (by simp only [EN, Nat.reduceEqDiff, reduceIte, qv_pick, pk_and, pk_or, GR, strEq, hB1.cell, hB2.cell, hB9.cell, hB1.cell, hB2.cell, hB9.cell, hB2.cell, hB9.cell]; rfl) ?_
                 refine LD.nil ?_
                 rintro hL4 rfl -
                 refine WL.nil (th_norm ?_)
                 refine hx_cond (by simp only [EN, Nat.reduceEqDiff, reduceIte, strEq, hB1.cell, hB2.cell, hB9.cell, hB1.cell, hB2.cell, hB9.cell, hB2.cell, hB9.cell]; rfl) (fun hct209 => ?_) (fun hct209 => ?_)
                 ·
                  try simp only [BD] at hct209
                  have hlt : sLt x.s y.s = true := hct209; rw [if_pos hlt, hpe] at hstp
                  refine hx_skip (th_norm (hx_block (hx_region ?_)))
                  refine WL.qq (by simp only [EN, Nat.reduceEqDiff, reduceIte, qv_move, i17_5, strEq, hB1.cell, hB2.cell, hB9.cell, hB1.cell, hB2.cell, hB9.cell, hB2.cell, hB9.cell]; rfl) ?_
                  refine WL.qq (by refine Eq.trans (b := some (iV q)) ?_ rfl; simp only [EN, Nat.reduceEqDiff, reduceIte, k0_5, k1_5, k8_5, k13_5, k16_5, i17_5, strEq, hB1.cell, hB2.cell, hB9.cell, hB1.cell, hB2.cell, hB9.cell, hB2.cell, hB9.cell, qv_binOp, binv_sub]; rw [w64 (by omega) (by omega)]; congr 2; omega) ?_
                  refine WL.qq (by simp only [EN, Nat.reduceEqDiff, reduceIte, qv_assign, strEq, hB1.cell, hB2.cell, hB9.cell, hB1.cell, hB2.cell, hB9.cell, hB2.cell, hB9.cell]; rfl) ?_
                  refine WL.nil (bl_norm (th_norm ?_))
                  refine ⟨rfl, rfl, ?_, _, ?_, q, rfl, ?_, ?_, ?_⟩
                  · (repeat (first | exact Fr.refl _ _ | refine Fr.set rfl ?_ | refine Fr.put rfl ?_ | with_reducible refine Fr.put0 ?_))
                  · omega
                  · omega
                  · exact hstp.symm
                  · simp only [EN, Nat.reduceEqDiff, reduceIte, k0_5, k1_5, k8_5, k13_5, k16_5, i17_5, strEq, hB1.cell, hB2.cell, hB9.cell, hB1.cell, hB2.cell, hB9.cell, hB2.cell, hB9.cell] <;> first | rfl | (congr 1; omega)
                 ·
                  try simp only [BD] at hct209
                  have hlt : ¬ sLt x.s y.s = true := (by rw [hct209]; decide); rw [if_neg hlt, hpe] at hstp
                  refine hx_exit (th_exit (th_exit (bl_hit (th_norm ?_))))
                  refine ⟨rfl, rfl, ?_, q + 1, ?_, ?_, ?_⟩
                  · (repeat (first | exact Fr.refl _ _ | refine Fr.set rfl ?_ | refine Fr.put rfl ?_ | with_reducible refine Fr.put0 ?_ | refine Fr.trans ?_ (Fr.of hfr5 rfl)))
                  · omega
                  · exact hstp
                  · simp only [EN, Nat.reduceEqDiff, reduceIte, k0_5, k1_5, k8_5, k13_5, k16_5, i17_5, strEq, hB1.cell, hB2.cell, hB9.cell, hB1.cell, hB2.cell, hB9.cell, hB2.cell, hB9.cell] <;> first | rfl | (congr 1; omega)
                ·
                 obtain rfl : p2 = 0 := (by omega)
                 have kd : decide ((0 : Int) < ((0 : Nat) : Int)) = false := decide_eq_false (by omega)
                 apply hx_draw2 Rel.same [] [] [] rfl (by decide +kernel) rfl
                 iterate 3 refine LD.qq rfl rfl (by simp only [EN, Nat.reduceEqDiff, reduceIte, qv_move, i17_5, strEq, hB1.cell, hB2.cell, hB9.cell, hB1.cell, hB2.cell, hB9.cell, hB2.cell, hB9.cell, qv_binOp, binv_gtr, kd]; rfl) ?_
                 refine LD.offS rfl (by first | (rw [gOk_s (gd_at (t := 195) rfl (by simp only [EN, Nat.reduceEqDiff, reduceIte, k13_5, strEq, hB1.cell, hB2.cell, hB9.cell, hB1.cell, hB2.cell, hB9.cell, hB2.cell, hB9.cell] <;> rfl))]; rfl) | exact gOk_z (gd_un (t := 195) rfl (by simp only [EN, Nat.reduceEqDiff, reduceIte, k13_5, strEq, hB1.cell, hB2.cell, hB9.cell, hB1.cell, hB2.cell, hB9.cell, hB2.cell, hB9.cell] <;> rfl))) ?_
                 refine LD.offS rfl (by first | (rw [gOk_s (gd_at (t := 195) rfl (by simp only [EN, Nat.reduceEqDiff, reduceIte, strEq, hB1.cell, hB2.cell, hB9.cell, hB1.cell, hB2.cell, hB9.cell, hB2.cell, hB9.cell] <;> rfl))]; rfl) | exact gOk_z (gd_un (t := 195) rfl (by simp only [EN, Nat.reduceEqDiff, reduceIte, strEq, hB1.cell, hB2.cell, hB9.cell, hB1.cell, hB2.cell, hB9.cell, hB2.cell, hB9.cell] <;> rfl))) ?_
                 refine LD.offS rfl (by first | (rw [gOk_s (gd_at (t := 195) rfl (by simp only [EN, Nat.reduceEqDiff, reduceIte, i17_5, strEq, hB1.cell, hB2.cell, hB9.cell, hB1.cell, hB2.cell, hB9.cell, hB2.cell, hB9.cell] <;> rfl))]; rfl) | exact gOk_z (gd_un (t := 195) rfl (by simp only [EN, Nat.reduceEqDiff, reduceIte, i17_5, strEq, hB1.cell, hB2.cell, hB9.cell, hB1.cell, hB2.cell, hB9.cell, hB2.cell, hB9.cell] <;> rfl))) ?_
                 refine LD.offS rfl (by first | (rw [gOk_s (gd_at (t := 195) rfl (by simp only [EN, Nat.reduceEqDiff, reduceIte, strEq, hB1.cell, hB2.cell, hB9.cell, hB1.cell, hB2.cell, hB9.cell, hB2.cell, hB9.cell] <;> rfl))]; rfl) | exact gOk_z (gd_un (t := 195) rfl (by simp only [EN, Nat.reduceEqDiff, reduceIte, strEq, hB1.cell, hB2.cell, hB9.cell, hB1.cell, hB2.cell, hB9.cell, hB2.cell, hB9.cell] <;> rfl))) ?_
                 refine LD.offS rfl (by first | (rw [gOk_s (gd_at (t := 195) rfl (by simp only [EN, Nat.reduceEqDiff, reduceIte, strEq, hB1.cell, hB2.cell, hB9.cell, hB1.cell, hB2.cell, hB9.cell, hB2.cell, hB9.cell] <;> rfl))]; rfl) | exact gOk_z (gd_un (t := 195) rfl (by simp only [EN, Nat.reduceEqDiff, reduceIte, strEq, hB1.cell, hB2.cell, hB9.cell, hB1.cell, hB2.cell, hB9.cell, hB2.cell, hB9.cell] <;> rfl))) ?_
                 refine LD.offS rfl (by first | (rw [gOk_s (gd_at (t := 195) rfl (by simp only [EN, Nat.reduceEqDiff, reduceIte, strEq, hB1.cell, hB2.cell, hB9.cell, hB1.cell, hB2.cell, hB9.cell, hB2.cell, hB9.cell] <;> rfl))]; rfl) | exact gOk_z (gd_un (t := 195) rfl (by simp only [EN, Nat.reduceEqDiff, reduceIte, strEq, hB1.cell, hB2.cell, hB9.cell, hB1.cell, hB2.cell, hB9.cell, hB2.cell, hB9.cell] <;> rfl))) ?_
                 refine LD.offS rfl (by first | (rw [gOk_s (gd_at (t := 195) rfl (by simp only [EN, Nat.reduceEqDiff, reduceIte, strEq, hB1.cell, hB2.cell, hB9.cell, hB1.cell, hB2.cell, hB9.cell, hB2.cell, hB9.cell] <;> rfl))]; rfl) | exact gOk_z (gd_un (t := 195) rfl (by simp only [EN, Nat.reduceEqDiff, reduceIte, strEq, hB1.cell, hB2.cell, hB9.cell, hB1.cell, hB2.cell, hB9.cell, hB2.cell, hB9.cell] <;> rfl))) ?_
                 refine LD.offS rfl (by first | (rw [gOk_s (gd_at (t := 195) rfl (by simp only [EN, Nat.reduceEqDiff, reduceIte, k0_5, strEq, hB1.cell, hB2.cell, hB9.cell, hB1.cell, hB2.cell, hB9.cell, hB2.cell, hB9.cell] <;> rfl))]; rfl) | exact gOk_z (gd_un (t := 195) rfl (by simp only [EN, Nat.reduceEqDiff, reduceIte, k0_5, strEq, hB1.cell, hB2.cell, hB9.cell, hB1.cell, hB2.cell, hB9.cell, hB2.cell, hB9.cell] <;> rfl))) ?_
                 refine LD.offS rfl (by first | (rw [gOk_s (gd_at (t := 195) rfl (by simp only [EN, Nat.reduceEqDiff, reduceIte, k16_5, strEq, hB1.cell, hB2.cell, hB9.cell, hB1.cell, hB2.cell, hB9.cell, hB2.cell, hB9.cell] <;> rfl))]; rfl) | exact gOk_z (gd_un (t := 195) rfl (by simp only [EN, Nat.reduceEqDiff, reduceIte, k16_5, strEq, hB1.cell, hB2.cell, hB9.cell, hB1.cell, hB2.cell, hB9.cell, hB2.cell, hB9.cell] <;> rfl))) ?_
                 refine LD.offS rfl (by first | (rw [gOk_s (gd_at (t := 195) rfl (by simp only [EN, Nat.reduceEqDiff, reduceIte, strEq, hB1.cell, hB2.cell, hB9.cell, hB1.cell, hB2.cell, hB9.cell, hB2.cell, hB9.cell] <;> rfl))]; rfl) | exact gOk_z (gd_un (t := 195) rfl (by simp only [EN, Nat.reduceEqDiff, reduceIte, strEq, hB1.cell, hB2.cell, hB9.cell, hB1.cell, hB2.cell, hB9.cell, hB2.cell, hB9.cell] <;> rfl))) ?_
                 refine LD.offS rfl (by first | (rw [gOk_s (gd_at (t := 195) rfl (by simp only [EN, Nat.reduceEqDiff, reduceIte, strEq, hB1.cell, hB2.cell, hB9.cell, hB1.cell, hB2.cell, hB9.cell, hB2.cell, hB9.cell] <;> rfl))]; rfl) | exact gOk_z (gd_un (t := 195) rfl (by simp only [EN, Nat.reduceEqDiff, reduceIte, strEq, hB1.cell, hB2.cell, hB9.cell, hB1.cell, hB2.cell, hB9.cell, hB2.cell, hB9.cell] <;> rfl))) ?_
                 refine LD.offS rfl (by first | (rw [gOk_s (gd_at (t := 195) rfl (by simp only [EN, Nat.reduceEqDiff, reduceIte, strEq, hB1.cell, hB2.cell, hB9.cell, hB1.cell, hB2.cell, hB9.cell, hB2.cell, hB9.cell] <;> rfl))]; rfl) | exact gOk_z (gd_un (t := 195) rfl (by simp only [EN, Nat.reduceEqDiff, reduceIte, strEq, hB1.cell, hB2.cell, hB9.cell, hB1.cell, hB2.cell, hB9.cell, hB2.cell, hB9.cell] <;> rfl))) ?_
                 refine LD.offS rfl (by first | (rw [gOk_s (gd_at (t := 195) rfl (by simp only [EN, Nat.reduceEqDiff, reduceIte, strEq, hB1.cell, hB2.cell, hB9.cell, hB1.cell, hB2.cell, hB9.cell, hB2.cell, hB9.cell] <;> rfl))]; rfl) | exact gOk_z (gd_un (t := 195) rfl (by simp only [EN, Nat.reduceEqDiff, reduceIte, strEq, hB1.cell, hB2.cell, hB9.cell, hB1.cell, hB2.cell, hB9.cell, hB2.cell, hB9.cell] <;> rfl))) ?_
                 refine LD.qq rfl rfl (by simp only [EN, Nat.reduceEqDiff, reduceIte, qv_pick, pk_and, pk_or, GR, strEq, hB1.cell, hB2.cell, hB9.cell, hB1.cell, hB2.cell, hB9.cell, hB2.cell, hB9.cell]; rfl) ?_
                 refine LD.nil ?_
                 rintro hL4 rfl -
                 refine WL.nil (th_norm ?_)
                 refine hx_cond (by simp only [EN, Nat.reduceEqDiff, reduceIte, strEq, hB1.cell, hB2.cell, hB9.cell, hB1.cell, hB2.cell, hB9.cell, hB2.cell, hB9.cell]; rfl) (fun hct209 => ?_) (fun hct209 => ?_)
                 ·
                  simp at hct209
                 ·
                  try simp only [BD] at hct209
                  refine hx_exit (th_exit (th_exit (bl_hit (th_norm ?_))))
                  refine ⟨rfl, rfl, ?_, 0, ?_, ?_, ?_⟩
                  · (repeat (first | exact Fr.refl _ _ | refine Fr.set rfl ?_ | refine Fr.put rfl ?_ | with_reducible refine Fr.put0 ?_ | refine Fr.trans ?_ (Fr.of hfr5 rfl)))
                  · omega
                  · exact hpe.symm
                  · simp only [EN, Nat.reduceEqDiff, reduceIte, k0_5, k1_5, k8_5, k13_5, k16_5, i17_5, strEq, hB1.cell, hB2.cell, hB9.cell, hB1.cell, hB2.cell, hB9.cell, hB2.cell, hB9.cell] <;> first | rfl | (congr 1; omega)
              ·
               rintro ecb10 hfcb10 ⟨p3, hp3, hat, i17_cb10⟩
               have k0_cb10 := hfcb10 0 rfl; try simp only [EN, Nat.reduceEqDiff, reduceIte, k0_4, strEq, hB1.cell, hB2.cell, hB9.cell, hB1.cell, hB2.cell, hB9.cell, hB2.cell, hB9.cell] at k0_cb10
               have k1_cb10 := hfcb10 1 rfl; try simp only [EN, Nat.reduceEqDiff, reduceIte, k1_4, strEq, hB1.cell, hB2.cell, hB9.cell, hB1.cell, hB2.cell, hB9.cell, hB2.cell, hB9.cell] at k1_cb10
               have k8_cb10 := hfcb10 8 rfl; try simp only [EN, Nat.reduceEqDiff, reduceIte, k8_4, strEq, hB1.cell, hB2.cell, hB9.cell, hB1.cell, hB2.cell, hB9.cell, hB2.cell, hB9.cell] at k8_cb10
               have k13_cb10 := hfcb10 13 rfl; try simp only [EN, Nat.reduceEqDiff, reduceIte, k13_4, strEq, hB1.cell, hB2.cell, hB9.cell, hB1.cell, hB2.cell, hB9.cell, hB2.cell, hB9.cell] at k13_cb10
               have k16_cb10 := hfcb10 16 rfl; try simp only [EN, Nat.reduceEqDiff, reduceIte, i16_4, strEq, hB1.cell, hB2.cell, hB9.cell, hB1.cell, hB2.cell, hB9.cell, hB2.cell, hB9.cell] at k16_cb10
               refine hx_seq (hx_region ?_)
               refine WL.lit0 Tryz.underlying22 sz66 ?_
               intro h48 B48 hx48 hlt48 hB48
               have hB9i := hB9
               replace hB9 := hB9i.ext hx48
               iterate 3 refine WL.qq (by simp only [EN, Nat.reduceEqDiff, reduceIte, qv_fieldAddr, fa34_0, Nat.zero_add, Nat.reduceAdd, k13_cb10, strEq, hB1.cell, hB2.cell, hB9.cell, hB1.cell, hB2.cell, hB9.cell, hB2.cell, hB9.cell, qv_load, ld22, readN, AR, qv_move, i17_cb10]; rfl) ?_
               refine WL.qq (by simp only [EN, Nat.reduceEqDiff, reduceIte, qv_slice, Option.map_some, Option.map_none, strEq, hB1.cell, hB2.cell, hB9.cell, hB1.cell, hB2.cell, hB9.cell, hB2.cell, hB9.cell]; (try simp (disch := omega) only [sh22, Int.toNat_natCast]); rfl) ?_
               refine WL.appG (f := siL) (base := hL4.size) (n := 0) (xs := []) (bytes := 24) (sz := 2) (L := O.take p3) Tryz.underlying22 (inf_of Tryz.type66) rfl rfl rfl rfl (by decide) (fun _ => rfl) siL_one (by simp only [EN, Nat.reduceEqDiff, reduceIte, k0_cb10, k1_cb10, k8_cb10, k13_cb10, k16_cb10, i17_cb10, strEq, hB1.cell, hB2.cell, hB9.cell, hB1.cell, hB2.cell, hB9.cell, hB2.cell, hB9.cell] <;> rfl) (Own.lit0 hB48 hlt48) (by simp only [EN, Nat.reduceEqDiff, reduceIte, k0_cb10, k1_cb10, k8_cb10, k13_cb10, k16_cb10, i17_cb10, strEq, hB1.cell, hB2.cell, hB9.cell, hB1.cell, hB2.cell, hB9.cell, hB2.cell, hB9.cell] <;> rfl) (by rw [List.length_take]; omega) hnv ((hsv.ext hx48).pre p3) (by simp only [maxLen, List.length_take]; omega) (by rw [List.length_take]; omega) hx48.size ?_
               intro h49 v49 ho49 hg49 hp49 hn49
               have hx49 := hg49.ext hx48 (fun c hc => by cases hc; exact hlt48)
               replace hB9 := hB9i.ext hx49
               obtain ⟨b1, o1, ha1, hr1, _⟩ := si_rd (hs0.ext (hX.trans hx49)) hx
               have hTl : (O.take p3).length = p3 := (by rw [List.length_take]; omega)
               have hDl : (O.drop p3).length = i - p3 := (by rw [List.length_drop]; omega)
               refine WL.qq (by simp only [EN, Nat.reduceEqDiff, reduceIte, qv_assign, strEq, hB1.cell, hB2.cell, hB9.cell, hB1.cell, hB2.cell, hB9.cell, hB2.cell, hB9.cell]; rfl) ?_
               refine WL.nil (th_norm (hx_seq (hx_region ?_)))
               iterate 4 refine WL.qq (by simp only [EN, Nat.reduceEqDiff, reduceIte, qv_move, strEq, hB1.cell, hB2.cell, hB9.cell, hB1.cell, hB2.cell, hB9.cell, hB2.cell, hB9.cell, k0_cb10, k16_cb10, qv_indexAddr, ha1]; (try simp (disch := omega) only [ix22, Int.toNat_natCast]); rfl) ?_
               refine WL.qq (by simp only [EN, Nat.reduceEqDiff, reduceIte, k0_cb10, k1_cb10, k8_cb10, k13_cb10, k16_cb10, i17_cb10, strEq, hB1.cell, hB2.cell, hB9.cell, hB1.cell, hB2.cell, hB9.cell, hB2.cell, hB9.cell, qv_load, ld66, Int.toNat_natCast, hr1]; rfl) ?_
               refine WL.push (bytes := 24) Tryz.underlying22 (inf_of Tryz.type66) rfl rfl rfl rfl (by decide) (by decide) sz66 zr66 (fun u => by simp only [EN, Nat.reduceEqDiff, reduceIte, k0_cb10, k1_cb10, k8_cb10, k13_cb10, k16_cb10, i17_cb10, strEq, hB1.cell, hB2.cell, hB9.cell, hB1.cell, hB2.cell, hB9.cell, hB2.cell, hB9.cell]) ho49 (c := (siL x).toArray) (by simp only [EN, Nat.reduceEqDiff, reduceIte, k0_cb10, k1_cb10, k8_cb10, k13_cb10, k16_cb10, i17_cb10, strEq, hB1.cell, hB2.cell, hB9.cell, hB1.cell, hB2.cell, hB9.cell, hB2.cell, hB9.cell, Value.cells] <;> rfl) rfl (by simp [Value.oneCell']) (by simp only [maxLen]; omega) (by omega) hx49.size ?_
               intro h50 v50 B50 ho50 hg50 hp50 hn50
               have hx50 := hg50.ext hx49 (fun c hc => (ho49.block c hc).1)
               replace hB9 := hB9i.ext hx50
               obtain ⟨a', hsl, hsd, hnl⟩ := sl_lo (P := Tryz.prog) Tryz.underlying22 sz66 (hsv.ext hx50) (by omega) hnv hzv p3 (by omega)
               rw [hOl] at hsl
               skip
               refine WL.qq (by simp only [EN, Nat.reduceEqDiff, reduceIte, qv_assign, strEq, hB1.cell, hB2.cell, hB9.cell, hB1.cell, hB2.cell, hB9.cell, hB2.cell, hB9.cell]; rfl) ?_
               refine WL.nil (th_norm (hx_region ?_))
               iterate 4 refine WL.qq (by simp only [EN, Nat.reduceEqDiff, reduceIte, qv_move, strEq, hB1.cell, hB2.cell, hB9.cell, hB1.cell, hB2.cell, hB9.cell, hB2.cell, hB9.cell, qv_fieldAddr, fa34_0, Nat.zero_add, Nat.reduceAdd, k13_cb10, qv_load, ld22, readN, AR, i17_cb10]; rfl) ?_
               refine WL.qq (by simp only [EN, Nat.reduceEqDiff, reduceIte, k0_cb10, k1_cb10, k8_cb10, k13_cb10, k16_cb10, i17_cb10, strEq, hB1.cell, hB2.cell, hB9.cell, hB1.cell, hB2.cell, hB9.cell, hB2.cell, hB9.cell, qv_slice, Option.map_some, Option.map_none]; exact hsl) ?_
               refine WL.appG (f := siL) (base := hL4.size) (bytes := 24) (sz := 2) (L := O.drop p3) Tryz.underlying22 (inf_of Tryz.type66) rfl rfl rfl rfl (by decide) (fun _ => rfl) siL_one (by simp only [EN, Nat.reduceEqDiff, reduceIte, k0_cb10, k1_cb10, k8_cb10, k13_cb10, k16_cb10, i17_cb10, strEq, hB1.cell, hB2.cell, hB9.cell, hB1.cell, hB2.cell, hB9.cell, hB2.cell, hB9.cell] <;> rfl) ho50 (by simp only [EN, Nat.reduceEqDiff, reduceIte, k0_cb10, k1_cb10, k8_cb10, k13_cb10, k16_cb10, i17_cb10, strEq, hB1.cell, hB2.cell, hB9.cell, hB1.cell, hB2.cell, hB9.cell, hB2.cell, hB9.cell] <;> rfl) hDl.symm hnl hsd (by simp only [maxLen]; omega) (by omega) hx50.size ?_
               intro h51 v51 ho51 hg51 hp51 hn51
               have hx51 := hg51.ext hx50 (fun c hc => (ho50.block c hc).1)
               replace hB9 := hB9i.ext hx51
               have hfl : (insH x O).flatMap siL = (([] ++ (O.take p3).flatMap siL) ++ (siL x).toArray.toList) ++ (O.drop p3).flatMap siL := (by rw [insH, hOl, hat]; simp [List.flatMap_append, List.flatMap_cons])
               have ho52 : Own h51 h.size tyRH 2 v51 (i + 1) ((insH x O).flatMap siL) := (by rw [hfl]; have h9 := ho51.base hX.size; rw [hTl, hDl, show 0 + p3 + 1 + (i - p3) = i + 1 by omega] at h9; exact h9)
               obtain ⟨a52, c52, rfl, _⟩ := ho52.shape
               refine WL.qq (by simp only [EN, Nat.reduceEqDiff, reduceIte, qv_fieldAddr, fa34_0, Nat.zero_add, Nat.reduceAdd, k13_cb10, strEq, hB1.cell, hB2.cell, hB9.cell, hB1.cell, hB2.cell, hB9.cell, hB2.cell, hB9.cell]; rfl) ?_
               refine WL.store (by simp only [EN, Nat.reduceEqDiff, reduceIte, strEq, hB1.cell, hB2.cell, hB9.cell, hB1.cell, hB2.cell, hB9.cell, hB2.cell, hB9.cell] <;> rfl) sz22 (by simp only [EN, Nat.reduceEqDiff, reduceIte, Value.cells, strEq, hB1.cell, hB2.cell, hB9.cell, hB1.cell, hB2.cell, hB9.cell, hB2.cell, hB9.cell] <;> rfl) rfl hB9 (by first | (simp [true_and]; done) | (simp [true_and]; omega) | omega) (by simp [Value.oneCell']) ?_
               intro h19 hw19
               replace hX := hw19.ext (hX.trans hx51) hb9
               replace hB2 := (hB2.ext hx51).wr hw19 hn29
               replace hso := (hso.ext hx51).wr hw19 hB9 (by decide)
               have hv2 := ho52.keep (h' := h19) (fun c hc => hw19.same c (fun hh => by subst hh; exact ho52.ncell hB9 (by decide) hc))
               replace hB9 := hw19.at_
               try simp only [splc, List.take_succ_cons, List.take_zero, List.take_nil, List.drop_succ_cons, List.drop_zero, List.drop_nil, List.cons_append, List.nil_append, List.length_cons, List.length_nil, Nat.zero_add, Nat.add_zero, Nat.reduceAdd, List.append_nil] at hB9
               refine WL.nil (bl_norm (th_norm (hx_region ?_)))
               iterate 3 refine WL.qq (by simp only [EN, Nat.reduceEqDiff, reduceIte, qv_move, k16_cb10, strEq, hB1.cell, hB2.cell, hB9.cell, hB1.cell, hB2.cell, hB9.cell, hB2.cell, hB9.cell, qv_binOp, binv_add, qv_assign]; (try simp (disch := omega) only [w64, w8, wu64]); rfl) ?_
               refine WL.nil (th_norm ?_)
               refine ⟨rfl, ?_, _, ?_, i + 1, a52, c52, rfl, ?_, ?_, ?_, ?_, ?_, ?_, ?_⟩
               · (repeat (first | exact Fr.refl _ _ | refine Fr.set rfl ?_ | refine Fr.put rfl ?_ | with_reducible refine Fr.put0 ?_ | refine Fr.trans ?_ (Fr.of hfcb10 rfl)))
               · omega
               · omega
               · exact hX
               · exact hB2
               · exact hB9
               · exact hso
               · rw [hst]; exact hv2
               · simp only [EN, Nat.reduceEqDiff, reduceIte, k0_cb10, k1_cb10, k8_cb10, k13_cb10, k16_cb10, i17_cb10, strEq, hB1.cell, hB2.cell, hB9.cell, hB1.cell, hB2.cell, hB9.cell, hB2.cell, hB9.cell] <;> first | rfl | (congr 1; omega)
             ·
              try simp only [BD] at hct187
              obtain rfl : i = l.length := (by omega)
              rw [List.take_length] at hv; have hOl : (ordH l).length = l.length := (by have := ordH_len (l := l) (i := l.length) (Nat.le_refl _); rwa [List.take_length] at this)
              have hvR := SlR.own (f := siL) (sz := 2) (fun _ => rfl) hv hOl.symm
              have hcv : l.length ≤ cv := (by obtain ⟨a9, c9, h9, h8, _⟩ := hv.shape; cases h9; exact h8)
              refine hx_exit (th_exit (th_exit (bl_hit (th_norm (hx_seq (hx_seq (hx_region ?_)))))))
              refine WL.qq (by simp only [EN, Nat.reduceEqDiff, reduceIte, qv_assign, strEq, hB1.cell, hB2.cell, hB9.cell, hB1.cell, hB2.cell, hB9.cell, hB2.cell, hB9.cell]; rfl) ?_
              refine WL.nil (th_norm (hx_block ?_))
              refine hx_loopG [19, 232, 233, 234, 235, 236, 237, 238, 239, 240, 241, 242, 243, 244, 245] (fun k e hL6 => ∃ (i2 : Nat) (ac : Option Addr) (cc : Nat) (rows : List SV), l.length - i2 = k ∧ (i2 ≤ l.length) ∧ (Ext h hL6) ∧ (Has hL6 B2 (.cells #[.slice none 0 0, .slice none 0 0, iV 0, iV 0, iV 0, .slice none 0 0, .bool false] tyRE)) ∧ (Has hL6 B9 (.cells #[.slice av l.length cv, .slice a21 os.length c21, iV i9, iV d, iV m, .slice ac i2 cc, .bool false] tyRE)) ∧ (SlR tyRO 2 siL hL6 a21 os) ∧ (SlR tyRH 2 siL hL6 av (ordH l)) ∧ (Own hL6 h.size tySl 1 (.slice ac i2 cc) i2 (rows.flatMap svL)) ∧ (rows.length = i2) ∧ (RowZ hL6 os.length rows) ∧ e 19 = .int .i64 i2) _ ⟨0, none, 0, [], rfl, ?_, ?_, ?_, ?_, ?_, ?_, ?_, ?_, ?_, ?_⟩ ?_
              · omega
              · exact hX
              · exact hB2
              · exact hB9
              · exact hso
              · exact hvR
              · exact Own.nil
              · rfl
              · intro v hv; cases hv
              · simp only [EN, Nat.reduceEqDiff, reduceIte, k0_4, k1_4, k8_4, k13_4, i16_4, strEq, hB1.cell, hB2.cell, hB9.cell, hB1.cell, hB2.cell, hB9.cell, hB2.cell, hB9.cell] <;> rfl
              ·
               rintro k e6L hL6 hfr6 ⟨i2, ac, cc, rows, rfl, hi2, hX, hB2, hB9, hso, hvR, hc, hrl, hrz, i19_6⟩
               have k0_6 := hfr6 0 rfl; try simp only [EN, Nat.reduceEqDiff, reduceIte, k0_4, strEq, hB1.cell, hB2.cell, hB9.cell, hB1.cell, hB2.cell, hB9.cell, hB2.cell, hB9.cell] at k0_6
               have k1_6 := hfr6 1 rfl; try simp only [EN, Nat.reduceEqDiff, reduceIte, k1_4, strEq, hB1.cell, hB2.cell, hB9.cell, hB1.cell, hB2.cell, hB9.cell, hB2.cell, hB9.cell] at k1_6
               have k8_6 := hfr6 8 rfl; try simp only [EN, Nat.reduceEqDiff, reduceIte, k8_4, strEq, hB1.cell, hB2.cell, hB9.cell, hB1.cell, hB2.cell, hB9.cell, hB2.cell, hB9.cell] at k8_6
               have k13_6 := hfr6 13 rfl; try simp only [EN, Nat.reduceEqDiff, reduceIte, k13_4, strEq, hB1.cell, hB2.cell, hB9.cell, hB1.cell, hB2.cell, hB9.cell, hB2.cell, hB9.cell] at k13_6
               refine hx_seq (hx_seq (hx_region ?_))
               iterate 4 refine WL.qq (by simp only [EN, Nat.reduceEqDiff, reduceIte, qv_move, i19_6, strEq, hB1.cell, hB2.cell, hB9.cell, hB1.cell, hB2.cell, hB9.cell, hB2.cell, hB9.cell, hB2.cell, hB9.cell, k0_6, qv_len, ln22, AR, qv_binOp, binv_lss]; rfl) ?_
               refine WL.nil (th_norm ?_)
               refine hx_cond (by simp only [EN, Nat.reduceEqDiff, reduceIte, strEq, hB1.cell, hB2.cell, hB9.cell, hB1.cell, hB2.cell, hB9.cell, hB2.cell, hB9.cell, hB2.cell, hB9.cell]; rfl) (fun hct235 => ?_) (fun hct235 => ?_)
               ·
                try simp only [BD] at hct235
                refine hx_skip (th_norm (hx_seq (hx_block ?_)))
                apply hx_draw2 Rel.grows [6, 7, 8] [4, 5] [(4, (Spec.own (Array.size hL6) tyI 1 os.length ((List.replicate os.length (0 : Int)).flatMap intL))), (5, (Spec.lr (Array.size hL6) os.length))] rfl (by decide +kernel) rfl
                iterate 4 refine LD.qq rfl rfl (by simp only [EN, Nat.reduceEqDiff, reduceIte, qv_fieldAddr, fa34_4, Nat.zero_add, Nat.reduceAdd, k13_6, strEq, hB1.cell, hB2.cell, hB9.cell, hB1.cell, hB2.cell, hB9.cell, hB2.cell, hB9.cell, hB2.cell, hB9.cell, qv_load, ld32, readN, AR, qv_move, k1_6, qv_len, ln23]; rfl) ?_
                refine LD.es rfl rfl (by intro hD hr hf; have hx : Ext _ _ := hr; have hX := hX.ext hx; have hB2 := hB2.ext hx; have hB9 := hB9.ext hx; have hso := hso.ext hx; have hvR := hvR.ext hx; have hc := hc.ext hx; have hrz := hrz.ext hx; exact EOp.mono (e_makeSl (n := os.length) (sz := 1) (bytes := 8) Tryz.underlying55 (inf_of Tryz.type2) rfl rfl rfl (by simp only [EN, Nat.reduceEqDiff, reduceIte, k0_6, k1_6, k8_6, k13_6, i19_6, strEq, hB1.cell, hB2.cell, hB9.cell, hB1.cell, hB2.cell, hB9.cell, hB2.cell, hB9.cell, hB2.cell, hB9.cell] <;> rfl) (by simp only [EN, Nat.reduceEqDiff, reduceIte, k0_6, k1_6, k8_6, k13_6, i19_6, strEq, hB1.cell, hB2.cell, hB9.cell, hB1.cell, hB2.cell, hB9.cell, hB2.cell, hB9.cell, hB2.cell, hB9.cell] <;> rfl) (by omega) (by simp only [maxLen]; omega)) (fun v h' hh => by obtain ⟨q1, rfl, q3⟩ := hh; exact ⟨q1, ⟨_, _, rfl⟩, by have h9 := q3.base hx.size; have hzf := made_flat (f := intL) (sz := 1) (z := (0 : Int)) (zc := (#[iV 0] : Array Value)) rfl rfl (by decide) os.length; show Own _ _ _ _ _ _ _; rw [← hzf]; exact h9⟩)) ?_
                intro u54_4 w54_4
                obtain ⟨a54, c54, rfl⟩ := w54_4
                refine LD.es rfl rfl (by intro hD hr hf; have hx : Ext _ _ := hr; have hX := hX.ext hx; have hB2 := hB2.ext hx; have hB9 := hB9.ext hx; have hso := hso.ext hx; have hvR := hvR.ext hx; have hc := hc.ext hx; have hrz := hrz.ext hx; have m4 := hf (4, .slice a54 os.length c54) (by simp) (by show tb _ _ 4 = true; decide +kernel) _ rfl; exact EOp.mono (e_lit1 (N := Array.size hL6) (c := #[.slice a54 os.length c54]) hx.size Tryz.underlying32 sz55 zr55 (by decide) (by simp only [EN, Nat.reduceEqDiff, reduceIte, k0_6, k1_6, k8_6, k13_6, i19_6, strEq, hB1.cell, hB2.cell, hB9.cell, hB1.cell, hB2.cell, hB9.cell, hB2.cell, hB9.cell, hB2.cell, hB9.cell, Value.cells] <;> rfl) rfl) (fun v h' hh => by obtain ⟨q1, ⟨B, q2, rfl⟩, q3⟩ := hh; exact ⟨q1, ⟨B, q2, rfl⟩, fun B' hB' => by cases hB'; exact ⟨⟨a54, os.length, c54⟩, rfl, q3 B rfl, (SlR.own (f := intL) (sz := 1) (fun _ => rfl) m4 List.length_replicate.symm).ext q1⟩⟩)) ?_
                intro u54_5 w54_5
                obtain ⟨B54, hlt54, rfl⟩ := w54_5
                refine LD.skip rfl ?_
                refine LD.skip rfl ?_
                refine LD.skip rfl ?_
                refine LD.nil ?_
                rintro h20 hx20 hF54
                replace hx20 : Ext _ _ := hx20
                replace hX := hX.ext hx20
                replace hB2 := hB2.ext hx20
                replace hB9 := hB9.ext hx20
                replace hso := hso.ext hx20
                replace hvR := hvR.ext hx20
                replace hc := hc.ext hx20
                replace hrz := hrz.ext hx20
                obtain ⟨xr, hxn, hB54, hrR⟩ := hF54 (5, .slice (some ⟨B54, 0, none⟩) 1 1) (by simp) _ rfl B54 rfl
                refine WL.appG (f := svL) (base := h.size) (n := i2) (xs := rows.flatMap svL) (bytes := 24) (sz := 1) (L := [xr]) Tryz.underlying32 (inf_of Tryz.type55) rfl rfl rfl rfl (by decide) (fun _ => rfl) svL_one (by simp only [EN, Nat.reduceEqDiff, reduceIte, k0_6, k1_6, k8_6, k13_6, i19_6, strEq, hB1.cell, hB2.cell, hB9.cell, hB1.cell, hB2.cell, hB9.cell, hB2.cell, hB9.cell, hB2.cell, hB9.cell] <;> rfl) hc (by simp only [EN, Nat.reduceEqDiff, reduceIte, k0_6, k1_6, k8_6, k13_6, i19_6, strEq, hB1.cell, hB2.cell, hB9.cell, hB1.cell, hB2.cell, hB9.cell, hB2.cell, hB9.cell, hB2.cell, hB9.cell] <;> rfl) rfl (by intro hh; cases hh) (slG_has (f := svL) (sz := 1) (fun _ => rfl) hB54 rfl) (by simp only [maxLen, List.length_singleton]; omega) (by rw [List.length_singleton]; omega) hX.size ?_
                intro h40 v40 hv40 hg40 hpl40 hn40
                have hX40 := hg40.ext hX (fun c h9 => (hc.block c h9).1)
                have hB240 := hB2.gr hg40 (hc.ncell hB2 (by decide))
                have hB940 := hB9.gr hg40 (hc.ncell hB9 (by decide))
                have hso40 := hso.gro hg40 hc (by decide)
                have hvR40 := hvR.gro hg40 hc (by decide)
                have hrz40 := hrz.gro hg40 hc (by decide)
                have hrR40 := hrR.gro hg40 hc (by decide)
                rw [List.length_singleton] at hv40
                obtain ⟨a40, c40, rfl, _⟩ := hv40.shape
                replace hB9 := hB940
                refine WL.qq (by simp only [EN, Nat.reduceEqDiff, reduceIte, qv_fieldAddr, fa34_4, Nat.zero_add, Nat.reduceAdd, k13_6, strEq, hB1.cell, hB2.cell, hB9.cell, hB1.cell, hB2.cell, hB9.cell, hB2.cell, hB9.cell, hB2.cell, hB9.cell]; rfl) ?_
                refine WL.store (by simp only [EN, Nat.reduceEqDiff, reduceIte, strEq, hB1.cell, hB2.cell, hB9.cell, hB1.cell, hB2.cell, hB9.cell, hB2.cell, hB9.cell, hB2.cell, hB9.cell] <;> rfl) sz32 (by simp only [EN, Nat.reduceEqDiff, reduceIte, Value.cells, strEq, hB1.cell, hB2.cell, hB9.cell, hB1.cell, hB2.cell, hB9.cell, hB2.cell, hB9.cell, hB2.cell, hB9.cell] <;> rfl) rfl hB9 (by first | (simp [true_and]; done) | (simp [true_and]; omega) | omega) (by simp [Value.oneCell']) ?_
                intro h21 hw21
                replace hX := hw21.ext hX40 hb9
                replace hB2 := hB240.wr hw21 hn29
                replace hso := hso40.wr hw21 hB940 (by decide)
                replace hvR := hvR40.wr hw21 hB940 (by decide)
                replace hrz := hrz40.wr hw21 hB940 (by decide)
                have hrR41 := hrR40.wr hw21 hB940 (by decide)
                have hc41 := hv40.keep (h' := h21) (fun c h9 => hw21.same c (fun hh => by subst hh; exact hv40.ncell hB940 (by decide) h9))
                replace hB9 := hw21.at_
                try simp only [splc, List.take_succ_cons, List.take_zero, List.take_nil, List.drop_succ_cons, List.drop_zero, List.drop_nil, List.cons_append, List.nil_append, List.length_cons, List.length_nil, Nat.zero_add, Nat.add_zero, Nat.reduceAdd, List.append_nil] at hB9
                refine WL.nil (bl_norm (th_norm (hx_region ?_)))
                iterate 3 refine WL.qq (by simp only [EN, Nat.reduceEqDiff, reduceIte, qv_move, i19_6, strEq, hB1.cell, hB2.cell, hB9.cell, hB1.cell, hB2.cell, hB9.cell, hB2.cell, hB9.cell, hB2.cell, hB9.cell, qv_binOp, binv_add, qv_assign]; (try simp (disch := omega) only [w64, w8, wu64]); rfl) ?_
                refine WL.nil (th_norm ?_)
                refine ⟨rfl, ?_, _, ?_, i2 + 1, a40, c40, rows ++ [xr], rfl, ?_, ?_, ?_, ?_, ?_, ?_, ?_, ?_, ?_, ?_⟩
                · (repeat (first | exact Fr.refl _ _ | refine Fr.set rfl ?_ | refine Fr.put rfl ?_ | with_reducible refine Fr.put0 ?_))
                · omega
                · omega
                · exact hX
                · exact hB2
                · exact hB9
                · exact hso
                · exact hvR
                · rw [List.flatMap_append]; exact hc41
                · rw [List.length_append, hrl]; rfl
                · intro v hv; rcases List.mem_append.1 hv with hv | hv; exact hrz v hv; (simp at hv; subst hv; exact ⟨hxn, hrR41⟩)
                · simp only [EN, Nat.reduceEqDiff, reduceIte, k0_6, k1_6, k8_6, k13_6, i19_6, strEq, hB1.cell, hB2.cell, hB9.cell, hB1.cell, hB2.cell, hB9.cell, hB2.cell, hB9.cell, hB2.cell, hB9.cell] <;> first | rfl | (congr 1; omega)
               ·
                try simp only [BD] at hct235
                obtain rfl : i2 = l.length := (by omega)
                have hcR := SlR.own (f := svL) (sz := 1) (fun _ => rfl) hc hrl.symm; have hcc : l.length ≤ cc := (by obtain ⟨a9, c9, h9, h8, _⟩ := hc.shape; cases h9; exact h8)
                refine hx_exit (th_exit (th_exit (bl_hit (th_norm (hx_seq (hx_region ?_))))))
                refine WL.qq (by simp only [EN, Nat.reduceEqDiff, reduceIte, qv_load, ld34, readN, AR, Nat.zero_add, Nat.reduceAdd, k13_6, strEq, hB1.cell, hB2.cell, hB9.cell, hB1.cell, hB2.cell, hB9.cell, hB2.cell, hB9.cell, hB2.cell, hB9.cell]; rfl) ?_
                refine WL.store (by simp only [EN, Nat.reduceEqDiff, reduceIte, k8_6, strEq, hB1.cell, hB2.cell, hB9.cell, hB1.cell, hB2.cell, hB9.cell, hB2.cell, hB9.cell, hB2.cell, hB9.cell] <;> rfl) sz34 (by simp only [EN, Nat.reduceEqDiff, reduceIte, Value.cells, k8_6, strEq, hB1.cell, hB2.cell, hB9.cell, hB1.cell, hB2.cell, hB9.cell, hB2.cell, hB9.cell, hB2.cell, hB9.cell] <;> rfl) rfl hB2 (by first | (simp [true_and]; done) | (simp [true_and]; omega) | omega) (by simp [Value.oneCell']) ?_
                intro h22 hw22
                have hXe := hw22.ext hX hb2
                replace hso := hso.wr hw22 hB2 (by decide)
                replace hvR := hvR.wr hw22 hB2 (by decide)
                replace hcR := hcR.wr hw22 hB2 (by decide)
                replace hrz := hrz.wr hw22 hB2 (by decide)
                replace hB2 := hw22.at_
                try simp only [splc, List.take_succ_cons, List.take_zero, List.take_nil, List.drop_succ_cons, List.drop_zero, List.drop_nil, List.cons_append, List.nil_append, List.length_cons, List.length_nil, Nat.zero_add, Nat.add_zero, Nat.reduceAdd, List.append_nil] at hB2
                refine WL.qq (by simp only [EN, Nat.reduceEqDiff, reduceIte, qv_assign, strEq, hB1.cell, hB2.cell, hB9.cell, hB1.cell, hB2.cell, hB9.cell, hB2.cell, hB9.cell, hB2.cell, hB9.cell]; rfl) ?_
                refine WL.nil (th_norm (hx_ret ?_))
                refine fin_ret [.cell 8 34, .tmp 9] rfl rfl (by simp only [EN, Nat.reduceEqDiff, reduceIte, resv, ld34, readN, AR, Nat.zero_add, Nat.reduceAdd, k0_6, k1_6, k8_6, k13_6, i19_6, strEq, hB1.cell, hB2.cell, hB9.cell, hB1.cell, hB2.cell, hB9.cell, hB2.cell, hB9.cell, hB2.cell, hB9.cell]; rfl) ?_
                refine ⟨hXe, _, by rw [hez]; rfl, .inr ⟨hez, .slice av l.length cv, .slice a21 os.length c21, .slice ac l.length cc, by simp only [reV, newE, h91, Int.toNat_natCast], ⟨⟨av, cv, by simp only [newE, hOl], by simp only [newE, hOl]; exact hcv, hvR⟩, ⟨a21, c21, rfl, hoc, hso⟩, ⟨ac, cc, rows, by simp only [newE, hOl], by simp only [newE, hOl]; exact hcc, hcR, by simp only [newE, hOl]; exact hrl, ?_⟩⟩⟩⟩
                intro i x hx
                obtain ⟨v, hv⟩ := atG (l := rows) (i := i) (by have h9 := (List.getElem?_eq_some_iff.1 hx).1; simp only [newE] at h9; omega)
                have h9 := hrz v (List.mem_of_getElem? hv)
                refine ⟨v.a, v.c, ?_, by rw [rowM_new]; exact h9.2⟩
                rw [hv]; congr 1; have h8 := h9.1; cases v; simp only at h8; subst h8; rfl
end GL
namespace GL
open Go Go.Proofs
set_option maxRecDepth 8000
set_option maxHeartbeats 2000000 in
theorem c_new (al : Option Addr) (l : List SI) (cl : Nat) (ao : Option Addr) (os : List SI) (co : Nat) (s : ByteArray) (d m : Int) (hl : l.length ≤ 1000000) (hol : os.length ≤ 1000000) (hoc : os.length ≤ co) (hb : ∀ x ∈ os, x.s.size ≤ 9223372036854775807) (hon : ao = none → co = 0)
    {h : Heap} (hs : SlG 2 siL h al l) (ho : SlG 2 siL h ao os) :
    HCalls Tryz.prog 29 #[.slice al l.length cl, .slice ao os.length co, .string s, .agg #[iV d, iV m]] h fun v h' => Ext h h' ∧
      ((erN l os s d m ≠ 0 ∧ v = .tuple #[.pointer none, iV (erN l os s d m)]) ∨ (erN l os s d m = 0 ∧ ∃ p b vh vo, v = .tuple #[.pointer (some ⟨p, 0, none⟩), iV 0] ∧ IsE h' h.size p b vh vo (newE l os s d m))) := by
  refine hcalls2 Tryz.func29 rfl (by decide +kernel) (by simp only [Tryz.ntmps29]; exact of_decide_eq_true rfl) ?_
  intro e hin
  have e0 := hin 0 _ rfl
  have e1 := hin 1 _ rfl
  have e2 := hin 2 _ rfl
  have e3 := hin 3 _ rfl
  refine hx_seq (hx_region ?_)
  refine WL.box2 (by simp only [EN, Nat.reduceEqDiff, reduceIte, Value.cells, e3]; rfl) ?_
  intro h1 B1 hx1 hlt1 hB1
  replace hs := hs.ext hx1
  replace ho := ho.ext hx1
  iterate 2 refine WL.qq (by simp only [EN, Nat.reduceEqDiff, reduceIte, qv_assign, hB1.cell]; rfl) ?_
  refine WL.nil (th_norm (hx_seq (hx_seq (hx_region ?_))))
  refine WL.qq (by simp only [EN, Nat.reduceEqDiff, reduceIte, qv_move, e0, hB1.cell]; rfl) ?_
  refine WL.cg Tryz.call47 (by simp only [EN, Nat.reduceEqDiff, reduceIte, AR, hB1.cell]; exact c_chkH al l cl hl hs) ?_
  intro h2 hx2
  replace hs := hs.ext hx2
  replace ho := ho.ext hx2
  replace hB1 := hB1.ext hx2
  refine WL.qq (by simp only [EN, Nat.reduceEqDiff, reduceIte, qv_move, e1, hB1.cell]; rfl) ?_
  refine WL.cg Tryz.call48 (by simp only [EN, Nat.reduceEqDiff, reduceIte, AR, hB1.cell]; exact c_chkO ao os co hol hoc hb ho) ?_
  intro h3 hx3
  replace hs := hs.ext hx3
  replace ho := ho.ext hx3
  replace hB1 := hB1.ext hx3
  refine WL.lit2 #[(.int .i64 0), (.int .i64 0)] Tryz.underlying108 sz46 zr46 (by decide) (by kernel_rfl) ⟨_, (by simp only [EN, Nat.reduceEqDiff, reduceIte, AR, hB1.cell]; simp [Instr.fill, Value.cells]; rfl), rfl⟩ ?_
  intro h4 B4 hx4 hlt4 hB4
  replace hs := hs.ext hx4
  replace ho := ho.ext hx4
  replace hB1 := hB1.ext hx4
  iterate 2 refine WL.qq (by simp only [EN, Nat.reduceEqDiff, reduceIte, qv_len, ln108, AR, hB1.cell, hB4.cell, qv_move]; rfl) ?_
  refine WL.nil (th_norm (hx_block ?_))
  refine hx_loopS [8, 9, 11, 22, 23, 24, 25, 26, 27, 28, 29] (fun k e => ∃ (i : Nat), 2 - i = k ∧ (i ≤ 2) ∧ ((0 < i → erH l = 0)) ∧ ((1 < i → erO os = 0)) ∧ e 22 = .int .i64 i) _ ⟨0, rfl, ?_, ?_, ?_, ?_⟩ ?_
  · omega
  · intro h9; omega
  · intro h9; omega
  · simp only [EN, Nat.reduceEqDiff, reduceIte, e0, e1, e2, e3, hB1.cell, hB4.cell] <;> rfl
  ·
   rintro k e0L hfr0 ⟨i, rfl, hi, hH, hO, i22_0⟩
   have k0_0 := hfr0 0 rfl; try simp only [EN, Nat.reduceEqDiff, reduceIte, e0, hB1.cell, hB4.cell] at k0_0
   have k1_0 := hfr0 1 rfl; try simp only [EN, Nat.reduceEqDiff, reduceIte, e1, hB1.cell, hB4.cell] at k1_0
   have k2_0 := hfr0 2 rfl; try simp only [EN, Nat.reduceEqDiff, reduceIte, e2, hB1.cell, hB4.cell] at k2_0
   have k7_0 := hfr0 7 rfl; try simp only [EN, Nat.reduceEqDiff, reduceIte, hB1.cell, hB4.cell] at k7_0
   have k20_0 := hfr0 20 rfl; try simp only [EN, Nat.reduceEqDiff, reduceIte, hB1.cell, hB4.cell] at k20_0
   have k21_0 := hfr0 21 rfl; try simp only [EN, Nat.reduceEqDiff, reduceIte, hB1.cell, hB4.cell] at k21_0
   refine hx_seq (hx_region ?_)
   refine WL.qq (by simp only [EN, Nat.reduceEqDiff, reduceIte, qv_binOp, binv_lss, k21_0, i22_0, hB1.cell, hB4.cell]; rfl) ?_
   refine WL.nil (th_norm (hx_seq ?_))
   refine hx_cond (by simp only [EN, Nat.reduceEqDiff, reduceIte, hB1.cell, hB4.cell]; rfl) (fun hct23 => ?_) (fun hct23 => ?_)
   ·
    try simp only [BD] at hct23
    refine hx_skip (th_norm (hx_seq (hx_block (hx_seq ?_))))
    rcases (show i = 0 ∨ i = 1 by omega) with rfl | rfl
    ·
     refine hx_region ?_
     refine WL.qq (by simp only [EN, Nat.reduceEqDiff, reduceIte, qv_indexAddr, k20_0, i22_0, hB1.cell, hB4.cell]; (try simp (disch := omega) only [ix108, Int.toNat_natCast]); rfl) ?_
     iterate 2 refine WL.qq (by simp only [EN, Nat.reduceEqDiff, reduceIte, qv_load, ld46, readN, AR, Nat.zero_add, Nat.reduceAdd, hB1.cell, hB4.cell, qv_assign]; rfl) ?_
     refine WL.nil (th_norm (hx_seq (hx_region ?_)))
     iterate 2 refine WL.qq (by simp only [EN, Nat.reduceEqDiff, reduceIte, qv_move, hB1.cell, hB4.cell, qv_binOp, binv_neq, eq46, Option.map_some]; rfl) ?_
     refine WL.nil (th_norm ?_)
     refine hx_cond (by simp only [EN, Nat.reduceEqDiff, reduceIte, hB1.cell, hB4.cell]; rfl) (fun hct27 => ?_) (fun hct27 => ?_)
     ·
      try simp only [BD] at hct27
      refine hx_seq (hx_region ?_)
      iterate 3 refine WL.qq (by simp only [EN, Nat.reduceEqDiff, reduceIte, qv_move, hB1.cell, hB4.cell, qv_assign]; rfl) ?_
      refine WL.nil (th_norm (hx_ret (bl_ret (th_ret (th_ret (bl_ret (th_ret ?_)))))))
      refine fin_ret [.tmp 8, .tmp 9] rfl rfl (by simp only [EN, Nat.reduceEqDiff, reduceIte, resv, k0_0, k1_0, k2_0, k7_0, k20_0, k21_0, i22_0, hB1.cell, hB4.cell]; rfl) ?_
      have he : erN l os s d m = erH l := (by unfold erN; rw [if_pos (by omega)])
      exact ⟨((hx1).trans ((hx2).trans ((hx3).trans (hx4)))), .inl ⟨by rw [he]; omega, by rw [he]; rfl⟩⟩
     ·
      try simp only [BD] at hct27
      refine hx_skip (bl_norm (th_norm (hx_region ?_)))
      iterate 2 refine WL.qq (by simp only [EN, Nat.reduceEqDiff, reduceIte, qv_binOp, binv_add, i22_0, hB1.cell, hB4.cell, qv_move]; (try simp (disch := omega) only [w64, w8, wu64]); rfl) ?_
      refine WL.nil (th_norm ?_)
      refine ⟨rfl, rfl, ?_, _, ?_, 1, rfl, ?_, ?_, ?_, ?_⟩
      · (repeat (first | exact Fr.refl _ _ | refine Fr.set rfl ?_ | refine Fr.put rfl ?_ | with_reducible refine Fr.put0 ?_))
      · omega
      · omega
      · intro _; omega
      · intro h9; omega
      · simp only [EN, Nat.reduceEqDiff, reduceIte, k0_0, k1_0, k2_0, k7_0, k20_0, k21_0, i22_0, hB1.cell, hB4.cell] <;> first | rfl | (congr 1; omega)
    ·
     refine hx_region ?_
     refine WL.qq (by simp only [EN, Nat.reduceEqDiff, reduceIte, qv_indexAddr, k20_0, i22_0, hB1.cell, hB4.cell]; (try simp (disch := omega) only [ix108, Int.toNat_natCast]); rfl) ?_
     iterate 2 refine WL.qq (by simp only [EN, Nat.reduceEqDiff, reduceIte, qv_load, ld46, readN, AR, Nat.zero_add, Nat.reduceAdd, hB1.cell, hB4.cell, qv_assign]; rfl) ?_
     refine WL.nil (th_norm (hx_seq (hx_region ?_)))
     iterate 2 refine WL.qq (by simp only [EN, Nat.reduceEqDiff, reduceIte, qv_move, hB1.cell, hB4.cell, qv_binOp, binv_neq, eq46, Option.map_some]; rfl) ?_
     refine WL.nil (th_norm ?_)
     refine hx_cond (by simp only [EN, Nat.reduceEqDiff, reduceIte, hB1.cell, hB4.cell]; rfl) (fun hct27 => ?_) (fun hct27 => ?_)
     ·
      try simp only [BD] at hct27
      refine hx_seq (hx_region ?_)
      iterate 3 refine WL.qq (by simp only [EN, Nat.reduceEqDiff, reduceIte, qv_move, hB1.cell, hB4.cell, qv_assign]; rfl) ?_
      refine WL.nil (th_norm (hx_ret (bl_ret (th_ret (th_ret (bl_ret (th_ret ?_)))))))
      refine fin_ret [.tmp 8, .tmp 9] rfl rfl (by simp only [EN, Nat.reduceEqDiff, reduceIte, resv, k0_0, k1_0, k2_0, k7_0, k20_0, k21_0, i22_0, hB1.cell, hB4.cell]; rfl) ?_
      have he : erN l os s d m = erO os := (by unfold erN; rw [if_neg (by have := hH (by omega); omega), if_pos (by omega)])
      exact ⟨((hx1).trans ((hx2).trans ((hx3).trans (hx4)))), .inl ⟨by rw [he]; omega, by rw [he]; rfl⟩⟩
     ·
      try simp only [BD] at hct27
      refine hx_skip (bl_norm (th_norm (hx_region ?_)))
      iterate 2 refine WL.qq (by simp only [EN, Nat.reduceEqDiff, reduceIte, qv_binOp, binv_add, i22_0, hB1.cell, hB4.cell, qv_move]; (try simp (disch := omega) only [w64, w8, wu64]); rfl) ?_
      refine WL.nil (th_norm ?_)
      refine ⟨rfl, rfl, ?_, _, ?_, 2, rfl, ?_, ?_, ?_, ?_⟩
      · (repeat (first | exact Fr.refl _ _ | refine Fr.set rfl ?_ | refine Fr.put rfl ?_ | with_reducible refine Fr.put0 ?_))
      · omega
      · omega
      · intro _; exact hH (by omega)
      · intro _; omega
      · simp only [EN, Nat.reduceEqDiff, reduceIte, k0_0, k1_0, k2_0, k7_0, k20_0, k21_0, i22_0, hB1.cell, hB4.cell] <;> first | rfl | (congr 1; omega)
   ·
    try simp only [BD] at hct23
    have h1 := hH (by omega); have h2 := hO (by omega); have oh := erH_0.1 h1; have oo := erO_0 h2
    have heN : erN l os s d m = if idxS s os < 0 then 9 else if capE os (idxS s os) ≠ 0 then 11 else if clkE d m ≠ 0 then 28 else 0 := (by unfold erN; rw [h1, h2]; rfl)
    refine hx_exit (th_exit (th_exit (bl_hit (th_norm (hx_seq (hx_region ?_))))))
    iterate 2 refine WL.qq (by simp only [EN, Nat.reduceEqDiff, reduceIte, qv_move, k1_0, hB1.cell, hB4.cell, k2_0]; rfl) ?_
    refine WL.cg Tryz.call44 (by simp only [EN, Nat.reduceEqDiff, reduceIte, AR, hB1.cell, hB4.cell]; exact c_find s ao os co hol ho) ?_
    intro h5 hx5
    replace hs := hs.ext hx5
    replace ho := ho.ext hx5
    replace hB1 := hB1.ext hx5
    replace hB4 := hB4.ext hx5
    refine WL.qq (by simp only [EN, Nat.reduceEqDiff, reduceIte, qv_assign, hB1.cell, hB4.cell]; rfl) ?_
    refine WL.nil (th_norm (hx_seq (hx_region ?_)))
    refine WL.qq (by simp only [EN, Nat.reduceEqDiff, reduceIte, qv_load, ld49, readN, AR, Nat.zero_add, Nat.reduceAdd, k7_0, hB1.cell, hB4.cell]; rfl) ?_
    refine WL.ce Tryz.call49 (by simp only [EN, Nat.reduceEqDiff, reduceIte, AR, hB1.cell, hB4.cell]; exact c_fclock d m _) ?_
    rintro _ h6 ⟨hx6, sx, rfl⟩
    replace hs := hs.ext hx6
    replace ho := ho.ext hx6
    replace hB1 := hB1.ext hx6
    replace hB4 := hB4.ext hx6
    simp only [put_some]
    iterate 5 refine WL.qq (by simp only [EN, Nat.reduceEqDiff, reduceIte, qv_move, hB1.cell, hB4.cell, qv_extract, AR, qv_assign]; rfl) ?_
    refine WL.nil (th_norm (hx_seq (hx_block (hx_seq (hx_region ?_)))))
    iterate 3 refine WL.qq (by simp only [EN, Nat.reduceEqDiff, reduceIte, qv_move, hB1.cell, hB4.cell, qv_binOp, binv_lss, qv_assign]; rfl) ?_
    refine WL.nil (th_norm ?_)
    refine hx_cond (by simp only [EN, Nat.reduceEqDiff, reduceIte, hB1.cell, hB4.cell]; rfl) (fun hct38 => ?_) (fun hct38 => ?_)
    ·
     try simp only [BD] at hct38
     refine hx_seq (hx_region ?_)
     iterate 2 refine WL.qq (by simp only [EN, Nat.reduceEqDiff, reduceIte, qv_assign, hB1.cell, hB4.cell]; rfl) ?_
     refine WL.nil (th_norm (hx_ret (bl_ret (th_ret ?_))))
     refine fin_ret [.tmp 8, .tmp 9] rfl rfl (by simp only [EN, Nat.reduceEqDiff, reduceIte, resv, k0_0, k1_0, k2_0, k7_0, k20_0, k21_0, i22_0, hB1.cell, hB4.cell]; rfl) ?_
     have he : erN l os s d m = 9 := (by rw [heN, if_pos (by omega)])
     exact ⟨((hx1).trans ((hx2).trans ((hx3).trans ((hx4).trans ((hx5).trans (hx6)))))), .inl ⟨by rw [he]; decide, by rw [he]; rfl⟩⟩
    ·
     try simp only [BD] at hct38
     obtain ⟨i9, x9, h91, hx9, _⟩ : ∃ i x, idxS s os = (i : Nat) ∧ os[i]? = some x ∧ x.s = s ∧ ∀ y ∈ os.take i, y.s ≠ s := (idxS_cases s os).resolve_left (fun hh => by omega)
     have hi9 := (List.getElem?_eq_some_iff.1 hx9).1; have hq9 := oo.q x9 (List.mem_of_getElem? hx9); have hcap : capE os (idxS s os) = x9.n := (by unfold capE; rw [h91, Int.toNat_natCast, hx9]; rfl)
     rw [if_neg (by omega), hcap] at heN; obtain ⟨b1, o1, ha1, _, _, hr3⟩ := si_rd ho hx9
     refine hx_seq (hx_region ?_)
     iterate 3 refine WL.qq (by simp only [EN, Nat.reduceEqDiff, reduceIte, qv_move, k1_0, hB1.cell, hB4.cell, qv_indexAddr, ha1, h91]; (try simp (disch := omega) only [ix81, Int.toNat_natCast]); rfl) ?_
     refine WL.qq (by simp only [EN, Nat.reduceEqDiff, reduceIte, qv_fieldAddr, fa80_1, Nat.zero_add, Nat.reduceAdd, hB1.cell, hB4.cell]; rfl) ?_
     refine WL.qq (by simp only [EN, Nat.reduceEqDiff, reduceIte, k0_0, k1_0, k2_0, k7_0, k20_0, k21_0, i22_0, hB1.cell, hB4.cell, qv_load, ld2, Int.toNat_natCast, hr3]; rfl) ?_
     iterate 2 refine WL.qq (by simp only [EN, Nat.reduceEqDiff, reduceIte, qv_binOp, binv_neq, eq2, Option.map_some, hB1.cell, hB4.cell, qv_assign]; rfl) ?_
     refine WL.nil (th_norm ?_)
     refine hx_cond (by simp only [EN, Nat.reduceEqDiff, reduceIte, hB1.cell, hB4.cell]; rfl) (fun hct41 => ?_) (fun hct41 => ?_)
     ·
      try simp only [BD] at hct41
      refine hx_seq (hx_region ?_)
      iterate 2 refine WL.qq (by simp only [EN, Nat.reduceEqDiff, reduceIte, qv_assign, hB1.cell, hB4.cell]; rfl) ?_
      refine WL.nil (th_norm (hx_ret (bl_ret (th_ret ?_))))
      refine fin_ret [.tmp 8, .tmp 9] rfl rfl (by simp only [EN, Nat.reduceEqDiff, reduceIte, resv, k0_0, k1_0, k2_0, k7_0, k20_0, k21_0, i22_0, hB1.cell, hB4.cell]; rfl) ?_
      have he : erN l os s d m = 11 := (by rw [heN, if_pos (by omega)])
      exact ⟨((hx1).trans ((hx2).trans ((hx3).trans ((hx4).trans ((hx5).trans (hx6)))))), .inl ⟨by rw [he]; decide, by rw [he]; rfl⟩⟩
     ·
      try simp only [BD] at hct41
      rw [if_neg (by omega)] at heN
      refine hx_seq (hx_region ?_)
      iterate 3 refine WL.qq (by simp only [EN, Nat.reduceEqDiff, reduceIte, qv_move, hB1.cell, hB4.cell, qv_binOp, binv_neq, eq46, Option.map_some, qv_assign]; rfl) ?_
      refine WL.nil (th_norm ?_)
      refine hx_cond (by simp only [EN, Nat.reduceEqDiff, reduceIte, hB1.cell, hB4.cell]; rfl) (fun hct48 => ?_) (fun hct48 => ?_)
      ·
       try simp only [BD] at hct48
       refine hx_seq (hx_region ?_)
       iterate 2 refine WL.qq (by simp only [EN, Nat.reduceEqDiff, reduceIte, qv_assign, hB1.cell, hB4.cell]; rfl) ?_
       refine WL.nil (th_norm (hx_ret (bl_ret (th_ret ?_))))
       refine fin_ret [.tmp 8, .tmp 9] rfl rfl (by simp only [EN, Nat.reduceEqDiff, reduceIte, resv, k0_0, k1_0, k2_0, k7_0, k20_0, k21_0, i22_0, hB1.cell, hB4.cell]; rfl) ?_
       have he : erN l os s d m = 28 := (by rw [heN, if_pos (by omega)])
       exact ⟨((hx1).trans ((hx2).trans ((hx3).trans ((hx4).trans ((hx5).trans (hx6)))))), .inl ⟨by rw [he]; decide, by rw [he]; rfl⟩⟩
      ·
       try simp only [BD] at hct48
       have hez : erN l os s d m = 0 := (by rw [heN, if_neg (by omega)])
       refine hx_skip (bl_norm (th_norm (hx_seq (hx_region ?_))))
       refine WL.qq (by simp only [EN, Nat.reduceEqDiff, reduceIte, qv_move, k0_0, hB1.cell, hB4.cell]; rfl) ?_
       refine WL.ce Tryz.call51 (by simp only [EN, Nat.reduceEqDiff, reduceIte, AR, hB1.cell, hB4.cell]; exact c_hValues al cl l _) ?_
       rintro _ h7 ⟨hx7, Bv, rfl, hBv⟩
       replace hs := hs.ext hx7
       replace ho := ho.ext hx7
       replace hB1 := hB1.ext hx7
       replace hB4 := hB4.ext hx7
       simp only [put_some]
       have hz7 := Ext.size ((hx1).trans ((hx2).trans ((hx3).trans ((hx4).trans ((hx5).trans ((hx6).trans (hx7)))))))
       refine WL.ce Tryz.call50 (by simp only [EN, Nat.reduceEqDiff, reduceIte, AR, hB1.cell, hB4.cell]; exact c_hSorted Bv al cl l hl hBv hs) ?_
       rintro _ h8 ⟨hx8, sL, hsp, hss, hoh⟩
       replace hs := hs.ext hx8
       replace ho := ho.ext hx8
       replace hB1 := hB1.ext hx8
       replace hB4 := hB4.ext hx8
       replace hBv := hBv.ext hx8
       simp only [put_some]
       obtain rfl := ordH_uni hsp oh.nd hss
       obtain ⟨a15, c15, rfl⟩ := hoh.slice
       refine WL.qq (by simp only [EN, Nat.reduceEqDiff, reduceIte, qv_assign, hB1.cell, hB4.cell]; rfl) ?_
       refine WL.nil (th_norm (hx_seq ?_))
       apply hx_draw2 Rel.grows [7, 8, 9] [2, 5] [(2, Spec.own h.size tyO 2 os.length (os.flatMap siL)), (5, Spec.mN pkV iV h.size [])] rfl (by decide +kernel) rfl
       iterate 2 refine LD.qq rfl rfl (by simp only [EN, Nat.reduceEqDiff, reduceIte, qv_move, hB1.cell, hB4.cell, k1_0]; rfl) ?_
       refine LD.es rfl rfl (by intro hD hr hf; have hx : Ext _ _ := hr; have hs := hs.ext hx; have ho := ho.ext hx; have hB1 := hB1.ext hx; have hB4 := hB4.ext hx; have hBv := hBv.ext hx; have hoh := hoh.ext hx; exact EOp.mono (e_call Tryz.call31 (by simp only [EN, Nat.reduceEqDiff, reduceIte, k0_0, k1_0, k2_0, k7_0, k20_0, k21_0, i22_0, hB1.cell, hB4.cell, List.map_toArray, List.map_cons, List.map_nil]; exact c_clO ao co _ hol ho hon)) (fun v h' hh => by obtain ⟨h1, h2⟩ := hh; obtain ⟨a', c', rfl⟩ := h2.slice; exact ⟨h1, ⟨a', c', rfl⟩, h2.base (Nat.le_trans (Ext.size ((hx1).trans ((hx2).trans ((hx3).trans ((hx4).trans ((hx5).trans ((hx6).trans ((hx7).trans (hx8))))))))) hx.size)⟩)) ?_
       intro u16_2 w16_2
       obtain ⟨a2, c2, rfl⟩ := w16_2
       iterate 2 refine LD.qq rfl rfl (by simp only [EN, Nat.reduceEqDiff, reduceIte, qv_move, hB1.cell, hB4.cell, qv_load, ld49, readN, AR, Nat.zero_add, Nat.reduceAdd, k7_0]; rfl) ?_
       refine LD.es rfl rfl (by intro hD hr hf; have hx : Ext _ _ := hr; have hs := hs.ext hx; have ho := ho.ext hx; have hB1 := hB1.ext hx; have hB4 := hB4.ext hx; have hBv := hBv.ext hx; have hoh := hoh.ext hx; exact EOp.mono e_makeMap (fun v h' hh => by obtain ⟨B, rfl, hn⟩ := hh; exact ⟨hn.ext, ⟨B, Nat.le_trans (Nat.le_trans (Ext.size ((hx1).trans ((hx2).trans ((hx3).trans ((hx4).trans ((hx5).trans ((hx6).trans ((hx7).trans (hx8))))))))) hx.size) hn.fresh, rfl⟩, fun B' hB' => by cases hB'; exact MapT.new hn.at_⟩)) ?_
       intro u16_5 w16_5
       obtain ⟨B5, hlt5, rfl⟩ := w16_5
       refine LD.qq rfl rfl (by refine qv_bld (by simp only [EN, Nat.reduceEqDiff, reduceIte, AR, hB1.cell, hB4.cell] <;> rfl) (by rw [bl85]; simp [Instr.fill, Value.cells]; rfl)) ?_
       refine LD.skip rfl ?_
       refine LD.skip rfl ?_
       refine LD.skip rfl ?_
       refine LD.nil ?_
       rintro h9 hx9 hF16
       replace hx9 : Ext _ _ := hx9
       replace hs := hs.ext hx9
       replace ho := ho.ext hx9
       replace hB1 := hB1.ext hx9
       replace hB4 := hB4.ext hx9
       replace hBv := hBv.ext hx9
       replace hoh := hoh.ext hx9
       have ho2 := hF16 (2, .slice a2 os.length c2) (by simp) _ rfl; have hm5 := hF16 (5, .map (some B5)) (by simp) _ rfl B5 rfl; have hsz := Ext.size ((hx1).trans ((hx2).trans ((hx3).trans ((hx4).trans ((hx5).trans ((hx6).trans ((hx7).trans ((hx8).trans (hx9)))))))))
       refine WL.box2 (by simp only [EN, Nat.reduceEqDiff, reduceIte, Value.cells, hB1.cell, hB4.cell]; rfl) ?_
       intro h10 B10 hx10 hlt10 hB10
       replace hs := hs.ext hx10
       replace ho := ho.ext hx10
       replace hB1 := hB1.ext hx10
       replace hB4 := hB4.ext hx10
       replace hBv := hBv.ext hx10
       replace hoh := hoh.ext hx10
       iterate 2 refine WL.qq (by simp only [EN, Nat.reduceEqDiff, reduceIte, qv_assign, hB1.cell, hB4.cell, hB10.cell]; rfl) ?_
       refine WL.nil (th_norm (hx_ret ?_))
       refine fin_ret [.tmp 8, .tmp 9] rfl rfl (by simp only [EN, Nat.reduceEqDiff, reduceIte, resv, k0_0, k1_0, k2_0, k7_0, k20_0, k21_0, i22_0, hB1.cell, hB4.cell, hB10.cell]; rfl) ?_
       exact ⟨((hx1).trans ((hx2).trans ((hx3).trans ((hx4).trans ((hx5).trans ((hx6).trans ((hx7).trans ((hx8).trans ((hx9).trans (hx10)))))))))), .inr ⟨hez, B10, B5, .slice a15 (ordH l).length c15, .slice a2 os.length c2, rfl, ⟨by have h9 := hB10; rw [h91] at h9; simpa only [newE, h91, Int.toNat_natCast] using h9, hoh.base hz7, ho2.ext hx10, hm5.ext hx10, ⟨by omega, hlt5⟩⟩⟩⟩
end GL
namespace GL
open Go Go.Proofs
set_option maxRecDepth 8000
abbrev svV (r : SV) : Value := .slice r.a r.n r.c
structure RowO (h : Heap) (N : Nat) (E : EL) (k : Nat) (rows : List SV) : Prop where
  len : rows.length = k
  own : ∀ (j : Nat) (r : SV) (x : SI), rows[j]? = some r → E.hs[j]? = some x → r.n = E.os.length ∧ Own h N tyI 1 (svV r) E.os.length ((rowM E x).flatMap intL)
  ap : ∀ (i j : Nat) (r r' : SV), rows[i]? = some r → rows[j]? = some r' → i ≠ j → ∀ c, (svV r).ownBlock = some c → (svV r').ownBlock ≠ some c
section
variable {h h' : Heap} {N k : Nat} {E : EL} {rows : List SV}
theorem RowO.nil : RowO h N E 0 [] := ⟨rfl, fun j r x hj => by simp at hj, fun i j r r' hi => by simp at hi⟩
theorem RowO.ext (hr : RowO h N E k rows) (hx : Ext h h') : RowO h' N E k rows := ⟨hr.len, fun j r x hj hx2 => ⟨(hr.own j r x hj hx2).1, (hr.own j r x hj hx2).2.ext hx⟩, hr.ap⟩
theorem Own.gro {el el' : TypeId} {sz sz' M n m : Nat} {u v : Value} {xs ys : List Value} (ho : Own h N el sz v n xs) (hg : Gr h h' u.ownBlock) (hu : Own h M el' sz' u m ys) (hT : el' ≠ el) : Own h' N el sz v n xs :=
  ho.keep fun c hc => hg.same c (ho.block c hc).2 fun hh => by
    obtain ⟨cu, hcu⟩ := hu.typ c hh
    exact ho.ncell hcu hT hc
theorem RowO.wr {b : Nat} {o : Obj} {c : Array Value} {T : TypeId} (hr : RowO h N E k rows) (hw : Wr h h' b o) (hb : Has h b (.cells c T)) (hT : T ≠ tyI) : RowO h' N E k rows :=
  ⟨hr.len, fun j r x hj hx2 => ⟨(hr.own j r x hj hx2).1, (hr.own j r x hj hx2).2.keep fun c hc => hw.same c fun hh => by
    subst hh
    exact (hr.own j r x hj hx2).2.ncell hb hT hc⟩, hr.ap⟩
theorem RowO.gro {el : TypeId} {sz M m : Nat} {v : Value} {xs : List Value} (hr : RowO h N E k rows) (hg : Gr h h' v.ownBlock) (ho : Own h M el sz v m xs) (hT : el ≠ tyI) : RowO h' N E k rows :=
  ⟨hr.len, fun j r x hj hx2 => ⟨(hr.own j r x hj hx2).1, (hr.own j r x hj hx2).2.keep fun c hc => hg.same c ((hr.own j r x hj hx2).2.block c hc).2 fun hh => by
    obtain ⟨cu, hcu⟩ := ho.typ c hh
    exact (hr.own j r x hj hx2).2.ncell hcu hT hc⟩, hr.ap⟩
end
end GL
namespace GL
open Go Go.Proofs
set_option maxRecDepth 8000
section
variable {t S : Nat} {ws : List Nat}
def Free (t S : Nat) (ws : List Nat) (k i : Nat) : Prop := i ∉ ((ordP (rst t S ws)).take k).map SP.i
def Bst (t S : Nat) (ws : List Nat) (k i : Nat) (b : Int) : Prop :=
  (b = -1 ∧ ∀ j, j < i → ¬ Free t S ws k j) ∨ ∃ q ∈ rst t S ws, b = q.i ∧ q.i < i ∧ Free t S ws k q.i ∧ ∀ z ∈ rst t S ws, z.i < i → Free t S ws k z.i → ¬ pLt z q
theorem Bst.zero {k : Nat} : Bst t S ws k 0 (-1) := .inl ⟨rfl, fun j hj => by omega⟩
theorem Bst.skip {k i : Nat} {b : Int} (h : Bst t S ws k i b) (hf : ¬ Free t S ws k i) : Bst t S ws k (i + 1) b := by
  rcases h with ⟨rfl, h⟩ | ⟨q, hq, hb, hlt, hfq, hz⟩
  · refine .inl ⟨rfl, fun j hj => ?_⟩
    by_cases hji : j = i
    · subst hji; exact hf
    · exact h j (by omega)
  · refine .inr ⟨q, hq, hb, by omega, hfq, fun z hzm hzi hzf => ?_⟩
    by_cases hji : z.i = i
    · rw [hji] at hzf; exact absurd hzf hf
    · exact hz z hzm (by omega) hzf
theorem rst_same {z q : SP} (hz : z ∈ rst t S ws) (hq : q ∈ rst t S ws) (h : z.i = q.i) : z = q := by
  have h1 := rst_idx hz
  rw [h, rst_idx hq] at h1
  exact (Option.some.inj h1).symm
theorem Bst.first {k i w : Nat} (h : Bst t S ws k i (-1)) (hw : ws[i]? = some w) (hf : Free t S ws k i) : Bst t S ws k (i + 1) i := by
  rcases h with ⟨_, h⟩ | ⟨q, hq, hb, hlt, hfq, hz⟩
  · have hm := List.mem_of_getElem? (rst_at (t := t) (S := S) hw)
    refine .inr ⟨_, hm, rfl, Nat.lt_succ_self _, hf, fun z hzm hzi hzf => ?_⟩
    by_cases hji : z.i = i
    · rw [rst_same hzm hm hji]; exact pLt_irrefl _
    · exact absurd hzf (h _ (by omega))
  · omega
theorem Bst.next {k i w : Nat} {q : SP} (hq : q ∈ rst t S ws) (h : Bst t S ws k i q.i) (hw : ws[i]? = some w) (hf : Free t S ws k i) : q.i < i ∧ Bst t S ws k (i + 1) (if q.r < t * w % S then (i : Int) else q.i) := by
  rcases h with ⟨hb, _⟩ | ⟨q2, hq2, hb, hlt, hfq, hz⟩
  · omega
  · obtain rfl : q = q2 := rst_same hq hq2 (by omega)
    have hm := List.mem_of_getElem? (rst_at (t := t) (S := S) hw)
    refine ⟨hlt, ?_⟩
    split
    · rename_i hr
      refine .inr ⟨_, hm, rfl, Nat.lt_succ_self _, hf, fun z hzm hzi hzf => ?_⟩
      by_cases hji : z.i = i
      · rw [rst_same hzm hm hji]; exact pLt_irrefl _
      · intro hl
        exact hz z hzm (by omega) hzf (pLt_trans hl (.inl hr))
    · rename_i hr
      refine .inr ⟨q, hq, rfl, by omega, hfq, fun z hzm hzi hzf => ?_⟩
      by_cases hji : z.i = i
      · rw [rst_same hzm hm hji]
        unfold pLt; simp only; omega
      · exact hz z hzm (by omega) hzf
end
end GL
namespace GL
open Go Go.Proofs
set_option maxRecDepth 8000
section
variable {E : EL}
theorem resE_len (h40 : E.hs.length ≤ 40) (hno : E.os.length ≤ 16) (i : Nat) : ((E.hs.take i).flatMap (rowR E)).length ≤ 640 := by
  have h8 := fmp_len (f := rowR E) (n := 16) (fun x => Nat.le_trans (List.length_filterMap_le _ _) (by rw [List.length_zipIdx]; omega)) (E.hs.take i)
  rw [List.length_take] at h8
  have h9 : min i E.hs.length * 16 ≤ 40 * 16 := Nat.mul_le_mul_right _ (by omega)
  omega
end
end GL
namespace GL
open Go Go.Proofs
set_option maxRecDepth 8000
abbrev tySu : TypeId := 27
structure SX where
  al : Option Addr
  l : List SI
  cl : Nat
  ao : Option Addr
  os : List SI
  co : Nat
  s : ByteArray
  d : Int
  m : Int
abbrev suC (x : SX) : Array Value := #[.slice x.al x.l.length x.cl, .slice x.ao x.os.length x.co, .string x.s, iV x.d, iV x.m]
structure SuI (h : Heap) (x : SX) : Prop where
  sl : SlG 2 siL h x.al x.l
  so : SlG 2 siL h x.ao x.os
  ll : x.l.length ≤ 9223372036854775807
  lo : x.os.length ≤ 9223372036854775807
  cl : x.l.length ≤ x.cl
  co : x.os.length ≤ x.co
  nl : x.al = none → x.cl = 0
  no : x.ao = none → x.co = 0
  st : ∀ y ∈ x.os, y.s.size ≤ 9223372036854775807
theorem SuI.ext {h h' : Heap} {x : SX} (hs : SuI h x) (hx : Ext h h') : SuI h' x := ⟨hs.sl.ext hx, hs.so.ext hx, hs.ll, hs.lo, hs.cl, hs.co, hs.nl, hs.no, hs.st⟩
def smE (x : SX) (n : Nat) : Prop := x.l.length ≤ 40 ∧ x.os.length ≤ 20 ∧ n ≤ 60
instance (x : SX) (n : Nat) : Decidable (smE x n) := inferInstanceAs (Decidable (_ ∧ _))
theorem c_small (x : SX) (a : Option Addr) (n c : Nat) (hn : n ≤ 9223372036854775807) (h : Heap) : HCalls Tryz.prog 11 #[.agg (suC x), .slice a n c] h (Grow (.bool (decide (smE x n))) h) := by
  refine hcalls2 Tryz.func11 rfl (by decide +kernel) (by simp only [Tryz.ntmps11]; exact of_decide_eq_true rfl) ?_
  intro e hin
  have e0 := hin 0 _ rfl
  have e1 := hin 1 _ rfl
  refine hx_seq (hx_region ?_)
  refine WL.box2 (by simp only [EN, Nat.reduceEqDiff, reduceIte, Value.cells, e0]; rfl) ?_
  intro h1 B1 hx1 hlt1 hB1
  refine WL.qq (by simp only [EN, Nat.reduceEqDiff, reduceIte, qv_assign, hB1.cell]; rfl) ?_
  refine WL.nil (th_norm (hx_seq (hx_region ?_)))
  iterate 5 refine WL.qq (by simp only [EN, Nat.reduceEqDiff, reduceIte, qv_fieldAddr, fa27_0, Nat.zero_add, Nat.reduceAdd, hB1.cell, qv_load, ld22, readN, AR, qv_len, ln22, qv_binOp, binv_leq, qv_move]; rfl) ?_
  refine WL.cq (gd_at (t := 9) rfl (by simp only [EN, Nat.reduceEqDiff, reduceIte, hB1.cell] <;> rfl)) (fun hg1_5 => by simp only [EN, Nat.reduceEqDiff, reduceIte, qv_fieldAddr, fa27_1, Nat.zero_add, Nat.reduceAdd, hB1.cell, hg1_5, GR]; rfl) ?_
  refine WL.cq (gd_at (t := 9) rfl (by simp only [EN, Nat.reduceEqDiff, reduceIte, hB1.cell] <;> rfl)) (fun hg1_6 => by simp only [EN, Nat.reduceEqDiff, reduceIte, qv_load, ld23, readN, AR, Nat.zero_add, Nat.reduceAdd, hB1.cell, hg1_6, GR]; rfl) ?_
  refine WL.cq (gd_at (t := 9) rfl (by simp only [EN, Nat.reduceEqDiff, reduceIte, hB1.cell] <;> rfl)) (fun hg1_7 => by simp only [EN, Nat.reduceEqDiff, reduceIte, qv_len, ln23, AR, hB1.cell, hg1_7, GR]; rfl) ?_
  refine WL.cq (gd_at (t := 9) rfl (by simp only [EN, Nat.reduceEqDiff, reduceIte, hB1.cell] <;> rfl)) (fun hg1_8 => by simp only [EN, Nat.reduceEqDiff, reduceIte, qv_binOp, binv_leq, hB1.cell, hg1_8, GR]; rfl) ?_
  iterate 2 refine WL.qq (by simp only [EN, Nat.reduceEqDiff, reduceIte, qv_pick, pk_and, pk_or, GR, hB1.cell, qv_move]; rfl) ?_
  refine WL.cq (gd_at (t := 15) rfl (by simp only [EN, Nat.reduceEqDiff, reduceIte, e1, hB1.cell] <;> rfl)) (fun hg1_11 => by simp only [EN, Nat.reduceEqDiff, reduceIte, qv_move, e1, hB1.cell, hg1_11, GR]; rfl) ?_
  refine WL.cq (gd_at (t := 15) rfl (by simp only [EN, Nat.reduceEqDiff, reduceIte, hB1.cell] <;> rfl)) (fun hg1_12 => by simp only [EN, Nat.reduceEqDiff, reduceIte, qv_len, ln28, AR, hB1.cell, hg1_12, GR]; rfl) ?_
  refine WL.cq (gd_at (t := 15) rfl (by simp only [EN, Nat.reduceEqDiff, reduceIte, hB1.cell] <;> rfl)) (fun hg1_13 => by simp only [EN, Nat.reduceEqDiff, reduceIte, qv_binOp, binv_leq, hB1.cell, hg1_13, GR]; rfl) ?_
  iterate 2 refine WL.qq (by simp only [EN, Nat.reduceEqDiff, reduceIte, qv_pick, pk_and, pk_or, GR, hB1.cell, qv_assign]; rfl) ?_
  refine WL.nil (th_norm (hx_ret ?_))
  refine fin_ret [.tmp 4] rfl rfl (by simp only [EN, Nat.reduceEqDiff, reduceIte, resv, e0, e1, hB1.cell]; rfl) ?_
  exact ⟨by simp only [retOf]; rw [Value.bool.injEq, Bool.eq_iff_iff, decide_eq_true_iff]; unfold smE; simp; omega, (hx1)⟩
theorem IsE.wrT {h h' : Heap} {N p b B : Nat} {vh vo : Value} {E : EL} {o : Obj} {c : Array Value} {T : TypeId} (hE : IsE h N p b vh vo E) (hw : Wr h h' B o) (hB : Has h B (.cells c T)) (h1 : T ≠ tyEl) (h2 : T ≠ tyH) (h3 : T ≠ tyO) : IsE h' N p b vh vo E :=
  hE.gs (Gs.ofWr hw (S := [B]) (by simp)) (by simp; intro hh; subst hh; have := hE.blk.un hB; injection this with _ h9 _; exact h1 h9.symm) (by simp; exact fun hh => (hB.nmap hE.map) hh.symm)
    (fun x hx hh => by simp at hh; subst hh; exact hE.oh.ncell hB h2 hx) (fun x hx hh => by simp at hh; subst hh; exact hE.oo.ncell hB h3 hx)
theorem RI.wrT {h h' : Heap} {vh vo vc : Value} {B : Nat} {E : EL} {o : Obj} {c : Array Value} {T : TypeId} (hI : RI h vh vo vc E) (hw : Wr h h' B o) (hB : Has h B (.cells c T)) (h1 : T ≠ tyRH) (h2 : T ≠ tyRO) (h3 : T ≠ tySl) (h4 : T ≠ tyI) : RI h' vh vo vc E := by
  obtain ⟨⟨a, c, q1, q2, q3⟩, ⟨a', c', r1, r2, r3⟩, ⟨a2, c2, rows, s1, s2, s3, s4⟩⟩ := hI
  exact ⟨⟨a, c, q1, q2, q3.wr hw hB h1⟩, ⟨a', c', r1, r2, r3.wr hw hB h2⟩, ⟨a2, c2, rows, s1, s2, s3.wr hw hB h3, ⟨s4.1, fun i x hi => by
    obtain ⟨b, c, t1, t2⟩ := s4.2 i x hi
    exact ⟨b, c, t1, t2.wr hw hB h4⟩⟩⟩⟩
abbrev erX (x : SX) : Int := erN x.l x.os x.s x.d x.m
abbrev nwX (x : SX) : EL := newE x.l x.os x.s x.d x.m
def NvI (h : Heap) (N : Nat) (x : SX) (u : Value) : Prop := (erX x ≠ 0 ∧ u = .pointer none) ∨ (erX x = 0 ∧ ∃ p b vh vo, u = .pointer (some ⟨p, 0, none⟩) ∧ IsE h N p b vh vo (nwX x))
def NwI (h : Heap) (x : SX) (w : Value) : Prop := (erX x ≠ 0 ∧ w = zRE) ∨ (erX x = 0 ∧ ∃ vh vo vc, w = reV vh vo vc (nwX x) ∧ RI h vh vo vc (nwX x))
section
variable {h h' : Heap} {N : Nat} {x : SX} {u w : Value}
theorem NvI.ext (hn : NvI h N x u) (hx : Ext h h') : NvI h' N x u := hn.imp id fun ⟨h1, p, b, vh, vo, h2, h3⟩ => ⟨h1, p, b, vh, vo, h2, h3.ext hx⟩
theorem NwI.ext (hn : NwI h x w) (hx : Ext h h') : NwI h' x w := hn.imp id fun ⟨h1, vh, vo, vc, h2, h3⟩ => ⟨h1, vh, vo, vc, h2, h3.ext hx⟩
theorem NvI.wr {B : Nat} {o : Obj} {c : Array Value} (hn : NvI h N x u) (hw : Wr h h' B o) (hB : Has h B (.cells c tyRE)) : NvI h' N x u := hn.imp id fun ⟨h1, p, b, vh, vo, h2, h3⟩ => ⟨h1, p, b, vh, vo, h2, h3.wrT hw hB (by decide) (by decide) (by decide)⟩
theorem NwI.wr {B : Nat} {o : Obj} {c : Array Value} (hn : NwI h x w) (hw : Wr h h' B o) (hB : Has h B (.cells c tyRE)) : NwI h' x w := hn.imp id fun ⟨h1, vh, vo, vc, h2, h3⟩ => ⟨h1, vh, vo, vc, h2, h3.wrT hw hB (by decide) (by decide) (by decide) (by decide)⟩
end
theorem c_new2 (x : SX) (al : Option Addr) (cl : Nat) (ao : Option Addr) (co : Nat) (hl : x.l.length ≤ 1000000) (hol : x.os.length ≤ 1000000) (hoc : x.os.length ≤ co) (hb : ∀ y ∈ x.os, y.s.size ≤ 9223372036854775807) (hon : ao = none → co = 0)
    {h : Heap} (hs : SlG 2 siL h al x.l) (ho : SlG 2 siL h ao x.os) :
    HCalls Tryz.prog 29 #[.slice al x.l.length cl, .slice ao x.os.length co, .string x.s, .agg #[iV x.d, iV x.m]] h fun v h' => Ext h h' ∧ ∃ u, v = .tuple #[u, iV (erX x)] ∧ NvI h' h.size x u := by
  refine (c_new al x.l cl ao x.os co x.s x.d x.m hl hol hoc hb hon hs ho).mono ?_
  rintro v h' ⟨hx, (⟨he, rfl⟩ | ⟨he, p, b, vh, vo, rfl, hE⟩)⟩
  · exact ⟨hx, _, rfl, .inl ⟨he, rfl⟩⟩
  · exact ⟨hx, _, by rw [show erX x = 0 from he], .inr ⟨he, p, b, vh, vo, rfl, hE⟩⟩
theorem NvI.base {h : Heap} {N N' : Nat} {x : SX} {u : Value} (hn : NvI h N x u) (hN : N' ≤ N) : NvI h N' x u := hn.imp id fun ⟨h1, p, b, vh, vo, h2, h3⟩ => ⟨h1, p, b, vh, vo, h2, ⟨h3.blk, h3.oh.base hN, h3.oo.base hN, h3.map, ⟨Nat.le_trans hN h3.lo.1, Nat.le_trans hN h3.lo.2⟩⟩⟩
theorem NwI.shape {h : Heap} {x : SX} {w : Value} (hw : NwI h x w) :
    ∃ (a0 : Option Addr) (n0 k0 : Nat) (a1 : Option Addr) (n1 k1 : Nat) (x2 x3 x4 : Int) (a5 : Option Addr) (n5 k5 : Nat) (b6 : Bool), w = .agg #[.slice a0 n0 k0, .slice a1 n1 k1, iV x2, iV x3, iV x4, .slice a5 n5 k5, .bool b6] := by
  rcases hw with ⟨_, rfl⟩ | ⟨_, vh, vo, vc, rfl, hI⟩
  · exact ⟨_, _, _, _, _, _, _, _, _, _, _, _, _, rfl⟩
  · obtain ⟨⟨a, c, rfl, _⟩, ⟨a', c', rfl, _⟩, ⟨a2, c2, r, rfl, _⟩⟩ := hI
    exact ⟨_, _, _, _, _, _, _, _, _, _, _, _, _, rfl⟩
set_option maxHeartbeats 4000000 in
theorem c_begin (x : SX) (h40 : x.l.length ≤ 40) (h20 : x.os.length ≤ 20) {h : Heap} (hs : SuI h x) :
    HCalls Tryz.prog 24 #[.agg (suC x)] h fun v h' => Ext h h' ∧ ∃ u w, v = .tuple #[u, w, iV (erX x), .bool true] ∧ NvI h' h.size x u ∧ NwI h' x w := by
  have hs0 := hs
  refine hcalls2 Tryz.func24 rfl (by decide +kernel) (by simp only [Tryz.ntmps24]; exact of_decide_eq_true rfl) ?_
  intro e hin
  have e0 := hin 0 _ rfl
  refine hx_seq (hx_region ?_)
  refine WL.box2 (by simp only [EN, Nat.reduceEqDiff, reduceIte, Value.cells, e0, decide_true, Bool.not_true, Bool.not_false, decide_false, eq_self]; rfl) ?_
  intro h1 B1 hx1 hlt1 hB1
  refine WL.qq (by simp only [EN, Nat.reduceEqDiff, reduceIte, qv_assign, decide_true, Bool.not_true, Bool.not_false, decide_false, eq_self, hB1.cell]; rfl) ?_
  refine WL.alloc2 zr34 ?_
  intro h2 B2 hx2 hlt2 hB2
  replace hB1 := hB1.ext hx2
  simp only [Value.cells] at hB2
  have hl1 := (Array.getElem?_eq_some_iff.1 hB1).1
  have hb2 : h.size ≤ B2 := (by have := hx1.size; omega)
  iterate 2 refine WL.qq (by simp only [EN, Nat.reduceEqDiff, reduceIte, qv_assign, decide_true, Bool.not_true, Bool.not_false, decide_false, eq_self, hB1.cell, hB2.cell]; rfl) ?_
  refine WL.nil (th_norm (hx_seq (hx_region ?_)))
  refine WL.qq (by simp only [EN, Nat.reduceEqDiff, reduceIte, qv_assign, decide_true, Bool.not_true, Bool.not_false, decide_false, eq_self, hB1.cell, hB2.cell]; rfl) ?_
  refine WL.nil (th_norm (hx_seq (hx_seq (hx_region ?_))))
  refine WL.qq (by simp only [EN, Nat.reduceEqDiff, reduceIte, qv_assign, decide_true, Bool.not_true, Bool.not_false, decide_false, eq_self, hB1.cell, hB2.cell]; rfl) ?_
  refine WL.nil (th_norm (hx_block ?_))
  refine hx_loopG [6, 7, 11, 12, 13, 14, 15, 16, 17, 18, 19, 20, 21, 22, 23, 24, 25, 26, 27, 28, 29, 30, 31, 32, 33] (fun k e hL0 => ∃ (i : Nat) (v : Value), x.l.length - i = k ∧ (i ≤ x.l.length) ∧ (Ext h hL0) ∧ (Has hL0 B1 (.cells (suC x) tySu)) ∧ (Has hL0 B2 (.cells #[.slice none 0 0, .slice none 0 0, iV 0, iV 0, iV 0, .slice none 0 0, .bool false] tyRE)) ∧ (Own hL0 h.size tyH 2 v i ((x.l.take i).flatMap siL)) ∧ e 7 = .int .i64 i ∧ e 6 = v) _ ⟨0, .slice none 0 0, rfl, ?_, ?_, ?_, ?_, ?_, ?_, ?_⟩ ?_
  · omega
  · exact ((hx1).trans (hx2))
  · exact hB1
  · exact hB2
  · exact Own.nil
  · simp only [EN, Nat.reduceEqDiff, reduceIte, e0, decide_true, Bool.not_true, Bool.not_false, decide_false, eq_self, hB1.cell, hB2.cell] <;> rfl
  · simp only [EN, Nat.reduceEqDiff, reduceIte, e0, decide_true, Bool.not_true, Bool.not_false, decide_false, eq_self, hB1.cell, hB2.cell] <;> rfl
  ·
   rintro k e0L hL0 hfr0 ⟨i, v, rfl, hi, hX, hB1, hB2, ho, i7_0, i6_0⟩
   have k1_0 := hfr0 1 rfl; try simp only [EN, Nat.reduceEqDiff, reduceIte, decide_true, Bool.not_true, Bool.not_false, decide_false, eq_self, hB1.cell, hB2.cell] at k1_0
   have k3_0 := hfr0 3 rfl; try simp only [EN, Nat.reduceEqDiff, reduceIte, decide_true, Bool.not_true, Bool.not_false, decide_false, eq_self, hB1.cell, hB2.cell] at k3_0
   refine hx_seq (hx_seq (hx_region ?_))
   iterate 5 refine WL.qq (by simp only [EN, Nat.reduceEqDiff, reduceIte, qv_move, i7_0, decide_true, Bool.not_true, Bool.not_false, decide_false, eq_self, hB1.cell, hB2.cell, hB1.cell, hB2.cell, qv_fieldAddr, fa27_0, Nat.zero_add, Nat.reduceAdd, k1_0, qv_load, ld22, readN, AR, qv_len, ln22, qv_binOp, binv_lss]; rfl) ?_
   refine WL.nil (th_norm ?_)
   refine hx_cond (by simp only [EN, Nat.reduceEqDiff, reduceIte, decide_true, Bool.not_true, Bool.not_false, decide_false, eq_self, hB1.cell, hB2.cell, hB1.cell, hB2.cell]; rfl) (fun hct15 => ?_) (fun hct15 => ?_)
   ·
    try simp only [BD] at hct15
    obtain ⟨y, hy⟩ := atG (l := x.l) (i := i) (by omega); obtain ⟨b3, o3, ha3, _, hr2, hr3⟩ := si_rd (hs0.sl.ext hX) hy
    refine hx_skip (th_norm (hx_seq (hx_block ?_)))
    apply hx_draw2 Rel.grows [15, 16] [14] [(14, (Spec.ls (Array.size hL0) (siL y).toArray tyH 1))] rfl (by decide +kernel) rfl
    iterate 4 refine LD.qq rfl rfl (by simp only [EN, Nat.reduceEqDiff, reduceIte, qv_move, i6_0, decide_true, Bool.not_true, Bool.not_false, decide_false, eq_self, hB1.cell, hB2.cell, hB1.cell, hB2.cell, qv_fieldAddr, fa27_0, Nat.zero_add, Nat.reduceAdd, k1_0, qv_load, ld22, readN, AR, i7_0]; rfl) ?_
    refine LD.qq rfl rfl (by simp only [EN, Nat.reduceEqDiff, reduceIte, qv_indexAddr, decide_true, Bool.not_true, Bool.not_false, decide_false, eq_self, hB1.cell, hB2.cell, hB1.cell, hB2.cell, ha3]; (try simp (disch := omega) only [ix22, Int.toNat_natCast]); rfl) ?_
    refine LD.qq rfl rfl (by simp only [EN, Nat.reduceEqDiff, reduceIte, qv_fieldAddr, fa66_0, Nat.zero_add, Nat.reduceAdd, decide_true, Bool.not_true, Bool.not_false, decide_false, eq_self, hB1.cell, hB2.cell, hB1.cell, hB2.cell]; rfl) ?_
    refine LD.qq rfl rfl (by simp only [EN, Nat.reduceEqDiff, reduceIte, k1_0, k3_0, i7_0, i6_0, decide_true, Bool.not_true, Bool.not_false, decide_false, eq_self, hB1.cell, hB2.cell, hB1.cell, hB2.cell, qv_load, ld9, Int.toNat_natCast, hr2]; rfl) ?_
    iterate 3 refine LD.qq rfl rfl (by simp only [EN, Nat.reduceEqDiff, reduceIte, qv_fieldAddr, fa27_0, Nat.zero_add, Nat.reduceAdd, k1_0, decide_true, Bool.not_true, Bool.not_false, decide_false, eq_self, hB1.cell, hB2.cell, hB1.cell, hB2.cell, qv_load, ld22, readN, AR, qv_move, i7_0]; rfl) ?_
    refine LD.qq rfl rfl (by simp only [EN, Nat.reduceEqDiff, reduceIte, qv_indexAddr, decide_true, Bool.not_true, Bool.not_false, decide_false, eq_self, hB1.cell, hB2.cell, hB1.cell, hB2.cell, ha3]; (try simp (disch := omega) only [ix22, Int.toNat_natCast]); rfl) ?_
    refine LD.qq rfl rfl (by simp only [EN, Nat.reduceEqDiff, reduceIte, qv_fieldAddr, fa66_1, Nat.zero_add, Nat.reduceAdd, decide_true, Bool.not_true, Bool.not_false, decide_false, eq_self, hB1.cell, hB2.cell, hB1.cell, hB2.cell]; rfl) ?_
    refine LD.qq rfl rfl (by simp only [EN, Nat.reduceEqDiff, reduceIte, k1_0, k3_0, i7_0, i6_0, decide_true, Bool.not_true, Bool.not_false, decide_false, eq_self, hB1.cell, hB2.cell, hB1.cell, hB2.cell, qv_load, ld2, Int.toNat_natCast, hr3]; rfl) ?_
    refine LD.qq rfl rfl (by refine qv_bld (by simp only [EN, Nat.reduceEqDiff, reduceIte, AR, decide_true, Bool.not_true, Bool.not_false, decide_false, eq_self, hB1.cell, hB2.cell, hB1.cell, hB2.cell] <;> rfl) (by rw [bl78]; simp [Instr.fill, Value.cells]; rfl)) ?_
    refine LD.es rfl rfl (by intro hD hr hf; have hx : Ext _ _ := hr; have hX := hX.ext hx; have hB1 := hB1.ext hx; have hB2 := hB2.ext hx; have ho := ho.ext hx; exact e_lit1 (N := Array.size hL0) hx.size Tryz.underlying79 sz78 zr78 (by decide) (by simp only [EN, Nat.reduceEqDiff, reduceIte, k1_0, k3_0, i7_0, i6_0, decide_true, Bool.not_true, Bool.not_false, decide_false, eq_self, hB1.cell, hB2.cell, hB1.cell, hB2.cell, Value.cells] <;> rfl) rfl) ?_
    intro u5_14 w5_14
    obtain ⟨B14, hlt14, rfl⟩ := w5_14
    refine LD.skip rfl ?_
    refine LD.skip rfl ?_
    refine LD.nil ?_
    rintro h3 hx3 hF5
    replace hx3 : Ext _ _ := hx3
    replace hX := hX.ext hx3
    replace hB1 := hB1.ext hx3
    replace hB2 := hB2.ext hx3
    replace ho := ho.ext hx3
    have hB14 := hF5 (14, .slice (some ⟨B14, 0, none⟩) 1 1) (by simp) _ rfl B14 rfl
    refine WL.app1 (bytes := 24) Tryz.underlying79 (inf_of Tryz.type78) rfl rfl rfl rfl (by decide) (by simp only [EN, Nat.reduceEqDiff, reduceIte, k1_0, k3_0, i7_0, i6_0, decide_true, Bool.not_true, Bool.not_false, decide_false, eq_self, hB1.cell, hB2.cell, hB1.cell, hB2.cell]) ho (by simp only [EN, Nat.reduceEqDiff, reduceIte, k1_0, k3_0, i7_0, i6_0, decide_true, Bool.not_true, Bool.not_false, decide_false, eq_self, hB1.cell, hB2.cell, hB1.cell, hB2.cell] <;> rfl) hB14 rfl (by simp [Value.oneCell']) (by simp only [maxLen]; omega) (by omega) hX.size ?_
    intro h40 v40 ho40 hg40 hp40 hn40
    have hX40 := hg40.ext hX (fun c hc => (ho.block c hc).1)
    have hB140 := hB1.gr hg40 (ho.ncell hB1 (by decide))
    have hB240 := hB2.gr hg40 (ho.ncell hB2 (by decide))
    refine WL.qq (by simp only [EN, Nat.reduceEqDiff, reduceIte, qv_assign, decide_true, Bool.not_true, Bool.not_false, decide_false, eq_self, hB1.cell, hB2.cell, hB1.cell, hB2.cell]; rfl) ?_
    refine WL.nil (bl_norm (th_norm (hx_region ?_)))
    iterate 3 refine WL.qq (by simp only [EN, Nat.reduceEqDiff, reduceIte, qv_move, i7_0, decide_true, Bool.not_true, Bool.not_false, decide_false, eq_self, hB1.cell, hB2.cell, hB1.cell, hB2.cell, qv_binOp, binv_add, qv_assign]; (try simp (disch := omega) only [w64, w8, wu64]); rfl) ?_
    refine WL.nil (th_norm ?_)
    refine ⟨rfl, ?_, _, ?_, i + 1, v40, rfl, ?_, ?_, ?_, ?_, ?_, ?_, ?_⟩
    · (repeat (first | exact Fr.refl _ _ | refine Fr.set rfl ?_ | refine Fr.put rfl ?_ | with_reducible refine Fr.put0 ?_))
    · omega
    · omega
    · exact hX40
    · exact hB140
    · exact hB240
    · rw [fm_step' hy]; exact ho40
    · simp only [EN, Nat.reduceEqDiff, reduceIte, k1_0, k3_0, i7_0, i6_0, decide_true, Bool.not_true, Bool.not_false, decide_false, eq_self, hB1.cell, hB2.cell, hB1.cell, hB2.cell] <;> first | rfl | (congr 1; omega)
    · simp only [EN, Nat.reduceEqDiff, reduceIte, k1_0, k3_0, i7_0, i6_0, decide_true, Bool.not_true, Bool.not_false, decide_false, eq_self, hB1.cell, hB2.cell, hB1.cell, hB2.cell] <;> first | rfl | (congr 1; omega)
   ·
    try simp only [BD] at hct15
    obtain rfl : i = x.l.length := (by omega)
    rw [List.take_length] at ho; obtain ⟨a6, c6, rfl, hc6, hn6, _⟩ := ho.shape; have hs6 := SlR.own (f := siL) (sz := 2) (fun _ => rfl) ho rfl
    refine hx_exit (th_exit (th_exit (bl_hit (th_norm (hx_seq (hx_region ?_))))))
    refine WL.qq (by simp only [EN, Nat.reduceEqDiff, reduceIte, qv_assign, decide_true, Bool.not_true, Bool.not_false, decide_false, eq_self, hB1.cell, hB2.cell, hB1.cell, hB2.cell]; rfl) ?_
    refine WL.nil (th_norm (hx_seq (hx_seq (hx_region ?_))))
    refine WL.qq (by simp only [EN, Nat.reduceEqDiff, reduceIte, qv_assign, decide_true, Bool.not_true, Bool.not_false, decide_false, eq_self, hB1.cell, hB2.cell, hB1.cell, hB2.cell]; rfl) ?_
    refine WL.nil (th_norm (hx_block ?_))
    refine hx_loopG [8, 9, 34, 35, 36, 37, 38, 39, 40, 41, 42, 43, 44, 45, 46, 47, 48] (fun k e hL1 => ∃ (i : Nat) (v : Value), x.os.length - i = k ∧ (i ≤ x.os.length) ∧ (Ext h hL1) ∧ (Has hL1 B1 (.cells (suC x) tySu)) ∧ (Has hL1 B2 (.cells #[.slice none 0 0, .slice none 0 0, iV 0, iV 0, iV 0, .slice none 0 0, .bool false] tyRE)) ∧ (SlR tyH 2 siL hL1 a6 x.l) ∧ (Own hL1 h.size tyO 2 v i ((x.os.take i).flatMap siL)) ∧ e 9 = .int .i64 i ∧ e 8 = v) _ ⟨0, .slice none 0 0, rfl, ?_, ?_, ?_, ?_, ?_, ?_, ?_, ?_⟩ ?_
    · omega
    · exact hX
    · exact hB1
    · exact hB2
    · exact hs6
    · exact Own.nil
    · simp only [EN, Nat.reduceEqDiff, reduceIte, k1_0, k3_0, i7_0, i6_0, decide_true, Bool.not_true, Bool.not_false, decide_false, eq_self, hB1.cell, hB2.cell, hB1.cell, hB2.cell] <;> rfl
    · simp only [EN, Nat.reduceEqDiff, reduceIte, k1_0, k3_0, i7_0, i6_0, decide_true, Bool.not_true, Bool.not_false, decide_false, eq_self, hB1.cell, hB2.cell, hB1.cell, hB2.cell] <;> rfl
    ·
     rintro k e1L hL1 hfr1 ⟨i, v, rfl, hi, hX, hB1, hB2, hs6, ho, i9_1, i8_1⟩
     have k1_1 := hfr1 1 rfl; try simp only [EN, Nat.reduceEqDiff, reduceIte, k1_0, decide_true, Bool.not_true, Bool.not_false, decide_false, eq_self, hB1.cell, hB2.cell, hB1.cell, hB2.cell] at k1_1
     have k3_1 := hfr1 3 rfl; try simp only [EN, Nat.reduceEqDiff, reduceIte, k3_0, decide_true, Bool.not_true, Bool.not_false, decide_false, eq_self, hB1.cell, hB2.cell, hB1.cell, hB2.cell] at k3_1
     have k6_1 := hfr1 6 rfl; try simp only [EN, Nat.reduceEqDiff, reduceIte, i6_0, decide_true, Bool.not_true, Bool.not_false, decide_false, eq_self, hB1.cell, hB2.cell, hB1.cell, hB2.cell] at k6_1
     refine hx_seq (hx_seq (hx_region ?_))
     iterate 5 refine WL.qq (by simp only [EN, Nat.reduceEqDiff, reduceIte, qv_move, i9_1, decide_true, Bool.not_true, Bool.not_false, decide_false, eq_self, hB1.cell, hB2.cell, hB1.cell, hB2.cell, hB1.cell, hB2.cell, qv_fieldAddr, fa27_1, Nat.zero_add, Nat.reduceAdd, k1_1, qv_load, ld23, readN, AR, qv_len, ln23, qv_binOp, binv_lss]; rfl) ?_
     refine WL.nil (th_norm ?_)
     refine hx_cond (by simp only [EN, Nat.reduceEqDiff, reduceIte, decide_true, Bool.not_true, Bool.not_false, decide_false, eq_self, hB1.cell, hB2.cell, hB1.cell, hB2.cell, hB1.cell, hB2.cell]; rfl) (fun hct38 => ?_) (fun hct38 => ?_)
     ·
      try simp only [BD] at hct38
      obtain ⟨y, hy⟩ := atG (l := x.os) (i := i) (by omega); obtain ⟨b3, o3, ha3, hr3, _⟩ := si_rd (hs0.so.ext hX) hy
      refine hx_skip (th_norm (hx_seq (hx_block (hx_region ?_))))
      iterate 4 refine WL.qq (by simp only [EN, Nat.reduceEqDiff, reduceIte, qv_move, i8_1, decide_true, Bool.not_true, Bool.not_false, decide_false, eq_self, hB1.cell, hB2.cell, hB1.cell, hB2.cell, hB1.cell, hB2.cell, qv_fieldAddr, fa27_1, Nat.zero_add, Nat.reduceAdd, k1_1, qv_load, ld23, readN, AR, i9_1]; rfl) ?_
      refine WL.qq (by simp only [EN, Nat.reduceEqDiff, reduceIte, qv_indexAddr, decide_true, Bool.not_true, Bool.not_false, decide_false, eq_self, hB1.cell, hB2.cell, hB1.cell, hB2.cell, hB1.cell, hB2.cell, ha3]; (try simp (disch := omega) only [ix23, Int.toNat_natCast]); rfl) ?_
      refine WL.qq (by simp only [EN, Nat.reduceEqDiff, reduceIte, k1_1, k3_1, k6_1, i9_1, i8_1, decide_true, Bool.not_true, Bool.not_false, decide_false, eq_self, hB1.cell, hB2.cell, hB1.cell, hB2.cell, hB1.cell, hB2.cell, qv_load, ld68, Int.toNat_natCast, hr3]; rfl) ?_
      refine WL.push (bytes := 24) Tryz.underlying81 (inf_of Tryz.type80) rfl rfl rfl rfl (by decide) (by decide) sz80 zr80 (fun u => by simp only [EN, Nat.reduceEqDiff, reduceIte, k1_1, k3_1, k6_1, i9_1, i8_1, decide_true, Bool.not_true, Bool.not_false, decide_false, eq_self, hB1.cell, hB2.cell, hB1.cell, hB2.cell, hB1.cell, hB2.cell]) ho (c := (siL y).toArray) (by simp only [EN, Nat.reduceEqDiff, reduceIte, k1_1, k3_1, k6_1, i9_1, i8_1, decide_true, Bool.not_true, Bool.not_false, decide_false, eq_self, hB1.cell, hB2.cell, hB1.cell, hB2.cell, hB1.cell, hB2.cell, Value.cells] <;> rfl) rfl (by simp [Value.oneCell']) (by simp only [maxLen]; omega) (by omega) hX.size ?_
      intro h40 v40 B40 ho40 hg40 hp40 hn40
      have hX40 := hg40.ext hX (fun c hc => (ho.block c hc).1)
      have hB140 := hB1.gr hg40 (ho.ncell hB1 (by decide))
      have hB240 := hB2.gr hg40 (ho.ncell hB2 (by decide))
      have hs640 := hs6.gro hg40 ho (by decide)
      skip
      refine WL.qq (by simp only [EN, Nat.reduceEqDiff, reduceIte, qv_assign, decide_true, Bool.not_true, Bool.not_false, decide_false, eq_self, hB1.cell, hB2.cell, hB1.cell, hB2.cell, hB1.cell, hB2.cell]; rfl) ?_
      refine WL.nil (bl_norm (th_norm (hx_region ?_)))
      iterate 3 refine WL.qq (by simp only [EN, Nat.reduceEqDiff, reduceIte, qv_move, i9_1, decide_true, Bool.not_true, Bool.not_false, decide_false, eq_self, hB1.cell, hB2.cell, hB1.cell, hB2.cell, hB1.cell, hB2.cell, qv_binOp, binv_add, qv_assign]; (try simp (disch := omega) only [w64, w8, wu64]); rfl) ?_
      refine WL.nil (th_norm ?_)
      refine ⟨rfl, ?_, _, ?_, i + 1, v40, rfl, ?_, ?_, ?_, ?_, ?_, ?_, ?_, ?_⟩
      · (repeat (first | exact Fr.refl _ _ | refine Fr.set rfl ?_ | refine Fr.put rfl ?_ | with_reducible refine Fr.put0 ?_))
      · omega
      · omega
      · exact hX40
      · exact hB140
      · exact hB240
      · exact hs640
      · rw [fm_step' hy]; exact ho40
      · simp only [EN, Nat.reduceEqDiff, reduceIte, k1_1, k3_1, k6_1, i9_1, i8_1, decide_true, Bool.not_true, Bool.not_false, decide_false, eq_self, hB1.cell, hB2.cell, hB1.cell, hB2.cell, hB1.cell, hB2.cell] <;> first | rfl | (congr 1; omega)
      · simp only [EN, Nat.reduceEqDiff, reduceIte, k1_1, k3_1, k6_1, i9_1, i8_1, decide_true, Bool.not_true, Bool.not_false, decide_false, eq_self, hB1.cell, hB2.cell, hB1.cell, hB2.cell, hB1.cell, hB2.cell] <;> first | rfl | (congr 1; omega)
     ·
      try simp only [BD] at hct38
      obtain rfl : i = x.os.length := (by omega)
      rw [List.take_length] at ho; obtain ⟨a8, c8, rfl, hc8, hn8, _⟩ := ho.shape; have hs8 := slG_own (f := siL) (sz := 2) (fun _ => rfl) ho rfl; have hzX := hX.size
      refine hx_exit (th_exit (th_exit (bl_hit (th_norm (hx_seq (hx_region ?_))))))
      iterate 6 refine WL.qq (by simp only [EN, Nat.reduceEqDiff, reduceIte, qv_move, k6_1, decide_true, Bool.not_true, Bool.not_false, decide_false, eq_self, hB1.cell, hB2.cell, hB1.cell, hB2.cell, hB1.cell, hB2.cell, i8_1, qv_fieldAddr, fa27_2, Nat.zero_add, Nat.reduceAdd, k1_1, qv_load, ld9, readN, AR, fa27_3, ld25]; rfl) ?_
      refine WL.ce Tryz.call29 (by simp only [EN, Nat.reduceEqDiff, reduceIte, AR, decide_true, Bool.not_true, Bool.not_false, decide_false, eq_self, hB1.cell, hB2.cell, hB1.cell, hB2.cell, hB1.cell, hB2.cell]; exact c_new2 x a6 c6 a8 c8 (by omega) (by omega) hc8 hs0.st hn8 hs6.rd hs8) ?_
      rintro _ h4 ⟨hx4, u, rfl, hNV⟩
      replace hX := hX.ext hx4
      replace hB1 := hB1.ext hx4
      replace hB2 := hB2.ext hx4
      replace hs6 := hs6.ext hx4
      replace ho := ho.ext hx4
      simp only [put_some]
      replace hNV := hNV.base hzX
      iterate 5 refine WL.qq (by simp only [EN, Nat.reduceEqDiff, reduceIte, qv_move, decide_true, Bool.not_true, Bool.not_false, decide_false, eq_self, hB1.cell, hB2.cell, hB1.cell, hB2.cell, hB1.cell, hB2.cell, qv_extract, AR, qv_assign]; rfl) ?_
      refine WL.nil (th_norm (hx_seq (hx_region ?_)))
      iterate 8 refine WL.qq (by simp only [EN, Nat.reduceEqDiff, reduceIte, qv_fieldAddr, fa27_0, Nat.zero_add, Nat.reduceAdd, k1_1, decide_true, Bool.not_true, Bool.not_false, decide_false, eq_self, hB1.cell, hB2.cell, hB1.cell, hB2.cell, hB1.cell, hB2.cell, qv_load, ld22, readN, AR, fa27_1, ld23, fa27_2, ld9, fa27_3, ld25]; rfl) ?_
      refine WL.ce Tryz.call46 (by simp only [EN, Nat.reduceEqDiff, reduceIte, AR, decide_true, Bool.not_true, Bool.not_false, decide_false, eq_self, hB1.cell, hB2.cell, hB1.cell, hB2.cell, hB1.cell, hB2.cell]; exact c_rNew x.al x.l x.cl x.ao x.os x.co x.s x.d x.m (by omega) (by omega) hs0.st hs0.no (hs0.sl.ext hX) (hs0.so.ext hX)) ?_
      rintro _ h5 ⟨hx5, w, rfl, hNW⟩
      replace hX := hX.ext hx5
      replace hB1 := hB1.ext hx5
      replace hB2 := hB2.ext hx5
      replace hs6 := hs6.ext hx5
      replace ho := ho.ext hx5
      replace hNV := hNV.ext hx5
      simp only [put_some]
      replace hNW : NwI h5 x w := hNW
      obtain ⟨a0, n0, k0, a1, n1, k1, x2, x3, x4, a5, n5, k5, b6, rfl⟩ := hNW.shape
      iterate 3 refine WL.qq (by simp only [EN, Nat.reduceEqDiff, reduceIte, qv_move, decide_true, Bool.not_true, Bool.not_false, decide_false, eq_self, hB1.cell, hB2.cell, hB1.cell, hB2.cell, hB1.cell, hB2.cell, qv_extract, AR]; rfl) ?_
      refine WL.store (by simp only [EN, Nat.reduceEqDiff, reduceIte, k3_1, decide_true, Bool.not_true, Bool.not_false, decide_false, eq_self, hB1.cell, hB2.cell, hB1.cell, hB2.cell, hB1.cell, hB2.cell] <;> rfl) sz34 (by simp only [EN, Nat.reduceEqDiff, reduceIte, Value.cells, k3_1, decide_true, Bool.not_true, Bool.not_false, decide_false, eq_self, hB1.cell, hB2.cell, hB1.cell, hB2.cell, hB1.cell, hB2.cell] <;> rfl) rfl hB2 (by first | (simp [true_and]; done) | (simp [true_and]; omega) | omega) (by simp [Value.oneCell']) ?_
      intro h6 hw6
      have hX13 := hw6.ext hX hb2
      have hW13 := hw6
      replace hNV := hNV.wr hw6 hB2
      replace hNW := hNW.wr hw6 hB2
      replace hB2 := hw6.at_
      try simp only [splc, List.take_succ_cons, List.take_zero, List.take_nil, List.drop_succ_cons, List.drop_zero, List.drop_nil, List.cons_append, List.nil_append, List.length_cons, List.length_nil, Nat.zero_add, Nat.add_zero, Nat.reduceAdd, List.append_nil] at hB2
      refine WL.qq (by simp only [EN, Nat.reduceEqDiff, reduceIte, qv_assign, decide_true, Bool.not_true, Bool.not_false, decide_false, eq_self, hB1.cell, hB2.cell, hB1.cell, hB2.cell, hB1.cell, hB2.cell]; rfl) ?_
      refine WL.nil (th_norm (hx_seq ?_))
      rcases id hNV with ⟨he, rfl⟩ | ⟨he, p, b, vh, vo, rfl, hE⟩
      ·
       apply hx_draw2 Rel.same [14, 15, 16] [] [] rfl (by decide +kernel) rfl
       have hsz13 := hX.size
       iterate 7 refine LD.qq rfl rfl (by simp only [EN, Nat.reduceEqDiff, reduceIte, qv_move, decide_true, Bool.not_true, Bool.not_false, decide_false, eq_self, hB1.cell, hB2.cell, hB1.cell, hB2.cell, hB1.cell, hB2.cell, qv_load, ld34, readN, AR, Nat.zero_add, Nat.reduceAdd, k3_1, qv_binOp, binv_eql, eq3, Option.map_some]; rfl) ?_
       refine LD.cq rfl rfl (gd_at (t := 77) rfl (by simp only [EN, Nat.reduceEqDiff, reduceIte, decide_true, Bool.not_true, Bool.not_false, decide_false, eq_self, hB1.cell, hB2.cell, hB1.cell, hB2.cell, hB1.cell, hB2.cell] <;> rfl)) (fun hg13_7 => by simp only [EN, Nat.reduceEqDiff, reduceIte, qv_move, decide_true, Bool.not_true, Bool.not_false, decide_false, eq_self, hB1.cell, hB2.cell, hB1.cell, hB2.cell, hB1.cell, hB2.cell, hg13_7, GR]; rfl) ?_
       refine LD.cq rfl rfl (gd_at (t := 77) rfl (by simp only [EN, Nat.reduceEqDiff, reduceIte, decide_true, Bool.not_true, Bool.not_false, decide_false, eq_self, hB1.cell, hB2.cell, hB1.cell, hB2.cell, hB1.cell, hB2.cell] <;> rfl)) (fun hg13_8 => by simp only [EN, Nat.reduceEqDiff, reduceIte, qv_binOp, binv_eql, eqz31, eqn31, eqm31, Option.map_some, decide_true, Bool.not_true, Bool.not_false, decide_false, eq_self, hB1.cell, hB2.cell, hB1.cell, hB2.cell, hB1.cell, hB2.cell, hg13_8, GR]; rfl) ?_
       refine LD.cq rfl rfl (gd_at (t := 77) rfl (by simp only [EN, Nat.reduceEqDiff, reduceIte, decide_true, Bool.not_true, Bool.not_false, decide_false, eq_self, hB1.cell, hB2.cell, hB1.cell, hB2.cell, hB1.cell, hB2.cell] <;> rfl)) (fun hg13_9 => by simp only [EN, Nat.reduceEqDiff, reduceIte, qv_move, decide_true, Bool.not_true, Bool.not_false, decide_false, eq_self, hB1.cell, hB2.cell, hB1.cell, hB2.cell, hB1.cell, hB2.cell, hg13_9, GR]; rfl) ?_
       refine LD.cq rfl rfl (gd_at (t := 77) rfl (by simp only [EN, Nat.reduceEqDiff, reduceIte, decide_true, Bool.not_true, Bool.not_false, decide_false, eq_self, hB1.cell, hB2.cell, hB1.cell, hB2.cell, hB1.cell, hB2.cell] <;> rfl)) (fun hg13_10 => by simp only [EN, Nat.reduceEqDiff, reduceIte, qv_binOp, binv_neq, eq46, Option.map_some, decide_true, Bool.not_true, Bool.not_false, decide_false, eq_self, hB1.cell, hB2.cell, hB1.cell, hB2.cell, hB1.cell, hB2.cell, hg13_10, GR]; rfl) ?_
       refine LD.cq rfl rfl (gd_at (t := 77) rfl (by simp only [EN, Nat.reduceEqDiff, reduceIte, decide_true, Bool.not_true, Bool.not_false, decide_false, eq_self, hB1.cell, hB2.cell, hB1.cell, hB2.cell, hB1.cell, hB2.cell] <;> rfl)) (fun hg13_11 => by simp only [EN, Nat.reduceEqDiff, reduceIte, qv_binOp, binv_eql, eq4, Option.map_some, decide_true, Bool.not_true, Bool.not_false, decide_false, eq_self, hB1.cell, hB2.cell, hB1.cell, hB2.cell, hB1.cell, hB2.cell, hg13_11, GR]; rfl) ?_
       iterate 2 refine LD.qq rfl rfl (by simp only [EN, Nat.reduceEqDiff, reduceIte, qv_pick, pk_and, pk_or, GR, decide_true, Bool.not_true, Bool.not_false, decide_false, eq_self, hB1.cell, hB2.cell, hB1.cell, hB2.cell, hB1.cell, hB2.cell, qv_assign]; rfl) ?_
       refine LD.skip rfl ?_
       refine LD.skip rfl ?_
       refine LD.skip rfl ?_
       refine LD.nil ?_
       rintro h6 rfl -
       refine WL.store (by simp only [EN, Nat.reduceEqDiff, reduceIte, k3_1, decide_true, Bool.not_true, Bool.not_false, decide_false, eq_self, hB1.cell, hB2.cell, hB1.cell, hB2.cell, hB1.cell, hB2.cell] <;> rfl) sz34 (by simp only [EN, Nat.reduceEqDiff, reduceIte, Value.cells, k3_1, decide_true, Bool.not_true, Bool.not_false, decide_false, eq_self, hB1.cell, hB2.cell, hB1.cell, hB2.cell, hB1.cell, hB2.cell] <;> rfl) rfl hB2 (by first | (simp [true_and]; done) | (simp [true_and]; omega) | omega) (by simp [Value.oneCell']) ?_
       intro h7 hw7
       have hX14 := hw7.ext hX13 hb2
       have hW14 := hw7
       replace hNV := hNV.wr hw7 hB2
       replace hNW := hNW.wr hw7 hB2
       replace hB2 := hw7.at_
       try simp only [splc, List.take_succ_cons, List.take_zero, List.take_nil, List.drop_succ_cons, List.drop_zero, List.drop_nil, List.cons_append, List.nil_append, List.length_cons, List.length_nil, Nat.zero_add, Nat.add_zero, Nat.reduceAdd, List.append_nil] at hB2
       iterate 2 refine WL.qq (by simp only [EN, Nat.reduceEqDiff, reduceIte, qv_assign, decide_true, Bool.not_true, Bool.not_false, decide_false, eq_self, hB1.cell, hB2.cell, hB1.cell, hB2.cell, hB1.cell, hB2.cell]; rfl) ?_
       refine WL.nil (th_norm (hx_ret ?_))
       refine fin_ret [.tmp 2, .cell 3 34, .tmp 4, .tmp 5] rfl rfl (by simp only [EN, Nat.reduceEqDiff, reduceIte, resv, ld34, readN, AR, Nat.zero_add, Nat.reduceAdd, k1_1, k3_1, k6_1, i9_1, i8_1, decide_true, Bool.not_true, Bool.not_false, decide_false, eq_self, hB1.cell, hB2.cell, hB1.cell, hB2.cell, hB1.cell, hB2.cell]; rfl) ?_
       refine ⟨hX14, _, _, ?_, hNV, hNW⟩
       simp only [retOf]; first | (rw [decide_eq_false he]; rfl) | (rw [decide_eq_true he]; rfl)
      ·
       apply hx_draw2 Rel.same [14, 15, 16] [] [] rfl (by decide +kernel) rfl
       have hsz13 := hX.size
       iterate 7 refine LD.qq rfl rfl (by simp only [EN, Nat.reduceEqDiff, reduceIte, qv_move, decide_true, Bool.not_true, Bool.not_false, decide_false, eq_self, hB1.cell, hB2.cell, hB1.cell, hB2.cell, hB1.cell, hB2.cell, qv_load, ld34, readN, AR, Nat.zero_add, Nat.reduceAdd, k3_1, qv_binOp, binv_eql, eq3, Option.map_some]; rfl) ?_
       refine LD.cq rfl rfl (gd_at (t := 77) rfl (by simp only [EN, Nat.reduceEqDiff, reduceIte, decide_true, Bool.not_true, Bool.not_false, decide_false, eq_self, hB1.cell, hB2.cell, hB1.cell, hB2.cell, hB1.cell, hB2.cell] <;> rfl)) (fun hg13_7 => by simp only [EN, Nat.reduceEqDiff, reduceIte, qv_move, decide_true, Bool.not_true, Bool.not_false, decide_false, eq_self, hB1.cell, hB2.cell, hB1.cell, hB2.cell, hB1.cell, hB2.cell, hg13_7, GR]; rfl) ?_
       refine LD.cq rfl rfl (gd_at (t := 77) rfl (by simp only [EN, Nat.reduceEqDiff, reduceIte, decide_true, Bool.not_true, Bool.not_false, decide_false, eq_self, hB1.cell, hB2.cell, hB1.cell, hB2.cell, hB1.cell, hB2.cell] <;> rfl)) (fun hg13_8 => by simp only [EN, Nat.reduceEqDiff, reduceIte, qv_binOp, binv_eql, eqz31, eqn31, eqm31, Option.map_some, decide_true, Bool.not_true, Bool.not_false, decide_false, eq_self, hB1.cell, hB2.cell, hB1.cell, hB2.cell, hB1.cell, hB2.cell, hg13_8, GR]; rfl) ?_
       refine LD.cq rfl rfl (gd_at (t := 77) rfl (by simp only [EN, Nat.reduceEqDiff, reduceIte, decide_true, Bool.not_true, Bool.not_false, decide_false, eq_self, hB1.cell, hB2.cell, hB1.cell, hB2.cell, hB1.cell, hB2.cell] <;> rfl)) (fun hg13_9 => by simp only [EN, Nat.reduceEqDiff, reduceIte, qv_move, decide_true, Bool.not_true, Bool.not_false, decide_false, eq_self, hB1.cell, hB2.cell, hB1.cell, hB2.cell, hB1.cell, hB2.cell, hg13_9, GR]; rfl) ?_
       refine LD.cq rfl rfl (gd_at (t := 77) rfl (by simp only [EN, Nat.reduceEqDiff, reduceIte, decide_true, Bool.not_true, Bool.not_false, decide_false, eq_self, hB1.cell, hB2.cell, hB1.cell, hB2.cell, hB1.cell, hB2.cell] <;> rfl)) (fun hg13_10 => by simp only [EN, Nat.reduceEqDiff, reduceIte, qv_binOp, binv_neq, eq46, Option.map_some, decide_true, Bool.not_true, Bool.not_false, decide_false, eq_self, hB1.cell, hB2.cell, hB1.cell, hB2.cell, hB1.cell, hB2.cell, hg13_10, GR]; rfl) ?_
       refine LD.cq rfl rfl (gd_at (t := 77) rfl (by simp only [EN, Nat.reduceEqDiff, reduceIte, decide_true, Bool.not_true, Bool.not_false, decide_false, eq_self, hB1.cell, hB2.cell, hB1.cell, hB2.cell, hB1.cell, hB2.cell] <;> rfl)) (fun hg13_11 => by simp only [EN, Nat.reduceEqDiff, reduceIte, qv_binOp, binv_eql, eq4, Option.map_some, decide_true, Bool.not_true, Bool.not_false, decide_false, eq_self, hB1.cell, hB2.cell, hB1.cell, hB2.cell, hB1.cell, hB2.cell, hg13_11, GR]; rfl) ?_
       iterate 2 refine LD.qq rfl rfl (by simp only [EN, Nat.reduceEqDiff, reduceIte, qv_pick, pk_and, pk_or, GR, decide_true, Bool.not_true, Bool.not_false, decide_false, eq_self, hB1.cell, hB2.cell, hB1.cell, hB2.cell, hB1.cell, hB2.cell, qv_assign]; rfl) ?_
       refine LD.skip rfl ?_
       refine LD.skip rfl ?_
       refine LD.skip rfl ?_
       refine LD.nil ?_
       rintro h6 rfl -
       refine WL.store (by simp only [EN, Nat.reduceEqDiff, reduceIte, k3_1, decide_true, Bool.not_true, Bool.not_false, decide_false, eq_self, hB1.cell, hB2.cell, hB1.cell, hB2.cell, hB1.cell, hB2.cell] <;> rfl) sz34 (by simp only [EN, Nat.reduceEqDiff, reduceIte, Value.cells, k3_1, decide_true, Bool.not_true, Bool.not_false, decide_false, eq_self, hB1.cell, hB2.cell, hB1.cell, hB2.cell, hB1.cell, hB2.cell] <;> rfl) rfl hB2 (by first | (simp [true_and]; done) | (simp [true_and]; omega) | omega) (by simp [Value.oneCell']) ?_
       intro h8 hw8
       have hX14 := hw8.ext hX13 hb2
       have hW14 := hw8
       replace hNV := hNV.wr hw8 hB2
       replace hNW := hNW.wr hw8 hB2
       replace hB2 := hw8.at_
       try simp only [splc, List.take_succ_cons, List.take_zero, List.take_nil, List.drop_succ_cons, List.drop_zero, List.drop_nil, List.cons_append, List.nil_append, List.length_cons, List.length_nil, Nat.zero_add, Nat.add_zero, Nat.reduceAdd, List.append_nil] at hB2
       iterate 2 refine WL.qq (by simp only [EN, Nat.reduceEqDiff, reduceIte, qv_assign, decide_true, Bool.not_true, Bool.not_false, decide_false, eq_self, hB1.cell, hB2.cell, hB1.cell, hB2.cell, hB1.cell, hB2.cell]; rfl) ?_
       refine WL.nil (th_norm (hx_ret ?_))
       refine fin_ret [.tmp 2, .cell 3 34, .tmp 4, .tmp 5] rfl rfl (by simp only [EN, Nat.reduceEqDiff, reduceIte, resv, ld34, readN, AR, Nat.zero_add, Nat.reduceAdd, k1_1, k3_1, k6_1, i9_1, i8_1, decide_true, Bool.not_true, Bool.not_false, decide_false, eq_self, hB1.cell, hB2.cell, hB1.cell, hB2.cell, hB1.cell, hB2.cell]; rfl) ?_
       refine ⟨hX14, _, _, ?_, hNV, hNW⟩
       simp only [retOf]; first | (rw [decide_eq_false he]; rfl) | (rw [decide_eq_true he]; rfl)
end GL
namespace GL
open Go Go.Proofs
set_option maxRecDepth 8000
structure OX where
  k : Int
  o : ByteArray
  p : ByteArray
  q : Int
  ad : Int
  am : Int
abbrev oxL (x : OX) : List Value := [.int .u8 x.k, .string x.o, .string x.p, iV x.q, iV x.ad, iV x.am]
theorem RI.gs {h h' : Heap} {N p b : Nat} {vh vo wh wo wc : Value} {E F : EL} (hI : RI h wh wo wc E) (hg : Gs h h' [p, b]) (hE : IsE h N p b vh vo F) : RI h' wh wo wc E := by
  have key : ∀ {el g : Nat} {cur : Array Value}, el ≠ tyEl → Has h g (.cells cur el) → g ∉ [p, b] := by
    intro el g cur hne hc hm
    rcases List.mem_cons.1 hm with rfl | hm
    · have := hE.blk.un hc; injection this with _ h9 _; exact hne h9.symm
    · simp at hm; exact hc.nmap hE.map hm
  have rk : ∀ {α : Type} {f : α → List Value} {sz el : Nat} {a : Option Addr} {l : List α}, el ≠ tyEl → SlR el sz f h a l → SlR el sz f h' a l := fun hne hs =>
    hs.gs hg fun g off ha => by obtain ⟨cur, hc⟩ := hs.ty g off ha; exact key hne hc
  obtain ⟨⟨a, c, q1, q2, q3⟩, ⟨a', c', r1, r2, r3⟩, ⟨a2, c2, rows, s1, s2, s3, s4⟩⟩ := hI
  exact ⟨⟨a, c, q1, q2, rk (by decide) q3⟩, ⟨a', c', r1, r2, rk (by decide) r3⟩, ⟨a2, c2, rows, s1, s2, rk (by decide) s3, ⟨s4.1, fun i x hi => by
    obtain ⟨b, c, t1, t2⟩ := s4.2 i x hi
    exact ⟨b, c, t1, rk (by decide) t2⟩⟩⟩⟩
end GL
namespace GL
open Go Go.Proofs Go.ChangeShapes Go.WideShapes Go.ChangeAt Go.RowKit
set_option maxRecDepth 8000
section
variable {H : Type} {enc : TypeId × Value → H} {W : World}
theorem clS : Tryz.prog.cellsOf 9 = 1 := by kernel_rfl
theorem clI : Tryz.prog.cellsOf 3 = 1 := by kernel_rfl
theorem clD : Tryz.prog.cellsOf 2 = 1 := by kernel_rfl
theorem clU : Tryz.prog.cellsOf 5 = 1 := by kernel_rfl
theorem clH : Tryz.prog.cellsOf 66 = 2 := by kernel_rfl
theorem clO : Tryz.prog.cellsOf 68 = 2 := by kernel_rfl
theorem clK : Tryz.prog.cellsOf 25 = 2 := by kernel_rfl
theorem clHs : Tryz.prog.cellsOf 22 = 1 := by kernel_rfl
theorem clOs : Tryz.prog.cellsOf 23 = 1 := by kernel_rfl
theorem clSu : Tryz.prog.cellsOf 27 = 5 := by kernel_rfl
theorem clOp : Tryz.prog.cellsOf 43 = 6 := by kernel_rfl
def pS (cs : List Value) : Prop := ∃ s : ByteArray, cs = [.string s] ∧ s.size ≤ 9223372036854775807
def pI (cs : List Value) : Prop := ∃ n, cs = [iV n]
def pU (cs : List Value) : Prop := ∃ n, cs = [.int .u8 n]
theorem vw_S : VW enc Tryz.prog W 9 pS := (vw_str Tryz.underlying9).mono fun cs ⟨s, h1, h2⟩ => ⟨s, h1, h2⟩
theorem vw_I : VW enc Tryz.prog W 3 pI := (vw_int Tryz.underlying3).mono fun cs ⟨n, h1, _⟩ => ⟨n, h1⟩
theorem vw_D : VW enc Tryz.prog W 2 pI := (vw_int Tryz.underlying2).mono fun cs ⟨n, h1, _⟩ => ⟨n, h1⟩
theorem vw_U : VW enc Tryz.prog W 5 pU := (vw_int Tryz.underlying5).mono fun cs ⟨n, h1, _⟩ => ⟨n, h1⟩
def pSI (cs : List Value) : Prop := ∃ x : SI, cs = siL x ∧ x.s.size ≤ 9223372036854775807
theorem vw_H : VW enc Tryz.prog W 66 pSI := by
  refine (vw_struct (Q := fun i => match i with | 0 => pS | _ => pI) Tryz.underlying66 ?_).mono ?_
  · intro i f hf
    rcases i with _ | _ | i <;> simp at hf <;> subst hf
    · exact vw_S
    · exact vw_D
  · rintro cs ⟨hl, hq⟩
    rw [clH] at hl
    match cs, hl with
    | [a, b], _ =>
      obtain ⟨x, hx, hx2⟩ : pS [a] := VW.fld (Q := pS) (off := 0) (hq 0 _ rfl) clS
      obtain ⟨y, hy⟩ : pI [b] := VW.fld (Q := pI) (off := 1) (hq 1 _ rfl) clD
      cases hx; cases hy
      exact ⟨⟨x, y⟩, rfl, hx2⟩
theorem vw_O : VW enc Tryz.prog W 68 pSI := by
  refine (vw_struct (Q := fun i => match i with | 0 => pS | _ => pI) Tryz.underlying68 ?_).mono ?_
  · intro i f hf
    rcases i with _ | _ | i <;> simp at hf <;> subst hf
    · exact vw_S
    · exact vw_D
  · rintro cs ⟨hl, hq⟩
    rw [clO] at hl
    match cs, hl with
    | [a, b], _ =>
      obtain ⟨x, hx, hx2⟩ : pS [a] := VW.fld (Q := pS) (off := 0) (hq 0 _ rfl) clS
      obtain ⟨y, hy⟩ : pI [b] := VW.fld (Q := pI) (off := 1) (hq 1 _ rfl) clD
      cases hx; cases hy
      exact ⟨⟨x, y⟩, rfl, hx2⟩
def pK (cs : List Value) : Prop := ∃ d m, cs = [iV d, iV m]
theorem vw_K : VW enc Tryz.prog W 25 pK := by
  refine (vw_struct (Q := fun _ => pI) Tryz.underlying25 ?_).mono ?_
  · intro i f hf
    rcases i with _ | _ | i <;> simp at hf <;> subst hf
    · exact vw_I
    · exact vw_I
  · rintro cs ⟨hl, hq⟩
    rw [clK] at hl
    match cs, hl with
    | [a, b], _ =>
      obtain ⟨x, hx⟩ : pI [a] := VW.fld (Q := pI) (off := 0) (hq 0 _ rfl) clI
      obtain ⟨y, hy⟩ : pI [b] := VW.fld (Q := pI) (off := 1) (hq 1 _ rfl) clI
      cases hx; cases hy
      exact ⟨x, y, rfl⟩
def pSIs (h : Heap) (cs : List Value) : Prop := ∃ a L cap, cs = [.slice a L.length cap] ∧ SlG 2 siL h a L ∧ L.length ≤ cap ∧ cap ≤ 9223372036854775807 ∧ (a = none → cap = 0) ∧ ∀ x ∈ L, x.s.size ≤ 9223372036854775807
theorem vw_Hs : VW enc Tryz.prog W 22 (pSIs W.heap) := vw_sl (f := siL) (p := fun x => x.s.size ≤ 9223372036854775807) Tryz.underlying22 clH (by decide) vw_H
theorem vw_Os : VW enc Tryz.prog W 23 (pSIs W.heap) := vw_sl (f := siL) (p := fun x => x.s.size ≤ 9223372036854775807) Tryz.underlying23 clO (by decide) vw_O
def pSu (h : Heap) (cs : List Value) : Prop := ∃ x : SX, cs = (suC x).toList ∧ SuI h x
theorem vw_Su : VW enc Tryz.prog W 27 (pSu W.heap) := by
  refine (vw_struct (Q := fun i => match i with | 0 => pSIs W.heap | 1 => pSIs W.heap | 2 => pS | _ => pK) Tryz.underlying27 ?_).mono ?_
  · intro i f hf
    rcases i with _ | _ | _ | _ | i <;> simp at hf <;> subst hf
    · exact vw_Hs
    · exact vw_Os
    · exact vw_S
    · exact vw_K
  · rintro cs ⟨hl, hq⟩
    rw [clSu] at hl
    match cs, hl with
    | [a, b, c, d, e], _ =>
      obtain ⟨al, l, cl, h1, h2, h3, h4, h5, h6⟩ : pSIs W.heap [a] := VW.fld (Q := pSIs W.heap) (off := 0) (hq 0 _ rfl) clHs
      obtain ⟨am, m, cm, g1, g2, g3, g4, g5, g6⟩ : pSIs W.heap [b] := VW.fld (Q := pSIs W.heap) (off := 1) (hq 1 _ rfl) clOs
      obtain ⟨x, hx, _⟩ : pS [c] := VW.fld (Q := pS) (off := 2) (hq 2 _ rfl) clS
      obtain ⟨y, z, hy⟩ : pK [d, e] := VW.fld (Q := pK) (off := 3) (hq 3 _ rfl) clK
      cases hx; cases hy; cases h1; cases g1
      exact ⟨⟨al, l, cl, am, m, cm, x, y, z⟩, rfl, ⟨h2, g2, Nat.le_trans h3 h4, Nat.le_trans g3 g4, h3, g3, h5, g5, g6⟩⟩
def pOp (cs : List Value) : Prop := ∃ x : OX, cs = oxL x ∧ True
theorem vw_Op : VW enc Tryz.prog W 43 pOp := by
  refine (vw_struct (Q := fun i => match i with | 0 => pU | 1 => pS | 2 => pS | 3 => pI | _ => pK) Tryz.underlying43 ?_).mono ?_
  · intro i f hf
    rcases i with _ | _ | _ | _ | _ | i <;> simp at hf <;> subst hf
    · exact vw_U
    · exact vw_S
    · exact vw_S
    · exact vw_D
    · exact vw_K
  · rintro cs ⟨hl, hq⟩
    rw [clOp] at hl
    match cs, hl with
    | [a, b, c, d, e, f], _ =>
      obtain ⟨k, hk⟩ : pU [a] := VW.fld (Q := pU) (off := 0) (hq 0 _ rfl) clU
      obtain ⟨x, hx, _⟩ : pS [b] := VW.fld (Q := pS) (off := 1) (hq 1 _ rfl) clS
      obtain ⟨y, hy, _⟩ : pS [c] := VW.fld (Q := pS) (off := 2) (hq 2 _ rfl) clS
      obtain ⟨q, hq2⟩ : pI [d] := VW.fld (Q := pI) (off := 3) (hq 3 _ rfl) clD
      obtain ⟨u, v, hu⟩ : pK [e, f] := VW.fld (Q := pK) (off := 4) (hq 4 _ rfl) clK
      cases hk; cases hx; cases hy; cases hq2; cases hu
      exact ⟨⟨k, x, y, q, u, v⟩, rfl, trivial⟩
theorem view_su {r : Reach} {b0 : Nat} {v : Value} {d : DataW H} {q : List MemPlace} (hv : Value.okWide Tryz.prog W r b0 27 v) (h : DataW.Trod enc Tryz.prog W 0 (fun _ => true) true 27 v d q) :
    ∃ x : SX, v = .agg (suC x) ∧ SuI W.heap x := by
  obtain ⟨cs, rfl, x, h1, h2⟩ := view_vst Tryz.underlying27 vw_Su hv h
  exact ⟨x, by rw [← Array.toArray_toList (xs := cs), h1], h2⟩
theorem view_ops {r : Reach} {b0 : Nat} {v : Value} {d : DataW H} {q : List MemPlace} (hv : Value.okWide Tryz.prog W r b0 28 v) (h : DataW.Trod enc Tryz.prog W 0 (fun _ => true) true 28 v d q) :
    ∃ (al : Option Addr) (l : List OX) (cl : Nat), v = .slice al l.length cl ∧ SlG 6 oxL W.heap al l ∧ l.length ≤ 9223372036854775807 := by
  obtain ⟨a, n, cap, rfl, al, l, cl, h1, h2, h3, h4, h5, h6⟩ := view_vsl Tryz.underlying28 (vw_sl (f := oxL) (p := fun _ => True) Tryz.underlying28 clOp (by decide) vw_Op) hv h
  simp only [List.cons.injEq, and_true] at h1
  rw [h1]
  exact ⟨al, l, cl, rfl, h2, Nat.le_trans h3 h4⟩
end
end GL
namespace GL
open Go Go.Proofs
set_option maxRecDepth 8000
theorem nw_len {x : SX} (he : erX x = 0) : (nwX x).hs.length = x.l.length := by
  have h1 := ordH_len (l := x.l) (i := x.l.length) (Nat.le_refl _)
  rwa [List.take_length] at h1
theorem IsE.lower {h : Heap} {N N' p b : Nat} {vh vo : Value} {E : EL} (hE : IsE h N p b vh vo E) (hN : N' ≤ N) : IsE h N' p b vh vo E := ⟨hE.blk, hE.oh.base hN, hE.oo.base hN, hE.map, ⟨Nat.le_trans hN hE.lo.1, Nat.le_trans hN hE.lo.2⟩⟩
end GL
namespace GL
open Go Go.Proofs
set_option maxRecDepth 8000
def czE (E : EL) (o : OX) : EL := if chX E o.o o.p o.q 0 0 = 0 then chsE E o.o o.p o.q else E
def chzE (E : EL) (L : List OX) : EL := L.foldl czE E
theorem chzE_step {E : EL} {L : List OX} {i : Nat} {o : OX} (ho : L[i]? = some o) : chzE E (L.take (i + 1)) = czE (chzE E (L.take i)) o := by
  unfold chzE
  rw [List.take_add_one, ho, List.foldl_append]; rfl
theorem cz_same (E : EL) (o : OX) : (czE E o).hs = E.hs ∧ (czE E o).os = E.os ∧ (czE E o).d = E.d ∧ (czE E o).dd = E.dd ∧ (czE E o).dm = E.dm ∧ (czE E o).cl = E.cl := by
  unfold czE
  split <;> exact ⟨rfl, rfl, rfl, rfl, rfl, rfl⟩
theorem good_cz {E : EL} (g : GoodE E) (o : OX) : GoodE (czE E o) := by
  unfold czE
  split
  · rename_i h; exact good_choose g h
  · exact g
theorem chz_same (E : EL) : ∀ L : List OX, (chzE E L).hs = E.hs ∧ (chzE E L).os = E.os ∧ (chzE E L).d = E.d ∧ (chzE E L).dd = E.dd ∧ (chzE E L).dm = E.dm ∧ (chzE E L).cl = E.cl := by
  intro L
  induction L generalizing E with
  | nil => exact ⟨rfl, rfl, rfl, rfl, rfl, rfl⟩
  | cons o L ih =>
    obtain ⟨a1, a2, a3, a4, a5, a6⟩ := ih (czE E o)
    obtain ⟨b1, b2, b3, b4, b5, b6⟩ := cz_same E o
    exact ⟨a1.trans b1, a2.trans b2, a3.trans b3, a4.trans b4, a5.trans b5, a6.trans b6⟩
theorem good_chz {E : EL} (g : GoodE E) : ∀ L : List OX, GoodE (chzE E L) := by
  intro L
  induction L generalizing E with
  | nil => exact g
  | cons o L ih => exact ih (good_cz g o)
def CzV (h : Heap) (N : Nat) (x : SX) (L : List OX) (u : Value) : Prop := (erX x ≠ 0 ∧ u = .slice none 0 0) ∨ (erX x = 0 ∧ ∃ a c, u = .slice a (resE (chzE (nwX x) L)).length c ∧ Own h N tyRx 4 u (resE (chzE (nwX x) L)).length ((resE (chzE (nwX x) L)).flatMap rxL))
set_option maxHeartbeats 4000000 in
theorem c_closing (x : SX) (h40 : x.l.length ≤ 40) (h20 : x.os.length ≤ 20) (a : Option Addr) (L : List OX) (c : Nat) (hL : L.length ≤ 1000000) {h : Heap} (hs : SuI h x) (hsL : SlG 6 oxL h a L) :
    HCalls Tryz.prog 25 #[.agg (suC x), .slice a L.length c] h fun v h' => Ext h h' ∧ ∃ u, v = .tuple #[u, .bool (decide (erX x = 0))] ∧ CzV h' h.size x L u := by
  have hsL0 := hsL
  refine hcalls2 Tryz.func25 rfl (by decide +kernel) (by simp only [Tryz.ntmps25]; exact of_decide_eq_true rfl) ?_
  intro e hin
  have e0 := hin 0 _ rfl
  have e1 := hin 1 _ rfl
  refine hx_seq (hx_region ?_)
  refine WL.box2 (by simp only [EN, Nat.reduceEqDiff, reduceIte, Value.cells, e0, decide_true, Bool.not_true, Bool.not_false, decide_false, eq_self]; rfl) ?_
  intro h1 B1 hx1 hlt1 hB1
  replace hs := hs.ext hx1
  iterate 2 refine WL.qq (by simp only [EN, Nat.reduceEqDiff, reduceIte, qv_assign, decide_true, Bool.not_true, Bool.not_false, decide_false, eq_self, hB1.cell]; rfl) ?_
  refine WL.nil (th_norm (hx_seq (hx_region ?_)))
  refine WL.qq (by simp only [EN, Nat.reduceEqDiff, reduceIte, qv_load, ld27, readN, AR, Nat.zero_add, Nat.reduceAdd, decide_true, Bool.not_true, Bool.not_false, decide_false, eq_self, hB1.cell]; rfl) ?_
  have hz2 := Ext.size (hx1)
  refine WL.ce Tryz.call24 (by simp only [EN, Nat.reduceEqDiff, reduceIte, AR, decide_true, Bool.not_true, Bool.not_false, decide_false, eq_self, hB1.cell]; exact c_begin x h40 h20 hs) ?_
  rintro _ h2 ⟨hx2, u, w, rfl, hNV, hNW⟩
  replace hs := hs.ext hx2
  replace hB1 := hB1.ext hx2
  simp only [put_some]
  obtain ⟨a0, n0, k0, a1, n1, k1, x2, x3, x4, a5, n5, k5, b6, rfl⟩ := hNW.shape
  have hX2 := ((hx1).trans (hx2))
  clear hNW
  iterate 5 refine WL.qq (by simp only [EN, Nat.reduceEqDiff, reduceIte, qv_move, decide_true, Bool.not_true, Bool.not_false, decide_false, eq_self, hB1.cell, qv_extract, AR]; rfl) ?_
  have hNVo := hNV; have hXo := ((hx1).trans (hx2))
  refine WL.alloc2 zr34 ?_
  intro h3 B3 hx3 hlt3 hB3
  replace hs := hs.ext hx3
  replace hB1 := hB1.ext hx3
  replace hNV := hNV.ext hx3
  simp only [Value.cells] at hB3
  refine WL.qq (by simp only [EN, Nat.reduceEqDiff, reduceIte, qv_assign, decide_true, Bool.not_true, Bool.not_false, decide_false, eq_self, hB1.cell, hB3.cell]; rfl) ?_
  refine WL.store (by simp only [EN, Nat.reduceEqDiff, reduceIte, decide_true, Bool.not_true, Bool.not_false, decide_false, eq_self, hB1.cell, hB3.cell] <;> rfl) sz34 (by simp only [EN, Nat.reduceEqDiff, reduceIte, Value.cells, decide_true, Bool.not_true, Bool.not_false, decide_false, eq_self, hB1.cell, hB3.cell] <;> rfl) rfl hB3 (by first | (simp [true_and]; done) | (simp [true_and]; omega) | omega) (by simp [Value.oneCell']) ?_
  intro h4 hw4
  have hx13 := hw4.ext hx3 hlt3
  have hX := hXo.trans hx13
  replace hNV := hNVo.ext hx13
  iterate 2 refine WL.qq (by simp only [EN, Nat.reduceEqDiff, reduceIte, qv_assign, decide_true, Bool.not_true, Bool.not_false, decide_false, eq_self, hB1.cell, hB3.cell]; rfl) ?_
  refine WL.nil (th_norm (hx_seq (hx_seq (hx_region ?_))))
  iterate 2 refine WL.qq (by simp only [EN, Nat.reduceEqDiff, reduceIte, qv_move, decide_true, Bool.not_true, Bool.not_false, decide_false, eq_self, hB1.cell, hB3.cell, qv_binOp, binv_neq, eq46, Option.map_some]; rfl) ?_
  refine WL.nil (th_norm ?_)
  refine hx_cond (by simp only [EN, Nat.reduceEqDiff, reduceIte, decide_true, Bool.not_true, Bool.not_false, decide_false, eq_self, hB1.cell, hB3.cell]; rfl) (fun hct21 => ?_) (fun hct21 => ?_)
  ·
   try simp only [BD] at hct21
   refine hx_seq (hx_region ?_)
   iterate 2 refine WL.qq (by simp only [EN, Nat.reduceEqDiff, reduceIte, qv_assign, decide_true, Bool.not_true, Bool.not_false, decide_false, eq_self, hB1.cell, hB3.cell]; rfl) ?_
   refine WL.nil (th_norm (hx_ret (th_ret ?_)))
   refine fin_ret [.tmp 4, .tmp 5] rfl rfl (by simp only [EN, Nat.reduceEqDiff, reduceIte, resv, e0, e1, decide_true, Bool.not_true, Bool.not_false, decide_false, eq_self, hB1.cell, hB3.cell]; rfl) ?_
   have he : erX x ≠ 0 := (by simpa using hct21)
   exact ⟨(hX), _, by rw [decide_eq_false he]; rfl, .inl ⟨he, rfl⟩⟩
  ·
   try simp only [BD] at hct21
   have he : erX x = 0 := (by simpa using hct21)
   obtain ⟨_, p, b, vh, vo, rfl, hE⟩ := hNV.resolve_left (fun hh => hh.1 he); replace hE := hE.lower hz2; have hlo := hE.lo
   have hl40 : (nwX x).hs.length ≤ 40 := (by rw [nw_len he]; exact h40)
   refine hx_skip (th_norm (hx_seq (hx_seq (hx_region ?_))))
   refine WL.qq (by simp only [EN, Nat.reduceEqDiff, reduceIte, qv_assign, decide_true, Bool.not_true, Bool.not_false, decide_false, eq_self, hB1.cell, hB3.cell]; rfl) ?_
   refine WL.nil (th_norm (hx_block ?_))
   refine hx_loopG [10, 22, 23, 24, 25, 26, 27, 28, 29, 30, 31, 32, 33, 34, 35, 36, 37, 38, 39, 40, 41, 42, 43, 44, 45] (fun k e hL0 => ∃ (i : Nat) (E : EL), L.length - i = k ∧ (i ≤ L.length) ∧ (Ext h hL0) ∧ (GoodE E) ∧ (E = chzE (nwX x) (L.take i)) ∧ (IsE hL0 h.size p b vh vo E) ∧ (b < Array.size hL0) ∧ e 10 = .int .i64 i) _ ⟨0, nwX x, rfl, ?_, ?_, ?_, ?_, ?_, ?_, ?_⟩ ?_
   · omega
   · exact hX
   · exact new_good he
   · rfl
   · exact hE
   · exact hE.map.lt
   · simp only [EN, Nat.reduceEqDiff, reduceIte, e0, e1, decide_true, Bool.not_true, Bool.not_false, decide_false, eq_self, hB1.cell, hB3.cell] <;> rfl
   ·
    rintro k e0L hL0 hfr0 ⟨i, E, rfl, hi, hX, g, hEe, hE, hbb, i10_0⟩
    have k1_0 := hfr0 1 rfl; try simp only [EN, Nat.reduceEqDiff, reduceIte, e1, decide_true, Bool.not_true, Bool.not_false, decide_false, eq_self, hB1.cell, hB3.cell] at k1_0
    have k6_0 := hfr0 6 rfl; try simp only [EN, Nat.reduceEqDiff, reduceIte, decide_true, Bool.not_true, Bool.not_false, decide_false, eq_self, hB1.cell, hB3.cell] at k6_0
    refine hx_seq (hx_seq (hx_region ?_))
    iterate 4 refine WL.qq (by simp only [EN, Nat.reduceEqDiff, reduceIte, qv_move, i10_0, decide_true, Bool.not_true, Bool.not_false, decide_false, eq_self, hB1.cell, hB3.cell, k1_0, qv_len, ln28, AR, qv_binOp, binv_lss]; rfl) ?_
    refine WL.nil (th_norm ?_)
    refine hx_cond (by simp only [EN, Nat.reduceEqDiff, reduceIte, decide_true, Bool.not_true, Bool.not_false, decide_false, eq_self, hB1.cell, hB3.cell]; rfl) (fun hct25 => ?_) (fun hct25 => ?_)
    ·
     try simp only [BD] at hct25
     obtain ⟨o, ho⟩ := atG (l := L) (i := i) (by omega); obtain ⟨b1, o1, ha1, hr1⟩ := (hsL0.ext hX) i o ho
     have hc1 := readN_cell hr1 1 _ rfl; have hc2 := readN_cell hr1 2 _ rfl; have hc3 := readN_cell hr1 3 _ rfl; have hst := chzE_step (E := nwX x) ho; rw [← hEe] at hst
     refine hx_skip (th_norm (hx_seq (hx_block ?_)))
     apply hx_draw2 Rel.same [17] [] [] rfl (by decide +kernel) rfl
     iterate 4 refine LD.qq rfl rfl (by simp only [EN, Nat.reduceEqDiff, reduceIte, qv_move, k6_0, decide_true, Bool.not_true, Bool.not_false, decide_false, eq_self, hB1.cell, hB3.cell, k1_0, i10_0, qv_indexAddr, ha1]; (try simp (disch := omega) only [ix28, Int.toNat_natCast]); rfl) ?_
     refine LD.qq rfl rfl (by simp only [EN, Nat.reduceEqDiff, reduceIte, qv_fieldAddr, fa43_1, Nat.zero_add, Nat.reduceAdd, decide_true, Bool.not_true, Bool.not_false, decide_false, eq_self, hB1.cell, hB3.cell]; rfl) ?_
     refine LD.qq rfl rfl (by simp only [EN, Nat.reduceEqDiff, reduceIte, k1_0, k6_0, i10_0, decide_true, Bool.not_true, Bool.not_false, decide_false, eq_self, hB1.cell, hB3.cell, qv_load, ld9, Int.toNat_natCast, hc1]; rfl) ?_
     iterate 3 refine LD.qq rfl rfl (by simp only [EN, Nat.reduceEqDiff, reduceIte, qv_move, k1_0, decide_true, Bool.not_true, Bool.not_false, decide_false, eq_self, hB1.cell, hB3.cell, i10_0, qv_indexAddr, ha1]; (try simp (disch := omega) only [ix28, Int.toNat_natCast]); rfl) ?_
     refine LD.qq rfl rfl (by simp only [EN, Nat.reduceEqDiff, reduceIte, qv_fieldAddr, fa43_2, Nat.zero_add, Nat.reduceAdd, decide_true, Bool.not_true, Bool.not_false, decide_false, eq_self, hB1.cell, hB3.cell]; rfl) ?_
     refine LD.qq rfl rfl (by simp only [EN, Nat.reduceEqDiff, reduceIte, k1_0, k6_0, i10_0, decide_true, Bool.not_true, Bool.not_false, decide_false, eq_self, hB1.cell, hB3.cell, qv_load, ld9, Int.toNat_natCast, hc2]; rfl) ?_
     iterate 3 refine LD.qq rfl rfl (by simp only [EN, Nat.reduceEqDiff, reduceIte, qv_move, k1_0, decide_true, Bool.not_true, Bool.not_false, decide_false, eq_self, hB1.cell, hB3.cell, i10_0, qv_indexAddr, ha1]; (try simp (disch := omega) only [ix28, Int.toNat_natCast]); rfl) ?_
     refine LD.qq rfl rfl (by simp only [EN, Nat.reduceEqDiff, reduceIte, qv_fieldAddr, fa43_3, Nat.zero_add, Nat.reduceAdd, decide_true, Bool.not_true, Bool.not_false, decide_false, eq_self, hB1.cell, hB3.cell]; rfl) ?_
     refine LD.qq rfl rfl (by simp only [EN, Nat.reduceEqDiff, reduceIte, k1_0, k6_0, i10_0, decide_true, Bool.not_true, Bool.not_false, decide_false, eq_self, hB1.cell, hB3.cell, qv_load, ld2, Int.toNat_natCast, hc3]; rfl) ?_
     refine LD.qq rfl rfl (by refine qv_bld (by simp only [EN, Nat.reduceEqDiff, reduceIte, AR, decide_true, Bool.not_true, Bool.not_false, decide_false, eq_self, hB1.cell, hB3.cell] <;> rfl) (by rw [bl49]; simp [Instr.fill, Value.cells]; rfl)) ?_
     refine LD.skip rfl ?_
     refine LD.nil ?_
     rintro hL0 rfl -
     refine WL.ce Tryz.call18 (by simp only [EN, Nat.reduceEqDiff, reduceIte, AR, decide_true, Bool.not_true, Bool.not_false, decide_false, eq_self, hB1.cell, hB3.cell]; exact c_choose g.b o.o o.p o.q 0 0 hE rfl) ?_
     rintro _ h20 ⟨rfl, hGc, hE5⟩
     simp only [put_some]
     have hX20 : Ext h h20 := hGc.toExt hX (by simp; omega)
     have hb20 : b < h20.size := Nat.lt_of_lt_of_le hbb hGc.size
     refine WL.nil (bl_norm (th_norm (hx_region ?_)))
     iterate 3 refine WL.qq (by simp only [EN, Nat.reduceEqDiff, reduceIte, qv_move, i10_0, decide_true, Bool.not_true, Bool.not_false, decide_false, eq_self, hB1.cell, hB3.cell, qv_binOp, binv_add, qv_assign]; (try simp (disch := omega) only [w64, w8, wu64]); rfl) ?_
     refine WL.nil (th_norm ?_)
     refine ⟨rfl, ?_, _, ?_, i + 1, czE E o, rfl, ?_, ?_, ?_, ?_, ?_, ?_, ?_⟩
     · (repeat (first | exact Fr.refl _ _ | refine Fr.set rfl ?_ | refine Fr.put rfl ?_ | with_reducible refine Fr.put0 ?_))
     · omega
     · omega
     · exact hX20
     · exact good_cz g o
     · exact hst.symm
     · exact hE5
     · exact hb20
     · simp only [EN, Nat.reduceEqDiff, reduceIte, k1_0, k6_0, i10_0, decide_true, Bool.not_true, Bool.not_false, decide_false, eq_self, hB1.cell, hB3.cell] <;> first | rfl | (congr 1; omega)
    ·
     try simp only [BD] at hct25
     obtain rfl : i = L.length := (by omega)
     rw [List.take_length] at hEe; have hcs := chz_same (nwX x) L; rw [← hEe] at hcs; have h40E : E.hs.length ≤ 40 := (by rw [hcs.1]; exact hl40)
     have hz : clX E 1099511627776 0 = 0 := (by have h9 := g.dl; unfold clX; rw [if_neg (by rw [hcs.2.2.2.2.2]; exact Bool.false_ne_true), if_neg]; unfold cmpC; simp only; rw [if_neg (by omega), if_neg (by omega)]; decide)
     refine hx_exit (th_exit (th_exit (bl_hit (th_norm (hx_seq (hx_region ?_))))))
     refine WL.qq (by simp only [EN, Nat.reduceEqDiff, reduceIte, qv_move, k6_0, decide_true, Bool.not_true, Bool.not_false, decide_false, eq_self, hB1.cell, hB3.cell]; rfl) ?_
     refine WL.qq (by refine qv_bld (by simp only [EN, Nat.reduceEqDiff, reduceIte, AR, decide_true, Bool.not_true, Bool.not_false, decide_false, eq_self, hB1.cell, hB3.cell] <;> rfl) (by rw [bl49]; simp [Instr.fill, Value.cells]; rfl)) ?_
     refine WL.ce Tryz.call17 (by simp only [EN, Nat.reduceEqDiff, reduceIte, AR, decide_true, Bool.not_true, Bool.not_false, decide_false, eq_self, hB1.cell, hB3.cell]; exact c_close (g.cl h40E) 1099511627776 0 hE hbb hz) ?_
     rintro _ h20 ⟨hGc, u, rfl, hE5, hu⟩
     simp only [put_some]
     rw [if_pos rfl] at hu
     have hX20 : Ext h h20 := hGc.toExt hX (by simp; omega)
     obtain ⟨au, cu, rfl⟩ := hu.slice
     subst hEe
     iterate 5 refine WL.qq (by simp only [EN, Nat.reduceEqDiff, reduceIte, qv_move, decide_true, Bool.not_true, Bool.not_false, decide_false, eq_self, hB1.cell, hB3.cell, qv_extract, AR, qv_assign]; rfl) ?_
     refine WL.nil (th_norm (hx_seq (hx_region ?_)))
     iterate 5 refine WL.qq (by simp only [EN, Nat.reduceEqDiff, reduceIte, qv_move, decide_true, Bool.not_true, Bool.not_false, decide_false, eq_self, hB1.cell, hB3.cell, qv_binOp, binv_eql, eq46, Option.map_some, qv_assign]; rfl) ?_
     refine WL.nil (th_norm (hx_ret ?_))
     refine fin_ret [.tmp 4, .tmp 5] rfl rfl (by simp only [EN, Nat.reduceEqDiff, reduceIte, resv, k1_0, k6_0, i10_0, decide_true, Bool.not_true, Bool.not_false, decide_false, eq_self, hB1.cell, hB3.cell]; rfl) ?_
     exact ⟨hX20, _, by rw [decide_eq_true he]; rfl, .inr ⟨he, au, cu, rfl, hu.base hX.size⟩⟩
abbrev kA : ByteArray := ⟨#[65]⟩
abbrev kB : ByteArray := ⟨#[66]⟩
abbrev kC : ByteArray := ⟨#[67]⟩
abbrev kCash : ByteArray := ⟨#[67, 65, 83, 72]⟩
abbrev kShare : ByteArray := ⟨#[83, 72, 65, 82, 69]⟩
def kL : List SI := [⟨kA, 10⟩, ⟨kB, 5⟩, ⟨kC, 5⟩]
def kO : List SI := [⟨kCash, 6⟩, ⟨kShare, 0⟩]
def kE0 : EL := newE kL kO kShare 9 0
def kE1 : EL := chsE kE0 kA kCash 8
def kE2 : EL := chsE kE1 kB kCash 5
def kR : List RR := [⟨kA, kCash, 8, 4⟩, ⟨kA, kShare, 2, 6⟩, ⟨kB, kCash, 5, 2⟩, ⟨kB, kShare, 0, 3⟩, ⟨kC, kShare, 5, 5⟩]
theorem kn : erN kL kO kShare 9 0 = 0 := by decide +kernel
theorem kc1 : chX kE0 kA kCash 8 0 0 = 0 := by decide +kernel
theorem kc2 : chX kE1 kB kCash 5 9 0 = 0 := by decide +kernel
theorem kz : clX kE2 9 1 = 0 := by decide +kernel
theorem kr : resE kE2 = kR := by decide +kernel
theorem kg0 : GoodE kE0 := new_good kn
theorem kg1 : GoodE kE1 := good_choose kg0 kc1
theorem kg2 : GoodE kE2 := good_choose kg1 kc2
theorem kh : kE2.hs.length ≤ 40 := by decide +kernel
theorem c_newK (a a' : Option Addr) {h : Heap} (hs : SlG 2 siL h a kL) (ho : SlG 2 siL h a' kO) (hn : a' ≠ none) :
    HCalls Tryz.prog 29 #[.slice a 3 3, .slice a' 2 2, .string kShare, .agg #[iV 9, iV 0]] h fun v h' => Ext h h' ∧ ∃ p b vh vo, v = .tuple #[.pointer (some ⟨p, 0, none⟩), iV 0] ∧ IsE h' h.size p b vh vo kE0 := by
  refine (c_new a kL 3 a' kO 2 kShare 9 0 (by decide) (by decide) (by decide) (by decide) (fun hh => absurd hh hn) hs ho).mono ?_
  rintro v h' ⟨hx, (⟨he, _⟩ | ⟨_, p, b, vh, vo, rfl, hE⟩)⟩
  · exact absurd kn he
  · exact ⟨hx, p, b, vh, vo, rfl, hE⟩
set_option maxHeartbeats 4000000 in
theorem c_known44 (h : Heap) : HCalls Tryz.prog 10 #[] h (Grow (.bool true) h) := by
  refine hcalls2 Tryz.func10 rfl (by decide +kernel) (by simp only [Tryz.ntmps10]; exact of_decide_eq_true rfl) ?_
  intro e hin
  refine hx_seq (hx_region ?_)
  refine WL.qq (by simp only [EN, Nat.reduceEqDiff, reduceIte, qv_assign, decide_true, Bool.not_true, Bool.not_false, decide_false, eq_self, strEq]; rfl) ?_
  refine WL.nil (th_norm (hx_seq (hx_region ?_)))
  refine WL.qq (by refine qv_bld (by simp only [EN, Nat.reduceEqDiff, reduceIte, AR, decide_true, Bool.not_true, Bool.not_false, decide_false, eq_self, strEq] <;> rfl) (by rw [bl78]; simp [Instr.fill, Value.cells]; rfl)) ?_
  refine WL.qq (by refine qv_bld (by simp only [EN, Nat.reduceEqDiff, reduceIte, AR, decide_true, Bool.not_true, Bool.not_false, decide_false, eq_self, strEq] <;> rfl) (by rw [bl78]; simp [Instr.fill, Value.cells]; rfl)) ?_
  refine WL.qq (by refine qv_bld (by simp only [EN, Nat.reduceEqDiff, reduceIte, AR, decide_true, Bool.not_true, Bool.not_false, decide_false, eq_self, strEq] <;> rfl) (by rw [bl78]; simp [Instr.fill, Value.cells]; rfl)) ?_
  refine WL.lit2 #[(.string ⟨#[]⟩), (.int .i64 0), (.string ⟨#[]⟩), (.int .i64 0), (.string ⟨#[]⟩), (.int .i64 0)] Tryz.underlying79 sz78 zr78 (by decide) (by kernel_rfl) ⟨_, (by simp only [EN, Nat.reduceEqDiff, reduceIte, AR, decide_true, Bool.not_true, Bool.not_false, decide_false, eq_self, strEq]; simp [Instr.fill, Value.cells]; rfl), rfl⟩ ?_
  intro h1 B1 hx1 hlt1 hB1
  refine WL.qq (by refine qv_bld (by simp only [EN, Nat.reduceEqDiff, reduceIte, AR, decide_true, Bool.not_true, Bool.not_false, decide_false, eq_self, strEq, hB1.cell] <;> rfl) (by rw [bl80]; simp [Instr.fill, Value.cells]; rfl)) ?_
  refine WL.qq (by refine qv_bld (by simp only [EN, Nat.reduceEqDiff, reduceIte, AR, decide_true, Bool.not_true, Bool.not_false, decide_false, eq_self, strEq, hB1.cell] <;> rfl) (by rw [bl80]; simp [Instr.fill, Value.cells]; rfl)) ?_
  refine WL.lit2 #[(.string ⟨#[]⟩), (.int .i64 0), (.string ⟨#[]⟩), (.int .i64 0)] Tryz.underlying81 sz80 zr80 (by decide) (by kernel_rfl) ⟨_, (by simp only [EN, Nat.reduceEqDiff, reduceIte, AR, decide_true, Bool.not_true, Bool.not_false, decide_false, eq_self, strEq, hB1.cell]; simp [Instr.fill, Value.cells]; rfl), rfl⟩ ?_
  intro h2 B2 hx2 hlt2 hB2
  replace hB1 := hB1.ext hx2
  refine WL.qq (by refine qv_bld (by simp only [EN, Nat.reduceEqDiff, reduceIte, AR, decide_true, Bool.not_true, Bool.not_false, decide_false, eq_self, strEq, hB1.cell, hB2.cell] <;> rfl) (by rw [bl49]; simp [Instr.fill, Value.cells]; rfl)) ?_
  refine WL.ce Tryz.call29 (by simp only [EN, Nat.reduceEqDiff, reduceIte, AR, decide_true, Bool.not_true, Bool.not_false, decide_false, eq_self, strEq, hB1.cell, hB2.cell]; exact c_newK (some ⟨B1, 0, none⟩) (some ⟨B2, 0, none⟩) (slG_has (f := siL) (sz := 2) (fun _ => rfl) hB1 rfl) (slG_has (f := siL) (sz := 2) (fun _ => rfl) hB2 rfl) (by simp)) ?_
  rintro _ h3 ⟨hx3, p, b, vh, vo, rfl, hE⟩
  replace hB1 := hB1.ext hx3
  replace hB2 := hB2.ext hx3
  simp only [put_some]
  have hX3 := ((hx1).trans ((hx2).trans (hx3)))
  have hb3 := hE.map.lt
  have hzz := Ext.size (hx1.trans hx2)
  replace hE := hE.lower hzz
  have hlo := hE.lo
  iterate 5 refine WL.qq (by simp only [EN, Nat.reduceEqDiff, reduceIte, qv_move, decide_true, Bool.not_true, Bool.not_false, decide_false, eq_self, strEq, hB1.cell, hB2.cell, qv_extract, AR, qv_assign]; rfl) ?_
  refine WL.nil (th_norm (hx_seq (hx_seq (hx_region ?_))))
  iterate 3 refine WL.qq (by simp only [EN, Nat.reduceEqDiff, reduceIte, qv_move, decide_true, Bool.not_true, Bool.not_false, decide_false, eq_self, strEq, hB1.cell, hB2.cell, qv_binOp, binv_neq, eq46, Option.map_some]; rfl) ?_
  refine WL.on (by rw [gOk_s (gd_at (t := 19) rfl (by simp only [EN, Nat.reduceEqDiff, reduceIte, decide_true, Bool.not_true, Bool.not_false, decide_false, eq_self, strEq, hB1.cell, hB2.cell] <;> rfl))]; rfl) ?_
  refine WL.qq (by simp only [EN, Nat.reduceEqDiff, reduceIte, qv_move, decide_true, Bool.not_true, Bool.not_false, decide_false, eq_self, strEq, hB1.cell, hB2.cell]; rfl) ?_
  refine WL.on (by rw [gOk_s (gd_at (t := 19) rfl (by simp only [EN, Nat.reduceEqDiff, reduceIte, decide_true, Bool.not_true, Bool.not_false, decide_false, eq_self, strEq, hB1.cell, hB2.cell] <;> rfl))]; rfl) ?_
  refine WL.qq (by refine qv_bld (by simp only [EN, Nat.reduceEqDiff, reduceIte, AR, decide_true, Bool.not_true, Bool.not_false, decide_false, eq_self, strEq, hB1.cell, hB2.cell] <;> rfl) (by rw [bl49]; simp [Instr.fill, Value.cells]; rfl)) ?_
  refine WL.on (by rw [gOk_s (gd_at (t := 19) rfl (by simp only [EN, Nat.reduceEqDiff, reduceIte, decide_true, Bool.not_true, Bool.not_false, decide_false, eq_self, strEq, hB1.cell, hB2.cell] <;> rfl))]; rfl) ?_
  refine WL.ce Tryz.call18 (by simp only [EN, Nat.reduceEqDiff, reduceIte, AR, decide_true, Bool.not_true, Bool.not_false, decide_false, eq_self, strEq, hB1.cell, hB2.cell]; exact c_choose kg0.b kA kCash 8 0 0 hE kc1) ?_
  rintro _ h20 ⟨rfl, hG1, hE1⟩
  simp only [put_some]
  rw [if_pos rfl] at hE1
  have hE2 : IsE h20 h.size p b vh vo kE1 := hE1
  have hX20 : Ext h h20 := hG1.toExt hX3 (by simp; omega)
  refine WL.on (by rw [gOk_s (gd_at (t := 19) rfl (by simp only [EN, Nat.reduceEqDiff, reduceIte, decide_true, Bool.not_true, Bool.not_false, decide_false, eq_self, strEq, hB1.cell, hB2.cell] <;> rfl))]; rfl) ?_
  iterate 3 refine WL.qq (by simp only [EN, Nat.reduceEqDiff, reduceIte, qv_binOp, binv_neq, eq46, Option.map_some, decide_true, Bool.not_true, Bool.not_false, decide_false, eq_self, strEq, hB1.cell, hB2.cell, qv_pick, pk_and, pk_or, GR, qv_move]; rfl) ?_
  refine WL.on (by rw [gOk_s (gd_at (t := 25) rfl (by simp only [EN, Nat.reduceEqDiff, reduceIte, decide_true, Bool.not_true, Bool.not_false, decide_false, eq_self, strEq, hB1.cell, hB2.cell] <;> rfl))]; rfl) ?_
  refine WL.qq (by simp only [EN, Nat.reduceEqDiff, reduceIte, qv_move, decide_true, Bool.not_true, Bool.not_false, decide_false, eq_self, strEq, hB1.cell, hB2.cell]; rfl) ?_
  refine WL.on (by rw [gOk_s (gd_at (t := 25) rfl (by simp only [EN, Nat.reduceEqDiff, reduceIte, decide_true, Bool.not_true, Bool.not_false, decide_false, eq_self, strEq, hB1.cell, hB2.cell] <;> rfl))]; rfl) ?_
  refine WL.qq (by refine qv_bld (by simp only [EN, Nat.reduceEqDiff, reduceIte, AR, decide_true, Bool.not_true, Bool.not_false, decide_false, eq_self, strEq, hB1.cell, hB2.cell] <;> rfl) (by rw [bl49]; simp [Instr.fill, Value.cells]; rfl)) ?_
  refine WL.on (by rw [gOk_s (gd_at (t := 25) rfl (by simp only [EN, Nat.reduceEqDiff, reduceIte, decide_true, Bool.not_true, Bool.not_false, decide_false, eq_self, strEq, hB1.cell, hB2.cell] <;> rfl))]; rfl) ?_
  refine WL.ce Tryz.call18 (by simp only [EN, Nat.reduceEqDiff, reduceIte, AR, decide_true, Bool.not_true, Bool.not_false, decide_false, eq_self, strEq, hB1.cell, hB2.cell]; exact c_choose kg1.b kB kCash 5 9 0 hE2 kc2) ?_
  rintro _ h21 ⟨rfl, hG2, hE3⟩
  simp only [put_some]
  rw [if_pos rfl] at hE3
  have hE4 : IsE h21 h.size p b vh vo kE2 := hE3
  have hX21 : Ext h h21 := hG2.toExt hX20 (by simp; omega)
  have hb21 : b < h21.size := hE4.map.lt
  refine WL.on (by rw [gOk_s (gd_at (t := 25) rfl (by simp only [EN, Nat.reduceEqDiff, reduceIte, decide_true, Bool.not_true, Bool.not_false, decide_false, eq_self, strEq, hB1.cell, hB2.cell] <;> rfl))]; rfl) ?_
  iterate 2 refine WL.qq (by simp only [EN, Nat.reduceEqDiff, reduceIte, qv_binOp, binv_neq, eq46, Option.map_some, decide_true, Bool.not_true, Bool.not_false, decide_false, eq_self, strEq, hB1.cell, hB2.cell, qv_pick, pk_and, pk_or, GR]; rfl) ?_
  refine WL.nil (th_norm ?_)
  refine hx_cond (by simp only [EN, Nat.reduceEqDiff, reduceIte, decide_true, Bool.not_true, Bool.not_false, decide_false, eq_self, strEq, hB1.cell, hB2.cell]; rfl) (fun hct30 => ?_) (fun hct30 => ?_)
  ·
   simp at hct30
  ·
   try simp only [BD] at hct30
   refine hx_skip (th_norm (hx_seq (hx_region ?_)))
   refine WL.qq (by simp only [EN, Nat.reduceEqDiff, reduceIte, qv_move, decide_true, Bool.not_true, Bool.not_false, decide_false, eq_self, strEq, hB1.cell, hB2.cell]; rfl) ?_
   refine WL.qq (by refine qv_bld (by simp only [EN, Nat.reduceEqDiff, reduceIte, AR, decide_true, Bool.not_true, Bool.not_false, decide_false, eq_self, strEq, hB1.cell, hB2.cell] <;> rfl) (by rw [bl49]; simp [Instr.fill, Value.cells]; rfl)) ?_
   refine WL.ce Tryz.call17 (by simp only [EN, Nat.reduceEqDiff, reduceIte, AR, decide_true, Bool.not_true, Bool.not_false, decide_false, eq_self, strEq, hB1.cell, hB2.cell]; exact c_close (kg2.cl kh) 9 1 hE4 hb21 kz) ?_
   rintro _ h22 ⟨hGc, u, rfl, hE5, hu⟩
   simp only [put_some]
   rw [if_pos rfl, kr] at hu
   have hX22 : Ext h h22 := hGc.toExt hX21 (by simp; omega)
   obtain ⟨gu, cu, hue, _⟩ := hu.rd (i := 0) (by decide)
   rw [show kR.length = 5 from rfl] at hue
   subst hue
   have hsu := slG_own (f := rxL) (sz := 4) (fun _ => rfl) hu rfl
   obtain ⟨g0, q0, hg0, hr0⟩ := hsu 0 ⟨kA, kCash, 8, 4⟩ rfl
   cases hg0
   obtain ⟨g0, q0, hg0, hr3⟩ := hsu 3 ⟨kB, kShare, 0, 3⟩ rfl
   cases hg0
   obtain ⟨g0, q0, hg0, hr4⟩ := hsu 4 ⟨kC, kShare, 5, 5⟩ rfl
   cases hg0
   have hc43 := readN_cell hr4 3 _ rfl
   iterate 5 refine WL.qq (by simp only [EN, Nat.reduceEqDiff, reduceIte, qv_move, decide_true, Bool.not_true, Bool.not_false, decide_false, eq_self, strEq, hB1.cell, hB2.cell, qv_extract, AR, qv_assign]; rfl) ?_
   refine WL.nil (th_norm (hx_seq (hx_region ?_)))
   iterate 3 refine WL.qq (by simp only [EN, Nat.reduceEqDiff, reduceIte, qv_move, decide_true, Bool.not_true, Bool.not_false, decide_false, eq_self, strEq, hB1.cell, hB2.cell, qv_binOp, binv_eql, eq46, Option.map_some]; rfl) ?_
   refine WL.on (by rw [gOk_s (gd_at (t := 39) rfl (by simp only [EN, Nat.reduceEqDiff, reduceIte, decide_true, Bool.not_true, Bool.not_false, decide_false, eq_self, strEq, hB1.cell, hB2.cell] <;> rfl))]; rfl) ?_
   refine WL.qq (by simp only [EN, Nat.reduceEqDiff, reduceIte, qv_move, decide_true, Bool.not_true, Bool.not_false, decide_false, eq_self, strEq, hB1.cell, hB2.cell]; rfl) ?_
   refine WL.on (by rw [gOk_s (gd_at (t := 39) rfl (by simp only [EN, Nat.reduceEqDiff, reduceIte, decide_true, Bool.not_true, Bool.not_false, decide_false, eq_self, strEq, hB1.cell, hB2.cell] <;> rfl))]; rfl) ?_
   refine WL.qq (by simp only [EN, Nat.reduceEqDiff, reduceIte, qv_len, ln45, AR, decide_true, Bool.not_true, Bool.not_false, decide_false, eq_self, strEq, hB1.cell, hB2.cell]; rfl) ?_
   refine WL.on (by rw [gOk_s (gd_at (t := 39) rfl (by simp only [EN, Nat.reduceEqDiff, reduceIte, decide_true, Bool.not_true, Bool.not_false, decide_false, eq_self, strEq, hB1.cell, hB2.cell] <;> rfl))]; rfl) ?_
   iterate 3 refine WL.qq (by simp only [EN, Nat.reduceEqDiff, reduceIte, qv_binOp, binv_eql, eq3, Option.map_some, decide_true, Bool.not_true, Bool.not_false, decide_false, eq_self, strEq, hB1.cell, hB2.cell, qv_pick, pk_and, pk_or, GR, qv_move]; rfl) ?_
   refine WL.on (by rw [gOk_s (gd_at (t := 44) rfl (by simp only [EN, Nat.reduceEqDiff, reduceIte, decide_true, Bool.not_true, Bool.not_false, decide_false, eq_self, strEq, hB1.cell, hB2.cell] <;> rfl))]; rfl) ?_
   refine WL.qq (by simp only [EN, Nat.reduceEqDiff, reduceIte, qv_move, decide_true, Bool.not_true, Bool.not_false, decide_false, eq_self, strEq, hB1.cell, hB2.cell]; rfl) ?_
   refine WL.on (by rw [gOk_s (gd_at (t := 44) rfl (by simp only [EN, Nat.reduceEqDiff, reduceIte, decide_true, Bool.not_true, Bool.not_false, decide_false, eq_self, strEq, hB1.cell, hB2.cell] <;> rfl))]; rfl) ?_
   refine WL.qq (by simp only [EN, Nat.reduceEqDiff, reduceIte, qv_indexAddr, decide_true, Bool.not_true, Bool.not_false, decide_false, eq_self, strEq, hB1.cell, hB2.cell]; (try simp (disch := omega) only [ix45, Int.toNat_natCast]); rfl) ?_
   refine WL.on (by rw [gOk_s (gd_at (t := 44) rfl (by simp only [EN, Nat.reduceEqDiff, reduceIte, decide_true, Bool.not_true, Bool.not_false, decide_false, eq_self, strEq, hB1.cell, hB2.cell] <;> rfl))]; rfl) ?_
   refine WL.qq (by simp only [EN, Nat.reduceEqDiff, reduceIte, decide_true, Bool.not_true, Bool.not_false, decide_false, eq_self, strEq, hB1.cell, hB2.cell, qv_load, ld64, Int.reduceToNat, hr0]; rfl) ?_
   refine WL.on (by rw [gOk_s (gd_at (t := 44) rfl (by simp only [EN, Nat.reduceEqDiff, reduceIte, decide_true, Bool.not_true, Bool.not_false, decide_false, eq_self, strEq, hB1.cell, hB2.cell] <;> rfl))]; rfl) ?_
   refine WL.qq (by refine qv_bld (by simp only [EN, Nat.reduceEqDiff, reduceIte, AR, decide_true, Bool.not_true, Bool.not_false, decide_false, eq_self, strEq, hB1.cell, hB2.cell] <;> rfl) (by rw [bl64]; simp [Instr.fill, Value.cells]; rfl)) ?_
   refine WL.on (by rw [gOk_s (gd_at (t := 44) rfl (by simp only [EN, Nat.reduceEqDiff, reduceIte, decide_true, Bool.not_true, Bool.not_false, decide_false, eq_self, strEq, hB1.cell, hB2.cell] <;> rfl))]; rfl) ?_
   iterate 3 refine WL.qq (by simp only [EN, Nat.reduceEqDiff, reduceIte, qv_binOp, binv_eql, eqs64, Option.map_some, decide_true, Bool.not_true, Bool.not_false, decide_false, eq_self, strEq, hB1.cell, hB2.cell, qv_pick, pk_and, pk_or, GR, qv_move]; rfl) ?_
   refine WL.on (by rw [gOk_s (gd_at (t := 51) rfl (by simp only [EN, Nat.reduceEqDiff, reduceIte, decide_true, Bool.not_true, Bool.not_false, decide_false, eq_self, strEq, hB1.cell, hB2.cell] <;> rfl))]; rfl) ?_
   refine WL.qq (by simp only [EN, Nat.reduceEqDiff, reduceIte, qv_move, decide_true, Bool.not_true, Bool.not_false, decide_false, eq_self, strEq, hB1.cell, hB2.cell]; rfl) ?_
   refine WL.on (by rw [gOk_s (gd_at (t := 51) rfl (by simp only [EN, Nat.reduceEqDiff, reduceIte, decide_true, Bool.not_true, Bool.not_false, decide_false, eq_self, strEq, hB1.cell, hB2.cell] <;> rfl))]; rfl) ?_
   refine WL.qq (by simp only [EN, Nat.reduceEqDiff, reduceIte, qv_indexAddr, decide_true, Bool.not_true, Bool.not_false, decide_false, eq_self, strEq, hB1.cell, hB2.cell]; (try simp (disch := omega) only [ix45, Int.toNat_natCast]); rfl) ?_
   refine WL.on (by rw [gOk_s (gd_at (t := 51) rfl (by simp only [EN, Nat.reduceEqDiff, reduceIte, decide_true, Bool.not_true, Bool.not_false, decide_false, eq_self, strEq, hB1.cell, hB2.cell] <;> rfl))]; rfl) ?_
   refine WL.qq (by simp only [EN, Nat.reduceEqDiff, reduceIte, decide_true, Bool.not_true, Bool.not_false, decide_false, eq_self, strEq, hB1.cell, hB2.cell, qv_load, ld64, Int.reduceToNat, hr3]; rfl) ?_
   refine WL.on (by rw [gOk_s (gd_at (t := 51) rfl (by simp only [EN, Nat.reduceEqDiff, reduceIte, decide_true, Bool.not_true, Bool.not_false, decide_false, eq_self, strEq, hB1.cell, hB2.cell] <;> rfl))]; rfl) ?_
   refine WL.qq (by refine qv_bld (by simp only [EN, Nat.reduceEqDiff, reduceIte, AR, decide_true, Bool.not_true, Bool.not_false, decide_false, eq_self, strEq, hB1.cell, hB2.cell] <;> rfl) (by rw [bl64]; simp [Instr.fill, Value.cells]; rfl)) ?_
   refine WL.on (by rw [gOk_s (gd_at (t := 51) rfl (by simp only [EN, Nat.reduceEqDiff, reduceIte, decide_true, Bool.not_true, Bool.not_false, decide_false, eq_self, strEq, hB1.cell, hB2.cell] <;> rfl))]; rfl) ?_
   iterate 3 refine WL.qq (by simp only [EN, Nat.reduceEqDiff, reduceIte, qv_binOp, binv_eql, eqs64, Option.map_some, decide_true, Bool.not_true, Bool.not_false, decide_false, eq_self, strEq, hB1.cell, hB2.cell, qv_pick, pk_and, pk_or, GR, qv_move]; rfl) ?_
   refine WL.on (by rw [gOk_s (gd_at (t := 58) rfl (by simp only [EN, Nat.reduceEqDiff, reduceIte, decide_true, Bool.not_true, Bool.not_false, decide_false, eq_self, strEq, hB1.cell, hB2.cell] <;> rfl))]; rfl) ?_
   refine WL.qq (by simp only [EN, Nat.reduceEqDiff, reduceIte, qv_move, decide_true, Bool.not_true, Bool.not_false, decide_false, eq_self, strEq, hB1.cell, hB2.cell]; rfl) ?_
   refine WL.on (by rw [gOk_s (gd_at (t := 58) rfl (by simp only [EN, Nat.reduceEqDiff, reduceIte, decide_true, Bool.not_true, Bool.not_false, decide_false, eq_self, strEq, hB1.cell, hB2.cell] <;> rfl))]; rfl) ?_
   refine WL.qq (by simp only [EN, Nat.reduceEqDiff, reduceIte, qv_indexAddr, decide_true, Bool.not_true, Bool.not_false, decide_false, eq_self, strEq, hB1.cell, hB2.cell]; (try simp (disch := omega) only [ix45, Int.toNat_natCast]); rfl) ?_
   refine WL.on (by rw [gOk_s (gd_at (t := 58) rfl (by simp only [EN, Nat.reduceEqDiff, reduceIte, decide_true, Bool.not_true, Bool.not_false, decide_false, eq_self, strEq, hB1.cell, hB2.cell] <;> rfl))]; rfl) ?_
   refine WL.qq (by simp only [EN, Nat.reduceEqDiff, reduceIte, qv_fieldAddr, fa64_3, Nat.zero_add, Nat.reduceAdd, decide_true, Bool.not_true, Bool.not_false, decide_false, eq_self, strEq, hB1.cell, hB2.cell]; rfl) ?_
   refine WL.on (by rw [gOk_s (gd_at (t := 58) rfl (by simp only [EN, Nat.reduceEqDiff, reduceIte, decide_true, Bool.not_true, Bool.not_false, decide_false, eq_self, strEq, hB1.cell, hB2.cell] <;> rfl))]; rfl) ?_
   refine WL.qq (by simp only [EN, Nat.reduceEqDiff, reduceIte, decide_true, Bool.not_true, Bool.not_false, decide_false, eq_self, strEq, hB1.cell, hB2.cell, qv_load, ld2, Int.reduceToNat, hc43]; rfl) ?_
   refine WL.on (by rw [gOk_s (gd_at (t := 58) rfl (by simp only [EN, Nat.reduceEqDiff, reduceIte, decide_true, Bool.not_true, Bool.not_false, decide_false, eq_self, strEq, hB1.cell, hB2.cell] <;> rfl))]; rfl) ?_
   iterate 3 refine WL.qq (by simp only [EN, Nat.reduceEqDiff, reduceIte, qv_binOp, binv_eql, eq2, Option.map_some, decide_true, Bool.not_true, Bool.not_false, decide_false, eq_self, strEq, hB1.cell, hB2.cell, qv_pick, pk_and, pk_or, GR, qv_assign]; rfl) ?_
   refine WL.nil (th_norm (hx_ret ?_))
   refine fin_ret [.tmp 0] rfl rfl (by simp only [EN, Nat.reduceEqDiff, reduceIte, resv, decide_true, Bool.not_true, Bool.not_false, decide_false, eq_self, strEq, hB1.cell, hB2.cell]; rfl) ?_
   exact ⟨by simp [retOf], hX22⟩
end GL
namespace GL
open Go Go.Proofs
set_option maxRecDepth 8000
theorem cz_ok {x : SX} (he : erX x = 0) (h40 : x.l.length ≤ 40) (L : List OX) : GoodE (chzE (nwX x) L) ∧ (∀ y ∈ x.l, y ∈ (chzE (nwX x) L).hs) ∧ (chzE (nwX x) L).os = x.os ∧ (resE (chzE (nwX x) L)).length ≤ 640 := by
  have g := good_chz (new_good he) L
  have h1 := chz_same (nwX x) L
  have hH : erH x.l = 0 := by
    by_cases hh : erH x.l = 0
    · exact hh
    · exfalso
      have h2 : erN x.l x.os x.s x.d x.m = 0 := he
      unfold erN at h2
      rw [if_pos hh] at h2
      exact hh h2
  have hp := (ordH_spec (erH_0.1 hH).nd).2
  refine ⟨g, fun y hy => ?_, h1.2.1, ?_⟩
  · rw [h1.1]; exact hp.mem_iff.2 hy
  · have h3 := resE_len (E := chzE (nwX x) L) (by rw [h1.1]; rw [nw_len he]; exact h40) g.on.2 (chzE (nwX x) L).hs.length
    rw [List.take_length] at h3
    exact h3
end GL
namespace GL
open Go Go.Proofs
set_option maxRecDepth 8000
def likeE (s : ByteArray) (E F : EL) : Prop := E.hs = F.hs ∧ E.os = F.os ∧ E.d = F.d ∧ E.dd = F.dd ∧ E.dm = F.dm ∧ E.cl = F.cl ∧ ∀ k : Int, lk E.m ⟨s, k⟩ = lk F.m ⟨s, k⟩
theorem likeE.refl (s : ByteArray) (E : EL) : likeE s E E := ⟨rfl, rfl, rfl, rfl, rfl, rfl, fun _ => rfl⟩
theorem likeE.symm {s : ByteArray} {E F : EL} (h : likeE s E F) : likeE s F E := ⟨h.1.symm, h.2.1.symm, h.2.2.1.symm, h.2.2.2.1.symm, h.2.2.2.2.1.symm, h.2.2.2.2.2.1.symm, fun k => (h.2.2.2.2.2.2 k).symm⟩
theorem likeE.trans {s : ByteArray} {E F G : EL} (h : likeE s E F) (h' : likeE s F G) : likeE s E G := ⟨h.1.trans h'.1, h.2.1.trans h'.2.1, h.2.2.1.trans h'.2.2.1, h.2.2.2.1.trans h'.2.2.2.1, h.2.2.2.2.1.trans h'.2.2.2.2.1, h.2.2.2.2.2.1.trans h'.2.2.2.2.2.1, fun k => (h.2.2.2.2.2.2 k).trans (h'.2.2.2.2.2.2 k)⟩
theorem like_ne {s : ByteArray} {E : EL} {o : OX} (h : o.o ≠ s) : likeE s (czE E o) E := by
  unfold czE
  split
  · refine ⟨rfl, rfl, rfl, rfl, rfl, rfl, fun k => ?_⟩
    show lk (chM E.m ⟨o.o, idxS o.p E.os⟩ o.q) ⟨s, k⟩ = _
    rw [lk_chM, if_neg]
    intro hh
    rw [pk_eq] at hh
    exact h hh.1.symm
  · exact likeE.refl s E
theorem like_cz {E F : EL} {o : OX} (h : likeE o.o E F) : likeE o.o (czE E o) (czE F o) := by
  obtain ⟨h1, h2, h3, h4, h5, h6, h7⟩ := h
  have hs : sumE E o.o = sumE F o.o := by unfold sumE; rw [h2]; exact sumF_congr fun k _ => h7 k
  have hh : hldE E o.o = hldE F o.o := by unfold hldE; rw [h1]
  have hX : chX E o.o o.p o.q 0 0 = chX F o.o o.p o.q 0 0 := by
    unfold chX
    rw [h1, h2, h4, h5, h6, h7, hs, hh]
  unfold czE
  rw [hX]
  split
  · refine ⟨h1, h2, h3, h4, h5, h6, fun k => ?_⟩
    show lk (chM E.m ⟨o.o, idxS o.p E.os⟩ o.q) ⟨o.o, k⟩ = lk (chM F.m ⟨o.o, idxS o.p F.os⟩ o.q) ⟨o.o, k⟩
    rw [lk_chM, lk_chM, h2, h7]
  · exact ⟨h1, h2, h3, h4, h5, h6, h7⟩
abbrev byS (s : ByteArray) (o : OX) : Bool := decide (o.o = s)
theorem like_chz {s : ByteArray} : ∀ (L : List OX) {E F : EL}, likeE s E F → likeE s (chzE E L) (chzE F (L.filter (byS s)))
  | [], _, _, h => h
  | o :: L, E, F, h => by
    by_cases ho : o.o = s
    · subst ho
      rw [List.filter_cons_of_pos (by simp)]
      exact like_chz L (like_cz h)
    · rw [List.filter_cons_of_neg (by simpa using ho)]
      exact like_chz (E := czE E o) L ((like_ne ho).trans h)
theorem flat_none {s : ByteArray} {l : List SI} (h : ∀ x ∈ l, x.s ≠ s) (L : List OX) : (l.flatMap fun x => L.filter (byS x.s)).filter (byS s) = [] := by
  rw [List.filter_eq_nil_iff]
  intro o ho
  obtain ⟨x, hx, h1⟩ := List.mem_flatMap.1 ho
  have h2 := (List.mem_filter.1 h1).2
  simp only [decide_eq_true_eq] at h2 ⊢
  intro hh
  exact h x hx (h2.symm.trans hh)
theorem flat_one {s : ByteArray} (L : List OX) : ∀ {l : List SI}, (l.map SI.s).Nodup → (∃ x ∈ l, x.s = s) → (l.flatMap fun x => L.filter (byS x.s)).filter (byS s) = L.filter (byS s)
  | [], _, h => by obtain ⟨x, hx, _⟩ := h; cases hx
  | y :: l, hn, h => by
    simp only [List.map_cons, List.nodup_cons] at hn
    rw [List.flatMap_cons, List.filter_append]
    by_cases hy : y.s = s
    · subst hy
      rw [flat_none (fun x hx hh => hn.1 (List.mem_map.2 ⟨x, hx, hh⟩)), List.append_nil, List.filter_filter]
      simp only [Bool.and_self]
    · have h2 : (L.filter (byS y.s)).filter (byS s) = [] := by
        rw [List.filter_eq_nil_iff]
        intro o ho
        have h3 := (List.mem_filter.1 ho).2
        simp only [decide_eq_true_eq] at h3 ⊢
        intro hh
        exact hy (h3.symm.trans hh)
      rw [h2, List.nil_append]
      refine flat_one L hn.2 ?_
      obtain ⟨x, hx, hxs⟩ := h
      rcases List.mem_cons.1 hx with rfl | hx
      · exact absurd hxs hy
      · exact ⟨x, hx, hxs⟩
theorem flatMap_eq {α β : Type} {f g : α → List β} : ∀ {l : List α}, (∀ x ∈ l, f x = g x) → l.flatMap f = l.flatMap g
  | [], _ => rfl
  | x :: l, h => by rw [List.flatMap_cons, List.flatMap_cons, h x (by simp), flatMap_eq fun y hy => h y (by simp [hy])]
theorem res_like {E F : EL} (hne : E.hs ≠ []) (h : ∀ x ∈ E.hs, likeE x.s E F) : resE E = resE F := by
  obtain ⟨x0, hx0⟩ := List.exists_mem_of_ne_nil _ hne
  obtain ⟨h1, h2, h3, _, _, _, _⟩ := h x0 hx0
  have hc : ∀ x ∈ E.hs, ∀ k : Nat, chE E x.s k = chE F x.s k := fun x hx k => (h x hx).2.2.2.2.2.2 k
  have hw : ∀ k, wsE E k = wsE F k := by
    intro k
    unfold wsE
    rw [← h1]
    refine List.map_congr_left fun x hx => ?_
    unfold chN
    rw [hc x hx]
  have ha : ∀ k, accE E k = accE F k := by
    intro k
    unfold accE
    rw [h2, hw]
  have hu : ∀ n m q, uE E n m q = uE F n m q := by
    intro n m q
    unfold uE
    rw [h1, h3, ha]
  have hA : ∀ x, aE E x = aE F x := by
    intro x
    funext k
    unfold aE
    rw [h2, hu]
  have hR : ∀ x, rstE E x = rstE F x := by
    intro x
    unfold rstE
    rw [hA, h2]
  have hC : ∀ x k, acE E x k = acE F x k := by
    intro x k
    unfold acE
    rw [h3, hR, hA]
  unfold resE
  rw [← h1]
  refine flatMap_eq fun x hx => ?_
  have hs : sumE E x.s = sumE F x.s := by unfold sumE; rw [h2]; exact sumF_congr fun k _ => hc x hx k
  have ht : ∀ k, tknE E x.s k = tknE F x.s k := by
    intro k
    unfold tknE freeE hldE
    rw [h1, h3, hs, hc x hx k]
  unfold rowR
  rw [h2]
  have hf : rxF E x = rxF F x := by
    funext z
    unfold rxF
    rw [ht, hC]
  rw [hf]
theorem er_rest {l l' os : List SI} {s : ByteArray} {d m : Int} (hp : l'.Perm l) : erN l' os s d m = 0 ↔ erN l os s d m = 0 := by
  have h1 : erH l' = 0 ↔ erH l = 0 := by
    rw [erH_0, erH_0]
    exact ⟨fun h => h.perm hp.symm, fun h => h.perm hp⟩
  unfold erN
  by_cases h : erH l = 0
  · rw [if_neg (not_not_intro (h1.2 h)), if_neg (not_not_intro h)]
  · rw [if_pos (fun hh => h (h1.1 hh)), if_pos h]
    exact h1
theorem er_nd {l os : List SI} {s : ByteArray} {d m : Int} (he : erN l os s d m = 0) : OkH l := by
  refine erH_0.1 ?_
  by_cases hh : erH l = 0
  · exact hh
  · exfalso
    unfold erN at he
    rw [if_pos hh] at he
    exact hh he
theorem nw_rest {l l' os : List SI} {s : ByteArray} {d m : Int} (hp : l'.Perm l) (he : erN l os s d m = 0) : newE l' os s d m = newE l os s d m := by
  unfold newE
  rw [ordH_perm hp (er_nd he).nd]
theorem res_order {l l' os : List SI} {s : ByteArray} {d m : Int} (hp : l'.Perm l) (he : erN l os s d m = 0) (L : List OX) :
    resE (chzE (newE l' os s d m) (l.flatMap fun y => L.filter (byS y.s))) = resE (chzE (newE l os s d m) L) := by
  rw [nw_rest hp he]
  have h1 := chz_same (newE l os s d m) (l.flatMap fun y => L.filter (byS y.s))
  have hok := er_nd he
  have ho : (newE l os s d m).hs.Perm l := (ordH_spec hok.nd).2
  refine res_like ?_ fun x hx => ?_
  · rw [h1.1]
    intro hh
    have := ho.length_eq
    rw [hh] at this
    exact hok.ne this.symm
  · rw [h1.1] at hx
    have h2 := ho.mem_iff.1 hx
    have h3 := like_chz (s := x.s) (l.flatMap fun y => L.filter (byS y.s)) (likeE.refl x.s (newE l os s d m))
    have h4 := like_chz (s := x.s) L (likeE.refl x.s (newE l os s d m))
    rw [flat_one L hok.nd ⟨x, h2, rfl⟩] at h3
    exact h3.trans h4.symm
end GL

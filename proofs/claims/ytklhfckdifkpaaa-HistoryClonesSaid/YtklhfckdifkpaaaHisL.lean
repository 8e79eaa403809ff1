/- History: the last bundle at or before a time. -/
import Derived.Test.YtklhfckdifkpaaaHisI
set_option linter.unusedSimpArgs false
set_option linter.unusedVariables false
set_option linter.unnecessarySimpa false
namespace GL
open Go Go.Proofs
set_option maxRecDepth 8000
def seqR (d m : Int) : List HB → Nat
  | [] => 0
  | b :: l => if ltr d m b.day b.mn then seqR d m l else l.length + 1
def seqN (l : List HB) (d m : Int) : Nat := seqR d m l.reverse
theorem seqN_snoc (l : List HB) (b : HB) (d m : Int) : seqN (l ++ [b]) d m = if ltr d m b.day b.mn then seqN l d m else l.length + 1 := by
  simp only [seqN, List.reverse_append, List.reverse_cons, List.reverse_nil, List.nil_append, List.singleton_append, seqR, List.length_reverse]
theorem seqN_step {l : List HB} {i : Nat} {b : HB} (h : l[i]? = some b) (d m : Int) : seqN (l.take (i + 1)) d m = if ltr d m b.day b.mn then seqN (l.take i) d m else i + 1 := by
  rw [List.take_add_one, h]
  show seqN (l.take i ++ [b]) d m = _
  rw [seqN_snoc, List.length_take]
  have := (List.getElem?_eq_some_iff.1 h).1
  rw [Nat.min_eq_left (by omega)]
theorem ltr_trans {a b c d e f : Int} (h1 : ¬ ltr a b c d) (h2 : ¬ ltr c d e f) : ¬ ltr a b e f := by
  unfold ltr at *; omega
theorem snoc_ind {α : Type} {p : List α → Prop} (h0 : p []) (hs : ∀ l x, p l → p (l ++ [x])) : ∀ l, p l := by
  have : ∀ n (l : List α), l.length = n → p l := by
    intro n
    induction n with
    | zero => intro l hl; rw [List.length_eq_zero_iff.1 hl]; exact h0
    | succ n ih =>
      intro l hl
      have hne : l ≠ [] := by intro hh; rw [hh] at hl; cases hl
      rw [← List.dropLast_concat_getLast hne]
      exact hs _ _ (ih _ (by rw [List.length_dropLast]; omega))
  exact fun l => this _ l rfl
/-- The bundles of a history are in the order of their times. -/
theorem GH.sorted : ∀ {l : List HB}, GH l → ∀ (i : Nat) (b y : HB), l[i]? = some b → l.getLast? = some y → ¬ ltr y.day y.mn b.day b.mn := by
  intro l
  refine snoc_ind (p := fun l => GH l → ∀ (i : Nat) (b y : HB), l[i]? = some b → l.getLast? = some y → ¬ ltr y.day y.mn b.day b.mn) (fun _ i b y h => by simp at h) ?_ l
  intro l x ih hg i b y hb hy
  rw [List.getLast?_concat] at hy
  cases hy
  have hgl : GH l := by have := hg.take l.length; rwa [List.take_append_of_le_length (Nat.le_refl _), List.take_length] at this
  have hx := hg l.length x (by rw [List.getElem?_append_right (Nat.le_refl _), Nat.sub_self]; rfl)
  rw [List.take_append_of_le_length (Nat.le_refl _), List.take_length] at hx
  have hlate := (bdE_zero hx).2.2.1
  by_cases hi : i < l.length
  · rw [List.getElem?_append_left hi] at hb
    have hne : l ≠ [] := by rintro rfl; simp at hi
    have hz : l.getLast? = some (l.getLast hne) := List.getLast?_eq_some_getLast hne
    have h1 := ih hgl i b _ hb hz
    have h2 : ¬ ltr x.day x.mn (l.getLast hne).day (l.getLast hne).mn := by
      simp only [lateB, hz] at hlate
      exact of_decide_eq_false hlate
    exact ltr_trans h2 h1
  · rw [List.getElem?_append_right (by omega)] at hb
    have : i - l.length = 0 := by
      have := (List.getElem?_eq_some_iff.1 hb).1
      simp at this; omega
    rw [this] at hb
    simp at hb
    subst hb
    unfold ltr; omega
theorem seq_spec (d m : Int) : ∀ {l : List HB}, GH l → seqN l d m ≤ l.length ∧ ∀ (i : Nat) (b : HB), l[i]? = some b → (i < seqN l d m ↔ ¬ ltr d m b.day b.mn) := by
  intro l
  refine snoc_ind (p := fun l => GH l → seqN l d m ≤ l.length ∧ ∀ (i : Nat) (b : HB), l[i]? = some b → (i < seqN l d m ↔ ¬ ltr d m b.day b.mn)) (fun _ => ⟨Nat.le_refl _, fun i b h => by simp at h⟩) ?_ l
  intro l x ih hg
  have hgl : GH l := by have := hg.take l.length; rwa [List.take_append_of_le_length (Nat.le_refl _), List.take_length] at this
  obtain ⟨h1, h2⟩ := ih hgl
  have hlast : (l ++ [x]).getLast? = some x := List.getLast?_concat
  rw [seqN_snoc]
  by_cases hl : ltr d m x.day x.mn
  · rw [if_pos hl]
    refine ⟨by rw [List.length_append]; omega, fun i b hb => ?_⟩
    by_cases hi : i < l.length
    · rw [List.getElem?_append_left hi] at hb
      exact h2 i b hb
    · rw [List.getElem?_append_right (by omega)] at hb
      have h0 : i - l.length = 0 := by
        have := (List.getElem?_eq_some_iff.1 hb).1
        simp at this; omega
      rw [h0] at hb
      simp at hb
      subst hb
      exact ⟨fun hh => by omega, fun hh => absurd hl hh⟩
  · rw [if_neg hl]
    refine ⟨by rw [List.length_append]; exact Nat.le_refl _, fun i b hb => ⟨fun _ => ?_, fun _ => ?_⟩⟩
    · exact ltr_trans hl (hg.sorted i b x hb hlast)
    · have := (List.getElem?_eq_some_iff.1 hb).1
      rw [List.length_append] at this
      simpa using this
def seqC (b : BX) (d m : Int) : Int := if cmpC b.day b.mn d m ≤ 0 then -1 else 1
theorem c_seqCmp (b : BX) (d m : Int) (h : Heap) : HCalls Try.prog 45 #[.agg (bdL b).toArray, .agg #[iV d, iV m]] h (Grow (iV (seqC b d m)) h) := by
  refine hcalls2 Try.func45 rfl (by decide +kernel) (by simp only [Try.ntmps45]; exact of_decide_eq_true rfl) ?_
  intro e hin
  have e0 := hin 0 _ rfl
  have e1 := hin 1 _ rfl
  refine hx_seq ?_
  refine hx_region ?_
  refine WL.box2 (by simp only [EN, Nat.reduceEqDiff, reduceIte, Value.cells, e0]; rfl) ?_
  intro h1 B1 hx1 hlt1 hB1
  refine WL.box2 (by simp only [EN, Nat.reduceEqDiff, reduceIte, Value.cells, e1, hB1.cell]; rfl) ?_
  intro h2 B2 hx2 hlt2 hB2
  replace hB1 := hB1.ext hx2
  refine WL.qq (by simp only [EN, Nat.reduceEqDiff, reduceIte, qv_assign, hB1.cell, hB2.cell]; rfl) ?_
  refine WL.nil ?_
  refine th_norm ?_
  refine hx_seq ?_
  refine hx_seq ?_
  refine hx_region ?_
  refine WL.qq (by simp only [EN, Nat.reduceEqDiff, reduceIte, qv_fieldAddr, fa55_1, Nat.zero_add, Nat.reduceAdd, hB1.cell, hB2.cell]; rfl) ?_
  refine WL.qq (by simp only [EN, Nat.reduceEqDiff, reduceIte, qv_load, ld41, readN, AR, Nat.zero_add, Nat.reduceAdd, hB1.cell, hB2.cell]; rfl) ?_
  refine WL.qq (by simp only [EN, Nat.reduceEqDiff, reduceIte, qv_load, ld41, readN, AR, Nat.zero_add, Nat.reduceAdd, hB1.cell, hB2.cell]; rfl) ?_
  refine WL.cg Try.call46 (by simp only [EN, Nat.reduceEqDiff, reduceIte, AR, hB1.cell, hB2.cell]; exact c_cmpC b.day b.mn d m _) ?_
  intro h3 hx3
  replace hB1 := hB1.ext hx3
  replace hB2 := hB2.ext hx3
  refine WL.qq (by simp only [EN, Nat.reduceEqDiff, reduceIte, qv_binOp, binv_leq, hB1.cell, hB2.cell]; rfl) ?_
  refine WL.nil ?_
  refine th_norm ?_
  refine hx_cond (by simp only [EN, Nat.reduceEqDiff, reduceIte, hB1.cell, hB2.cell]; rfl) (fun hct9 => ?_) (fun hct9 => ?_)
  ·
    try simp only [BD] at hct9
    refine hx_seq ?_
    refine hx_region ?_
    refine WL.qq (by simp only [EN, Nat.reduceEqDiff, reduceIte, qv_assign, hB1.cell, hB2.cell]; rfl) ?_
    refine WL.nil ?_
    refine th_norm ?_
    refine hx_ret ?_
    refine th_ret ?_
    refine fin_ret [.tmp 4] rfl rfl (by simp only [EN, Nat.reduceEqDiff, reduceIte, resv, e0, e1, hB1.cell, hB2.cell]; rfl) ?_  -- ret 0 r2
    exact ⟨(congrArg iV (show seqC b d m = -1 from if_pos hct9)).symm, ((hx1).trans ((hx2).trans (hx3)))⟩
  ·
    try simp only [BD] at hct9
    refine hx_skip ?_
    refine th_norm ?_
    refine hx_seq ?_
    refine hx_region ?_
    refine WL.qq (by simp only [EN, Nat.reduceEqDiff, reduceIte, qv_assign, hB1.cell, hB2.cell]; rfl) ?_
    refine WL.nil ?_
    refine th_norm ?_
    refine hx_ret ?_
    refine fin_ret [.tmp 4] rfl rfl (by simp only [EN, Nat.reduceEqDiff, reduceIte, resv, e0, e1, hB1.cell, hB2.cell]; rfl) ?_  -- ret 1 r3
    exact ⟨(congrArg iV (show seqC b d m = 1 from if_neg hct9)).symm, ((hx1).trans ((hx2).trans (hx3)))⟩
theorem mid_shr (i j : Nat) : ((i : Int) + j).fdiv (2 ^ (min (1 : Int).toNat IntKind.u64.bits)) = (((i + j) / 2 : Nat) : Int) := by
  have h1 : (min (1 : Int).toNat IntKind.u64.bits) = 1 := by decide
  rw [h1, Int.fdiv_eq_ediv_of_nonneg _ (by decide)]
  simp only [Int.pow_succ, Int.pow_zero, Int.one_mul]
  omega
set_option maxHeartbeats 2000000 in
theorem c_bsearch (al : Option Addr) (xs : List BX) (cap : Nat) (d m : Int) {l : List HB} (hxl : xs.map BX.bd = l) (hg : GS l) {h : Heap} (hs : SlG 4 bdL h al xs) :
    HCalls Try.prog 44 #[.slice al xs.length cap, .agg #[iV d, iV m], .func (.func 45) #[] #[]] h fun v h' => (∃ bb : Bool, v = .tuple #[iV (seqN l d m), .bool bb]) ∧ Ext h h' := by
  obtain ⟨hle, hsp⟩ := seq_spec d m hg.g
  have hx12 : xs.length ≤ 12 := by have := hg.n; rw [← hxl] at this; simpa using this
  have hlen : l.length = xs.length := by rw [← hxl, List.length_map]
  have hat : ∀ (i : Nat) (x : BX), xs[i]? = some x → (i < seqN l d m ↔ seqC x d m < 0) := by
    intro i x hx
    rw [hsp i x.bd (by rw [← hxl]; exact bd_at hx)]
    show ¬ ltr d m x.day x.mn ↔ _
    rw [← cmpC_le]
    unfold seqC
    split
    · rename_i h9; exact ⟨fun _ => by decide, fun _ => h9⟩
    · rename_i h9; exact ⟨fun hh => absurd hh h9, fun hh => by omega⟩
  have ks := hs
  refine hcalls2 Try.func44 rfl (by decide +kernel) (by simp only [Try.ntmps44]; exact of_decide_eq_true rfl) ?_
  intro e hin
  have e0 := hin 0 _ rfl
  have e1 := hin 1 _ rfl
  have e2 := hin 2 _ rfl
  refine hx_seq ?_
  refine hx_region ?_
  refine WL.box2 (by simp only [EN, Nat.reduceEqDiff, reduceIte, Value.cells, e1]; rfl) ?_
  intro h1 B1 hx1 hlt1 hB1
  replace hs := hs.ext hx1
  refine WL.qq (by simp only [EN, Nat.reduceEqDiff, reduceIte, qv_assign, hB1.cell]; rfl) ?_
  refine WL.qq (by simp only [EN, Nat.reduceEqDiff, reduceIte, qv_assign, hB1.cell]; rfl) ?_
  refine WL.nil ?_
  refine th_norm ?_
  refine hx_seq ?_
  refine hx_region ?_
  refine WL.qq (by simp only [EN, Nat.reduceEqDiff, reduceIte, qv_move, e0, hB1.cell]; rfl) ?_
  refine WL.qq (by simp only [EN, Nat.reduceEqDiff, reduceIte, qv_len, ln91, AR, hB1.cell]; rfl) ?_
  refine WL.qq (by simp only [EN, Nat.reduceEqDiff, reduceIte, qv_assign, hB1.cell]; rfl) ?_
  refine WL.nil ?_
  refine th_norm ?_
  refine hx_seq ?_
  refine hx_region ?_
  refine WL.qq (by simp only [EN, Nat.reduceEqDiff, reduceIte, qv_move, hB1.cell]; rfl) ?_
  refine WL.qq (by simp only [EN, Nat.reduceEqDiff, reduceIte, qv_assign, hB1.cell]; rfl) ?_
  refine WL.qq (by simp only [EN, Nat.reduceEqDiff, reduceIte, qv_assign, hB1.cell]; rfl) ?_
  refine WL.nil ?_
  refine th_norm ?_
  refine hx_seq ?_
  refine hx_block ?_
  refine hx_loopX [9, 10, 11, 15, 16, 17, 18, 19, 20, 21, 22, 23, 24, 25, 26, 27, 28, 29, 30, 31, 32, 33, 34] (fun k e => ∃ (i : Nat) (j : Nat), j - i = k ∧ (i ≤ seqN l d m) ∧ (seqN l d m ≤ j) ∧ (j ≤ xs.length) ∧ e 9 = .int .i64 i ∧ e 10 = .int .i64 j) _ ⟨0, xs.length, rfl, ?_, ?_, ?_, ?_, ?_⟩ ?_
  · omega
  · omega
  · omega
  · simp only [EN, Nat.reduceEqDiff, reduceIte, e0, e1, e2, hB1.cell] <;> rfl
  · simp only [EN, Nat.reduceEqDiff, reduceIte, e0, e1, e2, hB1.cell] <;> rfl
  ·
    rintro k e0L hL0 hX0 hfr0 ⟨i, j, rfl, hij, hij2, hjK, i9_0, i10_0⟩
    replace hs := hs.ext hX0
    replace hB1 := hB1.ext hX0
    have k0_0 := hfr0 0 rfl; try simp only [EN, Nat.reduceEqDiff, reduceIte, e0, hB1.cell] at k0_0
    have k2_0 := hfr0 2 rfl; try simp only [EN, Nat.reduceEqDiff, reduceIte, e2, hB1.cell] at k2_0
    have k4_0 := hfr0 4 rfl; try simp only [EN, Nat.reduceEqDiff, reduceIte, hB1.cell] at k4_0
    have k8_0 := hfr0 8 rfl; try simp only [EN, Nat.reduceEqDiff, reduceIte, hB1.cell] at k8_0
    refine hx_seq ?_
    refine hx_seq ?_
    refine hx_region ?_
    refine WL.qq (by simp only [EN, Nat.reduceEqDiff, reduceIte, qv_move, i9_0, hB1.cell]; rfl) ?_
    refine WL.qq (by simp only [EN, Nat.reduceEqDiff, reduceIte, qv_move, i10_0, hB1.cell]; rfl) ?_
    refine WL.qq (by simp only [EN, Nat.reduceEqDiff, reduceIte, qv_binOp, binv_lss, hB1.cell]; rfl) ?_
    refine WL.nil ?_
    refine th_norm ?_
    refine hx_cond (by simp only [EN, Nat.reduceEqDiff, reduceIte, hB1.cell]; rfl) (fun hct17 => ?_) (fun hct17 => ?_)
    ·
      try simp only [BD] at hct17
      obtain ⟨y, hy⟩ := atG (l := xs) (i := (i + j) / 2) (by omega)
      have hyv := hat _ y hy
      obtain ⟨b, off, hae, hr1, _⟩ := bd_rd hs hy
      refine hx_skip ?_
      refine th_norm ?_
      refine hx_block ?_
      refine hx_seq ?_
      refine hx_region ?_
      refine WL.qq (by simp only [EN, Nat.reduceEqDiff, reduceIte, qv_move, i9_0, hB1.cell]; rfl) ?_
      refine WL.qq (by simp only [EN, Nat.reduceEqDiff, reduceIte, qv_move, i10_0, hB1.cell]; rfl) ?_
      refine WL.qq (by simp only [EN, Nat.reduceEqDiff, reduceIte, qv_binOp, binv_add, hB1.cell]; (try simp (disch := omega) only [w64, w8, wu64]); rfl) ?_
      refine WL.qq (by simp only [EN, Nat.reduceEqDiff, reduceIte, qv_convert, convv, Try.underlying3, Try.underlying123, hB1.cell]; (try simp (disch := omega) only [w64, w8, wu64]); rfl) ?_
      refine WL.qq (by simp only [EN, Nat.reduceEqDiff, reduceIte, k0_0, k2_0, k4_0, k8_0, i9_0, i10_0, hB1.cell, qv_binOp]; rw [binv_shr (by decide), mid_shr]) ?_
      refine WL.qq (by simp only [EN, Nat.reduceEqDiff, reduceIte, qv_convert, convv, Try.underlying123, Try.underlying3, hB1.cell]; (try simp (disch := omega) only [w64, w8, wu64]); rfl) ?_
      refine WL.qq (by simp only [EN, Nat.reduceEqDiff, reduceIte, qv_assign, hB1.cell]; rfl) ?_
      refine WL.nil ?_
      refine th_norm ?_
      refine hx_seq ?_
      apply hx_draw2 Rel.grows [] [6] [(6, (Spec.is (iV (seqC y d m))))] rfl (by decide +kernel) rfl
      refine LD.qq rfl rfl (by simp only [EN, Nat.reduceEqDiff, reduceIte, qv_move, k2_0, hB1.cell]; rfl) ?_
      refine LD.qq rfl rfl (by simp only [EN, Nat.reduceEqDiff, reduceIte, qv_move, k0_0, hB1.cell]; rfl) ?_
      refine LD.qq rfl rfl (by simp only [EN, Nat.reduceEqDiff, reduceIte, qv_move, hB1.cell]; rfl) ?_
      refine LD.qq rfl rfl (by simp only [EN, Nat.reduceEqDiff, reduceIte, qv_indexAddr, hB1.cell, hae]; (try simp (disch := omega) only [ix91, Int.toNat_natCast]); rfl) ?_
      refine LD.qq rfl rfl (by simp only [EN, Nat.reduceEqDiff, reduceIte, k0_0, k2_0, k4_0, k8_0, i9_0, i10_0, hB1.cell, qv_load, ld55, Int.toNat_natCast, hr1]; rfl) ?_
      refine LD.qq rfl rfl (by simp only [EN, Nat.reduceEqDiff, reduceIte, qv_load, ld41, readN, AR, Nat.zero_add, Nat.reduceAdd, k4_0, hB1.cell]; rfl) ?_
      refine LD.es rfl rfl (by intro hD hr hf; have hx : Ext _ _ := hr; have hs := hs.ext hx; have hB1 := hB1.ext hx; exact EOp.mono (R := Grow (iV (seqC y d m)) hD) (e_callf Try.call45 (first := #[]) (cap := #[]) (by simp only [EN, Nat.reduceEqDiff, reduceIte, k0_0, k2_0, k4_0, k8_0, i9_0, i10_0, hB1.cell]) (by simp only [EN, Nat.reduceEqDiff, reduceIte, k0_0, k2_0, k4_0, k8_0, i9_0, i10_0, hB1.cell, List.map_toArray, List.map_cons, List.map_nil]; exact c_seqCmp y d m _)) (fun _ _ hh => ⟨hh.2, hh.1, trivial⟩)) ?_
      intro u5_6 w5_6
      have hu5 : u5_6 = _ := w5_6
      subst hu5
      refine LD.qq rfl rfl (by simp only [EN, Nat.reduceEqDiff, reduceIte, qv_binOp, binv_lss, hB1.cell]; rfl) ?_
      refine LD.nil ?_
      rintro h2 hx2 hF5
      replace hx2 : Ext _ _ := hx2
      replace hs := hs.ext hx2
      replace hB1 := hB1.ext hx2
      refine WL.nil ?_
      refine th_norm ?_
      refine hx_cond (by simp only [EN, Nat.reduceEqDiff, reduceIte, hB1.cell]; rfl) (fun hct31 => ?_) (fun hct31 => ?_)
      ·
        try simp only [BD] at hct31
        refine hx_region ?_
        refine WL.qq (by simp only [EN, Nat.reduceEqDiff, reduceIte, qv_move, hB1.cell]; rfl) ?_
        refine WL.qq (by simp only [EN, Nat.reduceEqDiff, reduceIte, qv_binOp, binv_add, hB1.cell]; (try simp (disch := omega) only [w64, w8, wu64]); rfl) ?_
        refine WL.qq (by simp only [EN, Nat.reduceEqDiff, reduceIte, qv_assign, hB1.cell]; rfl) ?_
        refine WL.nil ?_
        refine bl_norm ?_
        refine th_norm ?_
        refine ⟨rfl, ?_, ?_, _, ?_, (i + j) / 2 + 1, j, rfl, ?_, ?_, ?_, ?_, ?_⟩  -- again 0 of loop 0
        · exact hx2
        · (repeat (first | exact Fr.refl _ _ | refine Fr.set rfl ?_ | refine Fr.put rfl ?_ | with_reducible refine Fr.put0 ?_))
        · omega
        · omega
        · omega
        · omega
        · simp only [EN, Nat.reduceEqDiff, reduceIte, k0_0, k2_0, k4_0, k8_0, i9_0, i10_0, hB1.cell] <;> first | rfl | (congr 1; omega)
        · simp only [EN, Nat.reduceEqDiff, reduceIte, k0_0, k2_0, k4_0, k8_0, i9_0, i10_0, hB1.cell] <;> first | rfl | (congr 1; omega)
      ·
        try simp only [BD] at hct31
        refine hx_region ?_
        refine WL.qq (by simp only [EN, Nat.reduceEqDiff, reduceIte, qv_move, hB1.cell]; rfl) ?_
        refine WL.qq (by simp only [EN, Nat.reduceEqDiff, reduceIte, qv_assign, hB1.cell]; rfl) ?_
        refine WL.nil ?_
        refine bl_norm ?_
        refine th_norm ?_
        refine ⟨rfl, ?_, ?_, _, ?_, i, (i + j) / 2, rfl, ?_, ?_, ?_, ?_, ?_⟩  -- again 1 of loop 0
        · exact hx2
        · (repeat (first | exact Fr.refl _ _ | refine Fr.set rfl ?_ | refine Fr.put rfl ?_ | with_reducible refine Fr.put0 ?_))
        · omega
        · omega
        · omega
        · omega
        · simp only [EN, Nat.reduceEqDiff, reduceIte, k0_0, k2_0, k4_0, k8_0, i9_0, i10_0, hB1.cell] <;> first | rfl | (congr 1; omega)
        · simp only [EN, Nat.reduceEqDiff, reduceIte, k0_0, k2_0, k4_0, k8_0, i9_0, i10_0, hB1.cell] <;> first | rfl | (congr 1; omega)
    ·
      try simp only [BD] at hct17
      obtain hit : i = seqN l d m := by omega
      obtain ⟨b, off, y, hq⟩ : ∃ b off y, i < xs.length → al = some ⟨b, off, none⟩ ∧ readN hL0 b (off + i * 4) 4 = some (bdL y) ∧ xs[i]? = some y := by { exact if hlt : i < xs.length then (by obtain ⟨y, hy⟩ := atG (l := xs) (i := i) hlt; obtain ⟨b, off, ha, hr, _⟩ := bd_rd hs hy; exact ⟨b, off, y, fun _ => ⟨ha, hr, hy⟩⟩) else ⟨0, 0, zX, fun hh => absurd hh hlt⟩ }
      refine hx_exit ?_
      refine th_exit ?_
      refine th_exit ?_
      refine bl_hit ?_
      refine th_norm ?_
      refine hx_seq ?_
      apply hx_draw2 Rel.grows [] [11] [(11, Spec.is (iV (seqC y d m)))] rfl (by decide +kernel) rfl
      refine LD.qq rfl rfl (by simp only [EN, Nat.reduceEqDiff, reduceIte, qv_move, i9_0, hB1.cell]; rfl) ?_
      refine LD.qq rfl rfl (by simp only [EN, Nat.reduceEqDiff, reduceIte, qv_move, i9_0, hB1.cell]; rfl) ?_
      refine LD.qq rfl rfl (by simp only [EN, Nat.reduceEqDiff, reduceIte, qv_move, k8_0, hB1.cell]; rfl) ?_
      refine LD.qq rfl rfl (by simp only [EN, Nat.reduceEqDiff, reduceIte, qv_binOp, binv_lss, hB1.cell]; rfl) ?_
      refine LD.qq rfl rfl (by simp only [EN, Nat.reduceEqDiff, reduceIte, qv_move, hB1.cell]; rfl) ?_
      refine LD.cq rfl rfl (gd_at (t := 39) rfl (by simp only [EN, Nat.reduceEqDiff, reduceIte, k2_0, hB1.cell] <;> rfl)) (fun hg8_5 => by simp only [EN, Nat.reduceEqDiff, reduceIte, qv_move, k2_0, hB1.cell, hg8_5, GR]; rfl) ?_
      refine LD.cq rfl rfl (gd_at (t := 39) rfl (by simp only [EN, Nat.reduceEqDiff, reduceIte, k0_0, hB1.cell] <;> rfl)) (fun hg8_6 => by simp only [EN, Nat.reduceEqDiff, reduceIte, qv_move, k0_0, hB1.cell, hg8_6, GR]; rfl) ?_
      refine LD.cq rfl rfl (gd_at (t := 39) rfl (by simp only [EN, Nat.reduceEqDiff, reduceIte, i9_0, hB1.cell] <;> rfl)) (fun hg8_7 => by simp only [EN, Nat.reduceEqDiff, reduceIte, qv_move, i9_0, hB1.cell, hg8_7, GR]; rfl) ?_
      refine LD.cq rfl rfl (gd_at (t := 39) rfl (by simp only [EN, Nat.reduceEqDiff, reduceIte, hB1.cell] <;> rfl)) (fun hg8_8 => by have hlt : i < xs.length := by { simpa using hg8_8 }; have hh9 := hq hlt; simp only [EN, Nat.reduceEqDiff, reduceIte, k0_0, k2_0, k4_0, k8_0, i9_0, i10_0, hB1.cell, qv_indexAddr, hg8_8, hh9.1, if_true]; exact ix91 _ _ _ _ _ _ (by omega) (by omega)) ?_
      refine LD.cq rfl rfl (gd_at (t := 39) rfl (by simp only [EN, Nat.reduceEqDiff, reduceIte, hB1.cell] <;> rfl)) (fun hg8_9 => by have hlt : i < xs.length := by { simpa using hg8_9 }; have hh9 := hq hlt; simp only [EN, Nat.reduceEqDiff, reduceIte, k0_0, k2_0, k4_0, k8_0, i9_0, i10_0, hB1.cell, qv_load, ld55, hg8_9, Int.toNat_natCast, hh9.2.1, if_true]; rfl) ?_
      refine LD.cq rfl rfl (gd_at (t := 39) rfl (by simp only [EN, Nat.reduceEqDiff, reduceIte, k4_0, hB1.cell] <;> rfl)) (fun hg8_10 => by simp only [EN, Nat.reduceEqDiff, reduceIte, qv_load, ld41, readN, AR, Nat.zero_add, Nat.reduceAdd, k4_0, hB1.cell, hg8_10, GR]; rfl) ?_
      refine LD.eg rfl rfl (gd_at (t := 39) rfl (by simp only [EN, Nat.reduceEqDiff, reduceIte, hB1.cell] <;> rfl)) (fun hg8_11 => by intro hD hr hf; have hx : Ext _ _ := hr; have hs := hs.ext hx; have hB1 := hB1.ext hx; have hlt : i < xs.length := (by simpa using hg8_11); exact EOp.mono (R := Grow (iV (seqC y d m)) hD) (e_callf Try.call45 (first := #[]) (cap := #[]) (by simp only [EN, Nat.reduceEqDiff, reduceIte, k0_0, k2_0, k4_0, k8_0, i9_0, i10_0, hB1.cell, hg8_11, if_true]) (by simp only [EN, Nat.reduceEqDiff, reduceIte, k0_0, k2_0, k4_0, k8_0, i9_0, i10_0, hB1.cell, List.map_toArray, List.map_cons, List.map_nil, hg8_11, if_true]; exact c_seqCmp y d m _)) (fun _ _ hh => ⟨hh.1, hh.2⟩)) ?_
      refine LD.cq rfl rfl (gd_at (t := 39) rfl (by simp only [EN, Nat.reduceEqDiff, reduceIte, hB1.cell] <;> rfl)) (fun hg8_12 => by simp only [EN, Nat.reduceEqDiff, reduceIte, qv_binOp, binv_eql, eq3, Option.map_some, hB1.cell, hg8_12, GR]; rfl) ?_
      refine LD.qq rfl rfl (by simp only [EN, Nat.reduceEqDiff, reduceIte, qv_pick, pk_and, pk_or, GR, hB1.cell]; rfl) ?_
      refine LD.qq rfl rfl (by simp only [EN, Nat.reduceEqDiff, reduceIte, qv_assign, hB1.cell]; rfl) ?_
      refine LD.qq rfl rfl (by simp only [EN, Nat.reduceEqDiff, reduceIte, qv_assign, hB1.cell]; rfl) ?_
      refine LD.nil ?_
      rintro h3 hx3 hF8
      replace hx3 : Ext _ _ := hx3
      replace hs := hs.ext hx3
      replace hB1 := hB1.ext hx3
      refine WL.nil ?_
      refine th_norm ?_
      refine hx_ret ?_
      refine fin_ret [.tmp 6, .tmp 7] rfl rfl (by simp only [EN, Nat.reduceEqDiff, reduceIte, resv, k0_0, k2_0, k4_0, k8_0, i9_0, i10_0, hB1.cell]; rfl) ?_  -- ret 0 r8
      exact ⟨⟨_, by rw [← hit]; rfl⟩, ((hx1).trans ((hX0).trans (hx3)))⟩
end GL
set_option linter.unusedSimpArgs false
set_option linter.unusedVariables false
set_option linter.unnecessarySimpa false
namespace GL
open Go Go.Proofs
set_option maxRecDepth 8000
def Spec.nb (n : Int) : Spec := ⟨fun v => ∃ bb : Bool, v = .tuple #[iV n, .bool bb], fun _ _ => True, ⟨_, false, rfl⟩, fun _ _ _ _ _ => trivial⟩
theorem c_seqAt {h : Heap} {p : Nat} {l : List HB} (d m : Int) (hg : GS l) (hr : HR h p l) : HCalls Try.prog 19 #[ptr p, .agg #[iV d, iV m]] h (Grow (iV (seqN l d m)) h) := by
  obtain ⟨av, cap, xs, hp, hsx, hxl, hbx, hcap, hsp⟩ := hr.ex
  refine hcalls2 Try.func19 rfl (by decide +kernel) (by simp only [Try.ntmps19]; exact of_decide_eq_true rfl) ?_
  intro e hin
  have e0 := hin 0 _ rfl
  have e1 := hin 1 _ rfl
  refine hx_seq ?_
  refine hx_region ?_
  refine WL.box2 (by simp only [EN, Nat.reduceEqDiff, reduceIte, Value.cells, e1, hp.cell]; rfl) ?_
  intro h1 B1 hx1 hlt1 hB1
  replace hp := hp.ext hx1
  replace hsx := hsx.ext hx1
  refine WL.qq (by simp only [EN, Nat.reduceEqDiff, reduceIte, qv_assign, hp.cell, hB1.cell]; rfl) ?_
  refine WL.nil ?_
  refine th_norm ?_
  refine hx_seq ?_
  refine hx_seq ?_
  refine hx_region ?_
  refine WL.qq (by simp only [EN, Nat.reduceEqDiff, reduceIte, qv_move, e0, hp.cell, hB1.cell]; rfl) ?_
  refine WL.qq (by simp only [EN, Nat.reduceEqDiff, reduceIte, qv_binOp, binv_eql, eqz27, eqn27, eqm27, Option.map_some, hp.cell, hB1.cell]; rfl) ?_
  refine WL.nil ?_
  refine th_norm ?_
  refine hx_cond (by simp only [EN, Nat.reduceEqDiff, reduceIte, hp.cell, hB1.cell]; rfl) (fun hct8 => ?_) (fun hct8 => ?_)
  ·
    simp at hct8
  ·
    try simp only [BD] at hct8
    refine hx_skip ?_
    refine th_norm ?_
    refine hx_seq ?_
    apply hx_draw2 Rel.grows [] [5] [(5, Spec.nb (seqN l d m))] rfl (by decide +kernel) rfl
    refine LD.qq rfl rfl (by simp only [EN, Nat.reduceEqDiff, reduceIte, qv_move, e0, hp.cell, hB1.cell]; rfl) ?_
    refine LD.qq rfl rfl (by simp only [EN, Nat.reduceEqDiff, reduceIte, qv_nilCheck, hp.cell, hB1.cell]; rfl) ?_
    refine LD.qq rfl rfl (by simp only [EN, Nat.reduceEqDiff, reduceIte, qv_fieldAddr, fa93_0, Nat.zero_add, Nat.reduceAdd, hp.cell, hB1.cell]; rfl) ?_
    refine LD.qq rfl rfl (by simp only [EN, Nat.reduceEqDiff, reduceIte, qv_load, ld91, readN, AR, Nat.zero_add, Nat.reduceAdd, hp.cell, hB1.cell]; rfl) ?_
    refine LD.qq rfl rfl (by simp only [EN, Nat.reduceEqDiff, reduceIte, qv_load, ld41, readN, AR, Nat.zero_add, Nat.reduceAdd, hp.cell, hB1.cell]; rfl) ?_
    refine LD.es rfl rfl (by intro hD hr hf; have hx : Ext _ _ := hr; have hp := hp.ext hx; have hsx := hsx.ext hx; have hB1 := hB1.ext hx; exact EOp.mono (R := fun v h' => (∃ bb : Bool, v = .tuple #[iV (seqN l d m), .bool bb]) ∧ Ext hD h') (e_call Try.call44 (by simp only [EN, Nat.reduceEqDiff, reduceIte, e0, e1, hp.cell, hB1.cell, List.map_toArray, List.map_cons, List.map_nil]; exact c_bsearch av xs cap d m hxl hg hsx)) (fun _ _ hh => ⟨hh.2, hh.1, trivial⟩)) ?_
    intro u3_5 w3_5
    obtain ⟨bb, rfl⟩ := w3_5
    refine LD.qq rfl rfl (by simp only [EN, Nat.reduceEqDiff, reduceIte, qv_move, hp.cell, hB1.cell]; rfl) ?_
    refine LD.qq rfl rfl (by simp only [EN, Nat.reduceEqDiff, reduceIte, qv_extract, AR, hp.cell, hB1.cell]; rfl) ?_
    refine LD.qq rfl rfl (by simp only [EN, Nat.reduceEqDiff, reduceIte, qv_extract, AR, hp.cell, hB1.cell]; rfl) ?_
    refine LD.qq rfl rfl (by simp only [EN, Nat.reduceEqDiff, reduceIte, qv_assign, hp.cell, hB1.cell]; rfl) ?_
    refine LD.qq rfl rfl (by simp only [EN, Nat.reduceEqDiff, reduceIte, qv_assign, hp.cell, hB1.cell]; rfl) ?_
    refine LD.nil ?_
    rintro h2 hx2 hF3
    replace hx2 : Ext _ _ := hx2
    replace hp := hp.ext hx2
    replace hsx := hsx.ext hx2
    replace hB1 := hB1.ext hx2
    refine WL.nil ?_
    refine th_norm ?_
    refine hx_seq ?_
    refine hx_region ?_
    refine WL.qq (by simp only [EN, Nat.reduceEqDiff, reduceIte, qv_move, hp.cell, hB1.cell]; rfl) ?_
    refine WL.qq (by simp only [EN, Nat.reduceEqDiff, reduceIte, qv_assign, hp.cell, hB1.cell]; rfl) ?_
    refine WL.nil ?_
    refine th_norm ?_
    refine hx_ret ?_
    refine fin_ret [.tmp 4] rfl rfl (by simp only [EN, Nat.reduceEqDiff, reduceIte, resv, e0, e1, hp.cell, hB1.cell]; rfl) ?_  -- ret 0 r4
    exact ⟨rfl, ((hx1).trans (hx2))⟩
theorem c_rSeq (av : Option Addr) (xs : List BX) (cap : Nat) (d m : Int) {l : List HB} (hxl : xs.map BX.bd = l) (hl : xs.length ≤ 1000000) {h : Heap} (hs : SlG 4 bdL h av xs) : HCalls Try.prog 20 #[.slice av xs.length cap, iV d, iV m] h (Pure (iV (seqN l d m)) h) := by
  refine hcalls2 Try.func20 rfl (by decide +kernel) (by simp only [Try.ntmps20]; exact of_decide_eq_true rfl) ?_
  intro e hin
  have e0 := hin 0 _ rfl
  have e1 := hin 1 _ rfl
  have e2 := hin 2 _ rfl
  refine hx_seq ?_
  refine hx_region ?_
  refine WL.qq (by simp only [EN, Nat.reduceEqDiff, reduceIte, qv_assign]; rfl) ?_
  refine WL.nil ?_
  refine th_norm ?_
  refine hx_seq ?_
  refine hx_region ?_
  refine WL.qq (by simp only [EN, Nat.reduceEqDiff, reduceIte, qv_assign]; rfl) ?_
  refine WL.nil ?_
  refine th_norm ?_
  refine hx_seq ?_
  refine hx_seq ?_
  refine hx_region ?_
  refine WL.qq (by simp only [EN, Nat.reduceEqDiff, reduceIte, qv_assign]; rfl) ?_
  refine WL.nil ?_
  refine th_norm ?_
  refine hx_block ?_
  refine hx_loopS [7, 8, 9, 10, 11, 12, 13, 14, 15, 16, 17, 18, 19, 20, 21, 22, 23, 24, 25, 26, 27, 28, 29, 30] (fun k e => ∃ (i : Nat), xs.length - i = k ∧ (i ≤ xs.length) ∧ e 7 = iV (seqN (l.take i) d m) ∧ e 8 = .int .i64 i) _ ⟨0, rfl, ?_, ?_, ?_⟩ ?_
  · omega
  · simp only [EN, Nat.reduceEqDiff, reduceIte, e0, e1, e2] <;> rfl
  · simp only [EN, Nat.reduceEqDiff, reduceIte, e0, e1, e2] <;> rfl
  ·
    rintro k e0L hfr0 ⟨i, rfl, hi, i7_0, i8_0⟩
    have k0_0 := hfr0 0 rfl; try simp only [EN, Nat.reduceEqDiff, reduceIte, e0] at k0_0
    have k1_0 := hfr0 1 rfl; try simp only [EN, Nat.reduceEqDiff, reduceIte, e1] at k1_0
    have k2_0 := hfr0 2 rfl; try simp only [EN, Nat.reduceEqDiff, reduceIte, e2] at k2_0
    refine hx_seq ?_
    refine hx_seq ?_
    refine hx_region ?_
    refine WL.qq (by simp only [EN, Nat.reduceEqDiff, reduceIte, qv_move, i8_0]; rfl) ?_
    refine WL.qq (by simp only [EN, Nat.reduceEqDiff, reduceIte, qv_move, k0_0]; rfl) ?_
    refine WL.qq (by simp only [EN, Nat.reduceEqDiff, reduceIte, qv_len, ln22, AR]; rfl) ?_
    refine WL.qq (by simp only [EN, Nat.reduceEqDiff, reduceIte, qv_binOp, binv_lss]; rfl) ?_
    refine WL.nil ?_
    refine th_norm ?_
    refine hx_cond (by simp only [EN, Nat.reduceEqDiff, reduceIte]; rfl) (fun hct12 => ?_) (fun hct12 => ?_)
    ·
      try simp only [BD] at hct12
      obtain ⟨x, hx⟩ := atG (l := xs) (i := i) (by omega)
      obtain ⟨b, off, ha, _, _, h1, h2, _⟩ := bd_rd hs hx
      have hxb : l[i]? = some x.bd := (by rw [← hxl]; exact bd_at hx)
      have hst := seqN_step hxb d m
      refine hx_skip ?_
      refine th_norm ?_
      refine hx_seq ?_
      refine hx_block ?_
      refine hx_seq ?_
      apply hx_draw2 Rel.same [] [12] [(12, Spec.is _)] rfl (by decide +kernel) rfl
      refine LD.qq rfl rfl (by simp only [EN, Nat.reduceEqDiff, reduceIte, qv_move, k1_0]; rfl) ?_
      refine LD.qq rfl rfl (by simp only [EN, Nat.reduceEqDiff, reduceIte, qv_move, k2_0]; rfl) ?_
      refine LD.qq rfl rfl (by simp only [EN, Nat.reduceEqDiff, reduceIte, qv_move, k0_0]; rfl) ?_
      refine LD.qq rfl rfl (by simp only [EN, Nat.reduceEqDiff, reduceIte, qv_move, i8_0]; rfl) ?_
      refine LD.qq rfl rfl (by simp only [EN, Nat.reduceEqDiff, reduceIte, qv_indexAddr, ha]; (try simp (disch := omega) only [ix22, Int.toNat_natCast]); rfl) ?_
      refine LD.qq rfl rfl (by simp only [EN, Nat.reduceEqDiff, reduceIte, qv_fieldAddr, fa45_1, Nat.zero_add, Nat.reduceAdd]; rfl) ?_
      refine LD.qq rfl rfl (by simp only [EN, Nat.reduceEqDiff, reduceIte, k0_0, k1_0, k2_0, i7_0, i8_0, qv_load, ld3, Int.toNat_natCast, h1]; rfl) ?_
      refine LD.qq rfl rfl (by simp only [EN, Nat.reduceEqDiff, reduceIte, qv_move, k0_0]; rfl) ?_
      refine LD.qq rfl rfl (by simp only [EN, Nat.reduceEqDiff, reduceIte, qv_move, i8_0]; rfl) ?_
      refine LD.qq rfl rfl (by simp only [EN, Nat.reduceEqDiff, reduceIte, qv_indexAddr, ha]; (try simp (disch := omega) only [ix22, Int.toNat_natCast]); rfl) ?_
      refine LD.qq rfl rfl (by simp only [EN, Nat.reduceEqDiff, reduceIte, qv_fieldAddr, fa45_2, Nat.zero_add, Nat.reduceAdd]; rfl) ?_
      refine LD.qq rfl rfl (by simp only [EN, Nat.reduceEqDiff, reduceIte, k0_0, k1_0, k2_0, i7_0, i8_0, qv_load, ld3, Int.toNat_natCast, h2]; rfl) ?_
      refine LD.ck rfl rfl Try.call47 (by intro hD hr; obtain rfl : hD = _ := hr; simp only [EN, Nat.reduceEqDiff, reduceIte, AR]; exact c_later d m x.day x.mn _) ?_
      refine LD.qq rfl rfl (by simp only [EN, Nat.reduceEqDiff, reduceIte, qv_unOp, unv_not]; rfl) ?_
      refine LD.nil ?_
      rintro _ rfl -
      refine WL.nil ?_
      refine th_norm ?_
      refine hx_cond (by simp only [EN, Nat.reduceEqDiff, reduceIte]; rfl) (fun hct28 => ?_) (fun hct28 => ?_)
      ·
        try simp only [BD] at hct28
        have hlt : ¬ ltr d m x.day x.mn := (by simpa using hct28)
        rw [if_neg (show ¬ ltr d m x.bd.day x.bd.mn from hlt)] at hst
        refine hx_region ?_
        refine WL.qq (by simp only [EN, Nat.reduceEqDiff, reduceIte, qv_move, i8_0]; rfl) ?_
        refine WL.qq (by simp only [EN, Nat.reduceEqDiff, reduceIte, qv_binOp, binv_add]; (try simp (disch := omega) only [w64, w8, wu64]); rfl) ?_
        refine WL.qq (by simp only [EN, Nat.reduceEqDiff, reduceIte, qv_assign]; rfl) ?_
        refine WL.nil ?_
        refine bl_norm ?_
        refine th_norm ?_
        refine hx_region ?_
        refine WL.qq (by simp only [EN, Nat.reduceEqDiff, reduceIte, qv_move, i8_0]; rfl) ?_
        refine WL.qq (by simp only [EN, Nat.reduceEqDiff, reduceIte, qv_binOp, binv_add]; (try simp (disch := omega) only [w64, w8, wu64]); rfl) ?_
        refine WL.qq (by simp only [EN, Nat.reduceEqDiff, reduceIte, qv_assign]; rfl) ?_
        refine WL.nil ?_
        refine th_norm ?_
        refine ⟨rfl, rfl, ?_, _, ?_, i + 1, rfl, ?_, ?_, ?_⟩  -- again 0 of loop 0
        · (repeat (first | exact Fr.refl _ _ | refine Fr.set rfl ?_ | refine Fr.put rfl ?_ | with_reducible refine Fr.put0 ?_))
        · omega
        · omega
        · simp only [EN, Nat.reduceEqDiff, reduceIte, k0_0, k1_0, k2_0, i7_0, i8_0] <;> first | (rw [hst]; rfl) | (rw [hst]; done)
        · simp only [EN, Nat.reduceEqDiff, reduceIte, k0_0, k1_0, k2_0, i7_0, i8_0] <;> first | rfl | (congr 1; omega)
      ·
        try simp only [BD] at hct28
        have hlt : ltr d m x.day x.mn := (by simpa using hct28)
        rw [if_pos (show ltr d m x.bd.day x.bd.mn from hlt)] at hst
        refine hx_skip ?_
        refine bl_norm ?_
        refine th_norm ?_
        refine hx_region ?_
        refine WL.qq (by simp only [EN, Nat.reduceEqDiff, reduceIte, qv_move, i8_0]; rfl) ?_
        refine WL.qq (by simp only [EN, Nat.reduceEqDiff, reduceIte, qv_binOp, binv_add]; (try simp (disch := omega) only [w64, w8, wu64]); rfl) ?_
        refine WL.qq (by simp only [EN, Nat.reduceEqDiff, reduceIte, qv_assign]; rfl) ?_
        refine WL.nil ?_
        refine th_norm ?_
        refine ⟨rfl, rfl, ?_, _, ?_, i + 1, rfl, ?_, ?_, ?_⟩  -- again 1 of loop 0
        · (repeat (first | exact Fr.refl _ _ | refine Fr.set rfl ?_ | refine Fr.put rfl ?_ | with_reducible refine Fr.put0 ?_))
        · omega
        · omega
        · simp only [EN, Nat.reduceEqDiff, reduceIte, k0_0, k1_0, k2_0, i7_0, i8_0] <;> first | (rw [hst]; rfl) | (rw [hst]; done)
        · simp only [EN, Nat.reduceEqDiff, reduceIte, k0_0, k1_0, k2_0, i7_0, i8_0] <;> first | rfl | (congr 1; omega)
    ·
      try simp only [BD] at hct12
      have hie : l.take i = l := List.take_of_length_le (by rw [← hxl, List.length_map]; omega)
      refine hx_exit ?_
      refine th_exit ?_
      refine th_exit ?_
      refine bl_hit ?_
      refine th_norm ?_
      refine hx_seq ?_
      refine hx_region ?_
      refine WL.qq (by simp only [EN, Nat.reduceEqDiff, reduceIte, qv_move, i7_0]; rfl) ?_
      refine WL.qq (by simp only [EN, Nat.reduceEqDiff, reduceIte, qv_assign]; rfl) ?_
      refine WL.nil ?_
      refine th_norm ?_
      refine hx_ret ?_
      refine fin_ret [.tmp 6] rfl rfl (by simp only [EN, Nat.reduceEqDiff, reduceIte, resv, k0_0, k1_0, k2_0, i7_0, i8_0]; rfl) ?_  -- ret 0 r7
      exact ⟨by rw [hie]; rfl, rfl⟩
/-! Debits and credits. -/
abbrev CP : Int := 1000000000000000000
def cp (a : Int) : Int := if CP < a then CP else a
def turS (q : AC) (s : Int × Int) (x : PO) : Int × Int := if x.c = q then (if x.d < 0 then (cp (s.1 - x.d), s.2) else (s.1, cp (s.2 + x.d))) else s
def tur (q : AC) (l : List PO) : Int × Int := l.foldl (turS q) (0, 0)
def dayP (l : List HB) (day : Int) : List PO := (l.filter fun b => decide (b.day = day)).flatMap pos
theorem tur_step (q : AC) {l : List PO} {i : Nat} {x : PO} (h : l[i]? = some x) : tur q (l.take (i + 1)) = turS q (tur q (l.take i)) x := by
  rw [List.take_add_one, h, tur, List.foldl_append]; rfl
theorem tur_app (q : AC) (l m : List PO) : tur q (l ++ m) = m.foldl (turS q) (tur q l) := by rw [tur, List.foldl_append]; rfl
theorem tur_snoc (q : AC) (l m : List PO) {j : Nat} {x : PO} (h : m[j]? = some x) : tur q (l ++ m.take (j + 1)) = turS q (tur q (l ++ m.take j)) x := by
  rw [List.take_add_one, h, ← List.append_assoc, tur_app q (l ++ m.take j)]; rfl
theorem dayP_step {l : List HB} {i : Nat} {b : HB} (h : l[i]? = some b) (day : Int) : dayP (l.take (i + 1)) day = if b.day = day then dayP (l.take i) day ++ pos b else dayP (l.take i) day := by
  rw [List.take_add_one, h]
  by_cases hd : b.day = day
  · rw [if_pos hd]
    simp [dayP, List.filter_append, hd]
  · rw [if_neg hd]
    simp [dayP, List.filter_append, hd]
theorem tur_bd (q : AC) (l : List PO) (hr : ∀ x ∈ l, inR x.d) : 0 ≤ (tur q l).1 ∧ (tur q l).1 ≤ CP ∧ 0 ≤ (tur q l).2 ∧ (tur q l).2 ≤ CP := by
  revert hr
  refine snoc_ind (p := fun l => (∀ x ∈ l, inR x.d) → 0 ≤ (tur q l).1 ∧ (tur q l).1 ≤ CP ∧ 0 ≤ (tur q l).2 ∧ (tur q l).2 ≤ CP) (fun _ => by simp [tur]) ?_ l
  intro l x ih hr
  have h1 := ih fun y hy => hr y (by simp [hy])
  have h2 := hr x (by simp)
  rw [tur_app]
  simp only [List.foldl_cons, List.foldl_nil, turS, cp, CP] at h1 ⊢
  split
  · split
    · simp only; split <;> omega
    · simp only; split <;> omega
  · exact h1
structure TBk (h0 h7 : Heap) (B : Nat) (rec : Loop) (s : Int × Int) (hx : Heap) : Prop where
  rx : RX h0 h7 [B] rec hx
  b : Has hx B (.cells #[iV s.1, iV s.2] 48)
set_option maxHeartbeats 4000000 in
theorem c_turn {h : Heap} {p : Nat} {l : List HB} (q : AC) (day : Int) (hg : GS l) (hr : HR h p l) :
    HCalls Try.prog 21 #[ptr p, acV q, iV day] h (Grow (.agg #[iV (tur q (dayP l day)).1, iV (tur q (dayP l day)).2]) h) := by
  obtain ⟨av, cap, xs, hp, hsx, hxl, hbx, hcap, hsp⟩ := hr.ex
  have hx12 : xs.length ≤ 12 := by have := hg.n; rw [← hxl] at this; simpa using this
  have ksx := hsx
  have kbx := hbx
  refine hcalls2 Try.func21 rfl (by decide +kernel) (by simp only [Try.ntmps21]; exact of_decide_eq_true rfl) ?_
  intro e hin
  have e0 := hin 0 _ rfl
  have e1 := hin 1 _ rfl
  have e2 := hin 2 _ rfl
  refine hx_seq ?_
  refine hx_region ?_
  refine WL.box2 (by simp only [EN, Nat.reduceEqDiff, reduceIte, Value.cells, e1, hp.cell]; rfl) ?_
  intro h1 B1 hx1 hlt1 hB1
  replace hp := hp.ext hx1
  refine WL.alloc2 zr48 ?_
  intro h2 B2 hx2 hlt2 hB2
  replace hp := hp.ext hx2
  replace hB1 := hB1.ext hx2
  simp only [Value.cells] at hB2
  refine WL.nil ?_
  refine th_norm ?_
  refine hx_seq ?_
  refine hx_region ?_
  have kz1 := hx1.size; have k1 := (Array.getElem?_eq_some_iff.1 hB1).1; have k2 := (Array.getElem?_eq_some_iff.1 hB2).1
  refine WL.alloc2 zr48 ?_
  intro h3 B3 hx3 hlt3 hB3
  replace hp := hp.ext hx3
  replace hB1 := hB1.ext hx3
  replace hB2 := hB2.ext hx3
  simp only [Value.cells] at hB3
  refine WL.nil ?_
  refine th_norm ?_
  refine hx_seq ?_
  refine hx_seq ?_
  refine hx_region ?_
  refine WL.qq (by simp only [EN, Nat.reduceEqDiff, reduceIte, qv_move, e0, hp.cell, hB1.cell, hB2.cell, hB3.cell]; rfl) ?_
  refine WL.qq (by simp only [EN, Nat.reduceEqDiff, reduceIte, qv_binOp, binv_eql, eqz27, eqn27, eqm27, Option.map_some, hp.cell, hB1.cell, hB2.cell, hB3.cell]; rfl) ?_
  refine WL.nil ?_
  refine th_norm ?_
  refine hx_cond (by simp only [EN, Nat.reduceEqDiff, reduceIte, hp.cell, hB1.cell, hB2.cell, hB3.cell]; rfl) (fun hct12 => ?_) (fun hct12 => ?_)
  ·
    simp at hct12
  ·
    try simp only [BD] at hct12
    refine hx_skip ?_
    refine th_norm ?_
    refine hx_seq ?_
    refine hx_seq ?_
    refine hx_region ?_
    refine WL.qq (by simp only [EN, Nat.reduceEqDiff, reduceIte, qv_move, e0, hp.cell, hB1.cell, hB2.cell, hB3.cell]; rfl) ?_
    refine WL.qq (by simp only [EN, Nat.reduceEqDiff, reduceIte, qv_nilCheck, hp.cell, hB1.cell, hB2.cell, hB3.cell]; rfl) ?_
    refine WL.qq (by simp only [EN, Nat.reduceEqDiff, reduceIte, qv_fieldAddr, fa93_0, Nat.zero_add, Nat.reduceAdd, hp.cell, hB1.cell, hB2.cell, hB3.cell]; rfl) ?_
    refine WL.qq (by simp only [EN, Nat.reduceEqDiff, reduceIte, qv_load, ld91, readN, AR, Nat.zero_add, Nat.reduceAdd, hp.cell, hB1.cell, hB2.cell, hB3.cell]; rfl) ?_
    refine WL.qq (by simp only [EN, Nat.reduceEqDiff, reduceIte, qv_len, ln91, AR, hp.cell, hB1.cell, hB2.cell, hB3.cell]; rfl) ?_
    refine WL.qq (by simp only [EN, Nat.reduceEqDiff, reduceIte, qv_move, hp.cell, hB1.cell, hB2.cell, hB3.cell]; rfl) ?_
    refine WL.nil ?_
    refine th_norm ?_
    refine hx_block ?_
    refine hx_loopM [9, 10, 19, 20, 21, 22, 23, 24, 25, 26, 27, 28, 29, 31, 32, 33, 34, 35, 36, 37, 38, 39, 40, 41, 42, 43, 44, 45, 46, 47, 48, 49, 50, 51, 52, 53, 54] (fun k e ms hL0 => ∃ (i : Nat), xs.length - i = k ∧ (i ≤ xs.length) ∧ (Ext h hL0) ∧ (Has hL0 B1 (.cells (acL q).toArray 35)) ∧ (Has hL0 B2 (.cells #[iV 0, iV 0] 48)) ∧ (Has hL0 B3 (.cells #[iV (tur q (dayP (l.take i) day)).1, iV (tur q (dayP (l.take i) day)).2] 48)) ∧ (MK h.size hL0 ms) ∧ e 19 = .int .i64 i) _ [] ⟨0, rfl, ?_, ?_, ?_, ?_, ?_, ?_, ?_⟩ ?_
    · omega
    · exact ((hx1).trans ((hx2).trans (hx3)))
    · exact hB1
    · exact hB2
    · exact hB3
    · exact MK.nil
    · simp only [EN, Nat.reduceEqDiff, reduceIte, e0, e1, e2, hp.cell, hB1.cell, hB2.cell, hB3.cell] <;> rfl
    ·
      rintro k e0L ms hL0 hfr0 ⟨i, rfl, hi, hX, hB1, hB2, hB3, hmk, i19_0⟩
      have k2_0 := hfr0 2 rfl; try simp only [EN, Nat.reduceEqDiff, reduceIte, e2, hp.cell, hB1.cell, hB2.cell, hB3.cell] at k2_0
      have k4_0 := hfr0 4 rfl; try simp only [EN, Nat.reduceEqDiff, reduceIte, hp.cell, hB1.cell, hB2.cell, hB3.cell] at k4_0
      have k6_0 := hfr0 6 rfl; try simp only [EN, Nat.reduceEqDiff, reduceIte, hp.cell, hB1.cell, hB2.cell, hB3.cell] at k6_0
      have k7_0 := hfr0 7 rfl; try simp only [EN, Nat.reduceEqDiff, reduceIte, hp.cell, hB1.cell, hB2.cell, hB3.cell] at k7_0
      have k17_0 := hfr0 17 rfl; try simp only [EN, Nat.reduceEqDiff, reduceIte, hp.cell, hB1.cell, hB2.cell, hB3.cell] at k17_0
      have k18_0 := hfr0 18 rfl; try simp only [EN, Nat.reduceEqDiff, reduceIte, hp.cell, hB1.cell, hB2.cell, hB3.cell] at k18_0
      refine hx_seq ?_
      refine hx_region ?_
      refine WL.qq (by simp only [EN, Nat.reduceEqDiff, reduceIte, qv_binOp, binv_lss, k18_0, i19_0, hp.cell, hB1.cell, hB2.cell, hB3.cell]; rfl) ?_
      refine WL.nil ?_
      refine th_norm ?_
      refine hx_seq ?_
      refine hx_cond (by simp only [EN, Nat.reduceEqDiff, reduceIte, hp.cell, hB1.cell, hB2.cell, hB3.cell]; rfl) (fun hct20 => ?_) (fun hct20 => ?_)
      ·
        try simp only [BD] at hct20
        obtain ⟨x, hxi⟩ := atG (l := xs) (i := i) (by omega)
        obtain ⟨b1, o1, hae, hr4, _⟩ := bd_rd (ksx.ext hX) hxi
        have hxb : l[i]? = some x.bd := (by rw [← hxl]; exact bd_at hxi)
        have hxm : x.bd ∈ l := List.mem_of_getElem? hxb
        have hxl2 := (hg.f _ hxm).lens
        have hds := dayP_step hxb day
        have kz0 := hX.size
        refine hx_skip ?_
        refine th_norm ?_
        refine hx_seq ?_
        refine hx_block ?_
        refine hx_seq ?_
        refine hx_region ?_
        refine WL.qq (by simp only [EN, Nat.reduceEqDiff, reduceIte, qv_indexAddr, k17_0, i19_0, hp.cell, hB1.cell, hB2.cell, hB3.cell, hae]; (try simp (disch := omega) only [ix91, Int.toNat_natCast]); rfl) ?_
        refine WL.qq (by simp only [EN, Nat.reduceEqDiff, reduceIte, k2_0, k4_0, k6_0, k7_0, k17_0, k18_0, i19_0, hp.cell, hB1.cell, hB2.cell, hB3.cell, qv_load, ld55, Int.toNat_natCast, hr4]; rfl) ?_
        refine WL.allocSt zr55 sz55 (fun u => by simp only [EN, Nat.reduceEqDiff, reduceIte, Value.cells, hp.cell, hB1.cell, hB2.cell, hB3.cell]; rfl) ⟨rfl, rfl⟩ (by simp [Value.oneCell']) ?_
        intro h4 B4 hx4 hlt4 hB4
        replace hB1 := hB1.ext hx4
        replace hB2 := hB2.ext hx4
        replace hB3 := hB3.ext hx4
        replace hmk := hmk.ext hx4
        refine WL.nil ?_
        refine th_norm ?_
        refine hx_seq ?_
        refine hx_seq ?_
        refine hx_region ?_
        refine WL.qq (by simp only [EN, Nat.reduceEqDiff, reduceIte, qv_fieldAddr, fa55_1, Nat.zero_add, Nat.reduceAdd, hp.cell, hB1.cell, hB2.cell, hB3.cell, hB4.cell]; rfl) ?_
        refine WL.qq (by simp only [EN, Nat.reduceEqDiff, reduceIte, qv_fieldAddr, fa41_0, Nat.zero_add, Nat.reduceAdd, hp.cell, hB1.cell, hB2.cell, hB3.cell, hB4.cell]; rfl) ?_
        refine WL.qq (by simp only [EN, Nat.reduceEqDiff, reduceIte, qv_load, ld3, readN, AR, Nat.zero_add, Nat.reduceAdd, hp.cell, hB1.cell, hB2.cell, hB3.cell, hB4.cell]; rfl) ?_
        refine WL.qq (by simp only [EN, Nat.reduceEqDiff, reduceIte, qv_move, k2_0, hp.cell, hB1.cell, hB2.cell, hB3.cell, hB4.cell]; rfl) ?_
        refine WL.qq (by simp only [EN, Nat.reduceEqDiff, reduceIte, qv_binOp, binv_neq, eq3, Option.map_some, hp.cell, hB1.cell, hB2.cell, hB3.cell, hB4.cell]; rfl) ?_
        refine WL.nil ?_
        refine th_norm ?_
        refine hx_cond (by simp only [EN, Nat.reduceEqDiff, reduceIte, hp.cell, hB1.cell, hB2.cell, hB3.cell, hB4.cell]; rfl) (fun hct27 => ?_) (fun hct27 => ?_)
        ·
          try simp only [BD] at hct27
          refine hx_exit ?_
          refine th_exit ?_
          refine bl_hit ?_
          refine th_norm ?_
          refine hx_region ?_
          refine WL.qq (by simp only [EN, Nat.reduceEqDiff, reduceIte, qv_binOp, binv_add, i19_0, hp.cell, hB1.cell, hB2.cell, hB3.cell, hB4.cell]; (try simp (disch := omega) only [w64, w8, wu64]); rfl) ?_
          refine WL.qq (by simp only [EN, Nat.reduceEqDiff, reduceIte, qv_move, hp.cell, hB1.cell, hB2.cell, hB3.cell, hB4.cell]; rfl) ?_
          refine WL.nil ?_
          refine th_norm ?_
          refine ⟨ms, rfl, ?_, _, ?_, i + 1, rfl, ?_, ?_, ?_, ?_, ?_, ?_, ?_⟩  -- again 0 of loop 0
          · (repeat (first | exact Fr.refl _ _ | refine Fr.set rfl ?_ | refine Fr.put rfl ?_ | with_reducible refine Fr.put0 ?_))
          · omega
          · omega
          · exact hX.trans (hx4)
          · exact hB1
          · exact hB2
          · rw [if_neg (show ¬ x.bd.day = day from hct27)] at hds; rw [hds]; exact hB3
          · exact hmk
          · simp only [EN, Nat.reduceEqDiff, reduceIte, k2_0, k4_0, k6_0, k7_0, k17_0, k18_0, i19_0, hp.cell, hB1.cell, hB2.cell, hB3.cell, hB4.cell] <;> first | rfl | (congr 1; omega)
        ·
          try simp only [BD] at hct27
          refine hx_skip ?_
          refine th_norm ?_
          refine hx_seq ?_
          refine hx_region ?_
          have k3 := (Array.getElem?_eq_some_iff.1 hB3).1
          rw [if_pos (show x.bd.day = day by show x.day = day; simpa using hct27)] at hds
          refine WL.qq (by simp only [EN, Nat.reduceEqDiff, reduceIte, qv_load, ld55, readN, AR, Nat.zero_add, Nat.reduceAdd, hp.cell, hB1.cell, hB2.cell, hB3.cell, hB4.cell]; rfl) ?_
          refine WL.ce Try.call48 (by simp only [EN, Nat.reduceEqDiff, reduceIte, AR, hp.cell, hB1.cell, hB2.cell, hB3.cell, hB4.cell]; exact c_post x _) ?_
          rintro _ h5 ⟨hx5, B9, rfl, hlt9, hB9⟩
          replace hB1 := hB1.ext hx5
          replace hB2 := hB2.ext hx5
          replace hB3 := hB3.ext hx5
          replace hmk := hmk.ext hx5
          replace hB4 := hB4.ext hx5
          simp only [put_some]
          refine WL.nil ?_
          refine th_norm ?_
          refine hx_block ?_
          refine hx_range (by simp only [EN, Nat.reduceEqDiff, reduceIte, k2_0, k4_0, k6_0, k7_0, k17_0, k18_0, i19_0, hp.cell, hB1.cell, hB2.cell, hB3.cell, hB4.cell]; rfl) Try.call67 ?_
          intro fnR0 hR0 hxR0 hsR0 hdR0 hrR0
          have hXL := ((hx4).trans (hx5))
          have kx0 : Ext h h5 := hX.trans hXL
          have hq3 := (Array.getElem?_eq_some_iff.1 hB3).1
          have hq1 := (Array.getElem?_eq_some_iff.1 hB1).1
          have hq2 := (Array.getElem?_eq_some_iff.1 hB2).1
          have hq9 := (Array.getElem?_eq_some_iff.1 hB9).1
          generalize hrec : recOf _ _ _ _ _ _ _ = rec at hrR0
          refine (c_postYield x B9 (h5.size + 1) (fun j hy => TBk h h5 B3 rec (tur q (dayP (l.take i) day ++ (pos x.bd).take j)) hy) (fun _ => False) hxl2 ?_ ?_ ?_ ?_).mono ?_
          · rintro j h1 h2 ⟨q1, q2⟩ he; exact ⟨q1.ext he, q2.ext he⟩
          · rintro j hy ⟨q1, q2⟩; exact ⟨hB9.gs q1.gs (by simp; omega), (kbx x (List.mem_of_getElem? hxi)).ext q1.ex⟩
          rotate_left
          · exact ⟨RX.start hxR0 hsR0 hdR0 hrR0 kx0 (by simp; omega) (by simp; omega), by rw [List.take_zero, List.append_nil]; exact hB3.ext hxR0⟩
          rotate_left
          ·
            rintro j y hy hyj ⟨hC, hT⟩
            have hsz := hC.size
            subst hrec
            have hyd : inR y.d := pos_in (hg.g.mem hxm) y (List.mem_of_getElem? hyj)
            have hyd1 := hyd.1; have hyd2 := hyd.2; simp only [MA] at hyd1 hyd2
            have hstep := tur_snoc q (dayP (l.take i) day) (pos x.bd) hyj
            have htb := tur_bd q (dayP (l.take i) day ++ (pos x.bd).take j) (fun z hz => by rcases List.mem_append.1 hz with hz | hz; (obtain ⟨c, hc, hz2⟩ := List.mem_flatMap.1 hz; exact pos_in (hg.g.mem (List.mem_of_mem_take (List.mem_filter.1 hc).1)) z hz2); exact pos_in (hg.g.mem hxm) z (List.mem_of_mem_take hz))
            generalize hsj : tur q (dayP (l.take i) day ++ (pos x.bd).take j) = sj at hT htb hstep
            simp only [CP] at htb
            refine hy_body (vs := [.agg (poL y).toArray]) (ps := [30]) hC.rc rfl rfl rfl (by decide) rfl rfl ?_
            simp only [pars, List.zip_cons_cons, List.zip_nil_left, List.foldl_cons, List.foldl_nil]
            have hD1 := hB1.gs hC.gs (by simp; omega)
            refine hx_region ?_
            refine WL.allocSt zr74 sz74 (fun u => by simp only [EN, Nat.reduceEqDiff, reduceIte, Value.cells, hp.cell, hB1.cell, hB2.cell, hB3.cell, hB4.cell, hT.cell, hD1.cell]; rfl) ⟨rfl, rfl⟩ (by simp [Value.oneCell']) ?_
            intro h6 B6 hx6 hlt6 hB6
            replace hC := hC.ext hx6
            replace hT := hT.ext hx6
            replace hD1 := hD1.ext hx6
            refine WL.nil ?_
            refine th_norm ?_
            refine ⟨_, hC.rc, rfl, ?_⟩
            intro h20 hw20
            replace hC := hC.turn hw20
            replace hT := hT.wr hw20 (by omega)
            replace hD1 := hD1.wr hw20 (by omega)
            replace hB6 := hB6.wr hw20 (by omega)
            refine hx_block ?_
            refine hx_block ?_
            refine hx_seq ?_
            refine hx_region ?_
            refine WL.qq (by simp only [EN, Nat.reduceEqDiff, reduceIte, qv_fieldAddr, fa74_0, Nat.zero_add, Nat.reduceAdd, hp.cell, hB1.cell, hB2.cell, hB3.cell, hB4.cell, hT.cell, hD1.cell, hB6.cell]; rfl) ?_
            refine WL.qq (by simp only [EN, Nat.reduceEqDiff, reduceIte, qv_load, ld35, readN, AR, Nat.zero_add, Nat.reduceAdd, hp.cell, hB1.cell, hB2.cell, hB3.cell, hB4.cell, hT.cell, hD1.cell, hB6.cell]; rfl) ?_
            refine WL.qq (by simp only [EN, Nat.reduceEqDiff, reduceIte, qv_load, ld35, readN, AR, Nat.zero_add, Nat.reduceAdd, k4_0, hp.cell, hB1.cell, hB2.cell, hB3.cell, hB4.cell, hT.cell, hD1.cell, hB6.cell]; rfl) ?_
            refine WL.qq (by simp only [EN, Nat.reduceEqDiff, reduceIte, qv_binOp, binv_neq, eqs35, Option.map_some, hp.cell, hB1.cell, hB2.cell, hB3.cell, hB4.cell, hT.cell, hD1.cell, hB6.cell]; rfl) ?_
            refine WL.qq (by simp only [EN, Nat.reduceEqDiff, reduceIte, qv_assign, hp.cell, hB1.cell, hB2.cell, hB3.cell, hB4.cell, hT.cell, hD1.cell, hB6.cell]; rfl) ?_
            refine WL.nil ?_
            refine th_norm ?_
            refine hx_cond (by simp only [EN, Nat.reduceEqDiff, reduceIte, hp.cell, hB1.cell, hB2.cell, hB3.cell, hB4.cell, hT.cell, hD1.cell, hB6.cell]; rfl) (fun hct38 => ?_) (fun hct38 => ?_)
            ·
              try simp only [BD] at hct38
              have hq : y.c ≠ q := fun hh => (by rw [ac_eq] at hh; simp [hh] at hct38)
              have hT2 : Has _ B3 (.cells #[iV (turS q sj y).1, iV (turS q sj y).2] 48) := (by rw [turS, if_neg hq]; exact hT)
              refine hx_skip ?_
              refine bl_norm ?_
              refine bl_norm ?_
              refine ⟨_, hC.rc, ?_⟩
              intro h30 hw30
              exact ⟨true, rfl, fun _ => ⟨hC.turn hw30, by rw [hstep]; exact hT2.wr hw30 (by omega)⟩, fun hh => by cases hh⟩
            ·
              try simp only [BD] at hct38
              have hq : y.c = q := (by simpa [ac_eq] using hct38)
              refine hx_seq ?_
              refine hx_region ?_
              refine WL.qq (by simp only [EN, Nat.reduceEqDiff, reduceIte, qv_fieldAddr, fa74_1, Nat.zero_add, Nat.reduceAdd, hp.cell, hB1.cell, hB2.cell, hB3.cell, hB4.cell, hT.cell, hD1.cell, hB6.cell]; rfl) ?_
              refine WL.qq (by simp only [EN, Nat.reduceEqDiff, reduceIte, qv_load, ld2, readN, AR, Nat.zero_add, Nat.reduceAdd, hp.cell, hB1.cell, hB2.cell, hB3.cell, hB4.cell, hT.cell, hD1.cell, hB6.cell]; rfl) ?_
              refine WL.qq (by simp only [EN, Nat.reduceEqDiff, reduceIte, qv_binOp, binv_lss, hp.cell, hB1.cell, hB2.cell, hB3.cell, hB4.cell, hT.cell, hD1.cell, hB6.cell]; rfl) ?_
              refine WL.qq (by simp only [EN, Nat.reduceEqDiff, reduceIte, qv_assign, hp.cell, hB1.cell, hB2.cell, hB3.cell, hB4.cell, hT.cell, hD1.cell, hB6.cell]; rfl) ?_
              refine WL.nil ?_
              refine th_norm ?_
              refine hx_cond (by simp only [EN, Nat.reduceEqDiff, reduceIte, hp.cell, hB1.cell, hB2.cell, hB3.cell, hB4.cell, hT.cell, hD1.cell, hB6.cell]; rfl) (fun hct43 => ?_) (fun hct43 => ?_)
              ·
                try simp only [BD] at hct43
                refine hx_region ?_
                refine WL.qq (by simp only [EN, Nat.reduceEqDiff, reduceIte, qv_fieldAddr, fa48_0, Nat.zero_add, Nat.reduceAdd, k7_0, hp.cell, hB1.cell, hB2.cell, hB3.cell, hB4.cell, hT.cell, hD1.cell, hB6.cell]; rfl) ?_
                refine WL.qq (by simp only [EN, Nat.reduceEqDiff, reduceIte, qv_load, ld2, readN, AR, Nat.zero_add, Nat.reduceAdd, hp.cell, hB1.cell, hB2.cell, hB3.cell, hB4.cell, hT.cell, hD1.cell, hB6.cell]; rfl) ?_
                refine WL.qq (by simp only [EN, Nat.reduceEqDiff, reduceIte, qv_fieldAddr, fa74_1, Nat.zero_add, Nat.reduceAdd, hp.cell, hB1.cell, hB2.cell, hB3.cell, hB4.cell, hT.cell, hD1.cell, hB6.cell]; rfl) ?_
                refine WL.qq (by simp only [EN, Nat.reduceEqDiff, reduceIte, qv_load, ld2, readN, AR, Nat.zero_add, Nat.reduceAdd, hp.cell, hB1.cell, hB2.cell, hB3.cell, hB4.cell, hT.cell, hD1.cell, hB6.cell]; rfl) ?_
                refine WL.qq (by simp only [EN, Nat.reduceEqDiff, reduceIte, qv_binOp, binv_sub, hp.cell, hB1.cell, hB2.cell, hB3.cell, hB4.cell, hT.cell, hD1.cell, hB6.cell]; (try simp (disch := omega) only [w64, w8, wu64]); rfl) ?_
                refine WL.qq (by refine qv_min2 (by simp only [EN, Nat.reduceEqDiff, reduceIte, hp.cell, hB1.cell, hB2.cell, hB3.cell, hB4.cell, hT.cell, hD1.cell, hB6.cell] <;> rfl) (by simp only [EN, Nat.reduceEqDiff, reduceIte, hp.cell, hB1.cell, hB2.cell, hB3.cell, hB4.cell, hT.cell, hD1.cell, hB6.cell] <;> rfl)) ?_
                refine WL.qq (by simp only [EN, Nat.reduceEqDiff, reduceIte, qv_fieldAddr, fa48_0, Nat.zero_add, Nat.reduceAdd, k7_0, hp.cell, hB1.cell, hB2.cell, hB3.cell, hB4.cell, hT.cell, hD1.cell, hB6.cell]; rfl) ?_
                refine WL.store (by simp only [EN, Nat.reduceEqDiff, reduceIte, hp.cell, hB1.cell, hB2.cell, hB3.cell, hB4.cell, hT.cell, hD1.cell, hB6.cell] <;> rfl) sz2 (by simp only [EN, Nat.reduceEqDiff, reduceIte, Value.cells, hp.cell, hB1.cell, hB2.cell, hB3.cell, hB4.cell, hT.cell, hD1.cell, hB6.cell] <;> rfl) rfl hT (by first | (simp [true_and]; done) | (simp [true_and]; omega) | omega) (by simp [Value.oneCell']) ?_
                intro h7 hw7
                replace hC := hC.put hw7 (.inl (by simp))
                have hT2 : Has _ B3 (.cells #[iV (turS q sj y).1, iV (turS q sj y).2] 48) := (by rw [turS, if_pos hq, if_pos (by simpa using hct43)]; have h9 := hw7.at_; simpa [splc, cp] using h9)
                refine WL.nil ?_
                refine bl_norm ?_
                refine bl_norm ?_
                refine ⟨_, hC.rc, ?_⟩
                intro h30 hw30
                exact ⟨true, rfl, fun _ => ⟨hC.turn hw30, by rw [hstep]; exact hT2.wr hw30 (by omega)⟩, fun hh => by cases hh⟩
              ·
                try simp only [BD] at hct43
                refine hx_region ?_
                refine WL.qq (by simp only [EN, Nat.reduceEqDiff, reduceIte, qv_fieldAddr, fa48_1, Nat.zero_add, Nat.reduceAdd, k7_0, hp.cell, hB1.cell, hB2.cell, hB3.cell, hB4.cell, hT.cell, hD1.cell, hB6.cell]; rfl) ?_
                refine WL.qq (by simp only [EN, Nat.reduceEqDiff, reduceIte, qv_load, ld2, readN, AR, Nat.zero_add, Nat.reduceAdd, hp.cell, hB1.cell, hB2.cell, hB3.cell, hB4.cell, hT.cell, hD1.cell, hB6.cell]; rfl) ?_
                refine WL.qq (by simp only [EN, Nat.reduceEqDiff, reduceIte, qv_fieldAddr, fa74_1, Nat.zero_add, Nat.reduceAdd, hp.cell, hB1.cell, hB2.cell, hB3.cell, hB4.cell, hT.cell, hD1.cell, hB6.cell]; rfl) ?_
                refine WL.qq (by simp only [EN, Nat.reduceEqDiff, reduceIte, qv_load, ld2, readN, AR, Nat.zero_add, Nat.reduceAdd, hp.cell, hB1.cell, hB2.cell, hB3.cell, hB4.cell, hT.cell, hD1.cell, hB6.cell]; rfl) ?_
                refine WL.qq (by simp only [EN, Nat.reduceEqDiff, reduceIte, qv_binOp, binv_add, hp.cell, hB1.cell, hB2.cell, hB3.cell, hB4.cell, hT.cell, hD1.cell, hB6.cell]; (try simp (disch := omega) only [w64, w8, wu64]); rfl) ?_
                refine WL.qq (by refine qv_min2 (by simp only [EN, Nat.reduceEqDiff, reduceIte, hp.cell, hB1.cell, hB2.cell, hB3.cell, hB4.cell, hT.cell, hD1.cell, hB6.cell] <;> rfl) (by simp only [EN, Nat.reduceEqDiff, reduceIte, hp.cell, hB1.cell, hB2.cell, hB3.cell, hB4.cell, hT.cell, hD1.cell, hB6.cell] <;> rfl)) ?_
                refine WL.qq (by simp only [EN, Nat.reduceEqDiff, reduceIte, qv_fieldAddr, fa48_1, Nat.zero_add, Nat.reduceAdd, k7_0, hp.cell, hB1.cell, hB2.cell, hB3.cell, hB4.cell, hT.cell, hD1.cell, hB6.cell]; rfl) ?_
                refine WL.store (by simp only [EN, Nat.reduceEqDiff, reduceIte, hp.cell, hB1.cell, hB2.cell, hB3.cell, hB4.cell, hT.cell, hD1.cell, hB6.cell] <;> rfl) sz2 (by simp only [EN, Nat.reduceEqDiff, reduceIte, Value.cells, hp.cell, hB1.cell, hB2.cell, hB3.cell, hB4.cell, hT.cell, hD1.cell, hB6.cell] <;> rfl) rfl hT (by first | (simp [true_and]; done) | (simp [true_and]; omega) | omega) (by simp [Value.oneCell']) ?_
                intro h8 hw8
                replace hC := hC.put hw8 (.inl (by simp))
                have hT2 : Has _ B3 (.cells #[iV (turS q sj y).1, iV (turS q sj y).2] 48) := (by rw [turS, if_pos hq, if_neg (by simpa using hct43)]; have h9 := hw8.at_; simpa [splc, cp] using h9)
                refine WL.nil ?_
                refine bl_norm ?_
                refine bl_norm ?_
                refine ⟨_, hC.rc, ?_⟩
                intro h30 hw30
                exact ⟨true, rfl, fun _ => ⟨hC.turn hw30, by rw [hstep]; exact hT2.wr hw30 (by omega)⟩, fun hh => by cases hh⟩
          ·
            rintro v0 h3 (⟨hC, hT⟩ | hf)
            rotate_left
            · exact hf.elim
            refine after_any hC.rc (by subst hrec; rfl) (.inl ⟨by subst hrec; rfl, ?_⟩)
            intro h31 o hw31
            rw [List.take_length, ← hds] at hT
            replace hT := hT.wr hw31 (by omega)
            have hE31 := (hC.end_ hw31 (by omega)).2
            have hmk31 := hmk.range (Ext.refl _) (by omega) hC (by simp; rw [hB3]; simp) hw31
            have hF1 := (hB1.gs hC.gs (by simp; omega)).wr hw31 (by omega)
            have hF2 := (hB2.gs hC.gs (by simp; omega)).wr hw31 (by omega)
            refine bl_norm ?_
            refine bl_norm ?_
            refine th_norm ?_
            refine hx_region ?_
            refine WL.qq (by simp only [EN, Nat.reduceEqDiff, reduceIte, qv_binOp, binv_add, i19_0, hp.cell, hB1.cell, hB2.cell, hB3.cell, hB4.cell]; (try simp (disch := omega) only [w64, w8, wu64]); rfl) ?_
            refine WL.qq (by simp only [EN, Nat.reduceEqDiff, reduceIte, qv_move, hp.cell, hB1.cell, hB2.cell, hB3.cell, hB4.cell]; rfl) ?_
            refine WL.nil ?_
            refine th_norm ?_
            refine ⟨(Array.size h5 :: ms), rfl, ?_, _, ?_, i + 1, rfl, ?_, ?_, ?_, ?_, ?_, ?_, ?_⟩  -- again 1 of loop 0
            · (repeat (first | exact Fr.refl _ _ | refine Fr.set rfl ?_ | refine Fr.put rfl ?_ | with_reducible refine Fr.put0 ?_))
            · omega
            · omega
            · exact hE31
            · exact hF1
            · exact hF2
            · exact hT
            · exact hmk31
            · simp only [EN, Nat.reduceEqDiff, reduceIte, k2_0, k4_0, k6_0, k7_0, k17_0, k18_0, i19_0, hp.cell, hB1.cell, hB2.cell, hB3.cell, hB4.cell] <;> first | rfl | (congr 1; omega)
      ·
        try simp only [BD] at hct20
        have hie : l.take i = l := List.take_of_length_le (by rw [← hxl, List.length_map]; omega)
        rw [hie] at hB3
        refine hx_exit ?_
        refine th_exit ?_
        refine th_exit ?_
        refine bl_hit ?_
        refine th_norm ?_
        refine hx_seq ?_
        refine hx_region ?_
        refine WL.qq (by simp only [EN, Nat.reduceEqDiff, reduceIte, qv_load, ld48, readN, AR, Nat.zero_add, Nat.reduceAdd, k7_0, hp.cell, hB1.cell, hB2.cell, hB3.cell]; rfl) ?_
        refine WL.store (by simp only [EN, Nat.reduceEqDiff, reduceIte, k6_0, hp.cell, hB1.cell, hB2.cell, hB3.cell] <;> rfl) sz48 (by simp only [EN, Nat.reduceEqDiff, reduceIte, Value.cells, k6_0, hp.cell, hB1.cell, hB2.cell, hB3.cell] <;> rfl) rfl hB2 (by first | (simp [true_and]; done) | (simp [true_and]; omega) | omega) (by simp [Value.oneCell']) ?_
        intro h9 hw9
        have hR := hw9.at_
        try simp only [splc, List.take_succ_cons, List.take_zero, List.take_nil, List.drop_succ_cons, List.drop_zero, List.drop_nil, List.cons_append, List.nil_append, List.length_cons, List.length_nil, Nat.zero_add, Nat.add_zero, Nat.reduceAdd, List.append_nil] at hR
        have hmk9 := hmk.wr hw9 hB2
        have hE9 := hw9.ext hX (by omega)
        refine WL.nil ?_
        refine th_norm ?_
        refine hx_ret ?_
        refine fin_marks (.inr rfl) [.cell 6 48] rfl rfl hmk9 ?_
        intro h5 hg5
        have hR5 := hR.gs hg5 (fun hh => by have := hmk9.df _ hh; have h8 : some (Obj.deferred (some [])) = _ := this.symm.trans hR; cases h8)
        exact ⟨[.agg #[iV (tur q (dayP l day)).1, iV (tur q (dayP l day)).2]], by simp only [resv, ld48, readN, AR, Nat.zero_add, Nat.reduceAdd, EN, Nat.reduceEqDiff, reduceIte, k2_0, k4_0, k6_0, k7_0, k17_0, k18_0, i19_0, hp.cell, hB1.cell, hB2.cell, hB3.cell, hR5.cell], rfl, hg5.toExt hE9 hmk9.lo⟩
end GL


/- History: the last bundle at or before a time. -/
import Derived.Test.YtklhfckdifkpaaaHisK
set_option linter.unusedSimpArgs false
set_option linter.unusedVariables false
set_option linter.unnecessarySimpa false
namespace GL
open Go Go.Proofs
set_option maxRecDepth 8000
def seqR (d m : Int) : List HB → Nat
  | [] => 0
  | b :: l => if ltr d m b.day b.mn then seqR d m l else l.length + 1
def seqN (l : List HB) (d m : Int) : Nat := seqR d m l.reverse
theorem seqN_snoc (l : List HB) (b : HB) (d m : Int) : seqN (l ++ [b]) d m = if ltr d m b.day b.mn then seqN l d m else l.length + 1 := by
  simp only [seqN, List.reverse_append, List.reverse_cons, List.reverse_nil, List.nil_append, List.singleton_append, seqR, List.length_reverse]
theorem seqN_step {l : List HB} {i : Nat} {b : HB} (h : l[i]? = some b) (d m : Int) : seqN (l.take (i + 1)) d m = if ltr d m b.day b.mn then seqN (l.take i) d m else i + 1 := by
  rw [List.take_add_one, h]
  show seqN (l.take i ++ [b]) d m = _
  rw [seqN_snoc, List.length_take]
  have := (List.getElem?_eq_some_iff.1 h).1
  rw [Nat.min_eq_left (by omega)]
theorem ltr_trans {a b c d e f : Int} (h1 : ¬ ltr a b c d) (h2 : ¬ ltr c d e f) : ¬ ltr a b e f := by
  unfold ltr at *; omega
theorem snoc_ind {α : Type} {p : List α → Prop} (h0 : p []) (hs : ∀ l x, p l → p (l ++ [x])) : ∀ l, p l := by
  have : ∀ n (l : List α), l.length = n → p l := by
    intro n
    induction n with
    | zero => intro l hl; rw [List.length_eq_zero_iff.1 hl]; exact h0
    | succ n ih =>
      intro l hl
      have hne : l ≠ [] := by intro hh; rw [hh] at hl; cases hl
      rw [← List.dropLast_concat_getLast hne]
      exact hs _ _ (ih _ (by rw [List.length_dropLast]; omega))
  exact fun l => this _ l rfl
/-- The bundles of a history are in the order of their times. -/
theorem GH.sorted : ∀ {l : List HB}, GH l → ∀ (i : Nat) (b y : HB), l[i]? = some b → l.getLast? = some y → ¬ ltr y.day y.mn b.day b.mn := by
  intro l
  refine snoc_ind (p := fun l => GH l → ∀ (i : Nat) (b y : HB), l[i]? = some b → l.getLast? = some y → ¬ ltr y.day y.mn b.day b.mn) (fun _ i b y h => by simp at h) ?_ l
  intro l x ih hg i b y hb hy
  rw [List.getLast?_concat] at hy
  cases hy
  have hgl : GH l := by have := hg.take l.length; rwa [List.take_append_of_le_length (Nat.le_refl _), List.take_length] at this
  have hx := hg l.length x (by rw [List.getElem?_append_right (Nat.le_refl _), Nat.sub_self]; rfl)
  rw [List.take_append_of_le_length (Nat.le_refl _), List.take_length] at hx
  have hlate := (bdE_zero hx).2.2.1
  by_cases hi : i < l.length
  · rw [List.getElem?_append_left hi] at hb
    have hne : l ≠ [] := by rintro rfl; simp at hi
    have hz : l.getLast? = some (l.getLast hne) := List.getLast?_eq_some_getLast hne
    have h1 := ih hgl i b _ hb hz
    have h2 : ¬ ltr x.day x.mn (l.getLast hne).day (l.getLast hne).mn := by
      simp only [lateB, hz] at hlate
      exact of_decide_eq_false hlate
    exact ltr_trans h2 h1
  · rw [List.getElem?_append_right (by omega)] at hb
    have : i - l.length = 0 := by
      have := (List.getElem?_eq_some_iff.1 hb).1
      simp at this; omega
    rw [this] at hb
    simp at hb
    subst hb
    unfold ltr; omega
theorem seq_spec (d m : Int) : ∀ {l : List HB}, GH l → seqN l d m ≤ l.length ∧ ∀ (i : Nat) (b : HB), l[i]? = some b → (i < seqN l d m ↔ ¬ ltr d m b.day b.mn) := by
  intro l
  refine snoc_ind (p := fun l => GH l → seqN l d m ≤ l.length ∧ ∀ (i : Nat) (b : HB), l[i]? = some b → (i < seqN l d m ↔ ¬ ltr d m b.day b.mn)) (fun _ => ⟨Nat.le_refl _, fun i b h => by simp at h⟩) ?_ l
  intro l x ih hg
  have hgl : GH l := by have := hg.take l.length; rwa [List.take_append_of_le_length (Nat.le_refl _), List.take_length] at this
  obtain ⟨h1, h2⟩ := ih hgl
  have hlast : (l ++ [x]).getLast? = some x := List.getLast?_concat
  rw [seqN_snoc]
  by_cases hl : ltr d m x.day x.mn
  · rw [if_pos hl]
    refine ⟨by rw [List.length_append]; omega, fun i b hb => ?_⟩
    by_cases hi : i < l.length
    · rw [List.getElem?_append_left hi] at hb
      exact h2 i b hb
    · rw [List.getElem?_append_right (by omega)] at hb
      have h0 : i - l.length = 0 := by
        have := (List.getElem?_eq_some_iff.1 hb).1
        simp at this; omega
      rw [h0] at hb
      simp at hb
      subst hb
      exact ⟨fun hh => by omega, fun hh => absurd hl hh⟩
  · rw [if_neg hl]
    refine ⟨by rw [List.length_append]; exact Nat.le_refl _, fun i b hb => ⟨fun _ => ?_, fun _ => ?_⟩⟩
    · exact ltr_trans hl (hg.sorted i b x hb hlast)
    · have := (List.getElem?_eq_some_iff.1 hb).1
      rw [List.length_append] at this
      simpa using this
def seqC (b : BX) (d m : Int) : Int := if cmpC b.day b.mn d m ≤ 0 then -1 else 1
theorem c_seqCmp (b : BX) (d m : Int) (h : Heap) : HCalls Try.prog 45 #[.agg (bdL b).toArray, .agg #[iV d, iV m]] h (Grow (iV (seqC b d m)) h) := by
  refine hcalls2 Try.func45 rfl (by decide +kernel) (by simp only [Try.ntmps45]; exact of_decide_eq_true rfl) ?_
  intro e hin
  have e0 := hin 0 _ rfl
  have e1 := hin 1 _ rfl
  refine hx_seq ?_
  refine hx_region ?_
  refine WL.box2 (by simp only [EN, Nat.reduceEqDiff, reduceIte, Value.cells, e0]; rfl) ?_
  intro h1 B1 hx1 hlt1 hB1
  refine WL.box2 (by simp only [EN, Nat.reduceEqDiff, reduceIte, Value.cells, e1, hB1.cell]; rfl) ?_
  intro h2 B2 hx2 hlt2 hB2
  replace hB1 := hB1.ext hx2
  refine WL.qq (by simp only [EN, Nat.reduceEqDiff, reduceIte, qv_assign, hB1.cell, hB2.cell]; rfl) ?_
  refine WL.nil ?_
  refine th_norm ?_
  refine hx_seq ?_
  refine hx_seq ?_
  refine hx_region ?_
  refine WL.qq (by simp only [EN, Nat.reduceEqDiff, reduceIte, qv_fieldAddr, fa55_1, Nat.zero_add, Nat.reduceAdd, hB1.cell, hB2.cell]; rfl) ?_
  refine WL.qq (by simp only [EN, Nat.reduceEqDiff, reduceIte, qv_load, ld41, readN, AR, Nat.zero_add, Nat.reduceAdd, hB1.cell, hB2.cell]; rfl) ?_
  refine WL.qq (by simp only [EN, Nat.reduceEqDiff, reduceIte, qv_load, ld41, readN, AR, Nat.zero_add, Nat.reduceAdd, hB1.cell, hB2.cell]; rfl) ?_
  refine WL.cg Try.call46 (by simp only [EN, Nat.reduceEqDiff, reduceIte, AR, hB1.cell, hB2.cell]; exact c_cmpC b.day b.mn d m _) ?_
  intro h3 hx3
  replace hB1 := hB1.ext hx3
  replace hB2 := hB2.ext hx3
  refine WL.qq (by simp only [EN, Nat.reduceEqDiff, reduceIte, qv_binOp, binv_leq, hB1.cell, hB2.cell]; rfl) ?_
  refine WL.nil ?_
  refine th_norm ?_
  refine hx_cond (by simp only [EN, Nat.reduceEqDiff, reduceIte, hB1.cell, hB2.cell]; rfl) (fun hct9 => ?_) (fun hct9 => ?_)
  ·
    try simp only [BD] at hct9
    refine hx_seq ?_
    refine hx_region ?_
    refine WL.qq (by simp only [EN, Nat.reduceEqDiff, reduceIte, qv_assign, hB1.cell, hB2.cell]; rfl) ?_
    refine WL.nil ?_
    refine th_norm ?_
    refine hx_ret ?_
    refine th_ret ?_
    refine fin_ret [.tmp 4] rfl rfl (by simp only [EN, Nat.reduceEqDiff, reduceIte, resv, e0, e1, hB1.cell, hB2.cell]; rfl) ?_  -- ret 0 r2
    exact ⟨(congrArg iV (show seqC b d m = -1 from if_pos hct9)).symm, ((hx1).trans ((hx2).trans (hx3)))⟩
  ·
    try simp only [BD] at hct9
    refine hx_skip ?_
    refine th_norm ?_
    refine hx_seq ?_
    refine hx_region ?_
    refine WL.qq (by simp only [EN, Nat.reduceEqDiff, reduceIte, qv_assign, hB1.cell, hB2.cell]; rfl) ?_
    refine WL.nil ?_
    refine th_norm ?_
    refine hx_ret ?_
    refine fin_ret [.tmp 4] rfl rfl (by simp only [EN, Nat.reduceEqDiff, reduceIte, resv, e0, e1, hB1.cell, hB2.cell]; rfl) ?_  -- ret 1 r3
    exact ⟨(congrArg iV (show seqC b d m = 1 from if_neg hct9)).symm, ((hx1).trans ((hx2).trans (hx3)))⟩
theorem mid_shr (i j : Nat) : ((i : Int) + j).fdiv (2 ^ (min (1 : Int).toNat IntKind.u64.bits)) = (((i + j) / 2 : Nat) : Int) := by
  have h1 : (min (1 : Int).toNat IntKind.u64.bits) = 1 := by decide
  rw [h1, Int.fdiv_eq_ediv_of_nonneg _ (by decide)]
  simp only [Int.pow_succ, Int.pow_zero, Int.one_mul]
  omega
set_option maxHeartbeats 2000000 in
theorem c_bsearch (al : Option Addr) (xs : List BX) (cap : Nat) (d m : Int) {l : List HB} (hxl : xs.map BX.bd = l) (hg : GS l) {h : Heap} (hs : SlG 4 bdL h al xs) :
    HCalls Try.prog 44 #[.slice al xs.length cap, .agg #[iV d, iV m], .func (.func 45) #[] #[]] h fun v h' => (∃ bb : Bool, v = .tuple #[iV (seqN l d m), .bool bb]) ∧ Ext h h' := by
  obtain ⟨hle, hsp⟩ := seq_spec d m hg.g
  have hx12 : xs.length ≤ 12 := by have := hg.n; rw [← hxl] at this; simpa using this
  have hlen : l.length = xs.length := by rw [← hxl, List.length_map]
  have hat : ∀ (i : Nat) (x : BX), xs[i]? = some x → (i < seqN l d m ↔ seqC x d m < 0) := by
    intro i x hx
    rw [hsp i x.bd (by rw [← hxl]; exact bd_at hx)]
    show ¬ ltr d m x.day x.mn ↔ _
    rw [← cmpC_le]
    unfold seqC
    split
    · rename_i h9; exact ⟨fun _ => by decide, fun _ => h9⟩
    · rename_i h9; exact ⟨fun hh => absurd hh h9, fun hh => by omega⟩
  have ks := hs
  refine hcalls2 Try.func44 rfl (by decide +kernel) (by simp only [Try.ntmps44]; exact of_decide_eq_true rfl) ?_
  intro e hin
  have e0 := hin 0 _ rfl
  have e1 := hin 1 _ rfl
  have e2 := hin 2 _ rfl
  refine hx_seq ?_
  refine hx_region ?_
  refine WL.box2 (by simp only [EN, Nat.reduceEqDiff, reduceIte, Value.cells, e1]; rfl) ?_
  intro h1 B1 hx1 hlt1 hB1
  replace hs := hs.ext hx1
  refine WL.qq (by simp only [EN, Nat.reduceEqDiff, reduceIte, qv_assign, hB1.cell]; rfl) ?_
  refine WL.qq (by simp only [EN, Nat.reduceEqDiff, reduceIte, qv_assign, hB1.cell]; rfl) ?_
  refine WL.nil ?_
  refine th_norm ?_
  refine hx_seq ?_
  refine hx_region ?_
  refine WL.qq (by simp only [EN, Nat.reduceEqDiff, reduceIte, qv_move, e0, hB1.cell]; rfl) ?_
  refine WL.qq (by simp only [EN, Nat.reduceEqDiff, reduceIte, qv_len, ln91, AR, hB1.cell]; rfl) ?_
  refine WL.qq (by simp only [EN, Nat.reduceEqDiff, reduceIte, qv_assign, hB1.cell]; rfl) ?_
  refine WL.nil ?_
  refine th_norm ?_
  refine hx_seq ?_
  refine hx_region ?_
  refine WL.qq (by simp only [EN, Nat.reduceEqDiff, reduceIte, qv_move, hB1.cell]; rfl) ?_
  refine WL.qq (by simp only [EN, Nat.reduceEqDiff, reduceIte, qv_assign, hB1.cell]; rfl) ?_
  refine WL.qq (by simp only [EN, Nat.reduceEqDiff, reduceIte, qv_assign, hB1.cell]; rfl) ?_
  refine WL.nil ?_
  refine th_norm ?_
  refine hx_seq ?_
  refine hx_block ?_
  refine hx_loopX [9, 10, 11, 15, 16, 17, 18, 19, 20, 21, 22, 23, 24, 25, 26, 27, 28, 29, 30, 31, 32, 33, 34] (fun k e => ∃ (i : Nat) (j : Nat), j - i = k ∧ (i ≤ seqN l d m) ∧ (seqN l d m ≤ j) ∧ (j ≤ xs.length) ∧ e 9 = .int .i64 i ∧ e 10 = .int .i64 j) _ ⟨0, xs.length, rfl, ?_, ?_, ?_, ?_, ?_⟩ ?_
  · omega
  · omega
  · omega
  · simp only [EN, Nat.reduceEqDiff, reduceIte, e0, e1, e2, hB1.cell] <;> rfl
  · simp only [EN, Nat.reduceEqDiff, reduceIte, e0, e1, e2, hB1.cell] <;> rfl
  ·
    rintro k e0L hL0 hX0 hfr0 ⟨i, j, rfl, hij, hij2, hjK, i9_0, i10_0⟩
    replace hs := hs.ext hX0
    replace hB1 := hB1.ext hX0
    have k0_0 := hfr0 0 rfl; try simp only [EN, Nat.reduceEqDiff, reduceIte, e0, hB1.cell] at k0_0
    have k2_0 := hfr0 2 rfl; try simp only [EN, Nat.reduceEqDiff, reduceIte, e2, hB1.cell] at k2_0
    have k4_0 := hfr0 4 rfl; try simp only [EN, Nat.reduceEqDiff, reduceIte, hB1.cell] at k4_0
    have k8_0 := hfr0 8 rfl; try simp only [EN, Nat.reduceEqDiff, reduceIte, hB1.cell] at k8_0
    refine hx_seq ?_
    refine hx_seq ?_
    refine hx_region ?_
    refine WL.qq (by simp only [EN, Nat.reduceEqDiff, reduceIte, qv_move, i9_0, hB1.cell]; rfl) ?_
    refine WL.qq (by simp only [EN, Nat.reduceEqDiff, reduceIte, qv_move, i10_0, hB1.cell]; rfl) ?_
    refine WL.qq (by simp only [EN, Nat.reduceEqDiff, reduceIte, qv_binOp, binv_lss, hB1.cell]; rfl) ?_
    refine WL.nil ?_
    refine th_norm ?_
    refine hx_cond (by simp only [EN, Nat.reduceEqDiff, reduceIte, hB1.cell]; rfl) (fun hct17 => ?_) (fun hct17 => ?_)
    ·
      try simp only [BD] at hct17
      obtain ⟨y, hy⟩ := atG (l := xs) (i := (i + j) / 2) (by omega)
      have hyv := hat _ y hy
      obtain ⟨b, off, hae, hr1, _⟩ := bd_rd hs hy
      refine hx_skip ?_
      refine th_norm ?_
      refine hx_block ?_
      refine hx_seq ?_
      refine hx_region ?_
      refine WL.qq (by simp only [EN, Nat.reduceEqDiff, reduceIte, qv_move, i9_0, hB1.cell]; rfl) ?_
      refine WL.qq (by simp only [EN, Nat.reduceEqDiff, reduceIte, qv_move, i10_0, hB1.cell]; rfl) ?_
      refine WL.qq (by simp only [EN, Nat.reduceEqDiff, reduceIte, qv_binOp, binv_add, hB1.cell]; (try simp (disch := omega) only [w64, w8, wu64]); rfl) ?_
      refine WL.qq (by simp only [EN, Nat.reduceEqDiff, reduceIte, qv_convert, convv, Try.underlying3, Try.underlying123, hB1.cell]; (try simp (disch := omega) only [w64, w8, wu64]); rfl) ?_
      refine WL.qq (by simp only [EN, Nat.reduceEqDiff, reduceIte, k0_0, k2_0, k4_0, k8_0, i9_0, i10_0, hB1.cell, qv_binOp]; rw [binv_shr (by decide), mid_shr]) ?_
      refine WL.qq (by simp only [EN, Nat.reduceEqDiff, reduceIte, qv_convert, convv, Try.underlying123, Try.underlying3, hB1.cell]; (try simp (disch := omega) only [w64, w8, wu64]); rfl) ?_
      refine WL.qq (by simp only [EN, Nat.reduceEqDiff, reduceIte, qv_assign, hB1.cell]; rfl) ?_
      refine WL.nil ?_
      refine th_norm ?_
      refine hx_seq ?_
      apply hx_draw2 Rel.grows [] [6] [(6, (Spec.is (iV (seqC y d m))))] rfl (by decide +kernel) rfl
      refine LD.qq rfl rfl (by simp only [EN, Nat.reduceEqDiff, reduceIte, qv_move, k2_0, hB1.cell]; rfl) ?_
      refine LD.qq rfl rfl (by simp only [EN, Nat.reduceEqDiff, reduceIte, qv_move, k0_0, hB1.cell]; rfl) ?_
      refine LD.qq rfl rfl (by simp only [EN, Nat.reduceEqDiff, reduceIte, qv_move, hB1.cell]; rfl) ?_
      refine LD.qq rfl rfl (by simp only [EN, Nat.reduceEqDiff, reduceIte, qv_indexAddr, hB1.cell, hae]; (try simp (disch := omega) only [ix91, Int.toNat_natCast]); rfl) ?_
      refine LD.qq rfl rfl (by simp only [EN, Nat.reduceEqDiff, reduceIte, k0_0, k2_0, k4_0, k8_0, i9_0, i10_0, hB1.cell, qv_load, ld55, Int.toNat_natCast, hr1]; rfl) ?_
      refine LD.qq rfl rfl (by simp only [EN, Nat.reduceEqDiff, reduceIte, qv_load, ld41, readN, AR, Nat.zero_add, Nat.reduceAdd, k4_0, hB1.cell]; rfl) ?_
      refine LD.es rfl rfl (by intro hD hr hf; have hx : Ext _ _ := hr; have hs := hs.ext hx; have hB1 := hB1.ext hx; exact EOp.mono (R := Grow (iV (seqC y d m)) hD) (e_callf Try.call45 (first := #[]) (cap := #[]) (by simp only [EN, Nat.reduceEqDiff, reduceIte, k0_0, k2_0, k4_0, k8_0, i9_0, i10_0, hB1.cell]) (by simp only [EN, Nat.reduceEqDiff, reduceIte, k0_0, k2_0, k4_0, k8_0, i9_0, i10_0, hB1.cell, List.map_toArray, List.map_cons, List.map_nil]; exact c_seqCmp y d m _)) (fun _ _ hh => ⟨hh.2, hh.1, trivial⟩)) ?_
      intro u5_6 w5_6
      have hu5 : u5_6 = _ := w5_6
      subst hu5
      refine LD.qq rfl rfl (by simp only [EN, Nat.reduceEqDiff, reduceIte, qv_binOp, binv_lss, hB1.cell]; rfl) ?_
      refine LD.nil ?_
      rintro h2 hx2 hF5
      replace hx2 : Ext _ _ := hx2
      replace hs := hs.ext hx2
      replace hB1 := hB1.ext hx2
      refine WL.nil ?_
      refine th_norm ?_
      refine hx_cond (by simp only [EN, Nat.reduceEqDiff, reduceIte, hB1.cell]; rfl) (fun hct31 => ?_) (fun hct31 => ?_)
      ·
        try simp only [BD] at hct31
        refine hx_region ?_
        refine WL.qq (by simp only [EN, Nat.reduceEqDiff, reduceIte, qv_move, hB1.cell]; rfl) ?_
        refine WL.qq (by simp only [EN, Nat.reduceEqDiff, reduceIte, qv_binOp, binv_add, hB1.cell]; (try simp (disch := omega) only [w64, w8, wu64]); rfl) ?_
        refine WL.qq (by simp only [EN, Nat.reduceEqDiff, reduceIte, qv_assign, hB1.cell]; rfl) ?_
        refine WL.nil ?_
        refine bl_norm ?_
        refine th_norm ?_
        refine ⟨rfl, ?_, ?_, _, ?_, (i + j) / 2 + 1, j, rfl, ?_, ?_, ?_, ?_, ?_⟩  -- again 0 of loop 0
        · exact hx2
        · (repeat (first | exact Fr.refl _ _ | refine Fr.set rfl ?_ | refine Fr.put rfl ?_ | with_reducible refine Fr.put0 ?_))
        · omega
        · omega
        · omega
        · omega
        · simp only [EN, Nat.reduceEqDiff, reduceIte, k0_0, k2_0, k4_0, k8_0, i9_0, i10_0, hB1.cell] <;> first | rfl | (congr 1; omega)
        · simp only [EN, Nat.reduceEqDiff, reduceIte, k0_0, k2_0, k4_0, k8_0, i9_0, i10_0, hB1.cell] <;> first | rfl | (congr 1; omega)
      ·
        try simp only [BD] at hct31
        refine hx_region ?_
        refine WL.qq (by simp only [EN, Nat.reduceEqDiff, reduceIte, qv_move, hB1.cell]; rfl) ?_
        refine WL.qq (by simp only [EN, Nat.reduceEqDiff, reduceIte, qv_assign, hB1.cell]; rfl) ?_
        refine WL.nil ?_
        refine bl_norm ?_
        refine th_norm ?_
        refine ⟨rfl, ?_, ?_, _, ?_, i, (i + j) / 2, rfl, ?_, ?_, ?_, ?_, ?_⟩  -- again 1 of loop 0
        · exact hx2
        · (repeat (first | exact Fr.refl _ _ | refine Fr.set rfl ?_ | refine Fr.put rfl ?_ | with_reducible refine Fr.put0 ?_))
        · omega
        · omega
        · omega
        · omega
        · simp only [EN, Nat.reduceEqDiff, reduceIte, k0_0, k2_0, k4_0, k8_0, i9_0, i10_0, hB1.cell] <;> first | rfl | (congr 1; omega)
        · simp only [EN, Nat.reduceEqDiff, reduceIte, k0_0, k2_0, k4_0, k8_0, i9_0, i10_0, hB1.cell] <;> first | rfl | (congr 1; omega)
    ·
      try simp only [BD] at hct17
      obtain hit : i = seqN l d m := by omega
      obtain ⟨b, off, y, hq⟩ : ∃ b off y, i < xs.length → al = some ⟨b, off, none⟩ ∧ readN hL0 b (off + i * 4) 4 = some (bdL y) ∧ xs[i]? = some y := by { exact if hlt : i < xs.length then (by obtain ⟨y, hy⟩ := atG (l := xs) (i := i) hlt; obtain ⟨b, off, ha, hr, _⟩ := bd_rd hs hy; exact ⟨b, off, y, fun _ => ⟨ha, hr, hy⟩⟩) else ⟨0, 0, zX, fun hh => absurd hh hlt⟩ }
      refine hx_exit ?_
      refine th_exit ?_
      refine th_exit ?_
      refine bl_hit ?_
      refine th_norm ?_
      refine hx_seq ?_
      apply hx_draw2 Rel.grows [] [11] [(11, Spec.is (iV (seqC y d m)))] rfl (by decide +kernel) rfl
      refine LD.qq rfl rfl (by simp only [EN, Nat.reduceEqDiff, reduceIte, qv_move, i9_0, hB1.cell]; rfl) ?_
      refine LD.qq rfl rfl (by simp only [EN, Nat.reduceEqDiff, reduceIte, qv_move, i9_0, hB1.cell]; rfl) ?_
      refine LD.qq rfl rfl (by simp only [EN, Nat.reduceEqDiff, reduceIte, qv_move, k8_0, hB1.cell]; rfl) ?_
      refine LD.qq rfl rfl (by simp only [EN, Nat.reduceEqDiff, reduceIte, qv_binOp, binv_lss, hB1.cell]; rfl) ?_
      refine LD.qq rfl rfl (by simp only [EN, Nat.reduceEqDiff, reduceIte, qv_move, hB1.cell]; rfl) ?_
      refine LD.cq rfl rfl (gd_at (t := 39) rfl (by simp only [EN, Nat.reduceEqDiff, reduceIte, k2_0, hB1.cell] <;> rfl)) (fun hg8_5 => by simp only [EN, Nat.reduceEqDiff, reduceIte, qv_move, k2_0, hB1.cell, hg8_5, GR]; rfl) ?_
      refine LD.cq rfl rfl (gd_at (t := 39) rfl (by simp only [EN, Nat.reduceEqDiff, reduceIte, k0_0, hB1.cell] <;> rfl)) (fun hg8_6 => by simp only [EN, Nat.reduceEqDiff, reduceIte, qv_move, k0_0, hB1.cell, hg8_6, GR]; rfl) ?_
      refine LD.cq rfl rfl (gd_at (t := 39) rfl (by simp only [EN, Nat.reduceEqDiff, reduceIte, i9_0, hB1.cell] <;> rfl)) (fun hg8_7 => by simp only [EN, Nat.reduceEqDiff, reduceIte, qv_move, i9_0, hB1.cell, hg8_7, GR]; rfl) ?_
      refine LD.cq rfl rfl (gd_at (t := 39) rfl (by simp only [EN, Nat.reduceEqDiff, reduceIte, hB1.cell] <;> rfl)) (fun hg8_8 => by have hlt : i < xs.length := by { simpa using hg8_8 }; have hh9 := hq hlt; simp only [EN, Nat.reduceEqDiff, reduceIte, k0_0, k2_0, k4_0, k8_0, i9_0, i10_0, hB1.cell, qv_indexAddr, hg8_8, hh9.1, if_true]; exact ix91 _ _ _ _ _ _ (by omega) (by omega)) ?_
      refine LD.cq rfl rfl (gd_at (t := 39) rfl (by simp only [EN, Nat.reduceEqDiff, reduceIte, hB1.cell] <;> rfl)) (fun hg8_9 => by have hlt : i < xs.length := by { simpa using hg8_9 }; have hh9 := hq hlt; simp only [EN, Nat.reduceEqDiff, reduceIte, k0_0, k2_0, k4_0, k8_0, i9_0, i10_0, hB1.cell, qv_load, ld55, hg8_9, Int.toNat_natCast, hh9.2.1, if_true]; rfl) ?_
      refine LD.cq rfl rfl (gd_at (t := 39) rfl (by simp only [EN, Nat.reduceEqDiff, reduceIte, k4_0, hB1.cell] <;> rfl)) (fun hg8_10 => by simp only [EN, Nat.reduceEqDiff, reduceIte, qv_load, ld41, readN, AR, Nat.zero_add, Nat.reduceAdd, k4_0, hB1.cell, hg8_10, GR]; rfl) ?_
      refine LD.eg rfl rfl (gd_at (t := 39) rfl (by simp only [EN, Nat.reduceEqDiff, reduceIte, hB1.cell] <;> rfl)) (fun hg8_11 => by intro hD hr hf; have hx : Ext _ _ := hr; have hs := hs.ext hx; have hB1 := hB1.ext hx; have hlt : i < xs.length := (by simpa using hg8_11); exact EOp.mono (R := Grow (iV (seqC y d m)) hD) (e_callf Try.call45 (first := #[]) (cap := #[]) (by simp only [EN, Nat.reduceEqDiff, reduceIte, k0_0, k2_0, k4_0, k8_0, i9_0, i10_0, hB1.cell, hg8_11, if_true]) (by simp only [EN, Nat.reduceEqDiff, reduceIte, k0_0, k2_0, k4_0, k8_0, i9_0, i10_0, hB1.cell, List.map_toArray, List.map_cons, List.map_nil, hg8_11, if_true]; exact c_seqCmp y d m _)) (fun _ _ hh => ⟨hh.1, hh.2⟩)) ?_
      refine LD.cq rfl rfl (gd_at (t := 39) rfl (by simp only [EN, Nat.reduceEqDiff, reduceIte, hB1.cell] <;> rfl)) (fun hg8_12 => by simp only [EN, Nat.reduceEqDiff, reduceIte, qv_binOp, binv_eql, eq3, Option.map_some, hB1.cell, hg8_12, GR]; rfl) ?_
      refine LD.qq rfl rfl (by simp only [EN, Nat.reduceEqDiff, reduceIte, qv_pick, pk_and, pk_or, GR, hB1.cell]; rfl) ?_
      refine LD.qq rfl rfl (by simp only [EN, Nat.reduceEqDiff, reduceIte, qv_assign, hB1.cell]; rfl) ?_
      refine LD.qq rfl rfl (by simp only [EN, Nat.reduceEqDiff, reduceIte, qv_assign, hB1.cell]; rfl) ?_
      refine LD.nil ?_
      rintro h3 hx3 hF8
      replace hx3 : Ext _ _ := hx3
      replace hs := hs.ext hx3
      replace hB1 := hB1.ext hx3
      refine WL.nil ?_
      refine th_norm ?_
      refine hx_ret ?_
      refine fin_ret [.tmp 6, .tmp 7] rfl rfl (by simp only [EN, Nat.reduceEqDiff, reduceIte, resv, k0_0, k2_0, k4_0, k8_0, i9_0, i10_0, hB1.cell]; rfl) ?_  -- ret 0 r8
      exact ⟨⟨_, by rw [← hit]; rfl⟩, ((hx1).trans ((hX0).trans (hx3)))⟩
end GL


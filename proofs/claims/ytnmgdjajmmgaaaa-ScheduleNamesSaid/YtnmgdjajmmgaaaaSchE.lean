/- Schedule: the beginnings behind a point in time. -/
import Derived.Test.YtnmgdjajmmgaaaaSchD
import Derived.Test.YtnmgdjajmmgaaaaGl21
set_option linter.unusedSimpArgs false
set_option linter.unusedVariables false
set_option linter.unnecessarySimpa false
namespace GL
open Go Go.Proofs
set_option maxRecDepth 8000
abbrev Chg := Int × Int × Int
abbrev chgV (c : Chg) : Value := .agg #[.int .i64 c.1, .int .i64 c.2.1, .int .i64 c.2.2]
/-- The beginnings of a day. -/
def day6 (s : List Int) (d : Int) : List Chg := (List.range 6).map fun i => (d, s.getD i 0, (i : Int) + 1)
def allF (bus : Int → Bool) (s : List Int) : Int → Nat → List Chg
  | _, 0 => []
  | d, n + 1 => (if bus d = true then day6 s d else []) ++ allF bus s (d + 1) n
def gtC (c0 : Int × Int) (c : Chg) : Bool := decide (0 < cmpC (c.1, c.2.1) c0)
def begs (bus : Int → Bool) (s : List Int) (c0 : Int × Int) : List Chg := (allF bus s c0.1 (73049 - c0.1).toNat).filter (gtC c0)
theorem day6_drop {s : List Int} {d x : Int} {k : Nat} (hk : k < 6) (hx : s[k]? = some x) : (day6 s d).drop k = (d, x, (k : Int) + 1) :: (day6 s d).drop (k + 1) := by
  have hl : k < (day6 s d).length := by simp [day6, hk]
  rw [List.drop_eq_getElem_cons hl]
  congr 1
  simp [day6, List.getD, hx]
theorem day6_end (s : List Int) (d : Int) : (day6 s d).drop 6 = [] := List.drop_eq_nil_of_le (by simp [day6])
theorem allF_skip (bus : Int → Bool) (s : List Int) : ∀ (k n : Nat) (d : Int), (∀ x, d ≤ x → x < d + k → bus x = false) → allF bus s d (k + n) = allF bus s (d + k) n
  | 0, n, d, _ => by simp
  | k + 1, n, d, h => by
    have h0 : bus d = false := h d (by omega) (by omega)
    rw [show k + 1 + n = (k + n) + 1 by omega, allF, h0]
    simp only [Bool.false_eq_true, if_false, List.nil_append]
    rw [allF_skip bus s k n (d + 1) fun x h1 h2 => h x (by omega) (by omega)]
    congr 1
    omega
theorem allF_none (bus : Int → Bool) (s : List Int) : ∀ (n : Nat) (d : Int), (∀ x, d ≤ x → x < d + n → bus x = false) → allF bus s d n = [] := fun n d h => by
  have := allF_skip bus s n 0 d h
  simpa [allF] using this
theorem allF_at (bus : Int → Bool) (s : List Int) (d : Int) (n : Nat) (hb : bus d = true) (hn : 1 ≤ n) : allF bus s d n = day6 s d ++ allF bus s (d + 1) (n - 1) := by
  obtain ⟨m, rfl⟩ : ∃ m, n = m + 1 := ⟨n - 1, by omega⟩
  simp only [allF, hb, if_true, Nat.add_sub_cancel]
theorem scan_up (bus : Int → Bool) : ∀ (f : Nat) (d : Int), 0 ≤ d → 73049 ≤ (f : Int) + d →
    (∃ d', scanM bus 1 f d = some d' ∧ d ≤ d' ∧ d' ≤ 73048 ∧ bus d' = true ∧ ∀ x, d ≤ x → x < d' → bus x = false) ∨ (scanM bus 1 f d = none ∧ ∀ x, d ≤ x → x ≤ 73048 → bus x = false)
  | 0, d, _, h => .inr ⟨rfl, fun x h1 h2 => by omega⟩
  | f + 1, d, h0, h => by
    cases hv : validM d with
    | false =>
      refine .inr ⟨scanM_out _ _ _ _ hv, fun x h1 h2 => ?_⟩
      have : ¬ (0 ≤ d ∧ d ≤ 73048) := by simpa [validM] using hv
      omega
    | true =>
      have hb := valid_bd hv
      cases hbu : bus d with
      | true => exact .inl ⟨d, by simp [scanM, hv, hbu], by omega, hb.2, hbu, fun x h1 h2 => by omega⟩
      | false =>
        have hs : scanM bus 1 (f + 1) d = scanM bus 1 f (d + 1) := by simp [scanM, hv, hbu]
        rw [hs]
        rcases scan_up bus f (d + 1) (by omega) (by omega) with ⟨d', h1, h2, h3, h4, h5⟩ | ⟨h1, h2⟩
        · refine .inl ⟨d', h1, by omega, h3, h4, fun x hx1 hx2 => ?_⟩
          by_cases hxd : x = d
          · rw [hxd]; exact hbu
          · exact h5 x (by omega) hx2
        · refine .inr ⟨h1, fun x hx1 hx2 => ?_⟩
          by_cases hxd : x = d
          · rw [hxd]; exact hbu
          · exact h2 x (by omega) hx2
theorem step_up (bus : Int → Bool) (d : Int) (hd : 0 ≤ d ∧ d ≤ 73048) :
    (∃ d', stepM bus d 1 = (d', 0) ∧ d < d' ∧ d' ≤ 73048 ∧ bus d' = true ∧ ∀ x, d < x → x < d' → bus x = false) ∨ (stepM bus d 1 = (0, 28) ∧ ∀ x, d < x → x ≤ 73048 → bus x = false) := by
  have hv : validM d = true := by simp [validM, hd]
  unfold stepM
  rw [if_pos hv]
  generalize hf : 73050 = f
  rcases scan_up bus f (d + 1) (by omega) (by omega) with ⟨d', h1, h2, h3, h4, h5⟩ | ⟨h1, h2⟩
  · exact .inl ⟨d', by rw [h1], by omega, h3, h4, fun x hx1 hx2 => h5 x (by omega) hx2⟩
  · exact .inr ⟨by rw [h1], fun x hx1 hx2 => h2 x (by omega) hx2⟩
theorem allF_next (bus : Int → Bool) (s : List Int) {d d' : Int} (h1 : d ≤ d') (h2 : d' ≤ 73049) (hn : ∀ x, d ≤ x → x < d' → bus x = false) : allF bus s d (73049 - d).toNat = allF bus s d' (73049 - d').toNat := by
  have := allF_skip bus s (d' - d).toNat (73049 - d').toNat d (fun x hx1 hx2 => hn x hx1 (by omega))
  rw [show (d' - d).toNat + (73049 - d').toNat = (73049 - d).toNat by omega] at this
  rw [this]
  congr 1
  omega
theorem pair_gr {P : Program} {f : FuncId} {args : Array Value} {h : Heap} {x y : Int} {p : Int × Int} (hp : p = (x, y)) (hc : HCalls P f args h (Grow (.tuple #[.int .i64 p.1, .int .i64 p.2]) h)) :
    HCalls P f args h (Grow (.tuple #[.int .i64 x, .int .i64 y]) h) := by subst hp; exact hc
theorem drop_nil_len {α : Type} {L : List α} {i : Nat} (hi : i ≤ L.length) (h : L.drop i = []) : i = L.length := by
  have := congrArg List.length h
  simp at this
  omega
theorem c_begYield (Ba Bc Bs p lp : Nat) (s0 s1 s2 s3 s4 s5 d0 m0 : Int) (wk hs : List Int) (hv : 0 ≤ d0 ∧ d0 ≤ 73048) (J : Nat → Heap → Prop) (S : Heap → Prop) (L : List Chg) (hL : L = begs (busM wk hs) [s0, s1, s2, s3, s4, s5] (d0, m0))
    (hJx : ∀ i h h', J i h → Ext h h' → J i h')
    (hJ : ∀ i h, J i h → Has h Ba (.cells #[.int .i64 d0, .int .i64 m0] 29) ∧ Has h Bc (.cells #[.pointer (some ⟨p, 0, none⟩)] 30) ∧ Has h Bs (.cells #[.int .i64 s0, .int .i64 s1, .int .i64 s2, .int .i64 s3, .int .i64 s4, .int .i64 s5] 24) ∧ IsCal h p wk hs)
    (hy : ∀ (i : Nat) (y : Chg) h, L[i]? = some y → J i h → HY Try.prog lp #[chgV y] h fun v h' => ∃ b : Bool, v = .bool b ∧ ((b = true → J (i + 1) h') ∧ (b = false → S h')))
    {h : Heap} (h0 : J 0 h) :
    HCalls Try.prog 55 #[.func (.yield lp) #[] #[], .pointer (some ⟨Ba, 0, none⟩), .pointer (some ⟨Bc, 0, none⟩), .pointer (some ⟨Bs, 0, none⟩)] h fun _ h' => J L.length h' ∨ S h' := by
  refine hcalls2 Try.func55 rfl (by decide +kernel) (by simp only [Try.ntmps55]; exact of_decide_eq_true rfl) ?_
  intro e hin
  have e0 := hin 0 _ rfl
  have e1 := hin 1 _ rfl
  have e2 := hin 2 _ rfl
  have e3 := hin 3 _ rfl
  obtain ⟨hA, hC, hS, hcal⟩ := hJ _ _ h0
  have hJ0 : KJ J hJx 0 h := ⟨h0⟩
  simp only [begs] at hL
  refine hx_seq ?_
  refine hx_region ?_
  refine WL.qq (by simp only [ev_tmp, ev_const, ev_func, set_get, Nat.reduceEqDiff, reduceIte, qv_fieldAddr, fa29_0, Nat.zero_add, Nat.reduceAdd, e0, e1, e2, e3, hA.cell, hC.cell, hS.cell]; rfl) ?_
  refine WL.qq (by simp only [ev_tmp, ev_const, ev_func, set_get, Nat.reduceEqDiff, reduceIte, qv_load, ld3, readN, List.getElem?_toArray, List.getElem?_cons_zero, List.getElem?_cons_succ, List.map_toArray, List.map_cons, List.map_nil, Option.map_some, Option.bind_some, Nat.zero_add, Nat.reduceAdd, e0, e1, e2, e3, hA.cell, hC.cell, hS.cell]; rfl) ?_
  refine WL.qq (by simp only [ev_tmp, ev_const, ev_func, set_get, Nat.reduceEqDiff, reduceIte, qv_assign, e0, e1, e2, e3, hA.cell, hC.cell, hS.cell]; rfl) ?_
  refine WL.nil ?_
  refine th_norm ?_
  refine hx_cutX [5, 6, 7, 15, 16, 17, 18, 19, 20, 21, 22, 23, 24, 25, 26, 27] (fun e => ∃ (day : Int), (0 ≤ day ∧ day ≤ 73048 ∧ busM wk hs day = true) ∧ (L = (allF (busM wk hs) [s0, s1, s2, s3, s4, s5] day (73049 - day).toNat).filter (gtC (d0, m0))) ∧ e 5 = .int .i64 day) ?_ ?_
  ·
    refine hx_seq ?_
    refine hx_region ?_
    refine WL.qq (by simp only [ev_tmp, ev_const, ev_func, set_get, Nat.reduceEqDiff, reduceIte, qv_load, ld30, readN, List.getElem?_toArray, List.getElem?_cons_zero, List.getElem?_cons_succ, List.map_toArray, List.map_cons, List.map_nil, Option.map_some, Option.bind_some, Nat.zero_add, Nat.reduceAdd, e0, e1, e2, e3, hA.cell, hC.cell, hS.cell]; rfl) ?_
    refine WL.qq (by simp only [ev_tmp, ev_const, ev_func, set_get, Nat.reduceEqDiff, reduceIte, qv_move, e0, e1, e2, e3, hA.cell, hC.cell, hS.cell]; rfl) ?_
    refine WL.ck Try.call38 (by simp only [ev_tmp, ev_const, ev_func, set_get, Nat.reduceEqDiff, reduceIte, List.getElem?_toArray, List.getElem?_cons_zero, List.getElem?_cons_succ, List.map_toArray, List.map_cons, List.map_nil, Option.map_some, Option.bind_some, e0, e1, e2, e3, hA.cell, hC.cell, hS.cell]; exact c_isBusiness p wk hs _ hcal) ?_
    refine WL.qq (by simp only [ev_tmp, ev_const, ev_func, set_get, Nat.reduceEqDiff, reduceIte, qv_unOp, unv_not, e0, e1, e2, e3, hA.cell, hC.cell, hS.cell]; rfl) ?_
    refine WL.nil ?_
    refine th_norm ?_
    refine hx_cond (by simp only [ev_tmp, ev_const, ev_func, set_get, Nat.reduceEqDiff, reduceIte, e0, e1, e2, e3, hA.cell, hC.cell, hS.cell]; rfl) (fun hct18 => ?_) (fun hct18 => ?_)
    ·
      try simp only [decide_eq_true_eq, decide_eq_false_iff_not, Bool.and_eq_true, Bool.and_eq_false_iff, Bool.or_eq_true, Bool.or_eq_false_iff, Bool.not_eq_true', Bool.not_eq_false', Bool.not_eq_true, Bool.not_eq_false] at hct18
      refine hx_seq ?_
      refine hx_region ?_
      refine WL.qq (by simp only [ev_tmp, ev_const, ev_func, set_get, Nat.reduceEqDiff, reduceIte, qv_load, ld30, readN, List.getElem?_toArray, List.getElem?_cons_zero, List.getElem?_cons_succ, List.map_toArray, List.map_cons, List.map_nil, Option.map_some, Option.bind_some, Nat.zero_add, Nat.reduceAdd, e0, e1, e2, e3, hA.cell, hC.cell, hS.cell]; rfl) ?_
      refine WL.qq (by simp only [ev_tmp, ev_const, ev_func, set_get, Nat.reduceEqDiff, reduceIte, qv_move, e0, e1, e2, e3, hA.cell, hC.cell, hS.cell]; rfl) ?_
      obtain ⟨x, y, hst⟩ : ∃ x y, stepM (busM wk hs) d0 1 = (x, y) := ⟨_, _, rfl⟩
      refine WL.cg Try.call56 (by simp only [ev_tmp, ev_const, ev_func, set_get, Nat.reduceEqDiff, reduceIte, List.getElem?_toArray, List.getElem?_cons_zero, List.getElem?_cons_succ, List.map_toArray, List.map_cons, List.map_nil, Option.map_some, Option.bind_some, e0, e1, e2, e3, hA.cell, hC.cell, hS.cell]; exact pair_gr hst (c_next p wk hs d0 hcal)) ?_
      intro h1 hx1
      replace hA := hA.ext hx1
      replace hC := hC.ext hx1
      replace hS := hS.ext hx1
      replace hcal := hcal.ext hx1
      replace hJ0 := hJ0.ext hx1
      refine WL.qq (by simp only [ev_tmp, ev_const, ev_func, set_get, Nat.reduceEqDiff, reduceIte, qv_move, e0, e1, e2, e3, hA.cell, hC.cell, hS.cell]; rfl) ?_
      refine WL.qq (by simp only [ev_tmp, ev_const, ev_func, set_get, Nat.reduceEqDiff, reduceIte, qv_extract, List.getElem?_toArray, List.getElem?_cons_zero, List.getElem?_cons_succ, List.map_toArray, List.map_cons, List.map_nil, Option.map_some, Option.bind_some, e0, e1, e2, e3, hA.cell, hC.cell, hS.cell]; rfl) ?_
      refine WL.qq (by simp only [ev_tmp, ev_const, ev_func, set_get, Nat.reduceEqDiff, reduceIte, qv_extract, List.getElem?_toArray, List.getElem?_cons_zero, List.getElem?_cons_succ, List.map_toArray, List.map_cons, List.map_nil, Option.map_some, Option.bind_some, e0, e1, e2, e3, hA.cell, hC.cell, hS.cell]; rfl) ?_
      refine WL.qq (by simp only [ev_tmp, ev_const, ev_func, set_get, Nat.reduceEqDiff, reduceIte, qv_assign, e0, e1, e2, e3, hA.cell, hC.cell, hS.cell]; rfl) ?_
      refine WL.qq (by simp only [ev_tmp, ev_const, ev_func, set_get, Nat.reduceEqDiff, reduceIte, qv_assign, e0, e1, e2, e3, hA.cell, hC.cell, hS.cell]; rfl) ?_
      refine WL.nil ?_
      refine th_norm ?_
      refine hx_seq ?_
      refine hx_seq ?_
      refine hx_region ?_
      refine WL.qq (by simp only [ev_tmp, ev_const, ev_func, set_get, Nat.reduceEqDiff, reduceIte, qv_move, e0, e1, e2, e3, hA.cell, hC.cell, hS.cell]; rfl) ?_
      refine WL.qq (by simp only [ev_tmp, ev_const, ev_func, set_get, Nat.reduceEqDiff, reduceIte, qv_binOp, binv_neq, eq34, Option.map_some, e0, e1, e2, e3, hA.cell, hC.cell, hS.cell]; rfl) ?_
      refine WL.nil ?_
      refine th_norm ?_
      refine hx_cond (by simp only [ev_tmp, ev_const, ev_func, set_get, Nat.reduceEqDiff, reduceIte, e0, e1, e2, e3, hA.cell, hC.cell, hS.cell]; rfl) (fun hct26 => ?_) (fun hct26 => ?_)
      ·
        try simp only [decide_eq_true_eq, decide_eq_false_iff_not, Bool.and_eq_true, Bool.and_eq_false_iff, Bool.or_eq_true, Bool.or_eq_false_iff, Bool.not_eq_true', Bool.not_eq_false', Bool.not_eq_true, Bool.not_eq_false] at hct26
        obtain ⟨_, hno⟩ | ⟨_, hno⟩ := step_up (busM wk hs) d0 hv
        · have h9 := hno.1; rw [hst] at h9; cases h9; exact absurd rfl hct26
        have hLn : L = [] := by rw [hL, allF_none _ _ _ _ (fun x hx1 hx2 => by rcases Int.lt_or_eq_of_le hx1 with h9 | h9; exact hno x h9 (by omega); rw [← h9]; exact hct18)]; rfl
        refine hx_ret ?_
        refine th_ret ?_
        refine th_ret ?_
        refine fin_ret [] rfl rfl (by simp only [ev_tmp, ev_const, ev_func, set_get, Nat.reduceEqDiff, reduceIte, resv, e0, e1, e2, e3, hA.cell, hC.cell, hS.cell]; rfl) ?_  -- ret 0 r3
        left
        rw [hLn]
        exact hJ0.j
      ·
        try simp only [decide_eq_true_eq, decide_eq_false_iff_not, Bool.and_eq_true, Bool.and_eq_false_iff, Bool.or_eq_true, Bool.or_eq_false_iff, Bool.not_eq_true', Bool.not_eq_false', Bool.not_eq_true, Bool.not_eq_false] at hct26
        rw [hct26] at hst
        obtain ⟨hu2, hu3, hu4, hu5⟩ : d0 < x ∧ x ≤ 73048 ∧ busM wk hs x = true ∧ ∀ u, d0 < u → u < x → busM wk hs u = false := by rcases step_up (busM wk hs) d0 hv with ⟨d', h1, h2, h3, h4, h5⟩ | ⟨h1, _⟩; (rw [hst] at h1; cases h1; exact ⟨h2, h3, h4, h5⟩); (rw [hst] at h1; cases h1)
        refine hx_skip ?_
        refine th_norm ?_
        refine hx_region ?_
        refine WL.qq (by simp only [ev_tmp, ev_const, ev_func, set_get, Nat.reduceEqDiff, reduceIte, qv_move, e0, e1, e2, e3, hA.cell, hC.cell, hS.cell]; rfl) ?_
        refine WL.qq (by simp only [ev_tmp, ev_const, ev_func, set_get, Nat.reduceEqDiff, reduceIte, qv_assign, e0, e1, e2, e3, hA.cell, hC.cell, hS.cell]; rfl) ?_
        refine WL.nil ?_
        refine th_norm ?_
        refine ⟨rfl, ?_, ?_, x, ?_, ?_, ?_⟩  -- meet 0 of cut 1
        · exact hx1
        · (repeat (first | exact Fr.refl _ _ | refine Fr.set rfl ?_ | refine Fr.put rfl ?_ | refine Fr.put0 ?_ | refine Fr.trans ?_ (Fr.of hfc1 rfl)))
        · exact ⟨by omega, hu3, hu4⟩
        · rw [hL, allF_next _ _ (Int.le_of_lt hu2) (by omega) (fun u g1 g2 => by rcases Int.lt_or_eq_of_le g1 with h9 | h9; exact hu5 u h9 g2; rw [← h9]; exact hct18)]
        · simp only [ev_tmp, ev_const, ev_func, set_get, Nat.reduceEqDiff, reduceIte, e0, e1, e2, e3, hA.cell, hC.cell, hS.cell] <;> first | rfl | (congr 1; omega)
    ·
      try simp only [decide_eq_true_eq, decide_eq_false_iff_not, Bool.and_eq_true, Bool.and_eq_false_iff, Bool.or_eq_true, Bool.or_eq_false_iff, Bool.not_eq_true', Bool.not_eq_false', Bool.not_eq_true, Bool.not_eq_false] at hct18
      refine hx_skip ?_
      refine th_norm ?_
      refine ⟨rfl, ?_, ?_, d0, ?_, ?_, ?_⟩  -- meet 1 of cut 1
      · exact Ext.refl _
      · (repeat (first | exact Fr.refl _ _ | refine Fr.set rfl ?_ | refine Fr.put rfl ?_ | refine Fr.put0 ?_ | refine Fr.trans ?_ (Fr.of hfc1 rfl)))
      · exact ⟨hv.1, hv.2, hct18⟩
      · exact hL
      · simp only [ev_tmp, ev_const, ev_func, set_get, Nat.reduceEqDiff, reduceIte, e0, e1, e2, e3, hA.cell, hC.cell, hS.cell] <;> first | rfl | (congr 1; omega)
  ·
    rintro ec1 hC1 hXc1 hfc1 ⟨day, hday, hrest, i5_c1⟩
    replace hA := hA.ext hXc1
    replace hC := hC.ext hXc1
    replace hS := hS.ext hXc1
    replace hcal := hcal.ext hXc1
    replace hJ0 := hJ0.ext hXc1
    have k0_c1 := hfc1 0 rfl; simp only [ev_tmp, ev_const, ev_func, set_get, Nat.reduceEqDiff, reduceIte, e0, e1, e2, e3, hA.cell, hC.cell, hS.cell] at k0_c1
    have k1_c1 := hfc1 1 rfl; simp only [ev_tmp, ev_const, ev_func, set_get, Nat.reduceEqDiff, reduceIte, e0, e1, e2, e3, hA.cell, hC.cell, hS.cell] at k1_c1
    have k2_c1 := hfc1 2 rfl; simp only [ev_tmp, ev_const, ev_func, set_get, Nat.reduceEqDiff, reduceIte, e0, e1, e2, e3, hA.cell, hC.cell, hS.cell] at k2_c1
    have k3_c1 := hfc1 3 rfl; simp only [ev_tmp, ev_const, ev_func, set_get, Nat.reduceEqDiff, reduceIte, e0, e1, e2, e3, hA.cell, hC.cell, hS.cell] at k3_c1
    refine hx_block ?_
    refine hx_loopG [5, 8, 9, 10, 11, 12, 28, 29, 30, 31, 32, 33, 34, 35, 36, 37, 38, 39, 40, 41, 42, 43, 44, 45, 46, 47, 48, 49, 50, 51, 52, 53, 54, 55, 56, 57, 58, 59, 60] (fun k e hL0 => ∃ (i : Nat) (day : Int), (73049 - day).toNat = k ∧ (KJ J hJx i hL0) ∧ (i ≤ L.length) ∧ (0 ≤ day ∧ day ≤ 73048 ∧ busM wk hs day = true) ∧ (L.drop i = (allF (busM wk hs) [s0, s1, s2, s3, s4, s5] day (73049 - day).toNat).filter (gtC (d0, m0))) ∧ e 5 = .int .i64 day) _ ⟨0, day, rfl, ?_, ?_, ?_, ?_, ?_⟩ ?_
    · exact hJ0
    · omega
    · exact hday
    · exact hrest
    · simp only [ev_tmp, ev_const, ev_func, set_get, Nat.reduceEqDiff, reduceIte, k0_c1, k1_c1, k2_c1, k3_c1, i5_c1, hA.cell, hC.cell, hS.cell] <;> exact i5_c1
    ·
      rintro k e0L hL0 hfr0 ⟨i, day, rfl, hJi, hi, hday, hrest, i5_0⟩
      have k0_0 := hfr0 0 rfl; simp only [ev_tmp, ev_const, ev_func, set_get, Nat.reduceEqDiff, reduceIte, k0_c1, k1_c1, k2_c1, k3_c1, i5_c1, hA.cell, hC.cell, hS.cell] at k0_0
      have k1_0 := hfr0 1 rfl; simp only [ev_tmp, ev_const, ev_func, set_get, Nat.reduceEqDiff, reduceIte, k0_c1, k1_c1, k2_c1, k3_c1, i5_c1, hA.cell, hC.cell, hS.cell] at k1_0
      have k2_0 := hfr0 2 rfl; simp only [ev_tmp, ev_const, ev_func, set_get, Nat.reduceEqDiff, reduceIte, k0_c1, k1_c1, k2_c1, k3_c1, i5_c1, hA.cell, hC.cell, hS.cell] at k2_0
      have k3_0 := hfr0 3 rfl; simp only [ev_tmp, ev_const, ev_func, set_get, Nat.reduceEqDiff, reduceIte, k0_c1, k1_c1, k2_c1, k3_c1, i5_c1, hA.cell, hC.cell, hS.cell] at k3_0
      obtain ⟨hA, hC, hS, hcal⟩ := hJ _ _ hJi.j
      refine hx_block ?_
      refine hx_seq ?_
      refine hx_seq ?_
      refine hx_region ?_
      refine WL.qq (by simp only [ev_tmp, ev_const, ev_func, set_get, Nat.reduceEqDiff, reduceIte, qv_fieldAddr, fa24_0, Nat.zero_add, Nat.reduceAdd, k0_0, k1_0, k2_0, k3_0, i5_0, hA.cell, hC.cell, hS.cell, hA.cell, hC.cell, hS.cell]; rfl) ?_
      refine WL.qq (by simp only [ev_tmp, ev_const, ev_func, set_get, Nat.reduceEqDiff, reduceIte, qv_load, ld22, readN, List.getElem?_toArray, List.getElem?_cons_zero, List.getElem?_cons_succ, List.map_toArray, List.map_cons, List.map_nil, Option.map_some, Option.bind_some, Nat.zero_add, Nat.reduceAdd, k0_0, k1_0, k2_0, k3_0, i5_0, hA.cell, hC.cell, hS.cell, hA.cell, hC.cell, hS.cell]; rfl) ?_
      refine WL.qq (by simp only [ev_tmp, ev_const, ev_func, set_get, Nat.reduceEqDiff, reduceIte, qv_move, k0_0, k1_0, k2_0, k3_0, i5_0, hA.cell, hC.cell, hS.cell, hA.cell, hC.cell, hS.cell]; rfl) ?_
      refine WL.nil ?_
      refine th_norm ?_
      refine hx_block ?_
      refine hx_loopG [8, 9, 10, 30, 31, 32, 33, 34, 35, 36, 37, 38, 39, 40, 41, 42, 43, 44, 45, 46, 47, 48, 49, 50, 51] (fun k e hL1 => ∃ (i : Nat) (kk : Nat), 6 - kk = k ∧ (KJ J hJx i hL1) ∧ (i ≤ L.length) ∧ (kk ≤ 6) ∧ (L.drop i = ((day6 [s0, s1, s2, s3, s4, s5] day).drop kk ++ allF (busM wk hs) [s0, s1, s2, s3, s4, s5] (day + 1) (73049 - (day + 1)).toNat).filter (gtC (d0, m0))) ∧ e 30 = .int .i64 kk) _ ⟨i, 0, rfl, ?_, ?_, ?_, ?_, ?_⟩ ?_
      · exact hJi
      · exact hi
      · omega
      · rw [hrest, allF_at _ _ _ _ hday.2.2 (by omega), List.drop_zero, show (73049 - day).toNat - 1 = (73049 - (day + 1)).toNat by omega]
      · simp only [ev_tmp, ev_const, ev_func, set_get, Nat.reduceEqDiff, reduceIte, k0_0, k1_0, k2_0, k3_0, i5_0, hA.cell, hC.cell, hS.cell, hA.cell, hC.cell, hS.cell] <;> rfl
      ·
        rintro k e1L hL1 hfr1 ⟨i, kk, rfl, hJi, hi, hkk, hrest, i30_1⟩
        have k0_1 := hfr1 0 rfl; simp only [ev_tmp, ev_const, ev_func, set_get, Nat.reduceEqDiff, reduceIte, k0_0, k1_0, k2_0, k3_0, i5_0, hA.cell, hC.cell, hS.cell, hA.cell, hC.cell, hS.cell] at k0_1
        have k1_1 := hfr1 1 rfl; simp only [ev_tmp, ev_const, ev_func, set_get, Nat.reduceEqDiff, reduceIte, k0_0, k1_0, k2_0, k3_0, i5_0, hA.cell, hC.cell, hS.cell, hA.cell, hC.cell, hS.cell] at k1_1
        have k2_1 := hfr1 2 rfl; simp only [ev_tmp, ev_const, ev_func, set_get, Nat.reduceEqDiff, reduceIte, k0_0, k1_0, k2_0, k3_0, i5_0, hA.cell, hC.cell, hS.cell, hA.cell, hC.cell, hS.cell] at k2_1
        have k3_1 := hfr1 3 rfl; simp only [ev_tmp, ev_const, ev_func, set_get, Nat.reduceEqDiff, reduceIte, k0_0, k1_0, k2_0, k3_0, i5_0, hA.cell, hC.cell, hS.cell, hA.cell, hC.cell, hS.cell] at k3_1
        have k5_1 := hfr1 5 rfl; simp only [ev_tmp, ev_const, ev_func, set_get, Nat.reduceEqDiff, reduceIte, k0_0, k1_0, k2_0, k3_0, i5_0, hA.cell, hC.cell, hS.cell, hA.cell, hC.cell, hS.cell] at k5_1
        have k28_1 := hfr1 28 rfl; simp only [ev_tmp, ev_const, ev_func, set_get, Nat.reduceEqDiff, reduceIte, k0_0, k1_0, k2_0, k3_0, i5_0, hA.cell, hC.cell, hS.cell, hA.cell, hC.cell, hS.cell] at k28_1
        have k29_1 := hfr1 29 rfl; simp only [ev_tmp, ev_const, ev_func, set_get, Nat.reduceEqDiff, reduceIte, k0_0, k1_0, k2_0, k3_0, i5_0, hA.cell, hC.cell, hS.cell, hA.cell, hC.cell, hS.cell] at k29_1
        obtain ⟨hA, hC, hS, hcal⟩ := hJ _ _ hJi.j
        refine hx_seq ?_
        refine hx_region ?_
        refine WL.qq (by simp only [ev_tmp, ev_const, ev_func, set_get, Nat.reduceEqDiff, reduceIte, qv_binOp, binv_lss, k0_1, k1_1, k2_1, k3_1, k5_1, k28_1, k29_1, i30_1, hA.cell, hC.cell, hS.cell, hA.cell, hC.cell, hS.cell, hA.cell, hC.cell, hS.cell]; rfl) ?_
        refine WL.nil ?_
        refine th_norm ?_
        refine hx_seq ?_
        refine hx_cond (by simp only [ev_tmp, ev_const, ev_func, set_get, Nat.reduceEqDiff, reduceIte, k0_1, k1_1, k2_1, k3_1, k5_1, k28_1, k29_1, i30_1, hA.cell, hC.cell, hS.cell, hA.cell, hC.cell, hS.cell, hA.cell, hC.cell, hS.cell]; rfl) (fun hct31 => ?_) (fun hct31 => ?_)
        ·
          try simp only [decide_eq_true_eq, decide_eq_false_iff_not, Bool.and_eq_true, Bool.and_eq_false_iff, Bool.or_eq_true, Bool.or_eq_false_iff, Bool.not_eq_true', Bool.not_eq_false', Bool.not_eq_true, Bool.not_eq_false] at hct31
          obtain ⟨x, hm⟩ : ∃ m, [s0, s1, s2, s3, s4, s5][kk]? = some m := ⟨[s0, s1, s2, s3, s4, s5][kk]'(by simp; omega), by simp⟩
          rw [day6_drop (by omega) hm, List.cons_append] at hrest
          refine hx_skip ?_
          refine th_norm ?_
          refine hx_seq ?_
          refine hx_block ?_
          refine hx_seq ?_
          refine hx_region ?_
          refine WL.qq (by simp only [ev_tmp, ev_const, ev_func, set_get, Nat.reduceEqDiff, reduceIte, qv_move, k0_1, k1_1, k2_1, k3_1, k5_1, k28_1, k29_1, i30_1, hA.cell, hC.cell, hS.cell, hA.cell, hC.cell, hS.cell, hA.cell, hC.cell, hS.cell]; rfl) ?_
          refine WL.qq (by simp only [ev_tmp, ev_const, ev_func, set_get, Nat.reduceEqDiff, reduceIte, k0_1, k1_1, k2_1, k3_1, k5_1, k28_1, k29_1, i30_1, hA.cell, hC.cell, hS.cell, hA.cell, hC.cell, hS.cell, hA.cell, hC.cell, hS.cell, qv_index]; rw [el22 _ _ _ (by omega) (by omega), Int.toNat_natCast]; exact (pt3 _ _).trans (at6 hm)) ?_
          refine WL.qq (by simp only [ev_tmp, ev_const, ev_func, set_get, Nat.reduceEqDiff, reduceIte, qv_assign, k0_1, k1_1, k2_1, k3_1, k5_1, k28_1, k29_1, i30_1, hA.cell, hC.cell, hS.cell, hA.cell, hC.cell, hS.cell, hA.cell, hC.cell, hS.cell]; rfl) ?_
          refine WL.qq (by simp only [ev_tmp, ev_const, ev_func, set_get, Nat.reduceEqDiff, reduceIte, qv_assign, k0_1, k1_1, k2_1, k3_1, k5_1, k28_1, k29_1, i30_1, hA.cell, hC.cell, hS.cell, hA.cell, hC.cell, hS.cell, hA.cell, hC.cell, hS.cell]; rfl) ?_
          refine WL.nil ?_
          refine th_norm ?_
          refine hx_seq ?_
          refine hx_region ?_
          refine WL.qq (by simp only [ev_tmp, ev_const, ev_func, set_get, Nat.reduceEqDiff, reduceIte, qv_move, k0_1, k1_1, k2_1, k3_1, k5_1, k28_1, k29_1, i30_1, hA.cell, hC.cell, hS.cell, hA.cell, hC.cell, hS.cell, hA.cell, hC.cell, hS.cell]; rfl) ?_
          refine WL.qq (by simp only [ev_tmp, ev_const, ev_func, set_get, Nat.reduceEqDiff, reduceIte, qv_move, k0_1, k1_1, k2_1, k3_1, k5_1, k28_1, k29_1, i30_1, hA.cell, hC.cell, hS.cell, hA.cell, hC.cell, hS.cell, hA.cell, hC.cell, hS.cell]; rfl) ?_
          refine WL.qq (by refine qv_bld (by simp only [ev_tmp, ev_const, ev_func, set_get, Nat.reduceEqDiff, reduceIte, List.getElem?_toArray, List.getElem?_cons_zero, List.getElem?_cons_succ, List.map_toArray, List.map_cons, List.map_nil, Option.map_some, Option.bind_some, k0_1, k1_1, k2_1, k3_1, k5_1, k28_1, k29_1, i30_1, hA.cell, hC.cell, hS.cell, hA.cell, hC.cell, hS.cell, hA.cell, hC.cell, hS.cell] <;> rfl) (by rw [bl29]; simp [Instr.fill, Value.cells]; rfl)) ?_
          refine WL.qq (by simp only [ev_tmp, ev_const, ev_func, set_get, Nat.reduceEqDiff, reduceIte, qv_move, k0_1, k1_1, k2_1, k3_1, k5_1, k28_1, k29_1, i30_1, hA.cell, hC.cell, hS.cell, hA.cell, hC.cell, hS.cell, hA.cell, hC.cell, hS.cell]; rfl) ?_
          refine WL.qq (by simp only [ev_tmp, ev_const, ev_func, set_get, Nat.reduceEqDiff, reduceIte, qv_binOp, binv_add, k0_1, k1_1, k2_1, k3_1, k5_1, k28_1, k29_1, i30_1, hA.cell, hC.cell, hS.cell, hA.cell, hC.cell, hS.cell, hA.cell, hC.cell, hS.cell]; (try simp (disch := omega) only [w64, w8, wu64]); rfl) ?_
          refine WL.qq (by refine qv_bld (by simp only [ev_tmp, ev_const, ev_func, set_get, Nat.reduceEqDiff, reduceIte, List.getElem?_toArray, List.getElem?_cons_zero, List.getElem?_cons_succ, List.map_toArray, List.map_cons, List.map_nil, Option.map_some, Option.bind_some, k0_1, k1_1, k2_1, k3_1, k5_1, k28_1, k29_1, i30_1, hA.cell, hC.cell, hS.cell, hA.cell, hC.cell, hS.cell, hA.cell, hC.cell, hS.cell] <;> rfl) (by rw [bl61]; simp [Instr.fill, Value.cells]; rfl)) ?_
          refine WL.allocSt zr61 sz61 (fun u => by simp only [ev_tmp, ev_const, ev_func, set_get, Nat.reduceEqDiff, reduceIte, Value.cells, k0_1, k1_1, k2_1, k3_1, k5_1, k28_1, k29_1, i30_1, hA.cell, hC.cell, hS.cell, hA.cell, hC.cell, hS.cell, hA.cell, hC.cell, hS.cell]; rfl) ⟨rfl, rfl⟩ (by simp [Value.oneCell']) ?_
          intro h2 B2 hx2 hlt2 hB2
          replace hA := hA.ext hx2
          replace hC := hC.ext hx2
          replace hS := hS.ext hx2
          replace hcal := hcal.ext hx2
          replace hJi := hJi.ext hx2
          refine WL.nil ?_
          refine th_norm ?_
          refine hx_seq ?_
          refine hx_region ?_
          refine WL.qq (by simp only [ev_tmp, ev_const, ev_func, set_get, Nat.reduceEqDiff, reduceIte, qv_fieldAddr, fa61_0, Nat.zero_add, Nat.reduceAdd, k0_1, k1_1, k2_1, k3_1, k5_1, k28_1, k29_1, i30_1, hA.cell, hC.cell, hS.cell, hA.cell, hC.cell, hS.cell, hA.cell, hC.cell, hS.cell, hB2.cell]; rfl) ?_
          refine WL.qq (by simp only [ev_tmp, ev_const, ev_func, set_get, Nat.reduceEqDiff, reduceIte, qv_load, ld29, readN, List.getElem?_toArray, List.getElem?_cons_zero, List.getElem?_cons_succ, List.map_toArray, List.map_cons, List.map_nil, Option.map_some, Option.bind_some, Nat.zero_add, Nat.reduceAdd, k0_1, k1_1, k2_1, k3_1, k5_1, k28_1, k29_1, i30_1, hA.cell, hC.cell, hS.cell, hA.cell, hC.cell, hS.cell, hA.cell, hC.cell, hS.cell, hB2.cell]; rfl) ?_
          refine WL.qq (by simp only [ev_tmp, ev_const, ev_func, set_get, Nat.reduceEqDiff, reduceIte, qv_load, ld29, readN, List.getElem?_toArray, List.getElem?_cons_zero, List.getElem?_cons_succ, List.map_toArray, List.map_cons, List.map_nil, Option.map_some, Option.bind_some, Nat.zero_add, Nat.reduceAdd, k0_1, k1_1, k2_1, k3_1, k5_1, k28_1, k29_1, i30_1, hA.cell, hC.cell, hS.cell, hA.cell, hC.cell, hS.cell, hA.cell, hC.cell, hS.cell, hB2.cell]; rfl) ?_
          refine WL.cg Try.call44 (by simp only [ev_tmp, ev_const, ev_func, set_get, Nat.reduceEqDiff, reduceIte, List.getElem?_toArray, List.getElem?_cons_zero, List.getElem?_cons_succ, List.map_toArray, List.map_cons, List.map_nil, Option.map_some, Option.bind_some, k0_1, k1_1, k2_1, k3_1, k5_1, k28_1, k29_1, i30_1, hA.cell, hC.cell, hS.cell, hA.cell, hC.cell, hS.cell, hA.cell, hC.cell, hS.cell, hB2.cell]; exact c_cmp day x d0 m0 _) ?_
          intro h3 hx3
          replace hA := hA.ext hx3
          replace hC := hC.ext hx3
          replace hS := hS.ext hx3
          replace hcal := hcal.ext hx3
          replace hJi := hJi.ext hx3
          replace hB2 := hB2.ext hx3
          refine WL.qq (by simp only [ev_tmp, ev_const, ev_func, set_get, Nat.reduceEqDiff, reduceIte, qv_binOp, binv_gtr, k0_1, k1_1, k2_1, k3_1, k5_1, k28_1, k29_1, i30_1, hA.cell, hC.cell, hS.cell, hA.cell, hC.cell, hS.cell, hA.cell, hC.cell, hS.cell, hB2.cell]; rfl) ?_
          refine WL.qq (by simp only [ev_tmp, ev_const, ev_func, set_get, Nat.reduceEqDiff, reduceIte, qv_move, k0_1, k1_1, k2_1, k3_1, k5_1, k28_1, k29_1, i30_1, hA.cell, hC.cell, hS.cell, hA.cell, hC.cell, hS.cell, hA.cell, hC.cell, hS.cell, hB2.cell]; rfl) ?_
          have hgt : gtC (d0, m0) (day, x, (kk : Int) + 1) = decide (0 < cmpC (day, x) (d0, m0)) := rfl
          refine WL.cq (gd_at (t := 45) rfl (by simp only [ev_tmp, ev_const, ev_func, set_get, Nat.reduceEqDiff, reduceIte, k0_1, k1_1, k2_1, k3_1, k5_1, k28_1, k29_1, i30_1, hA.cell, hC.cell, hS.cell, hA.cell, hC.cell, hS.cell, hA.cell, hC.cell, hS.cell, hB2.cell]; rfl)) (fun hg9_6 => by simp only [ev_tmp, ev_const, ev_func, set_get, Nat.reduceEqDiff, reduceIte, qv_move, k0_1, k1_1, k2_1, k3_1, k5_1, k28_1, k29_1, i30_1, hA.cell, hC.cell, hS.cell, hA.cell, hC.cell, hS.cell, hA.cell, hC.cell, hS.cell, hB2.cell, hg9_6, Bool.false_eq_true, Bool.true_eq_false, eq_self, if_true, if_false, true_and, and_true, false_and, and_false]; rfl) ?_
          refine WL.cq (gd_at (t := 45) rfl (by simp only [ev_tmp, ev_const, ev_func, set_get, Nat.reduceEqDiff, reduceIte, k0_1, k1_1, k2_1, k3_1, k5_1, k28_1, k29_1, i30_1, hA.cell, hC.cell, hS.cell, hA.cell, hC.cell, hS.cell, hA.cell, hC.cell, hS.cell, hB2.cell]; rfl)) (fun hg9_7 => by simp only [ev_tmp, ev_const, ev_func, set_get, Nat.reduceEqDiff, reduceIte, qv_load, ld61, readN, List.getElem?_toArray, List.getElem?_cons_zero, List.getElem?_cons_succ, List.map_toArray, List.map_cons, List.map_nil, Option.map_some, Option.bind_some, Nat.zero_add, Nat.reduceAdd, k0_1, k1_1, k2_1, k3_1, k5_1, k28_1, k29_1, i30_1, hA.cell, hC.cell, hS.cell, hA.cell, hC.cell, hS.cell, hA.cell, hC.cell, hS.cell, hB2.cell, hg9_7, Bool.false_eq_true, Bool.true_eq_false, eq_self, if_true, if_false, true_and, and_true, false_and, and_false]; rfl) ?_
          have hL2 : 0 < cmpC (day, x) (d0, m0) → L[i]? = some (day, x, (kk : Int) + 1) ∧ i < L.length ∧ L.drop (i + 1) = ((day6 [s0, s1, s2, s3, s4, s5] day).drop (kk + 1) ++ allF (busM wk hs) [s0, s1, s2, s3, s4, s5] (day + 1) (73049 - (day + 1)).toNat).filter (gtC (d0, m0)) := by intro hp; rw [List.filter_cons, hgt, decide_eq_true hp, if_pos rfl] at hrest; have h9 := congrArg (·[0]?) hrest; simp only [List.getElem?_drop, Nat.add_zero, List.getElem?_cons_zero] at h9; have hlt := (List.getElem?_eq_some_iff.1 h9).1; refine ⟨h9, hlt, ?_⟩; have h8 := congrArg (List.drop 1) hrest; simpa [List.drop_drop] using h8
          refine WL.cy (l := lp) (gd_at (t := 45) rfl (by simp only [ev_tmp, ev_const, ev_func, set_get, Nat.reduceEqDiff, reduceIte, k0_1, k1_1, k2_1, k3_1, k5_1, k28_1, k29_1, i30_1, hA.cell, hC.cell, hS.cell, hA.cell, hC.cell, hS.cell, hA.cell, hC.cell, hS.cell, hB2.cell]; rfl)) (fun hg9_8 => by simp only [ev_tmp, ev_const, ev_func, set_get, Nat.reduceEqDiff, reduceIte, k0_1, k1_1, k2_1, k3_1, k5_1, k28_1, k29_1, i30_1, hA.cell, hC.cell, hS.cell, hA.cell, hC.cell, hS.cell, hA.cell, hC.cell, hS.cell, hB2.cell, hg9_8, Bool.false_eq_true, Bool.true_eq_false, eq_self, if_true, if_false, true_and, and_true, false_and, and_false]) (fun hg9_8 => by simp only [ev_tmp, ev_const, ev_func, set_get, Nat.reduceEqDiff, reduceIte, List.getElem?_toArray, List.getElem?_cons_zero, List.getElem?_cons_succ, List.map_toArray, List.map_cons, List.map_nil, Option.map_some, Option.bind_some, k0_1, k1_1, k2_1, k3_1, k5_1, k28_1, k29_1, i30_1, hA.cell, hC.cell, hS.cell, hA.cell, hC.cell, hS.cell, hA.cell, hC.cell, hS.cell, hB2.cell, hg9_8, Bool.false_eq_true, Bool.true_eq_false, eq_self, if_true, if_false, true_and, and_true, false_and, and_false]; exact hy i (day, x, (kk : Int) + 1) _ (hL2 (by simpa using hg9_8)).1 hJi.j) ?_
          intro bb9_8 hY9_8 hR9_8 hN9_8
          refine WL.cq (gd_at (t := 45) rfl (by simp only [ev_tmp, ev_const, ev_func, set_get, Nat.reduceEqDiff, reduceIte, k0_1, k1_1, k2_1, k3_1, k5_1, k28_1, k29_1, i30_1, hA.cell, hC.cell, hS.cell, hA.cell, hC.cell, hS.cell, hA.cell, hC.cell, hS.cell, hB2.cell]; rfl)) (fun hg9_9 => by simp only [ev_tmp, ev_const, ev_func, set_get, Nat.reduceEqDiff, reduceIte, qv_unOp, unv_not, k0_1, k1_1, k2_1, k3_1, k5_1, k28_1, k29_1, i30_1, hA.cell, hC.cell, hS.cell, hA.cell, hC.cell, hS.cell, hA.cell, hC.cell, hS.cell, hB2.cell, hg9_9, Bool.false_eq_true, Bool.true_eq_false, eq_self, if_true, if_false, true_and, and_true, false_and, and_false]; rfl) ?_
          refine WL.qq (by simp only [ev_tmp, ev_const, ev_func, set_get, Nat.reduceEqDiff, reduceIte, qv_pick, pk_and, pk_or, Bool.false_eq_true, Bool.true_eq_false, eq_self, if_true, if_false, true_and, and_true, false_and, and_false, k0_1, k1_1, k2_1, k3_1, k5_1, k28_1, k29_1, i30_1, hA.cell, hC.cell, hS.cell, hA.cell, hC.cell, hS.cell, hA.cell, hC.cell, hS.cell, hB2.cell]; rfl) ?_
          refine WL.nil ?_
          refine th_norm ?_
          refine hx_cond (by simp only [ev_tmp, ev_const, ev_func, set_get, Nat.reduceEqDiff, reduceIte, k0_1, k1_1, k2_1, k3_1, k5_1, k28_1, k29_1, i30_1, hA.cell, hC.cell, hS.cell, hA.cell, hC.cell, hS.cell, hA.cell, hC.cell, hS.cell, hB2.cell]; rfl) (fun hct50 => ?_) (fun hct50 => ?_)
          ·
            try simp only [decide_eq_true_eq, decide_eq_false_iff_not, Bool.and_eq_true, Bool.and_eq_false_iff, Bool.or_eq_true, Bool.or_eq_false_iff, Bool.not_eq_true', Bool.not_eq_false', Bool.not_eq_true, Bool.not_eq_false] at hct50
            have hSS := (hR9_8 (by simpa using hct50.1)).2 (by simpa using hct50.2)
            refine hx_ret ?_
            refine bl_ret ?_
            refine th_ret ?_
            refine th_ret ?_
            refine bl_ret ?_
            refine th_ret ?_
            refine bl_ret ?_
            refine th_ret ?_
            refine bl_ret ?_
            refine fin_ret [] rfl rfl (by simp only [ev_tmp, ev_const, ev_func, set_get, Nat.reduceEqDiff, reduceIte, resv, k0_1, k1_1, k2_1, k3_1, k5_1, k28_1, k29_1, i30_1, hA.cell, hC.cell, hS.cell, hA.cell, hC.cell, hS.cell, hA.cell, hC.cell, hS.cell, hB2.cell]; rfl) ?_  -- ret 1 r9
            exact .inr hSS
          ·
            try simp only [decide_eq_true_eq, decide_eq_false_iff_not, Bool.and_eq_true, Bool.and_eq_false_iff, Bool.or_eq_true, Bool.or_eq_false_iff, Bool.not_eq_true', Bool.not_eq_false', Bool.not_eq_true, Bool.not_eq_false] at hct50
            obtain ⟨i', hJ', hi', hr'⟩ : ∃ i', KJ J hJx i' hY9_8 ∧ i' ≤ L.length ∧ L.drop i' = ((day6 [s0, s1, s2, s3, s4, s5] day).drop (kk + 1) ++ allF (busM wk hs) [s0, s1, s2, s3, s4, s5] (day + 1) (73049 - (day + 1)).toNat).filter (gtC (d0, m0)) := by by_cases hp : 0 < cmpC (day, x) (d0, m0); (have hbt : bb9_8 = true := hct50.resolve_left (fun hh => hh hp); exact ⟨i + 1, ⟨(hR9_8 (by simpa using hp)).1 hbt⟩, (hL2 hp).2.1, (hL2 hp).2.2⟩); (have hh := hN9_8 (by simpa using hp); subst hh; refine ⟨i, hJi, hi, ?_⟩; rw [hrest, List.filter_cons, hgt, decide_eq_false hp]; rfl)
            refine hx_skip ?_
            refine bl_norm ?_
            refine th_norm ?_
            refine hx_region ?_
            refine WL.qq (by simp only [ev_tmp, ev_const, ev_func, set_get, Nat.reduceEqDiff, reduceIte, qv_binOp, binv_add, k0_1, k1_1, k2_1, k3_1, k5_1, k28_1, k29_1, i30_1, hA.cell, hC.cell, hS.cell, hA.cell, hC.cell, hS.cell, hA.cell, hC.cell, hS.cell, hB2.cell]; (try simp (disch := omega) only [w64, w8, wu64]); rfl) ?_
            refine WL.qq (by simp only [ev_tmp, ev_const, ev_func, set_get, Nat.reduceEqDiff, reduceIte, qv_move, k0_1, k1_1, k2_1, k3_1, k5_1, k28_1, k29_1, i30_1, hA.cell, hC.cell, hS.cell, hA.cell, hC.cell, hS.cell, hA.cell, hC.cell, hS.cell, hB2.cell]; rfl) ?_
            refine WL.nil ?_
            refine th_norm ?_
            refine ⟨rfl, ?_, _, ?_, i', kk + 1, rfl, ?_, ?_, ?_, ?_, ?_⟩  -- again 0 of loop 1
            · (repeat (first | exact Fr.refl _ _ | refine Fr.set rfl ?_ | refine Fr.put rfl ?_ | refine Fr.put0 ?_ | refine Fr.trans ?_ (Fr.of hfc1 rfl)))
            · omega
            · exact hJ'
            · exact hi'
            · omega
            · exact hr'
            · simp only [ev_tmp, ev_const, ev_func, set_get, Nat.reduceEqDiff, reduceIte, k0_1, k1_1, k2_1, k3_1, k5_1, k28_1, k29_1, i30_1, hA.cell, hC.cell, hS.cell, hA.cell, hC.cell, hS.cell, hA.cell, hC.cell, hS.cell, hB2.cell] <;> first | rfl | (congr 1; omega)
        ·
          try simp only [decide_eq_true_eq, decide_eq_false_iff_not, Bool.and_eq_true, Bool.and_eq_false_iff, Bool.or_eq_true, Bool.or_eq_false_iff, Bool.not_eq_true', Bool.not_eq_false', Bool.not_eq_true, Bool.not_eq_false] at hct31
          have hk6 : kk = 6 := (by omega); subst hk6; rw [day6_end, List.nil_append] at hrest; obtain ⟨x, y, hst⟩ : ∃ x y, stepM (busM wk hs) day 1 = (x, y) := ⟨_, _, rfl⟩
          refine hx_exit ?_
          refine th_exit ?_
          refine th_exit ?_
          refine bl_hit ?_
          refine th_norm ?_
          refine hx_seq ?_
          refine hx_region ?_
          refine WL.qq (by simp only [ev_tmp, ev_const, ev_func, set_get, Nat.reduceEqDiff, reduceIte, qv_load, ld30, readN, List.getElem?_toArray, List.getElem?_cons_zero, List.getElem?_cons_succ, List.map_toArray, List.map_cons, List.map_nil, Option.map_some, Option.bind_some, Nat.zero_add, Nat.reduceAdd, k0_1, k1_1, k2_1, k3_1, k5_1, k28_1, k29_1, i30_1, hA.cell, hC.cell, hS.cell, hA.cell, hC.cell, hS.cell, hA.cell, hC.cell, hS.cell]; rfl) ?_
          refine WL.qq (by simp only [ev_tmp, ev_const, ev_func, set_get, Nat.reduceEqDiff, reduceIte, qv_move, k0_1, k1_1, k2_1, k3_1, k5_1, k28_1, k29_1, i30_1, hA.cell, hC.cell, hS.cell, hA.cell, hC.cell, hS.cell, hA.cell, hC.cell, hS.cell]; rfl) ?_
          refine WL.cg Try.call56 (by simp only [ev_tmp, ev_const, ev_func, set_get, Nat.reduceEqDiff, reduceIte, List.getElem?_toArray, List.getElem?_cons_zero, List.getElem?_cons_succ, List.map_toArray, List.map_cons, List.map_nil, Option.map_some, Option.bind_some, k0_1, k1_1, k2_1, k3_1, k5_1, k28_1, k29_1, i30_1, hA.cell, hC.cell, hS.cell, hA.cell, hC.cell, hS.cell, hA.cell, hC.cell, hS.cell]; exact pair_gr hst (c_next p wk hs day hcal)) ?_
          intro h5 hx5
          replace hA := hA.ext hx5
          replace hC := hC.ext hx5
          replace hS := hS.ext hx5
          replace hcal := hcal.ext hx5
          replace hJi := hJi.ext hx5
          refine WL.qq (by simp only [ev_tmp, ev_const, ev_func, set_get, Nat.reduceEqDiff, reduceIte, qv_move, k0_1, k1_1, k2_1, k3_1, k5_1, k28_1, k29_1, i30_1, hA.cell, hC.cell, hS.cell, hA.cell, hC.cell, hS.cell, hA.cell, hC.cell, hS.cell]; rfl) ?_
          refine WL.qq (by simp only [ev_tmp, ev_const, ev_func, set_get, Nat.reduceEqDiff, reduceIte, qv_extract, List.getElem?_toArray, List.getElem?_cons_zero, List.getElem?_cons_succ, List.map_toArray, List.map_cons, List.map_nil, Option.map_some, Option.bind_some, k0_1, k1_1, k2_1, k3_1, k5_1, k28_1, k29_1, i30_1, hA.cell, hC.cell, hS.cell, hA.cell, hC.cell, hS.cell, hA.cell, hC.cell, hS.cell]; rfl) ?_
          refine WL.qq (by simp only [ev_tmp, ev_const, ev_func, set_get, Nat.reduceEqDiff, reduceIte, qv_extract, List.getElem?_toArray, List.getElem?_cons_zero, List.getElem?_cons_succ, List.map_toArray, List.map_cons, List.map_nil, Option.map_some, Option.bind_some, k0_1, k1_1, k2_1, k3_1, k5_1, k28_1, k29_1, i30_1, hA.cell, hC.cell, hS.cell, hA.cell, hC.cell, hS.cell, hA.cell, hC.cell, hS.cell]; rfl) ?_
          refine WL.qq (by simp only [ev_tmp, ev_const, ev_func, set_get, Nat.reduceEqDiff, reduceIte, qv_assign, k0_1, k1_1, k2_1, k3_1, k5_1, k28_1, k29_1, i30_1, hA.cell, hC.cell, hS.cell, hA.cell, hC.cell, hS.cell, hA.cell, hC.cell, hS.cell]; rfl) ?_
          refine WL.qq (by simp only [ev_tmp, ev_const, ev_func, set_get, Nat.reduceEqDiff, reduceIte, qv_assign, k0_1, k1_1, k2_1, k3_1, k5_1, k28_1, k29_1, i30_1, hA.cell, hC.cell, hS.cell, hA.cell, hC.cell, hS.cell, hA.cell, hC.cell, hS.cell]; rfl) ?_
          refine WL.nil ?_
          refine th_norm ?_
          refine hx_seq ?_
          refine hx_seq ?_
          refine hx_region ?_
          refine WL.qq (by simp only [ev_tmp, ev_const, ev_func, set_get, Nat.reduceEqDiff, reduceIte, qv_move, k0_1, k1_1, k2_1, k3_1, k5_1, k28_1, k29_1, i30_1, hA.cell, hC.cell, hS.cell, hA.cell, hC.cell, hS.cell, hA.cell, hC.cell, hS.cell]; rfl) ?_
          refine WL.qq (by simp only [ev_tmp, ev_const, ev_func, set_get, Nat.reduceEqDiff, reduceIte, qv_binOp, binv_neq, eq34, Option.map_some, k0_1, k1_1, k2_1, k3_1, k5_1, k28_1, k29_1, i30_1, hA.cell, hC.cell, hS.cell, hA.cell, hC.cell, hS.cell, hA.cell, hC.cell, hS.cell]; rfl) ?_
          refine WL.nil ?_
          refine th_norm ?_
          refine hx_cond (by simp only [ev_tmp, ev_const, ev_func, set_get, Nat.reduceEqDiff, reduceIte, k0_1, k1_1, k2_1, k3_1, k5_1, k28_1, k29_1, i30_1, hA.cell, hC.cell, hS.cell, hA.cell, hC.cell, hS.cell, hA.cell, hC.cell, hS.cell]; rfl) (fun hct59 => ?_) (fun hct59 => ?_)
          ·
            try simp only [decide_eq_true_eq, decide_eq_false_iff_not, Bool.and_eq_true, Bool.and_eq_false_iff, Bool.or_eq_true, Bool.or_eq_false_iff, Bool.not_eq_true', Bool.not_eq_false', Bool.not_eq_true, Bool.not_eq_false] at hct59
            obtain ⟨_, hno⟩ | ⟨_, hno⟩ := step_up (busM wk hs) day ⟨hday.1, hday.2.1⟩
            · have h9 := hno.1; rw [hst] at h9; cases h9; exact absurd rfl hct59
            rw [allF_none _ _ _ _ (fun x hx1 hx2 => hno x (by omega) (by omega))] at hrest
            have hil := drop_nil_len hi hrest
            refine hx_ret ?_
            refine th_ret ?_
            refine bl_ret ?_
            refine th_ret ?_
            refine bl_ret ?_
            refine fin_ret [] rfl rfl (by simp only [ev_tmp, ev_const, ev_func, set_get, Nat.reduceEqDiff, reduceIte, resv, k0_1, k1_1, k2_1, k3_1, k5_1, k28_1, k29_1, i30_1, hA.cell, hC.cell, hS.cell, hA.cell, hC.cell, hS.cell, hA.cell, hC.cell, hS.cell]; rfl) ?_  -- ret 2 r12
            left
            rw [← hil]
            exact hJi.j
          ·
            try simp only [decide_eq_true_eq, decide_eq_false_iff_not, Bool.and_eq_true, Bool.and_eq_false_iff, Bool.or_eq_true, Bool.or_eq_false_iff, Bool.not_eq_true', Bool.not_eq_false', Bool.not_eq_true, Bool.not_eq_false] at hct59
            rw [hct59] at hst
            obtain ⟨hu2, hu3, hu4, hu5⟩ : day < x ∧ x ≤ 73048 ∧ busM wk hs x = true ∧ ∀ u, day < u → u < x → busM wk hs u = false := by rcases step_up (busM wk hs) day ⟨hday.1, hday.2.1⟩ with ⟨d', h1, h2, h3, h4, h5⟩ | ⟨h1, _⟩; (rw [hst] at h1; cases h1; exact ⟨h2, h3, h4, h5⟩); (rw [hst] at h1; cases h1)
            refine hx_skip ?_
            refine th_norm ?_
            refine hx_region ?_
            refine WL.qq (by simp only [ev_tmp, ev_const, ev_func, set_get, Nat.reduceEqDiff, reduceIte, qv_move, k0_1, k1_1, k2_1, k3_1, k5_1, k28_1, k29_1, i30_1, hA.cell, hC.cell, hS.cell, hA.cell, hC.cell, hS.cell, hA.cell, hC.cell, hS.cell]; rfl) ?_
            refine WL.qq (by simp only [ev_tmp, ev_const, ev_func, set_get, Nat.reduceEqDiff, reduceIte, qv_assign, k0_1, k1_1, k2_1, k3_1, k5_1, k28_1, k29_1, i30_1, hA.cell, hC.cell, hS.cell, hA.cell, hC.cell, hS.cell, hA.cell, hC.cell, hS.cell]; rfl) ?_
            refine WL.nil ?_
            refine bl_norm ?_
            refine th_norm ?_
            refine ⟨rfl, ?_, _, ?_, i, x, rfl, ?_, ?_, ?_, ?_, ?_⟩  -- again 0 of loop 0
            · (repeat (first | exact Fr.refl _ _ | refine Fr.set rfl ?_ | refine Fr.put rfl ?_ | refine Fr.put0 ?_ | refine Fr.trans ?_ (Fr.of hfr1 rfl) | refine Fr.trans ?_ (Fr.of hfc1 rfl)))
            · omega
            · exact hJi
            · exact hi
            · exact ⟨by omega, hu3, hu4⟩
            · rw [hrest, allF_next (busM wk hs) _ (show day + 1 ≤ x by omega) (by omega) (fun u g1 g2 => hu5 u (by omega) g2)]
            · simp only [ev_tmp, ev_const, ev_func, set_get, Nat.reduceEqDiff, reduceIte, k0_1, k1_1, k2_1, k3_1, k5_1, k28_1, k29_1, i30_1, hA.cell, hC.cell, hS.cell, hA.cell, hC.cell, hS.cell, hA.cell, hC.cell, hS.cell] <;> first | rfl | (congr 1; omega)
end GL


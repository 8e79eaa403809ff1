/- Ledger: keys, entries, the reference's lookups, bounds. -/
import Derived.Test.YtlmealnfkadndaaGlU
import Derived.Test.YtlmealnfkadndaaGl22
set_option linter.unusedSimpArgs false
set_option linter.unusedVariables false
set_option linter.unnecessarySimpa false
namespace GL
open Go Go.Proofs
set_option maxRecDepth 8000
structure K2 where
  o : Int
  a : Int
deriving DecidableEq
abbrev E2 := K2 × Int
abbrev kV (k : K2) : Value := .agg #[.int .u8 k.o, .int .u8 k.a]
abbrev entL (x : E2) : List Value := [.int .u8 x.1.o, .int .u8 x.1.a, .int .i64 x.2]
abbrev entV (x : E2) : Value := .agg #[.int .u8 x.1.o, .int .u8 x.1.a, .int .i64 x.2]
abbrev iV (n : Int) : Value := .int .i64 n
theorem k2_eq {a b : K2} : a = b ↔ a.o = b.o ∧ a.a = b.a := by
  cases a; cases b; simp
theorem ent_rd {h : Heap} {a : Option Addr} {L : List E2} {i : Nat} {x : E2} (hs : SlG 3 entL h a L) (hx : L[i]? = some x) :
    ∃ b off, a = some ⟨b, off, none⟩ ∧ GL.readN h b (off + i * 3) 3 = some (entL x) ∧ GL.readN h b (off + i * 3) 2 = some [.int .u8 x.1.o, .int .u8 x.1.a] ∧
      GL.cell h b (off + i * 3) = some (.int .u8 x.1.o) ∧ GL.cell h b (off + i * 3 + 1) = some (.int .u8 x.1.a) ∧ GL.cell h b (off + i * 3 + 2) = some (.int .i64 x.2) := by
  obtain ⟨b, off, ha, hr⟩ := hs i x hx
  have h0 := readN_cell hr 0 _ rfl
  have h1 := readN_cell hr 1 _ rfl
  have h2 := readN_cell hr 2 _ rfl
  rw [Nat.add_zero] at h0
  refine ⟨b, off, ha, hr, ?_, h0, h1, h2⟩
  simp only [GL.readN, h0, h1]
theorem drop_atG {α : Type} {b : List α} {i : Nat} {m : α} (h : b[i]? = some m) : b.drop i = m :: b.drop (i + 1) := by
  obtain ⟨hi, rfl⟩ := List.getElem?_eq_some_iff.1 h
  exact List.drop_eq_getElem_cons hi
theorem atG {α : Type} {l : List α} {i : Nat} (hi : i < l.length) : ∃ x, l[i]? = some x := ⟨l[i], by simp⟩
def vld (n : Int) : Bool := decide (-1000000000000000 ≤ n) && decide (n ≤ 1000000000000000)
theorem vld_iff {n : Int} : vld n = true ↔ -1000000000000000 ≤ n ∧ n ≤ 1000000000000000 := by simp [vld]
/-- The value at a key, or 0. -/
def lk {κ : Type} [DecidableEq κ] (l : List (κ × Int)) (q : κ) : Int := (l.lookup q).getD 0
theorem lk_nil {κ : Type} [DecidableEq κ] (q : κ) : lk ([] : List (κ × Int)) q = 0 := rfl
theorem lk_cons {κ : Type} [DecidableEq κ] (p : κ × Int) (l : List (κ × Int)) (q : κ) : lk (p :: l) q = if p.1 = q then p.2 else lk l q := by
  obtain ⟨a, v⟩ := p
  simp only [lk, List.lookup]
  by_cases h : a = q
  · subst h; simp
  · have h2 : (q == a) = false := by simpa using fun hh => h hh.symm
    simp [h2, h]
theorem lk_mset {κ : Type} [DecidableEq κ] (l : List (κ × Int)) (x q : κ) (v : Int) : lk (mset l x v) q = if x = q then v else lk l q := by
  unfold lk
  rw [lookup_mset]
  by_cases h : q = x
  · subst h; simp
  · rw [if_neg h, if_neg (fun hh => h hh.symm)]
theorem lk_mem {κ : Type} [DecidableEq κ] {l : List (κ × Int)} (hn : (l.map Prod.fst).Nodup) {q : κ} {v : Int} (h : (q, v) ∈ l) : lk l q = v := by
  unfold lk; rw [lookup_mem hn h]; rfl
theorem mset_keys {κ : Type} [DecidableEq κ] (l : List (κ × Int)) (x q : κ) (v : Int) : q ∈ (mset l x v).map Prod.fst ↔ q = x ∨ q ∈ l.map Prod.fst := by
  induction l with
  | nil => simp [mset]
  | cons p l ih =>
    simp only [mset]
    by_cases h : p.1 = x
    · rw [if_pos h]; simp [h]
    · rw [if_neg h, List.map_cons, List.mem_cons, ih, List.map_cons, List.mem_cons]
      constructor
      · rintro (h1 | h1 | h1)
        · exact .inr (.inl h1)
        · exact .inl h1
        · exact .inr (.inr h1)
      · rintro (h1 | h1 | h1)
        · exact .inr (.inl h1)
        · exact .inl h1
        · exact .inr (.inr h1)
/-- Sums by a key, as a map gathers them. -/
def accL {κ : Type} [DecidableEq κ] (f : E2 → κ) (l : List E2) : List (κ × Int) := l.foldl (fun m x => mset m (f x) (IntKind.i64.wrap (lk m (f x) + x.2))) []
theorem accL_step {κ : Type} [DecidableEq κ] (f : E2 → κ) {l : List E2} {i : Nat} {x : E2} (hx : l[i]? = some x) : accL f (l.take (i + 1)) = mset (accL f (l.take i)) (f x) (IntKind.i64.wrap (lk (accL f (l.take i)) (f x) + x.2)) := by
  rw [List.take_add_one, hx, accL, List.foldl_append]
  rfl
theorem accL_lk {κ : Type} [DecidableEq κ] (f : E2 → κ) (q : κ) (l : List E2) : lk (accL f l) q = l.foldl (fun n x => if f x = q then IntKind.i64.wrap (n + x.2) else n) 0 := by
  have h : ∀ (l : List E2) (m : List (κ × Int)), lk (l.foldl (fun m x => mset m (f x) (IntKind.i64.wrap (lk m (f x) + x.2))) m) q = l.foldl (fun n x => if f x = q then IntKind.i64.wrap (n + x.2) else n) (lk m q) := by
    intro l
    induction l with
    | nil => intro m; rfl
    | cons x l ih =>
      intro m
      rw [List.foldl_cons, List.foldl_cons, ih, lk_mset]
      congr 1
      by_cases hq : f x = q
      · rw [if_pos hq, if_pos hq, hq]
      · rw [if_neg hq, if_neg hq]
  exact h l []
theorem accL_keys {κ : Type} [DecidableEq κ] (f : E2 → κ) (q : κ) (l : List E2) : q ∈ (accL f l).map Prod.fst ↔ ∃ x ∈ l, f x = q := by
  have h : ∀ (l : List E2) (m : List (κ × Int)), q ∈ (l.foldl (fun m x => mset m (f x) (IntKind.i64.wrap (lk m (f x) + x.2))) m).map Prod.fst ↔ q ∈ m.map Prod.fst ∨ ∃ x ∈ l, f x = q := by
    intro l
    induction l with
    | nil => intro m; simp
    | cons x l ih =>
      intro m
      rw [List.foldl_cons, ih, mset_keys]
      constructor
      · rintro ((h | h) | ⟨y, hy, h⟩)
        · exact .inr ⟨x, by simp, h.symm⟩
        · exact .inl h
        · exact .inr ⟨y, by simp [hy], h⟩
      · rintro (h | ⟨y, hy, h⟩)
        · exact .inl (.inr h)
        · rcases List.mem_cons.1 hy with rfl | hy
          · exact .inl (.inl h.symm)
          · exact .inr ⟨y, hy, h⟩
  have h1 := h l []
  rw [List.map_nil] at h1
  exact h1.trans ⟨fun hh => hh.elim (fun h2 => by cases h2) id, .inr⟩
/-- The sum of the deltas of a key, as the machine adds. -/
def netM (l : List E2) (k : K2) : Int := l.foldl (fun n x => if x.1 = k then IntKind.i64.wrap (n + x.2) else n) 0
theorem netM_step {l : List E2} {i : Nat} {x : E2} (k : K2) (hx : l[i]? = some x) : netM (l.take (i + 1)) k = if x.1 = k then IntKind.i64.wrap (netM (l.take i) k + x.2) else netM (l.take i) k := by
  rw [List.take_add_one, hx, netM, List.foldl_append]
  rfl
/-- The sum of the deltas of an asset. -/
def sumA (l : List E2) (a : Int) : Int := l.foldl (fun n x => if x.1.a = a then IntKind.i64.wrap (n + x.2) else n) 0
theorem sumA_step {l : List E2} {i : Nat} {x : E2} (a : Int) (hx : l[i]? = some x) : sumA (l.take (i + 1)) a = if x.1.a = a then IntKind.i64.wrap (sumA (l.take i) a + x.2) else sumA (l.take i) a := by
  rw [List.take_add_one, hx, sumA, List.foldl_append]
  rfl
def sumS (p : E2 → Prop) [DecidablePred p] : List E2 → Int
  | [] => 0
  | x :: l => (if p x then x.2 else 0) + sumS p l
theorem sumW (p : E2 → Prop) [DecidablePred p] (l : List E2) : ∀ (n b : Int), -b ≤ n → n ≤ b → b + l.length * 1000000000000000 ≤ 9000000000000000000 → (∀ x ∈ l, vld x.2 = true) →
    l.foldl (fun n x => if p x then IntKind.i64.wrap (n + x.2) else n) n = n + sumS p l ∧ -(b + l.length * 1000000000000000) ≤ n + sumS p l ∧ n + sumS p l ≤ b + l.length * 1000000000000000 := by
  induction l with
  | nil =>
    intro n b h1 h2 h3 h4
    simp only [List.foldl_nil, sumS, List.length_nil]
    omega
  | cons x l ih =>
    intro n b h1 h2 h3 h4
    have hx := vld_iff.1 (h4 x (by simp))
    simp only [List.length_cons] at h3 ⊢
    simp only [List.foldl_cons, sumS]
    by_cases hp : p x
    · simp only [hp, if_true]
      rw [w64 (by omega) (by omega)]
      have := ih (n + x.2) (b + 1000000000000000) (by omega) (by omega) (by omega) (fun y hy => h4 y (by simp [hy]))
      refine ⟨by rw [this.1]; omega, ?_, ?_⟩ <;> omega
    · simp only [hp, if_false]
      have := ih n (b + 1000000000000000) (by omega) (by omega) (by omega) (fun y hy => h4 y (by simp [hy]))
      refine ⟨by rw [this.1]; omega, ?_, ?_⟩ <;> omega
theorem netM_eq {l : List E2} (hl : l.length ≤ 4096) (hv : ∀ x ∈ l, vld x.2 = true) (q : K2) : netM l q = sumS (fun x => x.1 = q) l ∧ -4096000000000000000 ≤ netM l q ∧ netM l q ≤ 4096000000000000000 := by
  have := sumW (fun x => x.1 = q) l 0 0 (by omega) (by omega) (by omega) hv
  unfold netM
  refine ⟨by rw [this.1]; omega, ?_, ?_⟩ <;> rw [this.1] <;> omega
theorem sumA_eq {l : List E2} (hl : l.length ≤ 4096) (hv : ∀ x ∈ l, vld x.2 = true) (a : Int) : sumA l a = sumS (fun x => x.1.a = a) l ∧ -4096000000000000000 ≤ sumA l a ∧ sumA l a ≤ 4096000000000000000 := by
  have := sumW (fun x => x.1.a = a) l 0 0 (by omega) (by omega) (by omega) hv
  unfold sumA
  refine ⟨by rw [this.1]; omega, ?_, ?_⟩ <;> rw [this.1] <;> omega
/-- The error of a list of entries. -/
def chkE (bal flo : K2 → Int) (l : List E2) : Int :=
  if l.length = 0 then 1 else if 4096 < l.length then 8 else
  if ¬ (∀ x ∈ l, vld x.2 = true) then 12 else
  if ¬ (∀ x ∈ l, vld (bal x.1 + netM l x.1) = true) then 12 else
  if ¬ (∀ x ∈ l, sumA l x.1.a = 0) then 14 else
  if ¬ (∀ x ∈ l, netM l x.1 < 0 → flo x.1 ≤ bal x.1 + netM l x.1) then 13 else 0
theorem c_rValid (n : Int) (h : Heap) : HCalls Try.prog 26 #[iV n] h (Pure (.bool (vld n)) h) := by
  refine hcalls2 Try.func26 rfl (by decide +kernel) (by simp only [Try.ntmps26]; exact of_decide_eq_true rfl) ?_
  intro e hin
  have e0 := hin 0 _ rfl
  refine hx_seq ?_
  refine hx_region ?_
  refine WL.qq (by simp only [EN, Nat.reduceEqDiff, reduceIte, qv_assign]; rfl) ?_
  refine WL.nil ?_
  refine th_norm ?_
  refine hx_seq ?_
  refine hx_region ?_
  refine WL.qq (by simp only [EN, Nat.reduceEqDiff, reduceIte, qv_move, e0]; rfl) ?_
  refine WL.qq (by simp only [EN, Nat.reduceEqDiff, reduceIte, qv_binOp, binv_geq]; rfl) ?_
  refine WL.qq (by simp only [EN, Nat.reduceEqDiff, reduceIte, qv_move]; rfl) ?_
  refine WL.cq (gd_at (t := 5) rfl (by simp only [EN, Nat.reduceEqDiff, reduceIte, e0] <;> rfl)) (fun hg1_3 => by simp only [EN, Nat.reduceEqDiff, reduceIte, qv_move, e0, hg1_3, GR]; rfl) ?_
  refine WL.cq (gd_at (t := 5) rfl (by simp only [EN, Nat.reduceEqDiff, reduceIte] <;> rfl)) (fun hg1_4 => by simp only [EN, Nat.reduceEqDiff, reduceIte, qv_binOp, binv_leq, hg1_4, GR]; rfl) ?_
  refine WL.qq (by simp only [EN, Nat.reduceEqDiff, reduceIte, qv_pick, pk_and, pk_or, GR]; rfl) ?_
  refine WL.qq (by simp only [EN, Nat.reduceEqDiff, reduceIte, qv_assign]; rfl) ?_
  refine WL.nil ?_
  refine th_norm ?_
  refine hx_ret ?_
  refine fin_ret [.tmp 2] rfl rfl (by simp only [EN, Nat.reduceEqDiff, reduceIte, resv, e0]; rfl) ?_  -- ret 0 r1
  exact ⟨rfl, rfl⟩
theorem c_valid13 (n : Int) (h : Heap) : HCalls Try.prog 58 #[iV n] h (Pure (.bool (vld n)) h) := by
  refine hcalls2 Try.func58 rfl (by decide +kernel) (by simp only [Try.ntmps58]; exact of_decide_eq_true rfl) ?_
  intro e hin
  have e0 := hin 0 _ rfl
  refine hx_seq ?_
  refine hx_region ?_
  refine WL.qq (by simp only [EN, Nat.reduceEqDiff, reduceIte, qv_assign]; rfl) ?_
  refine WL.nil ?_
  refine th_norm ?_
  refine hx_seq ?_
  refine hx_region ?_
  refine WL.qq (by simp only [EN, Nat.reduceEqDiff, reduceIte, qv_move, e0]; rfl) ?_
  refine WL.qq (by simp only [EN, Nat.reduceEqDiff, reduceIte, qv_binOp, binv_geq]; rfl) ?_
  refine WL.qq (by simp only [EN, Nat.reduceEqDiff, reduceIte, qv_move]; rfl) ?_
  refine WL.cq (gd_at (t := 5) rfl (by simp only [EN, Nat.reduceEqDiff, reduceIte, e0] <;> rfl)) (fun hg1_3 => by simp only [EN, Nat.reduceEqDiff, reduceIte, qv_move, e0, hg1_3, GR]; rfl) ?_
  refine WL.cq (gd_at (t := 5) rfl (by simp only [EN, Nat.reduceEqDiff, reduceIte] <;> rfl)) (fun hg1_4 => by simp only [EN, Nat.reduceEqDiff, reduceIte, qv_binOp, binv_leq, hg1_4, GR]; rfl) ?_
  refine WL.qq (by simp only [EN, Nat.reduceEqDiff, reduceIte, qv_pick, pk_and, pk_or, GR]; rfl) ?_
  refine WL.qq (by simp only [EN, Nat.reduceEqDiff, reduceIte, qv_assign]; rfl) ?_
  refine WL.nil ?_
  refine th_norm ?_
  refine hx_ret ?_
  refine fin_ret [.tmp 2] rfl rfl (by simp only [EN, Nat.reduceEqDiff, reduceIte, resv, e0]; rfl) ?_  -- ret 0 r1
  exact ⟨rfl, rfl⟩
theorem c_rnet (a : Option Addr) (l : List E2) (cap : Nat) (q : K2) (hlen : l.length ≤ 4611686018427387904) {h : Heap} (hs : SlG 3 entL h a l) :
    HCalls Try.prog 27 #[.slice a l.length cap, kV q] h (Grow (iV (netM l q)) h) := by
  refine hcalls2 Try.func27 rfl (by decide +kernel) (by simp only [Try.ntmps27]; exact of_decide_eq_true rfl) ?_
  intro e hin
  have e0 := hin 0 _ rfl
  have e1 := hin 1 _ rfl
  refine hx_seq ?_
  refine hx_region ?_
  refine WL.box2 (by simp only [EN, Nat.reduceEqDiff, reduceIte, Value.cells, e1]; rfl) ?_
  intro h1 B1 hx1 hlt1 hB1
  replace hs := hs.ext hx1
  refine WL.qq (by simp only [EN, Nat.reduceEqDiff, reduceIte, qv_assign, hB1.cell]; rfl) ?_
  refine WL.nil ?_
  refine th_norm ?_
  refine hx_seq ?_
  refine hx_region ?_
  refine WL.qq (by simp only [EN, Nat.reduceEqDiff, reduceIte, qv_assign, hB1.cell]; rfl) ?_
  refine WL.nil ?_
  refine th_norm ?_
  refine hx_seq ?_
  refine hx_seq ?_
  refine hx_region ?_
  refine WL.qq (by simp only [EN, Nat.reduceEqDiff, reduceIte, qv_assign, hB1.cell]; rfl) ?_
  refine WL.nil ?_
  refine th_norm ?_
  refine hx_block ?_
  refine hx_loopS [5, 6, 7, 8, 9, 10, 11, 12, 13, 14, 15, 16, 17, 18, 19, 20, 21, 22, 23, 24, 25, 26] (fun k e => ∃ (i : Nat), l.length - i = k ∧ (i ≤ l.length) ∧ e 6 = .int .i64 i ∧ e 5 = .int .i64 (netM (l.take i) q)) _ ⟨0, rfl, ?_, ?_, ?_⟩ ?_
  · omega
  · simp only [EN, Nat.reduceEqDiff, reduceIte, e0, e1, hB1.cell] <;> rfl
  · simp only [EN, Nat.reduceEqDiff, reduceIte, e0, e1, hB1.cell] <;> rfl
  ·
    rintro k e0L hfr0 ⟨i, rfl, hi, i6_0, i5_0⟩
    have k0_0 := hfr0 0 rfl; try simp only [EN, Nat.reduceEqDiff, reduceIte, e0, e1, hB1.cell] at k0_0
    have k3_0 := hfr0 3 rfl; try simp only [EN, Nat.reduceEqDiff, reduceIte, e0, e1, hB1.cell] at k3_0
    have k4_0 := hfr0 4 rfl; try simp only [EN, Nat.reduceEqDiff, reduceIte, e0, e1, hB1.cell] at k4_0
    refine hx_seq ?_
    refine hx_seq ?_
    refine hx_region ?_
    refine WL.qq (by simp only [EN, Nat.reduceEqDiff, reduceIte, qv_move, i6_0, hB1.cell]; rfl) ?_
    refine WL.qq (by simp only [EN, Nat.reduceEqDiff, reduceIte, qv_move, k0_0, hB1.cell]; rfl) ?_
    refine WL.qq (by simp only [EN, Nat.reduceEqDiff, reduceIte, qv_len, ln26, AR, hB1.cell]; rfl) ?_
    refine WL.qq (by simp only [EN, Nat.reduceEqDiff, reduceIte, qv_binOp, binv_lss, hB1.cell]; rfl) ?_
    refine WL.nil ?_
    refine th_norm ?_
    refine hx_cond (by simp only [EN, Nat.reduceEqDiff, reduceIte, k0_0, k3_0, k4_0, i6_0, i5_0, hB1.cell]; rfl) (fun hct10 => ?_) (fun hct10 => ?_)
    ·
      try simp only [BD] at hct10
      obtain ⟨x, hx⟩ := atG (l := l) (i := i) (by omega)
      obtain ⟨b, off, rfl, hr3, hr2, hc0, hc1, hc2⟩ := ent_rd hs hx
      refine hx_skip ?_
      refine th_norm ?_
      refine hx_seq ?_
      refine hx_block ?_
      refine hx_seq ?_
      apply hx_draw2 Rel.same [] [] [] rfl (by decide +kernel) rfl
      refine LD.qq rfl rfl (by simp only [EN, Nat.reduceEqDiff, reduceIte, qv_move, k0_0, hB1.cell]; rfl) ?_
      refine LD.qq rfl rfl (by simp only [EN, Nat.reduceEqDiff, reduceIte, qv_move, i6_0, hB1.cell]; rfl) ?_
      refine LD.qq rfl rfl (by simp only [EN, Nat.reduceEqDiff, reduceIte, qv_indexAddr, hB1.cell]; (try simp (disch := omega) only [ix26, Int.toNat_natCast]); rfl) ?_
      refine LD.qq rfl rfl (by simp only [EN, Nat.reduceEqDiff, reduceIte, qv_fieldAddr, fa44_0, Nat.zero_add, Nat.reduceAdd, hB1.cell]; rfl) ?_
      refine LD.qq rfl rfl (by simp only [EN, Nat.reduceEqDiff, reduceIte, k0_0, k3_0, k4_0, i6_0, i5_0, hB1.cell, qv_load, ld34, Int.toNat_natCast, Nat.add_zero, hr2]; rfl) ?_
      refine LD.qq rfl rfl (by simp only [EN, Nat.reduceEqDiff, reduceIte, qv_load, ld34, readN, AR, Nat.zero_add, Nat.reduceAdd, k3_0, hB1.cell]; rfl) ?_
      refine LD.qq rfl rfl (by simp only [EN, Nat.reduceEqDiff, reduceIte, qv_binOp, binv_eql, eqs34, Option.map_some, hB1.cell]; rfl) ?_
      refine LD.nil ?_
      rintro _ rfl -
      refine WL.nil ?_
      refine th_norm ?_
      refine hx_cond (by simp only [EN, Nat.reduceEqDiff, reduceIte, k0_0, k3_0, k4_0, i6_0, i5_0, hB1.cell]; rfl) (fun hct19 => ?_) (fun hct19 => ?_)
      ·
        try simp only [BD] at hct19
        refine hx_region ?_
        refine WL.qq (by simp only [EN, Nat.reduceEqDiff, reduceIte, qv_move, i5_0, hB1.cell]; rfl) ?_
        refine WL.qq (by simp only [EN, Nat.reduceEqDiff, reduceIte, qv_move, k0_0, hB1.cell]; rfl) ?_
        refine WL.qq (by simp only [EN, Nat.reduceEqDiff, reduceIte, qv_move, i6_0, hB1.cell]; rfl) ?_
        refine WL.qq (by simp only [EN, Nat.reduceEqDiff, reduceIte, qv_indexAddr, hB1.cell]; (try simp (disch := omega) only [ix26, Int.toNat_natCast]); rfl) ?_
        refine WL.qq (by simp only [EN, Nat.reduceEqDiff, reduceIte, qv_fieldAddr, fa44_1, Nat.zero_add, Nat.reduceAdd, hB1.cell]; rfl) ?_
        refine WL.qq (by simp only [EN, Nat.reduceEqDiff, reduceIte, k0_0, k3_0, k4_0, i6_0, i5_0, hB1.cell, qv_load, ld2, Int.toNat_natCast, hc2]; rfl) ?_
        refine WL.qq (by simp only [EN, Nat.reduceEqDiff, reduceIte, k0_0, k3_0, k4_0, i6_0, i5_0, hB1.cell, qv_binOp, binv_add]; rfl) ?_
        refine WL.qq (by simp only [EN, Nat.reduceEqDiff, reduceIte, qv_assign, hB1.cell]; rfl) ?_
        refine WL.nil ?_
        refine bl_norm ?_
        refine th_norm ?_
        refine hx_region ?_
        refine WL.qq (by simp only [EN, Nat.reduceEqDiff, reduceIte, qv_move, i6_0, hB1.cell]; rfl) ?_
        refine WL.qq (by simp only [EN, Nat.reduceEqDiff, reduceIte, qv_binOp, binv_add, hB1.cell]; (try simp (disch := omega) only [w64, w8, wu64]); rfl) ?_
        refine WL.qq (by simp only [EN, Nat.reduceEqDiff, reduceIte, qv_assign, hB1.cell]; rfl) ?_
        refine WL.nil ?_
        refine th_norm ?_
        refine ⟨rfl, rfl, ?_, _, ?_, i + 1, rfl, ?_, ?_, ?_⟩  -- again 0 of loop 0
        · (repeat (first | exact Fr.refl _ _ | refine Fr.set rfl ?_ | refine Fr.put rfl ?_ | refine Fr.put0 ?_))
        · omega
        · omega
        · simp only [EN, Nat.reduceEqDiff, reduceIte, k0_0, k3_0, k4_0, i6_0, i5_0, hB1.cell] <;> first | rfl | (congr 1; omega)
        · simp only [EN, Nat.reduceEqDiff, reduceIte, k0_0, k3_0, k4_0, i6_0, i5_0, hB1.cell] <;> first | rw [netM_step q hx, if_pos (k2_eq.2 ⟨hct19.1, hct19.2.1⟩)] | rw [netM_step q hx, if_neg (fun hh => by rw [hh] at hct19; simp at hct19)]
      ·
        try simp only [BD] at hct19
        refine hx_skip ?_
        refine bl_norm ?_
        refine th_norm ?_
        refine hx_region ?_
        refine WL.qq (by simp only [EN, Nat.reduceEqDiff, reduceIte, qv_move, i6_0, hB1.cell]; rfl) ?_
        refine WL.qq (by simp only [EN, Nat.reduceEqDiff, reduceIte, qv_binOp, binv_add, hB1.cell]; (try simp (disch := omega) only [w64, w8, wu64]); rfl) ?_
        refine WL.qq (by simp only [EN, Nat.reduceEqDiff, reduceIte, qv_assign, hB1.cell]; rfl) ?_
        refine WL.nil ?_
        refine th_norm ?_
        refine ⟨rfl, rfl, ?_, _, ?_, i + 1, rfl, ?_, ?_, ?_⟩  -- again 1 of loop 0
        · (repeat (first | exact Fr.refl _ _ | refine Fr.set rfl ?_ | refine Fr.put rfl ?_ | refine Fr.put0 ?_))
        · omega
        · omega
        · simp only [EN, Nat.reduceEqDiff, reduceIte, k0_0, k3_0, k4_0, i6_0, i5_0, hB1.cell] <;> first | rfl | (congr 1; omega)
        · simp only [EN, Nat.reduceEqDiff, reduceIte, k0_0, k3_0, k4_0, i6_0, i5_0, hB1.cell] <;> first | rw [netM_step q hx, if_pos (k2_eq.2 ⟨hct19.1, hct19.2.1⟩)] | rw [netM_step q hx, if_neg (fun hh => by rw [hh] at hct19; simp at hct19)]
    ·
      try simp only [BD] at hct10
      refine hx_exit ?_
      refine th_exit ?_
      refine th_exit ?_
      refine bl_hit ?_
      refine th_norm ?_
      refine hx_seq ?_
      refine hx_region ?_
      refine WL.qq (by simp only [EN, Nat.reduceEqDiff, reduceIte, qv_move, i5_0, hB1.cell]; rfl) ?_
      refine WL.qq (by simp only [EN, Nat.reduceEqDiff, reduceIte, qv_assign, hB1.cell]; rfl) ?_
      refine WL.nil ?_
      refine th_norm ?_
      refine hx_ret ?_
      refine fin_ret [.tmp 4] rfl rfl (by simp only [EN, Nat.reduceEqDiff, reduceIte, resv, k0_0, k3_0, k4_0, i6_0, i5_0, hB1.cell]; rfl) ?_  -- ret 0 r7
      exact ⟨by rw [show i = l.length by omega, List.take_length]; rfl, (hx1)⟩
end GL


/- Limits: the statement on the capacity. -/
import Derived.Test.YtenjmnpefmjdfaaLimH
set_option linter.unusedSimpArgs false
set_option linter.unusedVariables false
set_option linter.unnecessarySimpa false
namespace GL
open Go Go.Proofs
set_option maxRecDepth 8000
/-! Names. -/
def nm (i : Nat) : ByteArray := ⟨#[77]⟩ ++ ⟨#[UInt8.ofNat (65 + i / 26 % 26), UInt8.ofNat (65 + i % 26)]⟩
theorem nm_data (i : Nat) : (nm i).data = #[77, UInt8.ofNat (65 + i / 26 % 26), UInt8.ofNat (65 + i % 26)] := by
  simp [nm, ByteArray.data_append]
theorem nm_inj {i j : Nat} (hi : i < 676) (hj : j < 676) (h : nm i = nm j) : i = j := by
  have h1 := congrArg ByteArray.data h
  rw [nm_data, nm_data] at h1
  simp only [Array.mk.injEq, List.cons.injEq, and_true, true_and] at h1
  have h2 := congrArg UInt8.toNat h1.1
  have h3 := congrArg UInt8.toNat h1.2
  simp only [UInt8.toNat_ofNat'] at h2 h3
  omega
abbrev nw : ByteArray := ⟨#[110, 101, 119]⟩
theorem nm_nw (i : Nat) : nm i ≠ nw := fun h => by
  have h1 := congrArg ByteArray.data h
  rw [nm_data] at h1
  simp at h1
theorem nm_em (i : Nat) : nm i ≠ em := fun h => by
  have h1 := congrArg ByteArray.data h
  rw [nm_data] at h1
  simp at h1
theorem binv_addS {P : Program} {t : TypeId} {a b : ByteArray} (hs : ((a.size + b.size : Nat) : Int) ≤ 9223372036854775807) : binv P .add t (.string a) (.string b) = some (.string (a ++ b)) := by
  simp only [binv, if_pos hs]
theorem c_name (i : Nat) (hi : i ≤ 1000) (h : Heap) : HCalls Try.prog 14 #[iV i] h (Grow (.string (nm i)) h) := by
  have q1 : ((i : Int)).tdiv 26 = ((i / 26 : Nat) : Int) := by rw [Int.tdiv_eq_ediv_of_nonneg (by omega)]; omega
  have q2 : ∀ m : Nat, ((m : Int)).tmod 26 = ((m % 26 : Nat) : Int) := fun m => by rw [Int.tmod_eq_emod_of_nonneg (by omega)]; omega
  refine hcalls2 Try.func14 rfl (by decide +kernel) (by simp only [Try.ntmps14]; exact of_decide_eq_true rfl) ?_
  intro e hin
  have e0 := hin 0 _ rfl
  refine hx_seq ?_
  refine hx_region ?_
  refine WL.qq (by simp only [EN, Nat.reduceEqDiff, reduceIte, qv_assign]; rfl) ?_
  refine WL.nil ?_
  refine th_norm ?_
  refine hx_seq ?_
  refine hx_region ?_
  refine WL.qq (by simp only [EN, Nat.reduceEqDiff, reduceIte, qv_move, e0]; rfl) ?_
  refine WL.qq (by simp only [EN, Nat.reduceEqDiff, reduceIte, e0, qv_binOp]; rw [binv_quo (by decide), q1, w64 (by omega) (by omega)]) ?_
  refine WL.qq (by simp only [EN, Nat.reduceEqDiff, reduceIte, e0, qv_binOp]; rw [binv_rem (by decide), q2]) ?_
  refine WL.qq (by simp only [EN, Nat.reduceEqDiff, reduceIte, qv_binOp, binv_add]; (try simp (disch := omega) only [w64, w8, wu64]); rfl) ?_
  refine WL.qq (by simp only [EN, Nat.reduceEqDiff, reduceIte, qv_convert, convv, Try.underlying3, Try.underlying5]; (try simp (disch := omega) only [w64, w8, wu64]); rfl) ?_
  refine WL.qq (by simp only [EN, Nat.reduceEqDiff, reduceIte, qv_move, e0]; rfl) ?_
  refine WL.qq (by simp only [EN, Nat.reduceEqDiff, reduceIte, e0, qv_binOp]; rw [binv_rem (by decide), q2]) ?_
  refine WL.qq (by simp only [EN, Nat.reduceEqDiff, reduceIte, qv_binOp, binv_add]; (try simp (disch := omega) only [w64, w8, wu64]); rfl) ?_
  refine WL.qq (by simp only [EN, Nat.reduceEqDiff, reduceIte, qv_convert, convv, Try.underlying3, Try.underlying5]; (try simp (disch := omega) only [w64, w8, wu64]); rfl) ?_
  refine WL.lit2 #[(.int .u8 0), (.int .u8 0)] Try.underlying77 sz5 zr5 (by decide) (by kernel_rfl) ⟨_, (by simp only [EN, Nat.reduceEqDiff, reduceIte, AR]; simp [Instr.fill, Value.cells]; rfl), rfl⟩ ?_
  intro h1 B1 hx1 hlt1 hB1
  refine WL.qq (by simp only [EN, Nat.reduceEqDiff, reduceIte, e0, hB1.cell, qv_convert, convv, Try.underlying77, Try.underlying9, Try.underlying5, GL.readN, hB1.cell]; rfl) ?_
  refine WL.qq (by simp only [EN, Nat.reduceEqDiff, reduceIte, e0, hB1.cell, qv_binOp]; exact binv_addS (by simp [ByteArray.size])) ?_
  refine WL.qq (by simp only [EN, Nat.reduceEqDiff, reduceIte, qv_assign, hB1.cell]; rfl) ?_
  refine WL.nil ?_
  refine th_norm ?_
  refine hx_ret ?_
  refine fin_ret [.tmp 2] rfl rfl (by simp only [EN, Nat.reduceEqDiff, reduceIte, resv, e0, hB1.cell]; rfl) ?_  -- ret 0 r1
  exact ⟨by simp only [retOf, nm]; rfl, (hx1)⟩
theorem c_rest (r : Nat) (hr : r ≤ 255) (h : Heap) : HCalls Try.prog 16 #[iV r] h (Pure (iV 0) h) := by
  have q2 : ((r : Int)).tmod 255 = ((r % 255 : Nat) : Int) := by rw [Int.tmod_eq_emod_of_nonneg (by omega)]; omega
  refine hcalls2 Try.func16 rfl (by decide +kernel) (by simp only [Try.ntmps16]; exact of_decide_eq_true rfl) ?_
  intro e hin
  have e0 := hin 0 _ rfl
  refine hx_seq ?_
  refine hx_region ?_
  refine WL.qq (by simp only [EN, Nat.reduceEqDiff, reduceIte, qv_assign]; rfl) ?_
  refine WL.nil ?_
  refine th_norm ?_
  refine hx_seq ?_
  refine hx_seq ?_
  refine hx_region ?_
  refine WL.qq (by simp only [EN, Nat.reduceEqDiff, reduceIte, qv_move, e0]; rfl) ?_
  refine WL.qq (by simp only [EN, Nat.reduceEqDiff, reduceIte, e0, qv_binOp]; rw [binv_rem (by decide), q2]) ?_
  refine WL.qq (by simp only [EN, Nat.reduceEqDiff, reduceIte, qv_binOp, binv_add]; (try simp (disch := omega) only [w64, w8, wu64]); rfl) ?_
  refine WL.qq (by simp only [EN, Nat.reduceEqDiff, reduceIte, qv_move, e0]; rfl) ?_
  refine WL.qq (by simp only [EN, Nat.reduceEqDiff, reduceIte, qv_binOp, binv_eql, eq3, Option.map_some]; rfl) ?_
  refine WL.nil ?_
  refine th_norm ?_
  refine hx_cond (by simp only [EN, Nat.reduceEqDiff, reduceIte]; rfl) (fun hct7 => ?_) (fun hct7 => ?_)
  ·
    exfalso; simp at hct7; omega
  ·
    try simp only [BD] at hct7
    refine hx_skip ?_
    refine th_norm ?_
    refine hx_seq ?_
    refine hx_region ?_
    refine WL.qq (by simp only [EN, Nat.reduceEqDiff, reduceIte, qv_assign]; rfl) ?_
    refine WL.nil ?_
    refine th_norm ?_
    refine hx_ret ?_
    refine fin_ret [.tmp 2] rfl rfl (by simp only [EN, Nat.reduceEqDiff, reduceIte, resv, e0]; rfl) ?_  -- ret 0 r3
    exact ⟨rfl, rfl⟩
/-! Counting. -/
theorem cnt_le {ls ns : List L2} {l : List ByteArray} (h : ∀ a, (a ∈ ments ls ∨ a ∈ ments ns) → a ∈ l) : cntM ls ns ≤ l.length :=
  List.Nodup.length_le_of_subset (nub_nd _) fun a ha => h a (by rw [mem_nub, List.mem_append] at ha; exact ha)
theorem cnt_ge {ls ns : List L2} {l : List ByteArray} (hn : l.Nodup) (h : ∀ a ∈ l, a ∈ ments ls ∨ a ∈ ments ns) : l.length ≤ cntM ls ns :=
  List.Nodup.length_le_of_subset hn fun a ha => by rw [mem_nub, List.mem_append]; exact h a ha
theorem ment_len (x : L2) : (ment x).length ≤ 2 := by unfold ment; split <;> simp
theorem ments_len : ∀ l : List L2, (ments l).length ≤ 2 * l.length
  | [] => by simp [ments]
  | x :: l => by
    have h1 := ments_len l
    have h2 := ment_len x
    unfold ments at *
    rw [List.flatMap_cons, List.length_append, List.length_cons]
    omega
theorem cnt_len (ls ns : List L2) : cntM ls ns ≤ 2 * (ls.length + ns.length) := by
  have h1 := cnt_le (ls := ls) (ns := ns) (l := ments ls ++ ments ns) (fun a h => List.mem_append.2 h)
  have h2 := ments_len ls
  have h3 := ments_len ns
  rw [List.length_append] at h1
  omega
/-- The table behind n settings. -/
def lsC (n : Nat) : List L2 := (List.range n).map fun j => (⟨nm j, em⟩, 5)
theorem lsC_mem {n : Nat} {x : L2} : x ∈ lsC n ↔ ∃ j, j < n ∧ x = (⟨nm j, em⟩, 5) := by
  simp only [lsC, List.mem_map, List.mem_range]
  exact ⟨fun ⟨j, h1, h2⟩ => ⟨j, h1, h2.symm⟩, fun ⟨j, h1, h2⟩ => ⟨j, h1, h2.symm⟩⟩
theorem lsC_ment {n : Nat} {a : ByteArray} : a ∈ ments (lsC n) ↔ ∃ j, j < n ∧ a = nm j := by
  rw [mem_ments]
  constructor
  · rintro ⟨x, hx, h⟩
    obtain ⟨j, hj, rfl⟩ := lsC_mem.1 hx
    rcases h with h | ⟨h, _⟩
    · exact ⟨j, hj, h⟩
    · exact absurd rfl h
  · rintro ⟨j, hj, rfl⟩
    exact ⟨_, lsC_mem.2 ⟨j, hj, rfl⟩, .inl rfl⟩
theorem lsC_len (n : Nat) : (lsC n).length = n := by simp [lsC]
theorem lsC_no {n i : Nat} (hn : n ≤ i) (hi : i < 676) : ∀ p ∈ lsC n, p.1 ≠ (⟨nm i, em⟩ : PK) := by
  intro p hp hh
  obtain ⟨j, hj, rfl⟩ := lsC_mem.1 hp
  have := nm_inj (by omega) hi (congrArg PK.f hh)
  omega
theorem range_nd {n : Nat} (hn : n ≤ 676) : ((List.range n).map nm).Nodup := by
  rw [List.nodup_iff_pairwise_ne, List.pairwise_map]
  refine (List.nodup_range (n := n)).imp_of_mem ?_
  intro a b ha hb hne hh
  rw [List.mem_range] at ha hb
  exact hne (nm_inj (by omega) (by omega) hh)
theorem cap_set {i : Nat} (hi : i < 300) : ∃ r, setME (lsC (min i 256)) [] (nm i) 5 = r ∧ (r = if i < 256 then 0 else 8) ∧ (if r = 0 then setL (lsC (min i 256)) ⟨nm i, em⟩ 5 else lsC (min i 256)) = lsC (min (i + 1) 256) := by
  by_cases h : i < 256
  · have e1 : min i 256 = i := by omega
    have e2 : min (i + 1) 256 = i + 1 := by omega
    have e3 : setL (lsC i) ⟨nm i, em⟩ 5 = lsC (i + 1) := by
      unfold setL
      rw [if_neg (by omega), mset_no (lsC_no (Nat.le_refl _) (by omega))]
      simp [lsC, List.range_succ]
    refine ⟨0, ?_, by rw [if_pos h], by rw [if_pos rfl, e1, e2, e3]⟩
    unfold setME setE
    rw [if_neg (nm_em i), if_neg (by omega), e1, e3, if_neg]
    have := cnt_le (ls := lsC (i + 1)) (ns := []) (l := (List.range (i + 1)).map nm) (fun a ha => by
      rcases ha with ha | ha
      · obtain ⟨j, hj, rfl⟩ := lsC_ment.1 ha
        exact List.mem_map.2 ⟨j, by simpa using hj, rfl⟩
      · simp [ments] at ha)
    simp only [List.length_map, List.length_range] at this
    omega
  · have e1 : min i 256 = 256 := by omega
    have e2 : min (i + 1) 256 = 256 := by omega
    have e3 : setL (lsC 256) ⟨nm i, em⟩ 5 = lsC 256 ++ [(⟨nm i, em⟩, 5)] := by
      unfold setL
      rw [if_neg (by omega), mset_no (lsC_no (by omega) (by omega))]
    refine ⟨8, ?_, by rw [if_neg h], by rw [if_neg (by decide), e1, e2]⟩
    unfold setME setE
    rw [if_neg (nm_em i), if_neg (by omega), e1, e3, if_pos]
    have := cnt_ge (ls := lsC 256 ++ [(⟨nm i, em⟩, 5)]) (ns := []) (l := (List.range 256).map nm ++ [nm i]) (by
      rw [List.nodup_append]
      refine ⟨range_nd (by omega), by simp, ?_⟩
      intro a ha b hb hab
      simp only [List.mem_singleton] at hb
      obtain ⟨j, hj, rfl⟩ := List.mem_map.1 ha
      rw [List.mem_range] at hj
      have := nm_inj (by omega) (by omega) (hab.trans hb)
      omega) (fun a ha => by
      left
      rw [mem_ments]
      rcases List.mem_append.1 ha with ha | ha
      · obtain ⟨j, hj, rfl⟩ := List.mem_map.1 ha
        exact ⟨_, List.mem_append_left _ (lsC_mem.2 ⟨j, by simpa using hj, rfl⟩), .inl rfl⟩
      · simp only [List.mem_singleton] at ha
        exact ⟨_, List.mem_append_right _ (List.mem_singleton.2 rfl), .inl ha⟩)
    simp only [List.length_append, List.length_map, List.length_range, List.length_cons, List.length_nil] at this
    omega
/-- One new payer: its net amounts. -/
abbrev nsN (t : ByteArray) : List L2 := [(⟨nw, t⟩, 1), (⟨t, nw⟩, -1)]
theorem aft_new {t : ByteArray} (ht : t ≠ nw) : aftS [] [(⟨nw, t⟩, 1)] = nsN t := by
  have h1 : (⟨nw, t⟩ : PK) ≠ ⟨t, nw⟩ := fun hh => ht (congrArg PK.t hh)
  have h2 : IntKind.i64.wrap (0 + 1) = 1 := by decide +kernel
  have h3 : IntKind.i64.wrap (0 - 1) = -1 := by decide +kernel
  have h4 : stF [] ((⟨nw, t⟩ : PK), (1 : Int)) = nsN t := by
    unfold stF
    simp only [lk_nil, swp, h2, mset, lk_cons, if_neg h1, h3]
  show (stF [] ((⟨nw, t⟩ : PK), (1 : Int))).filter nz = nsN t
  rw [h4]
  simp [nz]
theorem outW_new {t x : ByteArray} (ht : t ≠ nw) (hx : x ≠ nw) : outW (nsN t) x = 0 ∨ outW (nsN t) x = -1 := by
  have h3 : IntKind.i64.wrap (-1) = -1 := by decide +kernel
  have h4 : IntKind.i64.wrap 0 = 0 := by decide +kernel
  unfold outW
  simp only [sumF, outV]
  rw [if_neg (fun hh => hx hh.symm)]
  by_cases h : t = x
  · right; rw [if_pos h]; exact h3
  · left; rw [if_neg h]; exact h4
theorem chk_new {ls : List L2} {t : ByteArray} (h1 : ∀ x ∈ ls, x.1.t = em) (h2 : ∀ x ∈ ls, x.1.f ≠ nw) (h3 : ∀ x ∈ ls, x.2 = 5) (ht : t ≠ nw) (hte : t ≠ em) :
    chkS ls [] [(⟨nw, t⟩, 1)] = if 256 < cntM ls (nsN t) then 8 else 0 := by
  have hv : valE [((⟨nw, t⟩ : PK), (1 : Int))] = 0 := by
    have hne : ¬ nw = em := by decide
    unfold valE
    rw [if_neg (by simp)]
    simp only [valL]
    rw [if_neg (fun hh => hh.elim hne hte), if_neg (fun hh => ht hh.symm), if_neg (by omega)]
  have ho : ∀ a, outW (nsN t) a = 0 ∨ outW (nsN t) a = -1 ∨ outW (nsN t) a = 1 := by
    intro a
    by_cases ha : a = nw
    · right; right
      have h5 : IntKind.i64.wrap 1 = 1 := by decide +kernel
      unfold outW
      simp only [sumF, outV]
      rw [if_pos ha.symm, if_neg (fun hh => ht (hh.trans ha))]
      exact h5
    · rcases outW_new ht ha with h | h
      · exact .inl h
      · exact .inr (.inl h)
  unfold chkS
  rw [aft_new ht, if_neg (by rw [hv]; simp)]
  split
  · rfl
  · rw [if_neg, if_neg, if_neg, if_neg]
    · rintro ⟨x, hx, h5, h6⟩
      have h7 : outW [] x.1.f = 0 := by show IntKind.i64.wrap 0 = 0; decide +kernel
      rw [h7] at h6
      simp only [excd, Bool.and_eq_true, decide_eq_true_eq] at h6
      rcases outW_new ht (h2 x hx) with h8 | h8 <;> omega
    · rintro ⟨x, hx, h5, _⟩
      exact h5 (h1 x hx)
    · intro hh
      exact hh fun x hx => by rcases ho x.1.f with h | h | h <;> rw [h] <;> decide
    · intro hh
      exact hh fun x hx => by simp only [List.mem_cons, List.not_mem_nil, or_false] at hx; rcases hx with rfl | rfl <;> first | (show wthn 1 = true; decide) | (show wthn (-1) = true; decide)
theorem cap_rec {m : Nat} (hm : m ≤ 256) : chkS (lsC m) [] [(⟨nw, nm 0⟩, 1)] = if m = 256 then 8 else 0 := by
  rw [chk_new (fun x hx => by obtain ⟨j, _, rfl⟩ := lsC_mem.1 hx; rfl) (fun x hx => by obtain ⟨j, _, rfl⟩ := lsC_mem.1 hx; exact nm_nw j) (fun x hx => by obtain ⟨j, _, rfl⟩ := lsC_mem.1 hx; rfl) (nm_nw 0) (nm_em 0)]
  have h1 := cnt_le (ls := lsC m) (ns := nsN (nm 0)) (l := nw :: nm 0 :: (List.range m).map nm) (fun a ha => by
    rcases ha with ha | ha
    · obtain ⟨j, hj, rfl⟩ := lsC_ment.1 ha
      exact List.mem_cons_of_mem _ (List.mem_cons_of_mem _ (List.mem_map.2 ⟨j, by simpa using hj, rfl⟩))
    · obtain ⟨x, hx, h⟩ := mem_ments.1 ha
      simp only [List.mem_cons, List.not_mem_nil, or_false] at hx
      rcases hx with rfl | rfl <;> rcases h with h | ⟨_, h⟩ <;> simp [h])
  by_cases h0 : 1 ≤ m
  · have h2 := cnt_le (ls := lsC m) (ns := nsN (nm 0)) (l := nw :: (List.range m).map nm) (fun a ha => by
      rcases ha with ha | ha
      · obtain ⟨j, hj, rfl⟩ := lsC_ment.1 ha
        exact List.mem_cons_of_mem _ (List.mem_map.2 ⟨j, by simpa using hj, rfl⟩)
      · have h9 : nm 0 ∈ (List.range m).map nm := List.mem_map.2 ⟨0, by simp; omega, rfl⟩
        obtain ⟨x, hx, h⟩ := mem_ments.1 ha
        simp only [List.mem_cons, List.not_mem_nil, or_false] at hx
        rcases hx with rfl | rfl <;> rcases h with h | ⟨_, h⟩ <;> subst h <;> first | exact List.mem_cons_self | exact List.mem_cons_of_mem _ h9)
    have h3 := cnt_ge (ls := lsC m) (ns := nsN (nm 0)) (l := nw :: (List.range m).map nm) (by
      rw [List.nodup_cons]
      refine ⟨fun hh => ?_, range_nd (by omega)⟩
      obtain ⟨j, _, h⟩ := List.mem_map.1 hh
      exact nm_nw j h) (fun a ha => by
      rcases List.mem_cons.1 ha with rfl | ha
      · exact .inr (mem_ments.2 ⟨(⟨nw, nm 0⟩, 1), by simp, .inl rfl⟩)
      · obtain ⟨j, hj, rfl⟩ := List.mem_map.1 ha
        exact .inl (lsC_ment.2 ⟨j, by simpa using hj, rfl⟩))
    simp only [List.length_cons, List.length_map, List.length_range] at h2 h3
    by_cases h4 : m = 256
    · rw [if_pos h4, if_pos (by omega)]
    · rw [if_neg h4, if_neg (by omega)]
  · simp only [List.length_cons, List.length_map, List.length_range] at h1
    rw [if_neg (by omega), if_neg (by omega)]
/-- One limit is taken away. -/
abbrev lsD (r : Nat) : List L2 := mdel (lsC 256) ⟨nm r, em⟩
theorem lsD_mem {r : Nat} (hr : r < 256) {x : L2} (hx : x ∈ lsD r) : ∃ j, j < 256 ∧ j ≠ r ∧ x = (⟨nm j, em⟩, 5) := by
  obtain ⟨h1, h2⟩ := List.mem_filter.1 hx
  obtain ⟨j, hj, rfl⟩ := lsC_mem.1 h1
  refine ⟨j, hj, fun hh => ?_, rfl⟩
  subst hh
  simp at h2
theorem lsD_ment {r : Nat} (hr : r < 256) {a : ByteArray} (ha : a ∈ ments (lsD r)) : a ∈ ((List.range 256).erase r).map nm := by
  obtain ⟨x, hx, h⟩ := mem_ments.1 ha
  obtain ⟨j, hj, hne, rfl⟩ := lsD_mem hr hx
  rcases h with h | ⟨h, _⟩
  · exact List.mem_map.2 ⟨j, (List.mem_erase_of_ne hne).2 (by simpa using hj), h.symm⟩
  · exact absurd rfl h
theorem erase_len {r : Nat} (hr : r < 256) : ((List.range 256).erase r).length = 255 := by
  rw [List.length_erase_of_mem (by simpa using hr)]; simp
theorem cap_del {r : Nat} (hr : r < 256) : setME (lsC 256) [] (nm r) (-1) = 0 := by
  have e : setL (lsC 256) ⟨nm r, em⟩ (-1) = lsD r := if_pos (by omega)
  unfold setME setE
  rw [if_neg (nm_em r), if_neg (by omega), e, if_neg]
  have := cnt_le (ls := lsD r) (ns := []) (l := ((List.range 256).erase r).map nm) (fun a ha => by
    rcases ha with ha | ha
    · exact lsD_ment hr ha
    · simp [ments] at ha)
  rw [List.length_map, erase_len hr] at this
  omega
theorem cap_last {r : Nat} (hr : r < 256) : chkS (lsD r) [] [(⟨nw, nm (1 + r % 255)⟩, 1)] = 0 := by
  have hj : 1 + r % 255 < 256 ∧ 1 + r % 255 ≠ r := by omega
  rw [chk_new (fun x hx => by obtain ⟨j, _, _, rfl⟩ := lsD_mem hr hx; rfl) (fun x hx => by obtain ⟨j, _, _, rfl⟩ := lsD_mem hr hx; exact nm_nw j) (fun x hx => by obtain ⟨j, _, _, rfl⟩ := lsD_mem hr hx; rfl) (nm_nw _) (nm_em _), if_neg]
  have h2 := cnt_le (ls := lsD r) (ns := nsN (nm (1 + r % 255))) (l := nw :: ((List.range 256).erase r).map nm) (fun a ha => by
    rcases ha with ha | ha
    · exact List.mem_cons_of_mem _ (lsD_ment hr ha)
    · have h9 : nm (1 + r % 255) ∈ ((List.range 256).erase r).map nm := List.mem_map.2 ⟨_, (List.mem_erase_of_ne hj.2).2 (by simpa using hj.1), rfl⟩
      obtain ⟨x, hx, h⟩ := mem_ments.1 ha
      simp only [List.mem_cons, List.not_mem_nil, or_false] at hx
      rcases hx with rfl | rfl <;> rcases h with h | ⟨_, h⟩ <;> subst h <;> first | exact List.mem_cons_self | exact List.mem_cons_of_mem _ h9)
  rw [List.length_cons, List.length_map, erase_len hr] at h2
  omega
theorem lsD_len (r : Nat) : (lsD r).length ≤ 256 := Nat.le_trans (List.length_filter_le _ _) (by rw [lsC_len]; exact Nat.le_refl _)
theorem setL_len (ls : List L2) (k : PK) (a : Int) : (setL ls k a).length ≤ ls.length + 1 := by
  unfold setL
  split
  · exact Nat.le_trans (List.length_filter_le _ _) (Nat.le_succ _)
  · exact mset_len _ _ _
set_option maxHeartbeats 1000000 in
theorem l_cap (n r : Nat) (hn : n ≤ 65535) (hr : r ≤ 255) {h : Heap} : HCalls Try.prog 3 #[.int .u16 n, .int .u8 r] h (Grow (.bool true) h) := by
  have q2 : ((r : Int)).tmod 255 = ((r % 255 : Nat) : Int) := by rw [Int.tmod_eq_emod_of_nonneg (by omega)]; omega
  refine hcalls2 Try.func3 rfl (by decide +kernel) (by simp only [Try.ntmps3]; exact of_decide_eq_true rfl) ?_
  intro e hin
  have e0 := hin 0 _ rfl
  have e1 := hin 1 _ rfl
  have hE := Ext.refl h
  refine hx_seq ?_
  refine hx_region ?_
  refine WL.qq (by simp only [EN, Nat.reduceEqDiff, reduceIte, qv_assign, decide_true, Bool.not_true, Bool.not_false, decide_false, eq_self, if_true, if_false, Bool.or_true, Bool.and_true]; rfl) ?_
  refine WL.nil ?_
  refine th_norm ?_
  refine hx_seq ?_
  refine hx_seq ?_
  refine hx_region ?_
  refine WL.cg Try.call11 (by simp only [EN, Nat.reduceEqDiff, reduceIte, AR, decide_true, Bool.not_true, Bool.not_false, decide_false, eq_self, if_true, if_false, Bool.or_true, Bool.and_true]; exact c_known16 _) ?_
  intro h1 hx1
  replace hE := hE.ext hx1
  refine WL.qq (by simp only [EN, Nat.reduceEqDiff, reduceIte, qv_unOp, unv_not, decide_true, Bool.not_true, Bool.not_false, decide_false, eq_self, if_true, if_false, Bool.or_true, Bool.and_true]; rfl) ?_
  refine WL.qq (by simp only [EN, Nat.reduceEqDiff, reduceIte, qv_move, decide_true, Bool.not_true, Bool.not_false, decide_false, eq_self, if_true, if_false, Bool.or_true, Bool.and_true]; rfl) ?_
  refine WL.cq (gd_at (t := 13) rfl (by simp only [EN, Nat.reduceEqDiff, reduceIte, e0, decide_true, Bool.not_true, Bool.not_false, decide_false, eq_self, if_true, if_false, Bool.or_true, Bool.and_true] <;> rfl)) (fun hg1_3 => by simp only [EN, Nat.reduceEqDiff, reduceIte, qv_move, e0, decide_true, Bool.not_true, Bool.not_false, decide_false, eq_self, if_true, if_false, Bool.or_true, Bool.and_true, hg1_3, GR]; rfl) ?_
  refine WL.cq (gd_at (t := 13) rfl (by simp only [EN, Nat.reduceEqDiff, reduceIte, decide_true, Bool.not_true, Bool.not_false, decide_false, eq_self, if_true, if_false, Bool.or_true, Bool.and_true] <;> rfl)) (fun hg1_4 => by simp only [EN, Nat.reduceEqDiff, reduceIte, qv_binOp, binv_gtr, decide_true, Bool.not_true, Bool.not_false, decide_false, eq_self, if_true, if_false, Bool.or_true, Bool.and_true, hg1_4, GR]; rfl) ?_
  refine WL.qq (by simp only [EN, Nat.reduceEqDiff, reduceIte, qv_pick, pk_and, pk_or, GR, decide_true, Bool.not_true, Bool.not_false, decide_false, eq_self, if_true, if_false, Bool.or_true, Bool.and_true]; rfl) ?_
  refine WL.nil ?_
  refine th_norm ?_
  refine hx_cond (by simp only [EN, Nat.reduceEqDiff, reduceIte, decide_true, Bool.not_true, Bool.not_false, decide_false, eq_self, if_true, if_false, Bool.or_true, Bool.and_true]; rfl) (fun hct16 => ?_) (fun hct16 => ?_)
  ·
    try simp only [BD] at hct16
    refine hx_seq ?_
    refine hx_region ?_
    refine WL.cg Try.call11 (by simp only [EN, Nat.reduceEqDiff, reduceIte, AR, decide_true, Bool.not_true, Bool.not_false, decide_false, eq_self, if_true, if_false, Bool.or_true, Bool.and_true]; exact c_known16 _) ?_
    intro h2 hx2
    replace hE := hE.ext hx2
    refine WL.qq (by simp only [EN, Nat.reduceEqDiff, reduceIte, qv_assign, decide_true, Bool.not_true, Bool.not_false, decide_false, eq_self, if_true, if_false, Bool.or_true, Bool.and_true]; rfl) ?_
    refine WL.nil ?_
    refine th_norm ?_
    refine hx_ret ?_
    refine th_ret ?_
    refine fin_ret [.tmp 4] rfl rfl (by simp only [EN, Nat.reduceEqDiff, reduceIte, resv, e0, e1, decide_true, Bool.not_true, Bool.not_false, decide_false, eq_self, if_true, if_false, Bool.or_true, Bool.and_true]; rfl) ?_  -- ret 0 r2
    exact ⟨rfl, hE⟩
  ·
    try simp only [BD] at hct16
    have hn3 : n ≤ 300 := (by have := hct16; simp at this; omega)
    refine hx_skip ?_
    refine th_norm ?_
    refine hx_seq ?_
    refine hx_region ?_
    refine WL.ce Try.call12 (by simp only [EN, Nat.reduceEqDiff, reduceIte, AR, decide_true, Bool.not_true, Bool.not_false, decide_false, eq_self, if_true, if_false, Bool.or_true, Bool.and_true]; exact tb_new _) ?_
    rintro _ h3 ⟨p, rfl, hT⟩
    simp only [put_some]
    obtain ⟨hs, hTs, hEs⟩ : ∃ hs, TB hs h3 p [] [] ∧ Ext h hs := ⟨_, hT, hE⟩
    replace hT := hTs
    refine WL.qq (by simp only [EN, Nat.reduceEqDiff, reduceIte, qv_assign, decide_true, Bool.not_true, Bool.not_false, decide_false, eq_self, if_true, if_false, Bool.or_true, Bool.and_true]; rfl) ?_
    refine WL.nil ?_
    refine th_norm ?_
    refine hx_seq ?_
    refine hx_region ?_
    refine WL.qq (by simp only [EN, Nat.reduceEqDiff, reduceIte, qv_assign, decide_true, Bool.not_true, Bool.not_false, decide_false, eq_self, if_true, if_false, Bool.or_true, Bool.and_true]; rfl) ?_
    refine WL.nil ?_
    refine th_norm ?_
    refine hx_seq ?_
    refine hx_seq ?_
    refine hx_region ?_
    refine WL.qq (by simp only [EN, Nat.reduceEqDiff, reduceIte, qv_assign, decide_true, Bool.not_true, Bool.not_false, decide_false, eq_self, if_true, if_false, Bool.or_true, Bool.and_true]; rfl) ?_
    refine WL.nil ?_
    refine th_norm ?_
    refine hx_block ?_
    refine hx_loopG [4, 6, 7, 8, 19, 20, 21, 22, 23, 24, 25, 26, 27, 28, 29, 30, 31, 32, 33, 34, 35, 36, 37, 38, 39, 40, 41, 42, 43, 44, 45] (fun k e hL0 => ∃ (i : Nat), n - i = k ∧ (i ≤ n) ∧ (TB hs hL0 p (lsC (min i 256)) []) ∧ e 7 = .int .i64 i ∧ e 6 = .int .i64 (min i 256 : Nat)) _ ⟨0, rfl, ?_, ?_, ?_, ?_⟩ ?_
    · omega
    · exact hT
    · simp only [EN, Nat.reduceEqDiff, reduceIte, e0, e1, decide_true, Bool.not_true, Bool.not_false, decide_false, eq_self, if_true, if_false, Bool.or_true, Bool.and_true] <;> rfl
    · simp only [EN, Nat.reduceEqDiff, reduceIte, e0, e1, decide_true, Bool.not_true, Bool.not_false, decide_false, eq_self, if_true, if_false, Bool.or_true, Bool.and_true] <;> rfl
    ·
      rintro k e0L hL0 hfr0 ⟨i, rfl, hi, hT, i7_0, i6_0⟩
      have k0_0 := hfr0 0 rfl; try simp only [EN, Nat.reduceEqDiff, reduceIte, e0, decide_true, Bool.not_true, Bool.not_false, decide_false, eq_self, if_true, if_false, Bool.or_true, Bool.and_true] at k0_0
      have k1_0 := hfr0 1 rfl; try simp only [EN, Nat.reduceEqDiff, reduceIte, e1, decide_true, Bool.not_true, Bool.not_false, decide_false, eq_self, if_true, if_false, Bool.or_true, Bool.and_true] at k1_0
      have k5_0 := hfr0 5 rfl; try simp only [EN, Nat.reduceEqDiff, reduceIte, decide_true, Bool.not_true, Bool.not_false, decide_false, eq_self, if_true, if_false, Bool.or_true, Bool.and_true] at k5_0
      refine hx_seq ?_
      refine hx_seq ?_
      refine hx_region ?_
      refine WL.qq (by simp only [EN, Nat.reduceEqDiff, reduceIte, qv_move, i7_0, decide_true, Bool.not_true, Bool.not_false, decide_false, eq_self, if_true, if_false, Bool.or_true, Bool.and_true]; rfl) ?_
      refine WL.qq (by simp only [EN, Nat.reduceEqDiff, reduceIte, qv_move, k0_0, decide_true, Bool.not_true, Bool.not_false, decide_false, eq_self, if_true, if_false, Bool.or_true, Bool.and_true]; rfl) ?_
      refine WL.qq (by simp only [EN, Nat.reduceEqDiff, reduceIte, qv_convert, convv, Try.underlying22, Try.underlying3, decide_true, Bool.not_true, Bool.not_false, decide_false, eq_self, if_true, if_false, Bool.or_true, Bool.and_true]; (try simp (disch := omega) only [w64, w8, wu64]); rfl) ?_
      refine WL.qq (by simp only [EN, Nat.reduceEqDiff, reduceIte, qv_binOp, binv_lss, decide_true, Bool.not_true, Bool.not_false, decide_false, eq_self, if_true, if_false, Bool.or_true, Bool.and_true]; rfl) ?_
      refine WL.nil ?_
      refine th_norm ?_
      refine hx_cond (by simp only [EN, Nat.reduceEqDiff, reduceIte, decide_true, Bool.not_true, Bool.not_false, decide_false, eq_self, if_true, if_false, Bool.or_true, Bool.and_true]; rfl) (fun hct22 => ?_) (fun hct22 => ?_)
      ·
        try simp only [BD] at hct22
        refine hx_skip ?_
        refine th_norm ?_
        refine hx_seq ?_
        refine hx_block ?_
        refine hx_seq ?_
        refine hx_region ?_
        refine WL.qq (by simp only [EN, Nat.reduceEqDiff, reduceIte, qv_move, k5_0, decide_true, Bool.not_true, Bool.not_false, decide_false, eq_self, if_true, if_false, Bool.or_true, Bool.and_true]; rfl) ?_
        refine WL.qq (by simp only [EN, Nat.reduceEqDiff, reduceIte, qv_move, i7_0, decide_true, Bool.not_true, Bool.not_false, decide_false, eq_self, if_true, if_false, Bool.or_true, Bool.and_true]; rfl) ?_
        refine WL.cg Try.call14 (by simp only [EN, Nat.reduceEqDiff, reduceIte, AR, decide_true, Bool.not_true, Bool.not_false, decide_false, eq_self, if_true, if_false, Bool.or_true, Bool.and_true]; exact c_name i (by omega) _) ?_
        intro h3 hx3
        replace hT := hT.ext hx3
        obtain ⟨q, hq, hq0, hqs⟩ := cap_set (i := i) (by omega)
        have hcm := cnt_len (setL (lsC (min i 256)) ⟨nm i, em⟩ 5) []; have hcl := setL_len (lsC (min i 256)) ⟨nm i, em⟩ 5; rw [lsC_len] at hcl
        refine WL.ce Try.call13 (by simp only [EN, Nat.reduceEqDiff, reduceIte, AR, decide_true, Bool.not_true, Bool.not_false, decide_false, eq_self, if_true, if_false, Bool.or_true, Bool.and_true]; exact tb_setM (nm i) 5 hT (by simp only [List.length_nil] at hcm; omega) hq) ?_
        rintro _ h8 ⟨rfl, hT8⟩
        simp only [put_some]
        replace hT : TB hs h8 p (lsC (min (i + 1) 256)) [] := by rw [hqs] at hT8; exact hT8
        refine WL.qq (by simp only [EN, Nat.reduceEqDiff, reduceIte, qv_assign, decide_true, Bool.not_true, Bool.not_false, decide_false, eq_self, if_true, if_false, Bool.or_true, Bool.and_true]; rfl) ?_
        refine WL.nil ?_
        refine th_norm ?_
        refine hx_cutS [6, 29, 30, 31, 32] (fun e => e 6 = .int .i64 (min (i + 1) 256 : Nat)) ?_ ?_
        ·
          refine hx_seq ?_
          refine hx_region ?_
          refine WL.qq (by simp only [EN, Nat.reduceEqDiff, reduceIte, qv_move, decide_true, Bool.not_true, Bool.not_false, decide_false, eq_self, if_true, if_false, Bool.or_true, Bool.and_true]; rfl) ?_
          refine WL.qq (by simp only [EN, Nat.reduceEqDiff, reduceIte, qv_binOp, binv_eql, eq26, Option.map_some, decide_true, Bool.not_true, Bool.not_false, decide_false, eq_self, if_true, if_false, Bool.or_true, Bool.and_true]; rfl) ?_
          refine WL.nil ?_
          refine th_norm ?_
          refine hx_cond (by simp only [EN, Nat.reduceEqDiff, reduceIte, decide_true, Bool.not_true, Bool.not_false, decide_false, eq_self, if_true, if_false, Bool.or_true, Bool.and_true]; rfl) (fun hct30 => ?_) (fun hct30 => ?_)
          ·
            try simp only [BD] at hct30
            refine hx_region ?_
            refine WL.qq (by simp only [EN, Nat.reduceEqDiff, reduceIte, qv_move, i6_0, decide_true, Bool.not_true, Bool.not_false, decide_false, eq_self, if_true, if_false, Bool.or_true, Bool.and_true]; rfl) ?_
            refine WL.qq (by simp only [EN, Nat.reduceEqDiff, reduceIte, qv_binOp, binv_add, decide_true, Bool.not_true, Bool.not_false, decide_false, eq_self, if_true, if_false, Bool.or_true, Bool.and_true]; (try simp (disch := omega) only [w64, w8, wu64]); rfl) ?_
            refine WL.qq (by simp only [EN, Nat.reduceEqDiff, reduceIte, qv_assign, decide_true, Bool.not_true, Bool.not_false, decide_false, eq_self, if_true, if_false, Bool.or_true, Bool.and_true]; rfl) ?_
            refine WL.nil ?_
            refine th_norm ?_
            refine ⟨rfl, rfl, ?_, ?_⟩  -- meet 0 of cut 9
            · (repeat (first | exact Fr.refl _ _ | refine Fr.set rfl ?_ | refine Fr.put rfl ?_ | with_reducible refine Fr.put0 ?_))
            · simp only [EN, Nat.reduceEqDiff, reduceIte, k0_0, k1_0, k5_0, i7_0, i6_0, decide_true, Bool.not_true, Bool.not_false, decide_false, eq_self, if_true, if_false, Bool.or_true, Bool.and_true] <;> first | (have h9 : q = 0 := (by simpa using hct30); rw [hq0] at h9; split at h9; (congr 1; omega); (cases h9)) | (have h9 : ¬ q = 0 := (by simpa using hct30); rw [hq0] at h9; split at h9; (exact absurd rfl h9); (congr 1; omega))
          ·
            try simp only [BD] at hct30
            refine hx_skip ?_
            refine th_norm ?_
            refine ⟨rfl, rfl, ?_, ?_⟩  -- meet 1 of cut 9
            · (repeat (first | exact Fr.refl _ _ | refine Fr.set rfl ?_ | refine Fr.put rfl ?_ | with_reducible refine Fr.put0 ?_))
            · simp only [EN, Nat.reduceEqDiff, reduceIte, k0_0, k1_0, k5_0, i7_0, i6_0, decide_true, Bool.not_true, Bool.not_false, decide_false, eq_self, if_true, if_false, Bool.or_true, Bool.and_true] <;> first | (have h9 : q = 0 := (by simpa using hct30); rw [hq0] at h9; split at h9; (congr 1; omega); (cases h9)) | (have h9 : ¬ q = 0 := (by simpa using hct30); rw [hq0] at h9; split at h9; (exact absurd rfl h9); (congr 1; omega))
        ·
          rintro ec9 hfc9 i6_c9
          have k0_c9 := hfc9 0 rfl; try simp only [EN, Nat.reduceEqDiff, reduceIte, k0_0, decide_true, Bool.not_true, Bool.not_false, decide_false, eq_self, if_true, if_false, Bool.or_true, Bool.and_true] at k0_c9
          have k1_c9 := hfc9 1 rfl; try simp only [EN, Nat.reduceEqDiff, reduceIte, k1_0, decide_true, Bool.not_true, Bool.not_false, decide_false, eq_self, if_true, if_false, Bool.or_true, Bool.and_true] at k1_c9
          have k5_c9 := hfc9 5 rfl; try simp only [EN, Nat.reduceEqDiff, reduceIte, k5_0, decide_true, Bool.not_true, Bool.not_false, decide_false, eq_self, if_true, if_false, Bool.or_true, Bool.and_true] at k5_c9
          have k7_c9 := hfc9 7 rfl; try simp only [EN, Nat.reduceEqDiff, reduceIte, i7_0, decide_true, Bool.not_true, Bool.not_false, decide_false, eq_self, if_true, if_false, Bool.or_true, Bool.and_true] at k7_c9
          have k8_c9 := hfc9 8 rfl; try simp only [EN, Nat.reduceEqDiff, reduceIte, decide_true, Bool.not_true, Bool.not_false, decide_false, eq_self, if_true, if_false, Bool.or_true, Bool.and_true] at k8_c9
          refine hx_seq ?_
          refine hx_region ?_
          refine WL.qq (by simp only [EN, Nat.reduceEqDiff, reduceIte, qv_move, k8_c9, decide_true, Bool.not_true, Bool.not_false, decide_false, eq_self, if_true, if_false, Bool.or_true, Bool.and_true]; rfl) ?_
          refine WL.qq (by simp only [EN, Nat.reduceEqDiff, reduceIte, qv_binOp, binv_eql, eq26, Option.map_some, decide_true, Bool.not_true, Bool.not_false, decide_false, eq_self, if_true, if_false, Bool.or_true, Bool.and_true]; rfl) ?_
          refine WL.qq (by simp only [EN, Nat.reduceEqDiff, reduceIte, qv_move, k7_c9, decide_true, Bool.not_true, Bool.not_false, decide_false, eq_self, if_true, if_false, Bool.or_true, Bool.and_true]; rfl) ?_
          refine WL.qq (by simp only [EN, Nat.reduceEqDiff, reduceIte, qv_binOp, binv_lss, decide_true, Bool.not_true, Bool.not_false, decide_false, eq_self, if_true, if_false, Bool.or_true, Bool.and_true]; rfl) ?_
          refine WL.qq (by simp only [EN, Nat.reduceEqDiff, reduceIte, qv_binOp, binv_neq, eq4, Option.map_some, decide_true, Bool.not_true, Bool.not_false, decide_false, eq_self, if_true, if_false, Bool.or_true, Bool.and_true]; rfl) ?_
          refine WL.qq (by simp only [EN, Nat.reduceEqDiff, reduceIte, qv_move, decide_true, Bool.not_true, Bool.not_false, decide_false, eq_self, if_true, if_false, Bool.or_true, Bool.and_true]; rfl) ?_
          refine WL.cq (gd_at (t := 38) rfl (by simp only [EN, Nat.reduceEqDiff, reduceIte, k8_c9, decide_true, Bool.not_true, Bool.not_false, decide_false, eq_self, if_true, if_false, Bool.or_true, Bool.and_true] <;> rfl)) (fun hg11_6 => by simp only [EN, Nat.reduceEqDiff, reduceIte, qv_move, k8_c9, decide_true, Bool.not_true, Bool.not_false, decide_false, eq_self, if_true, if_false, Bool.or_true, Bool.and_true, hg11_6, GR]; rfl) ?_
          refine WL.cq (gd_at (t := 38) rfl (by simp only [EN, Nat.reduceEqDiff, reduceIte, decide_true, Bool.not_true, Bool.not_false, decide_false, eq_self, if_true, if_false, Bool.or_true, Bool.and_true] <;> rfl)) (fun hg11_7 => by simp only [EN, Nat.reduceEqDiff, reduceIte, qv_binOp, binv_neq, eq26, Option.map_some, decide_true, Bool.not_true, Bool.not_false, decide_false, eq_self, if_true, if_false, Bool.or_true, Bool.and_true, hg11_7, GR]; rfl) ?_
          refine WL.cq (gd_at (t := 38) rfl (by simp only [EN, Nat.reduceEqDiff, reduceIte, decide_true, Bool.not_true, Bool.not_false, decide_false, eq_self, if_true, if_false, Bool.or_true, Bool.and_true] <;> rfl)) (fun hg11_8 => by simp only [EN, Nat.reduceEqDiff, reduceIte, qv_move, decide_true, Bool.not_true, Bool.not_false, decide_false, eq_self, if_true, if_false, Bool.or_true, Bool.and_true, hg11_8, GR]; rfl) ?_
          refine WL.cq2 (t := 41) rfl (by simp only [EN, Nat.reduceEqDiff, reduceIte, k8_c9, decide_true, Bool.not_true, Bool.not_false, decide_false, eq_self, if_true, if_false, Bool.or_true, Bool.and_true]; rfl) (fun hC11_9 hg11_9 => by simp only [EN, Nat.reduceEqDiff, reduceIte, qv_move, k8_c9, decide_true, Bool.not_true, Bool.not_false, decide_false, eq_self, if_true, if_false, Bool.or_true, Bool.and_true, hC11_9, hg11_9, GR]; rfl) ?_
          refine WL.cq2 (t := 41) rfl (by simp only [EN, Nat.reduceEqDiff, reduceIte, decide_true, Bool.not_true, Bool.not_false, decide_false, eq_self, if_true, if_false, Bool.or_true, Bool.and_true]; rfl) (fun hC11_10 hg11_10 => by have hC11_10o := hC11_10; (try simp only [hg11_10] at hC11_10); simp only [EN, Nat.reduceEqDiff, reduceIte, qv_binOp, binv_neq, eq26, Option.map_some, decide_true, Bool.not_true, Bool.not_false, decide_false, eq_self, if_true, if_false, Bool.or_true, Bool.and_true, hC11_10o, hC11_10, hg11_10, GR]; rfl) ?_
          refine WL.cq (gd_at (t := 38) rfl (by simp only [EN, Nat.reduceEqDiff, reduceIte, decide_true, Bool.not_true, Bool.not_false, decide_false, eq_self, if_true, if_false, Bool.or_true, Bool.and_true] <;> rfl)) (fun hg11_11 => by simp only [EN, Nat.reduceEqDiff, reduceIte, qv_pick, pk_and, pk_or, GR, decide_true, Bool.not_true, Bool.not_false, decide_false, eq_self, if_true, if_false, Bool.or_true, Bool.and_true, hg11_11, GR]; rfl) ?_
          refine WL.qq (by simp only [EN, Nat.reduceEqDiff, reduceIte, qv_pick, pk_and, pk_or, GR, decide_true, Bool.not_true, Bool.not_false, decide_false, eq_self, if_true, if_false, Bool.or_true, Bool.and_true]; rfl) ?_
          refine WL.nil ?_
          refine th_norm ?_
          refine hx_cond (by simp only [EN, Nat.reduceEqDiff, reduceIte, decide_true, Bool.not_true, Bool.not_false, decide_false, eq_self, if_true, if_false, Bool.or_true, Bool.and_true]; rfl) (fun hct45 => ?_) (fun hct45 => ?_)
          ·
            exfalso; rw [hq0] at hct45; by_cases h9 : i < 256; (rw [if_pos h9] at hct45; simp at hct45; omega); (rw [if_neg h9] at hct45; simp at hct45; omega)
          ·
            try simp only [BD] at hct45
            refine hx_skip ?_
            refine bl_norm ?_
            refine th_norm ?_
            refine hx_region ?_
            refine WL.qq (by simp only [EN, Nat.reduceEqDiff, reduceIte, qv_move, k7_c9, decide_true, Bool.not_true, Bool.not_false, decide_false, eq_self, if_true, if_false, Bool.or_true, Bool.and_true]; rfl) ?_
            refine WL.qq (by simp only [EN, Nat.reduceEqDiff, reduceIte, qv_binOp, binv_add, decide_true, Bool.not_true, Bool.not_false, decide_false, eq_self, if_true, if_false, Bool.or_true, Bool.and_true]; (try simp (disch := omega) only [w64, w8, wu64]); rfl) ?_
            refine WL.qq (by simp only [EN, Nat.reduceEqDiff, reduceIte, qv_assign, decide_true, Bool.not_true, Bool.not_false, decide_false, eq_self, if_true, if_false, Bool.or_true, Bool.and_true]; rfl) ?_
            refine WL.nil ?_
            refine th_norm ?_
            refine ⟨rfl, ?_, _, ?_, i + 1, rfl, ?_, ?_, ?_, ?_⟩  -- again 0 of loop 0
            · (repeat (first | exact Fr.refl _ _ | refine Fr.set rfl ?_ | refine Fr.put rfl ?_ | with_reducible refine Fr.put0 ?_ | refine Fr.trans ?_ (Fr.of hfc9 rfl)))
            · omega
            · omega
            · exact hT
            · simp only [EN, Nat.reduceEqDiff, reduceIte, k0_c9, k1_c9, k5_c9, k7_c9, k8_c9, i6_c9, decide_true, Bool.not_true, Bool.not_false, decide_false, eq_self, if_true, if_false, Bool.or_true, Bool.and_true] <;> first | rfl | (congr 1; omega)
            · simp only [EN, Nat.reduceEqDiff, reduceIte, k0_c9, k1_c9, k5_c9, k7_c9, k8_c9, i6_c9, decide_true, Bool.not_true, Bool.not_false, decide_false, eq_self, if_true, if_false, Bool.or_true, Bool.and_true] <;> first | rfl | (congr 1; omega)
      ·
        try simp only [BD] at hct22
        have hin' : i = n := (by omega); subst hin'
        obtain ⟨m, hm, hm2⟩ : ∃ m, min i 256 = m ∧ m ≤ 256 := ⟨_, rfl, by omega⟩
        rw [hm] at hT
        refine hx_exit ?_
        refine th_exit ?_
        refine th_exit ?_
        refine bl_hit ?_
        refine th_norm ?_
        refine hx_seq ?_
        refine hx_fresh (fun eF13 hfcf13 => ?_)
        have k0_f13 := hfcf13 0 rfl; try simp only [EN, Nat.reduceEqDiff, reduceIte, k0_0, decide_true, Bool.not_true, Bool.not_false, decide_false, eq_self, if_true, if_false, Bool.or_true, Bool.and_true] at k0_f13
        have k1_f13 := hfcf13 1 rfl; try simp only [EN, Nat.reduceEqDiff, reduceIte, k1_0, decide_true, Bool.not_true, Bool.not_false, decide_false, eq_self, if_true, if_false, Bool.or_true, Bool.and_true] at k1_f13
        have k5_f13 := hfcf13 5 rfl; try simp only [EN, Nat.reduceEqDiff, reduceIte, k5_0, decide_true, Bool.not_true, Bool.not_false, decide_false, eq_self, if_true, if_false, Bool.or_true, Bool.and_true] at k5_f13
        have k6_f13 := hfcf13 6 rfl; try simp only [EN, Nat.reduceEqDiff, reduceIte, i6_0, decide_true, Bool.not_true, Bool.not_false, decide_false, eq_self, if_true, if_false, Bool.or_true, Bool.and_true] at k6_f13
        refine hx_region ?_
        refine WL.qq (by simp only [EN, Nat.reduceEqDiff, reduceIte, qv_move, k6_f13, decide_true, Bool.not_true, Bool.not_false, decide_false, eq_self, if_true, if_false, Bool.or_true, Bool.and_true]; rfl) ?_
        refine WL.qq (by simp only [EN, Nat.reduceEqDiff, reduceIte, k0_f13, k1_f13, k5_f13, k6_f13, decide_true, Bool.not_true, Bool.not_false, decide_false, eq_self, if_true, if_false, Bool.or_true, Bool.and_true, qv_binOp, binv_eql, eq3, Option.map_some]; rfl) ?_
        refine WL.qq (by simp only [EN, Nat.reduceEqDiff, reduceIte, qv_assign, decide_true, Bool.not_true, Bool.not_false, decide_false, eq_self, if_true, if_false, Bool.or_true, Bool.and_true]; rfl) ?_
        refine WL.nil ?_
        refine th_norm ?_
        refine hx_seq ?_
        refine hx_region ?_
        refine WL.qq (by simp only [EN, Nat.reduceEqDiff, reduceIte, qv_move, k5_f13, decide_true, Bool.not_true, Bool.not_false, decide_false, eq_self, if_true, if_false, Bool.or_true, Bool.and_true]; rfl) ?_
        refine WL.cg Try.call14 (by simp only [EN, Nat.reduceEqDiff, reduceIte, AR, decide_true, Bool.not_true, Bool.not_false, decide_false, eq_self, if_true, if_false, Bool.or_true, Bool.and_true]; exact c_name 0 (by omega) _) ?_
        intro h4 hx4
        replace hT := hT.ext hx4
        refine WL.qq (by refine qv_bld (by simp only [EN, Nat.reduceEqDiff, reduceIte, AR, decide_true, Bool.not_true, Bool.not_false, decide_false, eq_self, if_true, if_false, Bool.or_true, Bool.and_true] <;> rfl) (by rw [bl31]; simp [Instr.fill, Value.cells]; rfl)) ?_
        refine WL.lit2 #[.string em, .string em, iV 0] Try.underlying32 sz31 zr31 (by decide) (by kernel_rfl) ⟨_, (by simp only [EN, Nat.reduceEqDiff, reduceIte, k0_f13, k1_f13, k5_f13, k6_f13, decide_true, Bool.not_true, Bool.not_false, decide_false, eq_self, if_true, if_false, Bool.or_true, Bool.and_true, AR]; simp [Instr.fill, Value.cells] <;> rfl), rfl⟩ ?_
        intro h5 B5 hx5 hlt5 hB5
        replace hT := hT.ext hx5
        have hcm2 := cnt_len (lsC m) (nsN (nm 0)); rw [lsC_len] at hcm2; simp only [List.length_cons, List.length_nil] at hcm2
        refine WL.ce Try.call15 (by simp only [EN, Nat.reduceEqDiff, reduceIte, AR, decide_true, Bool.not_true, Bool.not_false, decide_false, eq_self, if_true, if_false, Bool.or_true, Bool.and_true]; exact tb_Record (some ⟨B5, 0, none⟩) [(⟨nw, nm 0⟩, 1)] 1 (by simp) (by rw [aft_new (nm_nw 0)]; omega) hT (slG_has (f := limL) (sz := 3) (L := [(⟨nw, nm 0⟩, 1)]) (fun _ => rfl) hB5 rfl) (cap_rec hm2)) ?_
        rintro _ h6 ⟨rfl, hT6⟩
        simp only [put_some]
        refine WL.qq (by simp only [EN, Nat.reduceEqDiff, reduceIte, qv_assign, decide_true, Bool.not_true, Bool.not_false, decide_false, eq_self, if_true, if_false, Bool.or_true, Bool.and_true]; rfl) ?_
        refine WL.nil ?_
        refine th_norm ?_
        refine hx_seq ?_
        refine hx_seq ?_
        refine hx_region ?_
        refine WL.qq (by simp only [EN, Nat.reduceEqDiff, reduceIte, qv_move, k0_f13, decide_true, Bool.not_true, Bool.not_false, decide_false, eq_self, if_true, if_false, Bool.or_true, Bool.and_true]; rfl) ?_
        refine WL.qq (by simp only [EN, Nat.reduceEqDiff, reduceIte, qv_binOp, binv_eql, eq22, Option.map_some, decide_true, Bool.not_true, Bool.not_false, decide_false, eq_self, if_true, if_false, Bool.or_true, Bool.and_true]; rfl) ?_
        refine WL.nil ?_
        refine th_norm ?_
        refine hx_cond (by simp only [EN, Nat.reduceEqDiff, reduceIte, decide_true, Bool.not_true, Bool.not_false, decide_false, eq_self, if_true, if_false, Bool.or_true, Bool.and_true]; rfl) (fun hct54 => ?_) (fun hct54 => ?_)
        ·
          try simp only [BD] at hct54
          refine hx_seq ?_
          refine hx_region ?_
          refine WL.qq (by simp only [EN, Nat.reduceEqDiff, reduceIte, qv_move, decide_true, Bool.not_true, Bool.not_false, decide_false, eq_self, if_true, if_false, Bool.or_true, Bool.and_true]; rfl) ?_
          refine WL.qq (by simp only [EN, Nat.reduceEqDiff, reduceIte, qv_binOp, binv_eql, eq26, Option.map_some, decide_true, Bool.not_true, Bool.not_false, decide_false, eq_self, if_true, if_false, Bool.or_true, Bool.and_true]; rfl) ?_
          refine WL.qq (by simp only [EN, Nat.reduceEqDiff, reduceIte, qv_assign, decide_true, Bool.not_true, Bool.not_false, decide_false, eq_self, if_true, if_false, Bool.or_true, Bool.and_true]; rfl) ?_
          refine WL.nil ?_
          refine th_norm ?_
          refine hx_ret ?_
          refine th_ret ?_
          refine fin_ret [.tmp 4] rfl rfl (by simp only [EN, Nat.reduceEqDiff, reduceIte, resv, k0_f13, k1_f13, k5_f13, k6_f13, decide_true, Bool.not_true, Bool.not_false, decide_false, eq_self, if_true, if_false, Bool.or_true, Bool.and_true]; rfl) ?_  -- ret 1 r16
          have h9 : i = 0 := (by simpa using hct54)
          have h8 : m = 0 := (by omega)
          exact ⟨by simp [retOf, h8], hEs.trans hT6.E⟩
        ·
          try simp only [BD] at hct54
          refine hx_skip ?_
          refine th_norm ?_
          refine hx_seq ?_
          refine hx_seq ?_
          refine hx_region ?_
          refine WL.qq (by simp only [EN, Nat.reduceEqDiff, reduceIte, qv_move, decide_true, Bool.not_true, Bool.not_false, decide_false, eq_self, if_true, if_false, Bool.or_true, Bool.and_true]; rfl) ?_
          refine WL.qq (by simp only [EN, Nat.reduceEqDiff, reduceIte, qv_move, decide_true, Bool.not_true, Bool.not_false, decide_false, eq_self, if_true, if_false, Bool.or_true, Bool.and_true]; rfl) ?_
          refine WL.qq (by simp only [EN, Nat.reduceEqDiff, reduceIte, qv_binOp, binv_eql, eq26, Option.map_some, decide_true, Bool.not_true, Bool.not_false, decide_false, eq_self, if_true, if_false, Bool.or_true, Bool.and_true]; rfl) ?_
          refine WL.qq (by simp only [EN, Nat.reduceEqDiff, reduceIte, qv_binOp, binv_neq, eq4, Option.map_some, decide_true, Bool.not_true, Bool.not_false, decide_false, eq_self, if_true, if_false, Bool.or_true, Bool.and_true]; rfl) ?_
          refine WL.qq (by simp only [EN, Nat.reduceEqDiff, reduceIte, qv_move, decide_true, Bool.not_true, Bool.not_false, decide_false, eq_self, if_true, if_false, Bool.or_true, Bool.and_true]; rfl) ?_
          refine WL.cq (gd_at (t := 61) rfl (by simp only [EN, Nat.reduceEqDiff, reduceIte, decide_true, Bool.not_true, Bool.not_false, decide_false, eq_self, if_true, if_false, Bool.or_true, Bool.and_true] <;> rfl)) (fun hg17_5 => by simp only [EN, Nat.reduceEqDiff, reduceIte, qv_move, decide_true, Bool.not_true, Bool.not_false, decide_false, eq_self, if_true, if_false, Bool.or_true, Bool.and_true, hg17_5, GR]; rfl) ?_
          refine WL.cq (gd_at (t := 61) rfl (by simp only [EN, Nat.reduceEqDiff, reduceIte, decide_true, Bool.not_true, Bool.not_false, decide_false, eq_self, if_true, if_false, Bool.or_true, Bool.and_true] <;> rfl)) (fun hg17_6 => by simp only [EN, Nat.reduceEqDiff, reduceIte, qv_unOp, unv_not, decide_true, Bool.not_true, Bool.not_false, decide_false, eq_self, if_true, if_false, Bool.or_true, Bool.and_true, hg17_6, GR]; rfl) ?_
          refine WL.cq (gd_at (t := 61) rfl (by simp only [EN, Nat.reduceEqDiff, reduceIte, decide_true, Bool.not_true, Bool.not_false, decide_false, eq_self, if_true, if_false, Bool.or_true, Bool.and_true] <;> rfl)) (fun hg17_7 => by simp only [EN, Nat.reduceEqDiff, reduceIte, qv_move, decide_true, Bool.not_true, Bool.not_false, decide_false, eq_self, if_true, if_false, Bool.or_true, Bool.and_true, hg17_7, GR]; rfl) ?_
          refine WL.cq2 (t := 64) rfl (by simp only [EN, Nat.reduceEqDiff, reduceIte, decide_true, Bool.not_true, Bool.not_false, decide_false, eq_self, if_true, if_false, Bool.or_true, Bool.and_true]; rfl) (fun hC17_8 hg17_8 => by simp only [EN, Nat.reduceEqDiff, reduceIte, qv_move, decide_true, Bool.not_true, Bool.not_false, decide_false, eq_self, if_true, if_false, Bool.or_true, Bool.and_true, hC17_8, hg17_8, GR]; rfl) ?_
          refine WL.cq2 (t := 64) rfl (by simp only [EN, Nat.reduceEqDiff, reduceIte, decide_true, Bool.not_true, Bool.not_false, decide_false, eq_self, if_true, if_false, Bool.or_true, Bool.and_true]; rfl) (fun hC17_9 hg17_9 => by have hC17_9o := hC17_9; (try simp only [hg17_9] at hC17_9); simp only [EN, Nat.reduceEqDiff, reduceIte, qv_binOp, binv_neq, eq26, Option.map_some, decide_true, Bool.not_true, Bool.not_false, decide_false, eq_self, if_true, if_false, Bool.or_true, Bool.and_true, hC17_9o, hC17_9, hg17_9, GR]; rfl) ?_
          refine WL.cq (gd_at (t := 61) rfl (by simp only [EN, Nat.reduceEqDiff, reduceIte, decide_true, Bool.not_true, Bool.not_false, decide_false, eq_self, if_true, if_false, Bool.or_true, Bool.and_true] <;> rfl)) (fun hg17_10 => by simp only [EN, Nat.reduceEqDiff, reduceIte, qv_pick, pk_and, pk_or, GR, decide_true, Bool.not_true, Bool.not_false, decide_false, eq_self, if_true, if_false, Bool.or_true, Bool.and_true, hg17_10, GR]; rfl) ?_
          refine WL.cq (gd_at (t := 61) rfl (by simp only [EN, Nat.reduceEqDiff, reduceIte, decide_true, Bool.not_true, Bool.not_false, decide_false, eq_self, if_true, if_false, Bool.or_true, Bool.and_true] <;> rfl)) (fun hg17_11 => by simp only [EN, Nat.reduceEqDiff, reduceIte, qv_move, decide_true, Bool.not_true, Bool.not_false, decide_false, eq_self, if_true, if_false, Bool.or_true, Bool.and_true, hg17_11, GR]; rfl) ?_
          refine WL.cq2 (t := 68) rfl (by simp only [EN, Nat.reduceEqDiff, reduceIte, decide_true, Bool.not_true, Bool.not_false, decide_false, eq_self, if_true, if_false, Bool.or_true, Bool.and_true]; rfl) (fun hC17_12 hg17_12 => by simp only [EN, Nat.reduceEqDiff, reduceIte, qv_move, decide_true, Bool.not_true, Bool.not_false, decide_false, eq_self, if_true, if_false, Bool.or_true, Bool.and_true, hC17_12, hg17_12, GR]; rfl) ?_
          refine WL.cq2 (t := 68) rfl (by simp only [EN, Nat.reduceEqDiff, reduceIte, decide_true, Bool.not_true, Bool.not_false, decide_false, eq_self, if_true, if_false, Bool.or_true, Bool.and_true]; rfl) (fun hC17_13 hg17_13 => by have hC17_13o := hC17_13; (try simp only [hg17_13] at hC17_13); simp only [EN, Nat.reduceEqDiff, reduceIte, qv_binOp, binv_neq, eq26, Option.map_some, decide_true, Bool.not_true, Bool.not_false, decide_false, eq_self, if_true, if_false, Bool.or_true, Bool.and_true, hC17_13o, hC17_13, hg17_13, GR]; rfl) ?_
          refine WL.cq (gd_at (t := 61) rfl (by simp only [EN, Nat.reduceEqDiff, reduceIte, decide_true, Bool.not_true, Bool.not_false, decide_false, eq_self, if_true, if_false, Bool.or_true, Bool.and_true] <;> rfl)) (fun hg17_14 => by simp only [EN, Nat.reduceEqDiff, reduceIte, qv_pick, pk_and, pk_or, GR, decide_true, Bool.not_true, Bool.not_false, decide_false, eq_self, if_true, if_false, Bool.or_true, Bool.and_true, hg17_14, GR]; rfl) ?_
          refine WL.qq (by simp only [EN, Nat.reduceEqDiff, reduceIte, qv_pick, pk_and, pk_or, GR, decide_true, Bool.not_true, Bool.not_false, decide_false, eq_self, if_true, if_false, Bool.or_true, Bool.and_true]; rfl) ?_
          refine WL.nil ?_
          refine th_norm ?_
          refine hx_cond (by simp only [EN, Nat.reduceEqDiff, reduceIte, decide_true, Bool.not_true, Bool.not_false, decide_false, eq_self, if_true, if_false, Bool.or_true, Bool.and_true]; rfl) (fun hct72 => ?_) (fun hct72 => ?_)
          ·
            exfalso; by_cases h9 : m = 256; (rw [if_pos h9] at hct72; simp [h9] at hct72; omega); (rw [if_neg h9] at hct72; simp at hct72; omega)
          ·
            try simp only [BD] at hct72
            refine hx_skip ?_
            refine th_norm ?_
            refine hx_seq ?_
            refine hx_seq ?_
            refine hx_region ?_
            refine WL.qq (by simp only [EN, Nat.reduceEqDiff, reduceIte, qv_move, decide_true, Bool.not_true, Bool.not_false, decide_false, eq_self, if_true, if_false, Bool.or_true, Bool.and_true]; rfl) ?_
            refine WL.qq (by simp only [EN, Nat.reduceEqDiff, reduceIte, qv_unOp, unv_not, decide_true, Bool.not_true, Bool.not_false, decide_false, eq_self, if_true, if_false, Bool.or_true, Bool.and_true]; rfl) ?_
            refine WL.nil ?_
            refine th_norm ?_
            refine hx_cond (by simp only [EN, Nat.reduceEqDiff, reduceIte, decide_true, Bool.not_true, Bool.not_false, decide_false, eq_self, if_true, if_false, Bool.or_true, Bool.and_true]; rfl) (fun hct74 => ?_) (fun hct74 => ?_)
            ·
              try simp only [BD] at hct74
              refine hx_seq ?_
              refine hx_region ?_
              refine WL.qq (by simp only [EN, Nat.reduceEqDiff, reduceIte, qv_assign, decide_true, Bool.not_true, Bool.not_false, decide_false, eq_self, if_true, if_false, Bool.or_true, Bool.and_true]; rfl) ?_
              refine WL.nil ?_
              refine th_norm ?_
              refine hx_ret ?_
              refine th_ret ?_
              refine fin_ret [.tmp 4] rfl rfl (by simp only [EN, Nat.reduceEqDiff, reduceIte, resv, k0_f13, k1_f13, k5_f13, k6_f13, decide_true, Bool.not_true, Bool.not_false, decide_false, eq_self, if_true, if_false, Bool.or_true, Bool.and_true]; rfl) ?_  -- ret 2 r20
              exact ⟨rfl, hEs.trans hT6.E⟩
            ·
              try simp only [BD] at hct74
              have h9 : m = 256 := (by first | omega | (have h8 := hct74; simp at h8; omega))
              rw [if_pos h9, if_neg (by decide), h9] at hT6
              have hT := hT6
              refine hx_skip ?_
              refine th_norm ?_
              refine hx_seq ?_
              refine hx_fresh (fun eF21 hfcf21 => ?_)
              have k1_f21 := hfcf21 1 rfl; try simp only [EN, Nat.reduceEqDiff, reduceIte, k1_f13, decide_true, Bool.not_true, Bool.not_false, decide_false, eq_self, if_true, if_false, Bool.or_true, Bool.and_true] at k1_f21
              have k5_f21 := hfcf21 5 rfl; try simp only [EN, Nat.reduceEqDiff, reduceIte, k5_f13, decide_true, Bool.not_true, Bool.not_false, decide_false, eq_self, if_true, if_false, Bool.or_true, Bool.and_true] at k5_f21
              refine hx_region ?_
              refine WL.qq (by simp only [EN, Nat.reduceEqDiff, reduceIte, qv_move, k5_f21, decide_true, Bool.not_true, Bool.not_false, decide_false, eq_self, if_true, if_false, Bool.or_true, Bool.and_true]; rfl) ?_
              refine WL.qq (by simp only [EN, Nat.reduceEqDiff, reduceIte, qv_move, k1_f21, decide_true, Bool.not_true, Bool.not_false, decide_false, eq_self, if_true, if_false, Bool.or_true, Bool.and_true]; rfl) ?_
              refine WL.qq (by simp only [EN, Nat.reduceEqDiff, reduceIte, qv_convert, convv, Try.underlying5, Try.underlying3, decide_true, Bool.not_true, Bool.not_false, decide_false, eq_self, if_true, if_false, Bool.or_true, Bool.and_true]; (try simp (disch := omega) only [w64, w8, wu64]); rfl) ?_
              refine WL.cg Try.call14 (by simp only [EN, Nat.reduceEqDiff, reduceIte, AR, decide_true, Bool.not_true, Bool.not_false, decide_false, eq_self, if_true, if_false, Bool.or_true, Bool.and_true]; exact c_name r (by omega) _) ?_
              intro h5 hx5
              replace hT := hT.ext hx5
              refine WL.ce Try.call13 (by simp only [EN, Nat.reduceEqDiff, reduceIte, AR, decide_true, Bool.not_true, Bool.not_false, decide_false, eq_self, if_true, if_false, Bool.or_true, Bool.and_true]; exact tb_setM (nm r) (-1) hT (by have h8 := cnt_len (lsD r) []; have h7 := lsD_len r; simp only [List.length_nil] at h8; have e9 : setL (lsC 256) ⟨nm r, em⟩ (-1) = lsD r := if_pos (by omega); rw [e9]; omega) (cap_del (by omega))) ?_
              rintro _ h8 ⟨rfl, hT8⟩
              simp only [put_some]
              replace hT : TB hs h8 p (lsD r) [] := by rw [if_pos rfl, setL, if_pos (by omega)] at hT8; exact hT8
              refine WL.qq (by simp only [EN, Nat.reduceEqDiff, reduceIte, qv_binOp, binv_eql, eq26, Option.map_some, decide_true, Bool.not_true, Bool.not_false, decide_false, eq_self, if_true, if_false, Bool.or_true, Bool.and_true]; rfl) ?_
              refine WL.qq (by simp only [EN, Nat.reduceEqDiff, reduceIte, qv_move, decide_true, Bool.not_true, Bool.not_false, decide_false, eq_self, if_true, if_false, Bool.or_true, Bool.and_true]; rfl) ?_
              refine WL.cq (gd_at (t := 81) rfl (by simp only [EN, Nat.reduceEqDiff, reduceIte, k5_f21, decide_true, Bool.not_true, Bool.not_false, decide_false, eq_self, if_true, if_false, Bool.or_true, Bool.and_true] <;> rfl)) (fun hg21_7 => by simp only [EN, Nat.reduceEqDiff, reduceIte, qv_move, k5_f21, decide_true, Bool.not_true, Bool.not_false, decide_false, eq_self, if_true, if_false, Bool.or_true, Bool.and_true, hg21_7, GR]; rfl) ?_
              refine WL.cq (gd_at (t := 81) rfl (by simp only [EN, Nat.reduceEqDiff, reduceIte, k1_f21, decide_true, Bool.not_true, Bool.not_false, decide_false, eq_self, if_true, if_false, Bool.or_true, Bool.and_true] <;> rfl)) (fun hg21_8 => by simp only [EN, Nat.reduceEqDiff, reduceIte, qv_move, k1_f21, decide_true, Bool.not_true, Bool.not_false, decide_false, eq_self, if_true, if_false, Bool.or_true, Bool.and_true, hg21_8, GR]; rfl) ?_
              refine WL.cq (gd_at (t := 81) rfl (by simp only [EN, Nat.reduceEqDiff, reduceIte, decide_true, Bool.not_true, Bool.not_false, decide_false, eq_self, if_true, if_false, Bool.or_true, Bool.and_true] <;> rfl)) (fun hg21_9 => by have hq0 := hg21_9; (try simp only [BD] at hq0); simp only [EN, Nat.reduceEqDiff, reduceIte, qv_convert, convv, Try.underlying5, Try.underlying3, decide_true, Bool.not_true, Bool.not_false, decide_false, eq_self, if_true, if_false, Bool.or_true, Bool.and_true, hg21_9, GR]; (try simp (disch := omega) only [w64, w8, wu64]); rfl) ?_
              refine WL.cq (gd_at (t := 81) rfl (by simp only [EN, Nat.reduceEqDiff, reduceIte, decide_true, Bool.not_true, Bool.not_false, decide_false, eq_self, if_true, if_false, Bool.or_true, Bool.and_true] <;> rfl)) (fun hg21_10 => by simp only [EN, Nat.reduceEqDiff, reduceIte, k1_f21, k5_f21, decide_true, Bool.not_true, Bool.not_false, decide_false, eq_self, if_true, if_false, Bool.or_true, Bool.and_true, GR, hg21_10, qv_binOp]; rw [binv_rem (by decide), q2]) ?_
              refine WL.cq (gd_at (t := 81) rfl (by simp only [EN, Nat.reduceEqDiff, reduceIte, decide_true, Bool.not_true, Bool.not_false, decide_false, eq_self, if_true, if_false, Bool.or_true, Bool.and_true] <;> rfl)) (fun hg21_11 => by have hq0 := hg21_11; (try simp only [BD] at hq0); simp only [EN, Nat.reduceEqDiff, reduceIte, qv_binOp, binv_add, decide_true, Bool.not_true, Bool.not_false, decide_false, eq_self, if_true, if_false, Bool.or_true, Bool.and_true, hg21_11, GR]; (try simp (disch := omega) only [w64, w8, wu64]); rfl) ?_
              refine WL.ccg (gd_at (t := 81) rfl (by simp only [EN, Nat.reduceEqDiff, reduceIte, decide_true, Bool.not_true, Bool.not_false, decide_false, eq_self, if_true, if_false, Bool.or_true, Bool.and_true] <;> rfl)) Try.call14 (fun hg21_12 => by simp only [EN, Nat.reduceEqDiff, reduceIte, AR, decide_true, Bool.not_true, Bool.not_false, decide_false, eq_self, if_true, if_false, Bool.or_true, Bool.and_true, hg21_12, GR]; exact c_name (1 + r % 255) (by omega) _) ?_
              intro h6 hx6
              replace hT := hT.ext hx6
              refine WL.cq (gd_at (t := 81) rfl (by simp only [EN, Nat.reduceEqDiff, reduceIte, decide_true, Bool.not_true, Bool.not_false, decide_false, eq_self, if_true, if_false, Bool.or_true, Bool.and_true] <;> rfl)) (fun hg21_13 => by refine qv_bld (by simp only [EN, Nat.reduceEqDiff, reduceIte, AR, decide_true, Bool.not_true, Bool.not_false, decide_false, eq_self, if_true, if_false, Bool.or_true, Bool.and_true, hg21_13, GR] <;> rfl) (by rw [bl31]; simp [Instr.fill, Value.cells]; rfl)) ?_
              refine WL.gy _ (gd_at (t := 81) rfl (by simp only [EN, Nat.reduceEqDiff, reduceIte, k1_f21, k5_f21, decide_true, Bool.not_true, Bool.not_false, decide_false, eq_self, if_true, if_false, Bool.or_true, Bool.and_true] <;> rfl)) (e_lit1 (N := 0) (Nat.zero_le _) Try.underlying32 sz31 zr31 (by decide) (by simp only [EN, Nat.reduceEqDiff, reduceIte, k1_f21, k5_f21, decide_true, Bool.not_true, Bool.not_false, decide_false, eq_self, if_true, if_false, Bool.or_true, Bool.and_true, Value.cells]; rfl) rfl) ?_
              rintro _ h9 ⟨hx9, ⟨B9, _, rfl⟩, hm9⟩
              simp only [put_some]
              have hB9 := hm9 B9 rfl
              replace hx9 : Ext _ _ := hx9
              replace hT := hT.ext hx9
              have hcm3 := cnt_len (lsD r) (nsN (nm (1 + r % 255))); have hln3 := lsD_len r; simp only [List.length_cons, List.length_nil] at hcm3
              refine WL.gy _ (gd_at (t := 81) rfl (by simp only [EN, Nat.reduceEqDiff, reduceIte, decide_true, Bool.not_true, Bool.not_false, decide_false, eq_self, if_true, if_false, Bool.or_true, Bool.and_true] <;> rfl)) (e_call Try.call15 (by simp only [EN, Nat.reduceEqDiff, reduceIte, AR, decide_true, Bool.not_true, Bool.not_false, decide_false, eq_self, if_true, if_false, Bool.or_true, Bool.and_true]; exact tb_Record (some ⟨B9, 0, none⟩) [(⟨nw, nm (1 + r % 255)⟩, 1)] 1 (by simp) (by rw [aft_new (nm_nw _)]; omega) hT (slG_has (f := limL) (sz := 3) (L := [(⟨nw, nm (1 + r % 255)⟩, 1)]) (fun _ => rfl) hB9 rfl) (cap_last (by omega)))) ?_
              rintro _ h10 ⟨rfl, hT10⟩
              simp only [put_some]
              refine WL.cq (gd_at (t := 81) rfl (by simp only [EN, Nat.reduceEqDiff, reduceIte, k1_f21, decide_true, Bool.not_true, Bool.not_false, decide_false, eq_self, if_true, if_false, Bool.or_true, Bool.and_true] <;> rfl)) (fun hg21_16 => by simp only [EN, Nat.reduceEqDiff, reduceIte, qv_move, k1_f21, decide_true, Bool.not_true, Bool.not_false, decide_false, eq_self, if_true, if_false, Bool.or_true, Bool.and_true, hg21_16, GR]; rfl) ?_
              refine WL.cq (gd_at (t := 81) rfl (by simp only [EN, Nat.reduceEqDiff, reduceIte, decide_true, Bool.not_true, Bool.not_false, decide_false, eq_self, if_true, if_false, Bool.or_true, Bool.and_true] <;> rfl)) (fun hg21_17 => by have hq0 := hg21_17; (try simp only [BD] at hq0); simp only [EN, Nat.reduceEqDiff, reduceIte, qv_convert, convv, Try.underlying5, Try.underlying3, decide_true, Bool.not_true, Bool.not_false, decide_false, eq_self, if_true, if_false, Bool.or_true, Bool.and_true, hg21_17, GR]; (try simp (disch := omega) only [w64, w8, wu64]); rfl) ?_
              refine WL.cck (gd_at (t := 81) rfl (by simp only [EN, Nat.reduceEqDiff, reduceIte, decide_true, Bool.not_true, Bool.not_false, decide_false, eq_self, if_true, if_false, Bool.or_true, Bool.and_true] <;> rfl)) Try.call16 (fun hg21_18 => by simp only [EN, Nat.reduceEqDiff, reduceIte, AR, decide_true, Bool.not_true, Bool.not_false, decide_false, eq_self, if_true, if_false, Bool.or_true, Bool.and_true, hg21_18, GR]; exact c_rest r hr _) ?_
              refine WL.cq (gd_at (t := 81) rfl (by simp only [EN, Nat.reduceEqDiff, reduceIte, decide_true, Bool.not_true, Bool.not_false, decide_false, eq_self, if_true, if_false, Bool.or_true, Bool.and_true] <;> rfl)) (fun hg21_19 => by simp only [EN, Nat.reduceEqDiff, reduceIte, qv_binOp, binv_eql, eq26, Option.map_some, decide_true, Bool.not_true, Bool.not_false, decide_false, eq_self, if_true, if_false, Bool.or_true, Bool.and_true, hg21_19, GR]; rfl) ?_
              refine WL.qq (by simp only [EN, Nat.reduceEqDiff, reduceIte, qv_pick, pk_and, pk_or, GR, decide_true, Bool.not_true, Bool.not_false, decide_false, eq_self, if_true, if_false, Bool.or_true, Bool.and_true]; rfl) ?_
              refine WL.qq (by simp only [EN, Nat.reduceEqDiff, reduceIte, qv_assign, decide_true, Bool.not_true, Bool.not_false, decide_false, eq_self, if_true, if_false, Bool.or_true, Bool.and_true]; rfl) ?_
              refine WL.nil ?_
              refine th_norm ?_
              refine hx_ret ?_
              refine fin_ret [.tmp 4] rfl rfl (by simp only [EN, Nat.reduceEqDiff, reduceIte, resv, k1_f21, k5_f21, decide_true, Bool.not_true, Bool.not_false, decide_false, eq_self, if_true, if_false, Bool.or_true, Bool.and_true]; rfl) ?_  -- ret 3 r21
              exact ⟨by simp [retOf], hEs.trans hT10.E⟩
end GL


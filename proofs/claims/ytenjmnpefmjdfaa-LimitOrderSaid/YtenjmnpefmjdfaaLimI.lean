/- Limits: the statement on the capacity. -/
import Derived.Test.YtenjmnpefmjdfaaLimH
set_option linter.unusedSimpArgs false
set_option linter.unusedVariables false
set_option linter.unnecessarySimpa false
namespace GL
open Go Go.Proofs
set_option maxRecDepth 8000
/-! Names. -/
def nm (i : Nat) : ByteArray := ⟨#[77]⟩ ++ ⟨#[UInt8.ofNat (65 + i / 26 % 26), UInt8.ofNat (65 + i % 26)]⟩
theorem nm_data (i : Nat) : (nm i).data = #[77, UInt8.ofNat (65 + i / 26 % 26), UInt8.ofNat (65 + i % 26)] := by
  simp [nm, ByteArray.data_append]
theorem nm_inj {i j : Nat} (hi : i < 676) (hj : j < 676) (h : nm i = nm j) : i = j := by
  have h1 := congrArg ByteArray.data h
  rw [nm_data, nm_data] at h1
  simp only [Array.mk.injEq, List.cons.injEq, and_true, true_and] at h1
  have h2 := congrArg UInt8.toNat h1.1
  have h3 := congrArg UInt8.toNat h1.2
  simp only [UInt8.toNat_ofNat'] at h2 h3
  omega
abbrev nw : ByteArray := ⟨#[110, 101, 119]⟩
theorem nm_nw (i : Nat) : nm i ≠ nw := fun h => by
  have h1 := congrArg ByteArray.data h
  rw [nm_data] at h1
  simp at h1
theorem nm_em (i : Nat) : nm i ≠ em := fun h => by
  have h1 := congrArg ByteArray.data h
  rw [nm_data] at h1
  simp at h1
theorem binv_addS {P : Program} {t : TypeId} {a b : ByteArray} (hs : ((a.size + b.size : Nat) : Int) ≤ 9223372036854775807) : binv P .add t (.string a) (.string b) = some (.string (a ++ b)) := by
  simp only [binv, if_pos hs]
theorem c_name (i : Nat) (hi : i ≤ 1000) (h : Heap) : HCalls Try.prog 14 #[iV i] h (Grow (.string (nm i)) h) := by
  have q1 : ((i : Int)).tdiv 26 = ((i / 26 : Nat) : Int) := by rw [Int.tdiv_eq_ediv_of_nonneg (by omega)]; omega
  have q2 : ∀ m : Nat, ((m : Int)).tmod 26 = ((m % 26 : Nat) : Int) := fun m => by rw [Int.tmod_eq_emod_of_nonneg (by omega)]; omega
  refine hcalls2 Try.func14 rfl (by decide +kernel) (by simp only [Try.ntmps14]; exact of_decide_eq_true rfl) ?_
  intro e hin
  have e0 := hin 0 _ rfl
  refine hx_seq ?_
  refine hx_region ?_
  refine WL.qq (by simp only [EN, Nat.reduceEqDiff, reduceIte, qv_assign]; rfl) ?_
  refine WL.nil ?_
  refine th_norm ?_
  refine hx_seq ?_
  refine hx_region ?_
  refine WL.qq (by simp only [EN, Nat.reduceEqDiff, reduceIte, qv_move, e0]; rfl) ?_
  refine WL.qq (by simp only [EN, Nat.reduceEqDiff, reduceIte, e0, qv_binOp]; rw [binv_quo (by decide), q1, w64 (by omega) (by omega)]) ?_
  refine WL.qq (by simp only [EN, Nat.reduceEqDiff, reduceIte, e0, qv_binOp]; rw [binv_rem (by decide), q2]) ?_
  refine WL.qq (by simp only [EN, Nat.reduceEqDiff, reduceIte, qv_binOp, binv_add]; (try simp (disch := omega) only [w64, w8, wu64]); rfl) ?_
  refine WL.qq (by simp only [EN, Nat.reduceEqDiff, reduceIte, qv_convert, convv, Try.underlying3, Try.underlying5]; (try simp (disch := omega) only [w64, w8, wu64]); rfl) ?_
  refine WL.qq (by simp only [EN, Nat.reduceEqDiff, reduceIte, qv_move, e0]; rfl) ?_
  refine WL.qq (by simp only [EN, Nat.reduceEqDiff, reduceIte, e0, qv_binOp]; rw [binv_rem (by decide), q2]) ?_
  refine WL.qq (by simp only [EN, Nat.reduceEqDiff, reduceIte, qv_binOp, binv_add]; (try simp (disch := omega) only [w64, w8, wu64]); rfl) ?_
  refine WL.qq (by simp only [EN, Nat.reduceEqDiff, reduceIte, qv_convert, convv, Try.underlying3, Try.underlying5]; (try simp (disch := omega) only [w64, w8, wu64]); rfl) ?_
  refine WL.lit2 #[(.int .u8 0), (.int .u8 0)] Try.underlying77 sz5 zr5 (by decide) (by kernel_rfl) ⟨_, (by simp only [EN, Nat.reduceEqDiff, reduceIte, AR]; simp [Instr.fill, Value.cells]; rfl), rfl⟩ ?_
  intro h1 B1 hx1 hlt1 hB1
  refine WL.qq (by simp only [EN, Nat.reduceEqDiff, reduceIte, e0, hB1.cell, qv_convert, convv, Try.underlying77, Try.underlying9, Try.underlying5, GL.readN, hB1.cell]; rfl) ?_
  refine WL.qq (by simp only [EN, Nat.reduceEqDiff, reduceIte, e0, hB1.cell, qv_binOp]; exact binv_addS (by simp [ByteArray.size])) ?_
  refine WL.qq (by simp only [EN, Nat.reduceEqDiff, reduceIte, qv_assign, hB1.cell]; rfl) ?_
  refine WL.nil ?_
  refine th_norm ?_
  refine hx_ret ?_
  refine fin_ret [.tmp 2] rfl rfl (by simp only [EN, Nat.reduceEqDiff, reduceIte, resv, e0, hB1.cell]; rfl) ?_  -- ret 0 r1
  exact ⟨by simp only [retOf, nm]; rfl, (hx1)⟩
theorem c_rest (r : Nat) (hr : r ≤ 255) (h : Heap) : HCalls Try.prog 16 #[iV r] h (Pure (iV 0) h) := by
  have q2 : ((r : Int)).tmod 255 = ((r % 255 : Nat) : Int) := by rw [Int.tmod_eq_emod_of_nonneg (by omega)]; omega
  refine hcalls2 Try.func16 rfl (by decide +kernel) (by simp only [Try.ntmps16]; exact of_decide_eq_true rfl) ?_
  intro e hin
  have e0 := hin 0 _ rfl
  refine hx_seq ?_
  refine hx_region ?_
  refine WL.qq (by simp only [EN, Nat.reduceEqDiff, reduceIte, qv_assign]; rfl) ?_
  refine WL.nil ?_
  refine th_norm ?_
  refine hx_seq ?_
  refine hx_seq ?_
  refine hx_region ?_
  refine WL.qq (by simp only [EN, Nat.reduceEqDiff, reduceIte, qv_move, e0]; rfl) ?_
  refine WL.qq (by simp only [EN, Nat.reduceEqDiff, reduceIte, e0, qv_binOp]; rw [binv_rem (by decide), q2]) ?_
  refine WL.qq (by simp only [EN, Nat.reduceEqDiff, reduceIte, qv_binOp, binv_add]; (try simp (disch := omega) only [w64, w8, wu64]); rfl) ?_
  refine WL.qq (by simp only [EN, Nat.reduceEqDiff, reduceIte, qv_move, e0]; rfl) ?_
  refine WL.qq (by simp only [EN, Nat.reduceEqDiff, reduceIte, qv_binOp, binv_eql, eq3, Option.map_some]; rfl) ?_
  refine WL.nil ?_
  refine th_norm ?_
  refine hx_cond (by simp only [EN, Nat.reduceEqDiff, reduceIte]; rfl) (fun hct7 => ?_) (fun hct7 => ?_)
  ·
    exfalso; simp at hct7; omega
  ·
    try simp only [BD] at hct7
    refine hx_skip ?_
    refine th_norm ?_
    refine hx_seq ?_
    refine hx_region ?_
    refine WL.qq (by simp only [EN, Nat.reduceEqDiff, reduceIte, qv_assign]; rfl) ?_
    refine WL.nil ?_
    refine th_norm ?_
    refine hx_ret ?_
    refine fin_ret [.tmp 2] rfl rfl (by simp only [EN, Nat.reduceEqDiff, reduceIte, resv, e0]; rfl) ?_  -- ret 0 r3
    exact ⟨rfl, rfl⟩
/-! Counting. -/
theorem cnt_le {ls ns : List L2} {l : List ByteArray} (h : ∀ a, (a ∈ ments ls ∨ a ∈ ments ns) → a ∈ l) : cntM ls ns ≤ l.length :=
  List.Nodup.length_le_of_subset (nub_nd _) fun a ha => h a (by rw [mem_nub, List.mem_append] at ha; exact ha)
theorem cnt_ge {ls ns : List L2} {l : List ByteArray} (hn : l.Nodup) (h : ∀ a ∈ l, a ∈ ments ls ∨ a ∈ ments ns) : l.length ≤ cntM ls ns :=
  List.Nodup.length_le_of_subset hn fun a ha => by rw [mem_nub, List.mem_append]; exact h a ha
theorem ment_len (x : L2) : (ment x).length ≤ 2 := by unfold ment; split <;> simp
theorem ments_len : ∀ l : List L2, (ments l).length ≤ 2 * l.length
  | [] => by simp [ments]
  | x :: l => by
    have h1 := ments_len l
    have h2 := ment_len x
    unfold ments at *
    rw [List.flatMap_cons, List.length_append, List.length_cons]
    omega
theorem cnt_len (ls ns : List L2) : cntM ls ns ≤ 2 * (ls.length + ns.length) := by
  have h1 := cnt_le (ls := ls) (ns := ns) (l := ments ls ++ ments ns) (fun a h => List.mem_append.2 h)
  have h2 := ments_len ls
  have h3 := ments_len ns
  rw [List.length_append] at h1
  omega
/-- The table behind n settings. -/
def lsC (n : Nat) : List L2 := (List.range n).map fun j => (⟨nm j, em⟩, 5)
theorem lsC_mem {n : Nat} {x : L2} : x ∈ lsC n ↔ ∃ j, j < n ∧ x = (⟨nm j, em⟩, 5) := by
  simp only [lsC, List.mem_map, List.mem_range]
  exact ⟨fun ⟨j, h1, h2⟩ => ⟨j, h1, h2.symm⟩, fun ⟨j, h1, h2⟩ => ⟨j, h1, h2.symm⟩⟩
theorem lsC_ment {n : Nat} {a : ByteArray} : a ∈ ments (lsC n) ↔ ∃ j, j < n ∧ a = nm j := by
  rw [mem_ments]
  constructor
  · rintro ⟨x, hx, h⟩
    obtain ⟨j, hj, rfl⟩ := lsC_mem.1 hx
    rcases h with h | ⟨h, _⟩
    · exact ⟨j, hj, h⟩
    · exact absurd rfl h
  · rintro ⟨j, hj, rfl⟩
    exact ⟨_, lsC_mem.2 ⟨j, hj, rfl⟩, .inl rfl⟩
theorem lsC_len (n : Nat) : (lsC n).length = n := by simp [lsC]
theorem lsC_no {n i : Nat} (hn : n ≤ i) (hi : i < 676) : ∀ p ∈ lsC n, p.1 ≠ (⟨nm i, em⟩ : PK) := by
  intro p hp hh
  obtain ⟨j, hj, rfl⟩ := lsC_mem.1 hp
  have := nm_inj (by omega) hi (congrArg PK.f hh)
  omega
theorem range_nd {n : Nat} (hn : n ≤ 676) : ((List.range n).map nm).Nodup := by
  rw [List.nodup_iff_pairwise_ne, List.pairwise_map]
  refine (List.nodup_range (n := n)).imp_of_mem ?_
  intro a b ha hb hne hh
  rw [List.mem_range] at ha hb
  exact hne (nm_inj (by omega) (by omega) hh)
theorem cap_set {i : Nat} (hi : i < 300) : ∃ r, setME (lsC (min i 256)) [] (nm i) 5 = r ∧ (r = if i < 256 then 0 else 8) ∧ (if r = 0 then setL (lsC (min i 256)) ⟨nm i, em⟩ 5 else lsC (min i 256)) = lsC (min (i + 1) 256) := by
  by_cases h : i < 256
  · have e1 : min i 256 = i := by omega
    have e2 : min (i + 1) 256 = i + 1 := by omega
    have e3 : setL (lsC i) ⟨nm i, em⟩ 5 = lsC (i + 1) := by
      unfold setL
      rw [if_neg (by omega), mset_no (lsC_no (Nat.le_refl _) (by omega))]
      simp [lsC, List.range_succ]
    refine ⟨0, ?_, by rw [if_pos h], by rw [if_pos rfl, e1, e2, e3]⟩
    unfold setME setE
    rw [if_neg (nm_em i), if_neg (by omega), e1, e3, if_neg]
    have := cnt_le (ls := lsC (i + 1)) (ns := []) (l := (List.range (i + 1)).map nm) (fun a ha => by
      rcases ha with ha | ha
      · obtain ⟨j, hj, rfl⟩ := lsC_ment.1 ha
        exact List.mem_map.2 ⟨j, by simpa using hj, rfl⟩
      · simp [ments] at ha)
    simp only [List.length_map, List.length_range] at this
    omega
  · have e1 : min i 256 = 256 := by omega
    have e2 : min (i + 1) 256 = 256 := by omega
    have e3 : setL (lsC 256) ⟨nm i, em⟩ 5 = lsC 256 ++ [(⟨nm i, em⟩, 5)] := by
      unfold setL
      rw [if_neg (by omega), mset_no (lsC_no (by omega) (by omega))]
    refine ⟨8, ?_, by rw [if_neg h], by rw [if_neg (by decide), e1, e2]⟩
    unfold setME setE
    rw [if_neg (nm_em i), if_neg (by omega), e1, e3, if_pos]
    have := cnt_ge (ls := lsC 256 ++ [(⟨nm i, em⟩, 5)]) (ns := []) (l := (List.range 256).map nm ++ [nm i]) (by
      rw [List.nodup_append]
      refine ⟨range_nd (by omega), by simp, ?_⟩
      intro a ha b hb hab
      simp only [List.mem_singleton] at hb
      obtain ⟨j, hj, rfl⟩ := List.mem_map.1 ha
      rw [List.mem_range] at hj
      have := nm_inj (by omega) (by omega) (hab.trans hb)
      omega) (fun a ha => by
      left
      rw [mem_ments]
      rcases List.mem_append.1 ha with ha | ha
      · obtain ⟨j, hj, rfl⟩ := List.mem_map.1 ha
        exact ⟨_, List.mem_append_left _ (lsC_mem.2 ⟨j, by simpa using hj, rfl⟩), .inl rfl⟩
      · simp only [List.mem_singleton] at ha
        exact ⟨_, List.mem_append_right _ (List.mem_singleton.2 rfl), .inl ha⟩)
    simp only [List.length_append, List.length_map, List.length_range, List.length_cons, List.length_nil] at this
    omega
/-- One new payer: its net amounts. -/
abbrev nsN (t : ByteArray) : List L2 := [(⟨nw, t⟩, 1), (⟨t, nw⟩, -1)]
theorem aft_new {t : ByteArray} (ht : t ≠ nw) : aftS [] [(⟨nw, t⟩, 1)] = nsN t := by
  have h1 : (⟨nw, t⟩ : PK) ≠ ⟨t, nw⟩ := fun hh => ht (congrArg PK.t hh)
  have h2 : IntKind.i64.wrap (0 + 1) = 1 := by decide +kernel
  have h3 : IntKind.i64.wrap (0 - 1) = -1 := by decide +kernel
  have h4 : stF [] ((⟨nw, t⟩ : PK), (1 : Int)) = nsN t := by
    unfold stF
    simp only [lk_nil, swp, h2, mset, lk_cons, if_neg h1, h3]
  show (stF [] ((⟨nw, t⟩ : PK), (1 : Int))).filter nz = nsN t
  rw [h4]
  simp [nz]
theorem outW_new {t x : ByteArray} (ht : t ≠ nw) (hx : x ≠ nw) : outW (nsN t) x = 0 ∨ outW (nsN t) x = -1 := by
  have h3 : IntKind.i64.wrap (-1) = -1 := by decide +kernel
  have h4 : IntKind.i64.wrap 0 = 0 := by decide +kernel
  unfold outW
  simp only [sumF, outV]
  rw [if_neg (fun hh => hx hh.symm)]
  by_cases h : t = x
  · right; rw [if_pos h]; exact h3
  · left; rw [if_neg h]; exact h4
theorem chk_new {ls : List L2} {t : ByteArray} (h1 : ∀ x ∈ ls, x.1.t = em) (h2 : ∀ x ∈ ls, x.1.f ≠ nw) (h3 : ∀ x ∈ ls, x.2 = 5) (ht : t ≠ nw) (hte : t ≠ em) :
    chkS ls [] [(⟨nw, t⟩, 1)] = if 256 < cntM ls (nsN t) then 8 else 0 := by
  have hv : valE [((⟨nw, t⟩ : PK), (1 : Int))] = 0 := by
    have hne : ¬ nw = em := by decide
    unfold valE
    rw [if_neg (by simp)]
    simp only [valL]
    rw [if_neg (fun hh => hh.elim hne hte), if_neg (fun hh => ht hh.symm), if_neg (by omega)]
  have ho : ∀ a, outW (nsN t) a = 0 ∨ outW (nsN t) a = -1 ∨ outW (nsN t) a = 1 := by
    intro a
    by_cases ha : a = nw
    · right; right
      have h5 : IntKind.i64.wrap 1 = 1 := by decide +kernel
      unfold outW
      simp only [sumF, outV]
      rw [if_pos ha.symm, if_neg (fun hh => ht (hh.trans ha))]
      exact h5
    · rcases outW_new ht ha with h | h
      · exact .inl h
      · exact .inr (.inl h)
  unfold chkS
  rw [aft_new ht, if_neg (by rw [hv]; simp)]
  split
  · rfl
  · rw [if_neg, if_neg, if_neg, if_neg]
    · rintro ⟨x, hx, h5, h6⟩
      have h7 : outW [] x.1.f = 0 := by show IntKind.i64.wrap 0 = 0; decide +kernel
      rw [h7] at h6
      simp only [excd, Bool.and_eq_true, decide_eq_true_eq] at h6
      rcases outW_new ht (h2 x hx) with h8 | h8 <;> omega
    · rintro ⟨x, hx, h5, _⟩
      exact h5 (h1 x hx)
    · intro hh
      exact hh fun x hx => by rcases ho x.1.f with h | h | h <;> rw [h] <;> decide
    · intro hh
      exact hh fun x hx => by simp only [List.mem_cons, List.not_mem_nil, or_false] at hx; rcases hx with rfl | rfl <;> first | (show wthn 1 = true; decide) | (show wthn (-1) = true; decide)
theorem cap_rec {m : Nat} (hm : m ≤ 256) : chkS (lsC m) [] [(⟨nw, nm 0⟩, 1)] = if m = 256 then 8 else 0 := by
  rw [chk_new (fun x hx => by obtain ⟨j, _, rfl⟩ := lsC_mem.1 hx; rfl) (fun x hx => by obtain ⟨j, _, rfl⟩ := lsC_mem.1 hx; exact nm_nw j) (fun x hx => by obtain ⟨j, _, rfl⟩ := lsC_mem.1 hx; rfl) (nm_nw 0) (nm_em 0)]
  have h1 := cnt_le (ls := lsC m) (ns := nsN (nm 0)) (l := nw :: nm 0 :: (List.range m).map nm) (fun a ha => by
    rcases ha with ha | ha
    · obtain ⟨j, hj, rfl⟩ := lsC_ment.1 ha
      exact List.mem_cons_of_mem _ (List.mem_cons_of_mem _ (List.mem_map.2 ⟨j, by simpa using hj, rfl⟩))
    · obtain ⟨x, hx, h⟩ := mem_ments.1 ha
      simp only [List.mem_cons, List.not_mem_nil, or_false] at hx
      rcases hx with rfl | rfl <;> rcases h with h | ⟨_, h⟩ <;> simp [h])
  by_cases h0 : 1 ≤ m
  · have h2 := cnt_le (ls := lsC m) (ns := nsN (nm 0)) (l := nw :: (List.range m).map nm) (fun a ha => by
      rcases ha with ha | ha
      · obtain ⟨j, hj, rfl⟩ := lsC_ment.1 ha
        exact List.mem_cons_of_mem _ (List.mem_map.2 ⟨j, by simpa using hj, rfl⟩)
      · have h9 : nm 0 ∈ (List.range m).map nm := List.mem_map.2 ⟨0, by simp; omega, rfl⟩
        obtain ⟨x, hx, h⟩ := mem_ments.1 ha
        simp only [List.mem_cons, List.not_mem_nil, or_false] at hx
        rcases hx with rfl | rfl <;> rcases h with h | ⟨_, h⟩ <;> subst h <;> first | exact List.mem_cons_self | exact List.mem_cons_of_mem _ h9)
    have h3 := cnt_ge (ls := lsC m) (ns := nsN (nm 0)) (l := nw :: (List.range m).map nm) (by
      rw [List.nodup_cons]
      refine ⟨fun hh => ?_, range_nd (by omega)⟩
      obtain ⟨j, _, h⟩ := List.mem_map.1 hh
      exact nm_nw j h) (fun a ha => by
      rcases List.mem_cons.1 ha with rfl | ha
      · exact .inr (mem_ments.2 ⟨(⟨nw, nm 0⟩, 1), by simp, .inl rfl⟩)
      · obtain ⟨j, hj, rfl⟩ := List.mem_map.1 ha
        exact .inl (lsC_ment.2 ⟨j, by simpa using hj, rfl⟩))
    simp only [List.length_cons, List.length_map, List.length_range] at h2 h3
    by_cases h4 : m = 256
    · rw [if_pos h4, if_pos (by omega)]
    · rw [if_neg h4, if_neg (by omega)]
  · simp only [List.length_cons, List.length_map, List.length_range] at h1
    rw [if_neg (by omega), if_neg (by omega)]
/-- One limit is taken away. -/
abbrev lsD (r : Nat) : List L2 := mdel (lsC 256) ⟨nm r, em⟩
theorem lsD_mem {r : Nat} (hr : r < 256) {x : L2} (hx : x ∈ lsD r) : ∃ j, j < 256 ∧ j ≠ r ∧ x = (⟨nm j, em⟩, 5) := by
  obtain ⟨h1, h2⟩ := List.mem_filter.1 hx
  obtain ⟨j, hj, rfl⟩ := lsC_mem.1 h1
  refine ⟨j, hj, fun hh => ?_, rfl⟩
  subst hh
  simp at h2
theorem lsD_ment {r : Nat} (hr : r < 256) {a : ByteArray} (ha : a ∈ ments (lsD r)) : a ∈ ((List.range 256).erase r).map nm := by
  obtain ⟨x, hx, h⟩ := mem_ments.1 ha
  obtain ⟨j, hj, hne, rfl⟩ := lsD_mem hr hx
  rcases h with h | ⟨h, _⟩
  · exact List.mem_map.2 ⟨j, (List.mem_erase_of_ne hne).2 (by simpa using hj), h.symm⟩
  · exact absurd rfl h
theorem erase_len {r : Nat} (hr : r < 256) : ((List.range 256).erase r).length = 255 := by
  rw [List.length_erase_of_mem (by simpa using hr)]; simp
theorem cap_del {r : Nat} (hr : r < 256) : setME (lsC 256) [] (nm r) (-1) = 0 := by
  have e : setL (lsC 256) ⟨nm r, em⟩ (-1) = lsD r := if_pos (by omega)
  unfold setME setE
  rw [if_neg (nm_em r), if_neg (by omega), e, if_neg]
  have := cnt_le (ls := lsD r) (ns := []) (l := ((List.range 256).erase r).map nm) (fun a ha => by
    rcases ha with ha | ha
    · exact lsD_ment hr ha
    · simp [ments] at ha)
  rw [List.length_map, erase_len hr] at this
  omega
theorem cap_last {r : Nat} (hr : r < 256) : chkS (lsD r) [] [(⟨nw, nm (1 + r % 255)⟩, 1)] = 0 := by
  have hj : 1 + r % 255 < 256 ∧ 1 + r % 255 ≠ r := by omega
  rw [chk_new (fun x hx => by obtain ⟨j, _, _, rfl⟩ := lsD_mem hr hx; rfl) (fun x hx => by obtain ⟨j, _, _, rfl⟩ := lsD_mem hr hx; exact nm_nw j) (fun x hx => by obtain ⟨j, _, _, rfl⟩ := lsD_mem hr hx; rfl) (nm_nw _) (nm_em _), if_neg]
  have h2 := cnt_le (ls := lsD r) (ns := nsN (nm (1 + r % 255))) (l := nw :: ((List.range 256).erase r).map nm) (fun a ha => by
    rcases ha with ha | ha
    · exact List.mem_cons_of_mem _ (lsD_ment hr ha)
    · have h9 : nm (1 + r % 255) ∈ ((List.range 256).erase r).map nm := List.mem_map.2 ⟨_, (List.mem_erase_of_ne hj.2).2 (by simpa using hj.1), rfl⟩
      obtain ⟨x, hx, h⟩ := mem_ments.1 ha
      simp only [List.mem_cons, List.not_mem_nil, or_false] at hx
      rcases hx with rfl | rfl <;> rcases h with h | ⟨_, h⟩ <;> subst h <;> first | exact List.mem_cons_self | exact List.mem_cons_of_mem _ h9)
  rw [List.length_cons, List.length_map, erase_len hr] at h2
  omega
theorem lsD_len (r : Nat) : (lsD r).length ≤ 256 := Nat.le_trans (List.length_filter_le _ _) (by rw [lsC_len]; exact Nat.le_refl _)
theorem setL_len (ls : List L2) (k : PK) (a : Int) : (setL ls k a).length ≤ ls.length + 1 := by
  unfold setL
  split
  · exact Nat.le_trans (List.length_filter_le _ _) (Nat.le_succ _)
  · exact mset_len _ _ _
end GL


/- Session: the reference's Missing; both receivers agree. -/
import Derived.Test.YtmlhncifcaicpaaSesG
set_option linter.unusedSimpArgs false
set_option linter.unusedVariables false
set_option linter.unnecessarySimpa false
namespace GL
open Go Go.Proofs
set_option maxRecDepth 8000
def mostF (l : List M2) : Int := l.foldl (fun m x => if m < x.1 then x.1 else m) 0
theorem mostF_step {l : List M2} {i : Nat} {x : M2} (hx : l[i]? = some x) : mostF (l.take (i + 1)) = if mostF (l.take i) < x.1 then x.1 else mostF (l.take i) := by
  unfold mostF
  rw [List.take_add_one, hx, List.foldl_append]; rfl
theorem mostG : ∀ (l : List M2) (m : Int), (∀ x ∈ l, x.1 ≤ l.foldl (fun m x => if m < x.1 then x.1 else m) m) ∧ m ≤ l.foldl (fun m x => if m < x.1 then x.1 else m) m ∧ (l.foldl (fun m x => if m < x.1 then x.1 else m) m = m ∨ ∃ x ∈ l, x.1 = l.foldl (fun m x => if m < x.1 then x.1 else m) m)
  | [], m => ⟨(fun x hx => by cases hx), Int.le_refl _, .inl rfl⟩
  | y :: l, m => by
    obtain ⟨h1, h2, h3⟩ := mostG l (if m < y.1 then y.1 else m)
    rw [List.foldl_cons]
    refine ⟨fun x hx => ?_, ?_, ?_⟩
    · rcases List.mem_cons.1 hx with rfl | hx
      · refine Int.le_trans ?_ h2
        split <;> omega
      · exact h1 x hx
    · refine Int.le_trans ?_ h2
      split <;> omega
    · rcases h3 with h3 | ⟨x, hx, h3⟩
      · rw [h3]
        by_cases h : m < y.1
        · rw [if_pos h]; exact .inr ⟨y, by simp, rfl⟩
        · rw [if_neg h]; exact .inl rfl
      · exact .inr ⟨x, by simp [hx], h3⟩
theorem mostK_mem : ∀ (k : Int) (ks : List Int), (k :: ks).Pairwise (· < ·) → mostK (k :: ks) ∈ k :: ks ∧ ∀ y ∈ k :: ks, y ≤ mostK (k :: ks)
  | k, [], _ => ⟨by simp [mostK], fun y hy => by simp at hy; subst hy; exact Int.le_refl _⟩
  | k, k2 :: ks, h => by
    have h' := List.pairwise_cons.1 h
    obtain ⟨h1, h2⟩ := mostK_mem k2 ks h'.2
    refine ⟨List.mem_cons_of_mem _ h1, fun y hy => ?_⟩
    show y ≤ mostK (k2 :: ks)
    rcases List.mem_cons.1 hy with rfl | hy
    · have := h'.1 _ h1; omega
    · exact h2 y hy
theorem srt_lt {l : List Int} (hn : l.Nodup) : (srt l).Pairwise (· < ·) := by
  have h1 := srt_pair l
  have h2 : (srt l).Nodup := (srt_perm l).nodup_iff.2 hn
  rw [List.nodup_iff_pairwise_ne] at h2
  exact (h1.and h2).imp (fun h => by omega)
theorem look_iff {bf : List M2} {y : Int} : (bf.lookup y).isSome = true ↔ y ∈ bf.map Prod.fst := isSome_iff
theorem RG.most {w n : Int} {bf : List M2} (h : RG w n bf) : mostF bf ≤ n + w - 1 ∧ mostF bf ≤ 1000000000 ∧ 0 ≤ mostF bf := by
  obtain ⟨h1, h2, h3⟩ := mostG bf 0
  have hw := h.w1; have hn := h.n1
  rcases h3 with h3 | ⟨x, hx, h3⟩
  · unfold mostF; rw [h3]; omega
  · have := h.hi x hx; have := h.mx x hx
    unfold mostF; omega
theorem miss_eq {w n : Int} {bf : List M2} (h : RG w n bf) : scan bf (mostF bf - n).toNat n [] = gapsK n (srt (bf.map Prod.fst)) := by
  obtain ⟨h1, h2, h3⟩ := mostG bf 0
  have hn := h.n1
  cases hk : srt (bf.map Prod.fst) with
  | nil =>
    have hl : bf = [] := by
      have := (srt_perm (bf.map Prod.fst)).length_eq
      rw [hk, List.length_map] at this
      exact List.length_eq_zero_iff.1 this.symm
    subst hl
    have : (mostF [] - n).toNat = 0 := by unfold mostF; simp; omega
    rw [this]; rfl
  | cons k ks =>
    have hp := srt_lt h.nd
    rw [hk] at hp
    have hmem : ∀ y, y ∈ k :: ks ↔ y ∈ bf.map Prod.fst := fun y => by rw [← hk]; exact (srt_perm _).mem_iff
    obtain ⟨m1, m2⟩ := mostK_mem k ks hp
    have hne : mostF bf = mostK (k :: ks) := by
      obtain ⟨x, hx, hxm⟩ := List.mem_map.1 ((hmem _).1 m1)
      have e1 : mostK (k :: ks) ≤ mostF bf := by rw [← hxm]; exact h1 x hx
      rcases h3 with h3 | ⟨z, hz, h3⟩
      · have := h.ge x hx
        unfold mostF at e1 ⊢
        omega
      · have e2 := m2 z.1 ((hmem _).2 (List.mem_map_of_mem hz))
        unfold mostF at e1 ⊢
        omega
    rw [hne]
    have := gaps_scan (bf := bf) (k :: ks) n [] hp (fun y hy => by obtain ⟨x, hx, rfl⟩ := List.mem_map.1 ((hmem _).1 hy); exact h.ge x hx) (fun y _ => by rw [look_iff, hmem]) (fun g hg => by simp at hg) (by simp)
    rw [this]; rfl
theorem rst_len (bf : List M2) (out : List G2) (x : Int) : (rst bf out x).length ≤ out.length + 1 := by
  unfold rst
  split
  · omega
  · split
    · split
      · simp only [List.length_append, List.length_dropLast, List.length_singleton]; omega
      · simp
    · simp
theorem scan_len (bf : List M2) (x : Int) (out : List G2) : ∀ k, (scan bf k x out).length ≤ out.length + k
  | 0 => Nat.le_refl _
  | k + 1 => by
    have h1 := scan_len bf x out k
    have h2 := rst_len bf (scan bf k x out) (x + k)
    show (rst bf (scan bf k x out) (x + k)).length ≤ _
    omega
theorem last_at {α : Type} {l : List α} {g : α} (h : l.getLast? = some g) : l[l.length - 1]? = some g := by rw [← List.getLast?_eq_getElem?]; exact h
theorem set_last {α : Type} : ∀ {l : List α} {g : α} (y : α), l.getLast? = some g → l.set (l.length - 1) y = l.dropLast ++ [y]
  | [], g, y, h => by simp at h
  | [a], g, y, h => rfl
  | a :: b :: l, g, y, h => by
    have h' : (b :: l).getLast? = some g := by rw [← h]; simp [List.getLast?_cons_cons]
    have := set_last (l := b :: l) y h'
    simp only [List.length_cons, Nat.add_sub_cancel] at this ⊢
    simp only [List.set_cons_succ, List.dropLast_cons_cons, List.cons_append]
    rw [this]
theorem last_ex {O : List G2} {a5 : Option Addr} {c5 N M : Nat} (hb : ∀ x, a5 = some x → ∃ g, x = ⟨g, 0, none⟩ ∧ N ≤ g ∧ g < M) (hn : a5 = none → c5 = 0) (hc : O.length ≤ c5) : ∃ (g5 : Nat) (gl : G2), 0 < O.length → a5 = some ⟨g5, 0, none⟩ ∧ O.getLast? = some gl := by
  by_cases h : 0 < O.length
  · cases ha : a5 with
    | none => have := hn ha; omega
    | some x =>
      obtain ⟨g, rfl, _⟩ := hb x ha
      cases hg : O.getLast? with
      | none => rw [List.getLast?_eq_none_iff] at hg; subst hg; simp at h
      | some gl => exact ⟨g, gl, fun _ => ⟨rfl, rfl⟩⟩
  · exact ⟨0, (0, 0), fun hh => absurd hh h⟩
theorem rst_no {bf : List M2} {O : List G2} {x : Int} {gl : G2} (h : ¬ (bf.lookup x).isSome = true) (hg : 0 < O.length → O.getLast? = some gl) : rst bf O x = if 0 < O.length ∧ gl.2 = x - 1 then O.dropLast ++ [(gl.1, x)] else O ++ [(x, x)] := by
  unfold rst
  rw [if_neg h]
  by_cases h0 : 0 < O.length
  · rw [hg h0]
    by_cases h1 : gl.2 = x - 1
    · rw [if_pos ⟨h0, h1⟩]; simp [h1]
    · rw [if_neg (fun hh => h1 hh.2)]; simp [h1]
  · have : O = [] := List.length_eq_zero_iff.1 (by omega)
    subst this
    rw [if_neg (fun hh => h0 hh.1)]; rfl
set_option maxHeartbeats 1000000 in
theorem c_rMissing {h : Heap} {w n : Int} {bf : List M2} (ar : Option Addr) (cr : Nat) (hG : RG w n bf) (hs : SlR 46 2 msgL h ar bf) :
    HCalls Try.prog 48 #[rrV w n ar bf.length cr] h fun v h' => Ext h h' ∧ ∃ a cap, v = .slice a (gapsK n (srt (bf.map Prod.fst))).length cap ∧ SlG 2 gapL h' a (gapsK n (srt (bf.map Prod.fst))) := by
  have hn1 := hG.n1; have hn2 := hG.n2; have hw1 := hG.w1; have hw2 := hG.w2; have hgl := hG.len
  obtain ⟨hm1, hm2, hm3⟩ := hG.most
  rw [← miss_eq hG]
  refine hcalls2 Try.func48 rfl (by decide +kernel) (by simp only [Try.ntmps48]; exact of_decide_eq_true rfl) ?_
  intro e hin
  have e0 := hin 0 _ rfl
  have ks := hs
  refine hx_seq ?_
  refine hx_region ?_
  refine WL.box2 (by simp only [EN, Nat.reduceEqDiff, reduceIte, Value.cells, e0]; rfl) ?_
  intro h1 B1 hx1 hlt1 hB1
  replace hs := hs.ext hx1
  refine WL.qq (by simp only [EN, Nat.reduceEqDiff, reduceIte, qv_assign, hB1.cell]; rfl) ?_
  refine WL.nil ?_
  refine th_norm ?_
  refine hx_seq ?_
  refine hx_region ?_
  refine WL.qq (by simp only [EN, Nat.reduceEqDiff, reduceIte, qv_assign, hB1.cell]; rfl) ?_
  refine WL.nil ?_
  refine th_norm ?_
  refine hx_seq ?_
  refine hx_seq ?_
  refine hx_region ?_
  refine WL.qq (by simp only [EN, Nat.reduceEqDiff, reduceIte, qv_assign, hB1.cell]; rfl) ?_
  refine WL.nil ?_
  refine th_norm ?_
  refine hx_block ?_
  refine hx_loopS [3, 4, 8, 9, 10, 11, 12, 13, 14, 15, 16, 17, 18, 19, 20, 21, 22, 23, 24, 25, 26, 27, 28] (fun k e => ∃ (i : Nat), bf.length - i = k ∧ (i ≤ bf.length) ∧ e 4 = .int .i64 i ∧ e 3 = iV (mostF (bf.take i))) _ ⟨0, rfl, ?_, ?_, ?_⟩ ?_
  · omega
  · simp only [EN, Nat.reduceEqDiff, reduceIte, e0, hB1.cell] <;> rfl
  · simp only [EN, Nat.reduceEqDiff, reduceIte, e0, hB1.cell] <;> rfl
  ·
    rintro k e0L hfr0 ⟨i, rfl, hi, i4_0, i3_0⟩
    have k1_0 := hfr0 1 rfl; try simp only [EN, Nat.reduceEqDiff, reduceIte, hB1.cell] at k1_0
    refine hx_seq ?_
    refine hx_seq ?_
    refine hx_region ?_
    refine WL.qq (by simp only [EN, Nat.reduceEqDiff, reduceIte, qv_move, i4_0, hB1.cell]; rfl) ?_
    refine WL.qq (by simp only [EN, Nat.reduceEqDiff, reduceIte, qv_fieldAddr, fa27_2, Nat.zero_add, Nat.reduceAdd, k1_0, hB1.cell]; rfl) ?_
    refine WL.qq (by simp only [EN, Nat.reduceEqDiff, reduceIte, qv_load, ld22, readN, AR, Nat.zero_add, Nat.reduceAdd, hB1.cell]; rfl) ?_
    refine WL.qq (by simp only [EN, Nat.reduceEqDiff, reduceIte, qv_len, ln22, AR, hB1.cell]; rfl) ?_
    refine WL.qq (by simp only [EN, Nat.reduceEqDiff, reduceIte, qv_binOp, binv_lss, hB1.cell]; rfl) ?_
    refine WL.nil ?_
    refine th_norm ?_
    refine hx_cond (by simp only [EN, Nat.reduceEqDiff, reduceIte, hB1.cell]; rfl) (fun hct12 => ?_) (fun hct12 => ?_)
    ·
      try simp only [BD] at hct12
      obtain ⟨x, hx⟩ := atG (l := bf) (i := i) (by omega)
      obtain ⟨b, off, rfl, hr2, hc0, hc1⟩ := msg_rd hs.rd hx
      have hms := mostF_step hx
      refine hx_skip ?_
      refine th_norm ?_
      refine hx_seq ?_
      refine hx_block ?_
      refine hx_seq ?_
      refine hx_region ?_
      refine WL.qq (by simp only [EN, Nat.reduceEqDiff, reduceIte, qv_fieldAddr, fa27_2, Nat.zero_add, Nat.reduceAdd, k1_0, hB1.cell]; rfl) ?_
      refine WL.qq (by simp only [EN, Nat.reduceEqDiff, reduceIte, qv_load, ld22, readN, AR, Nat.zero_add, Nat.reduceAdd, hB1.cell]; rfl) ?_
      refine WL.qq (by simp only [EN, Nat.reduceEqDiff, reduceIte, qv_move, i4_0, hB1.cell]; rfl) ?_
      refine WL.qq (by simp only [EN, Nat.reduceEqDiff, reduceIte, qv_indexAddr, hB1.cell]; (try simp (disch := omega) only [ix22, Int.toNat_natCast]); rfl) ?_
      refine WL.qq (by simp only [EN, Nat.reduceEqDiff, reduceIte, qv_fieldAddr, fa46_0, Nat.zero_add, Nat.reduceAdd, hB1.cell]; rfl) ?_
      refine WL.qq (by simp only [EN, Nat.reduceEqDiff, reduceIte, k1_0, i4_0, i3_0, hB1.cell, qv_load, ld3, Int.toNat_natCast, Nat.add_zero, hc0]; rfl) ?_
      refine WL.qq (by simp only [EN, Nat.reduceEqDiff, reduceIte, qv_move, i3_0, hB1.cell]; rfl) ?_
      refine WL.qq (by simp only [EN, Nat.reduceEqDiff, reduceIte, qv_binOp, binv_gtr, hB1.cell]; rfl) ?_
      refine WL.nil ?_
      refine th_norm ?_
      refine hx_cond (by simp only [EN, Nat.reduceEqDiff, reduceIte, hB1.cell]; rfl) (fun hct22 => ?_) (fun hct22 => ?_)
      ·
        try simp only [BD] at hct22
        refine hx_region ?_
        refine WL.qq (by simp only [EN, Nat.reduceEqDiff, reduceIte, qv_fieldAddr, fa27_2, Nat.zero_add, Nat.reduceAdd, k1_0, hB1.cell]; rfl) ?_
        refine WL.qq (by simp only [EN, Nat.reduceEqDiff, reduceIte, qv_load, ld22, readN, AR, Nat.zero_add, Nat.reduceAdd, hB1.cell]; rfl) ?_
        refine WL.qq (by simp only [EN, Nat.reduceEqDiff, reduceIte, qv_move, i4_0, hB1.cell]; rfl) ?_
        refine WL.qq (by simp only [EN, Nat.reduceEqDiff, reduceIte, qv_indexAddr, hB1.cell]; (try simp (disch := omega) only [ix22, Int.toNat_natCast]); rfl) ?_
        refine WL.qq (by simp only [EN, Nat.reduceEqDiff, reduceIte, qv_fieldAddr, fa46_0, Nat.zero_add, Nat.reduceAdd, hB1.cell]; rfl) ?_
        refine WL.qq (by simp only [EN, Nat.reduceEqDiff, reduceIte, k1_0, i4_0, i3_0, hB1.cell, qv_load, ld3, Int.toNat_natCast, Nat.add_zero, hc0]; rfl) ?_
        refine WL.qq (by simp only [EN, Nat.reduceEqDiff, reduceIte, qv_assign, hB1.cell]; rfl) ?_
        refine WL.nil ?_
        refine bl_norm ?_
        refine th_norm ?_
        refine hx_region ?_
        refine WL.qq (by simp only [EN, Nat.reduceEqDiff, reduceIte, qv_move, i4_0, hB1.cell]; rfl) ?_
        refine WL.qq (by simp only [EN, Nat.reduceEqDiff, reduceIte, qv_binOp, binv_add, hB1.cell]; (try simp (disch := omega) only [w64, w8, wu64]); rfl) ?_
        refine WL.qq (by simp only [EN, Nat.reduceEqDiff, reduceIte, qv_assign, hB1.cell]; rfl) ?_
        refine WL.nil ?_
        refine th_norm ?_
        refine ⟨rfl, rfl, ?_, _, ?_, i + 1, rfl, ?_, ?_, ?_⟩  -- again 0 of loop 0
        · (repeat (first | exact Fr.refl _ _ | refine Fr.set rfl ?_ | refine Fr.put rfl ?_ | with_reducible refine Fr.put0 ?_))
        · omega
        · omega
        · simp only [EN, Nat.reduceEqDiff, reduceIte, k1_0, i4_0, i3_0, hB1.cell] <;> first | rfl | (congr 1; omega)
        · simp only [EN, Nat.reduceEqDiff, reduceIte, k1_0, i4_0, i3_0, hB1.cell] <;> rw [hms]; first | rw [if_pos hct22] | rw [if_neg hct22]
      ·
        try simp only [BD] at hct22
        refine hx_skip ?_
        refine bl_norm ?_
        refine th_norm ?_
        refine hx_region ?_
        refine WL.qq (by simp only [EN, Nat.reduceEqDiff, reduceIte, qv_move, i4_0, hB1.cell]; rfl) ?_
        refine WL.qq (by simp only [EN, Nat.reduceEqDiff, reduceIte, qv_binOp, binv_add, hB1.cell]; (try simp (disch := omega) only [w64, w8, wu64]); rfl) ?_
        refine WL.qq (by simp only [EN, Nat.reduceEqDiff, reduceIte, qv_assign, hB1.cell]; rfl) ?_
        refine WL.nil ?_
        refine th_norm ?_
        refine ⟨rfl, rfl, ?_, _, ?_, i + 1, rfl, ?_, ?_, ?_⟩  -- again 1 of loop 0
        · (repeat (first | exact Fr.refl _ _ | refine Fr.set rfl ?_ | refine Fr.put rfl ?_ | with_reducible refine Fr.put0 ?_))
        · omega
        · omega
        · simp only [EN, Nat.reduceEqDiff, reduceIte, k1_0, i4_0, i3_0, hB1.cell] <;> first | rfl | (congr 1; omega)
        · simp only [EN, Nat.reduceEqDiff, reduceIte, k1_0, i4_0, i3_0, hB1.cell] <;> rw [hms]; first | rw [if_pos hct22] | rw [if_neg hct22]
    ·
      try simp only [BD] at hct12
      have hil : i = bf.length := (by omega); subst hil; rw [List.take_length] at i3_0
      refine hx_exit ?_
      refine th_exit ?_
      refine th_exit ?_
      refine bl_hit ?_
      refine th_norm ?_
      refine hx_seq ?_
      refine hx_region ?_
      refine WL.qq (by simp only [EN, Nat.reduceEqDiff, reduceIte, qv_assign, hB1.cell]; rfl) ?_
      refine WL.nil ?_
      refine th_norm ?_
      refine hx_seq ?_
      refine hx_seq ?_
      refine hx_region ?_
      refine WL.qq (by simp only [EN, Nat.reduceEqDiff, reduceIte, qv_fieldAddr, fa27_1, Nat.zero_add, Nat.reduceAdd, k1_0, hB1.cell]; rfl) ?_
      refine WL.qq (by simp only [EN, Nat.reduceEqDiff, reduceIte, qv_load, ld3, readN, AR, Nat.zero_add, Nat.reduceAdd, hB1.cell]; rfl) ?_
      refine WL.qq (by simp only [EN, Nat.reduceEqDiff, reduceIte, qv_assign, hB1.cell]; rfl) ?_
      refine WL.nil ?_
      refine th_norm ?_
      refine hx_block ?_
      refine hx_loopG [5, 6, 7, 31, 32, 33, 34, 35, 36, 37, 38, 39, 40, 41, 42, 43, 44, 45, 46, 47, 48, 49, 50, 51, 52, 53, 54, 55, 56, 57, 58, 59, 60, 61, 62, 63, 64, 65, 66, 67] (fun k e hL1 => ∃ (q : Nat) (v : Value), (mostF bf - n).toNat - q = k ∧ (q ≤ (mostF bf - n).toNat) ∧ (Ext h hL1) ∧ (Has hL1 B1 (.cells #[iV w, iV n, .slice ar bf.length cr] 27)) ∧ (Own hL1 h.size 104 2 v (scan bf q n []).length ((scan bf q n []).flatMap gapL)) ∧ e 6 = iV (n + q) ∧ e 5 = v) _ ⟨0, .slice none 0 0, rfl, ?_, ?_, ?_, ?_, ?_, ?_⟩ ?_
      · omega
      · exact (hx1)
      · exact hB1
      · exact Own.nil
      · simp only [EN, Nat.reduceEqDiff, reduceIte, k1_0, i4_0, i3_0, hB1.cell] <;> simp
      · simp only [EN, Nat.reduceEqDiff, reduceIte, k1_0, i4_0, i3_0, hB1.cell] <;> rfl
      ·
        rintro k e1L hL1 hfr1 ⟨q, v, rfl, hq, hE, hB1, ho, i6_1, i5_1⟩
        have k1_1 := hfr1 1 rfl; try simp only [EN, Nat.reduceEqDiff, reduceIte, k1_0, hB1.cell] at k1_1
        have k3_1 := hfr1 3 rfl; try simp only [EN, Nat.reduceEqDiff, reduceIte, i3_0, hB1.cell] at k3_1
        have hs := ks.ext hE
        refine hx_seq ?_
        refine hx_seq ?_
        refine hx_region ?_
        refine WL.qq (by simp only [EN, Nat.reduceEqDiff, reduceIte, qv_move, i6_1, hB1.cell, hB1.cell]; rfl) ?_
        refine WL.qq (by simp only [EN, Nat.reduceEqDiff, reduceIte, qv_move, k3_1, hB1.cell, hB1.cell]; rfl) ?_
        refine WL.qq (by simp only [EN, Nat.reduceEqDiff, reduceIte, qv_binOp, binv_lss, hB1.cell, hB1.cell]; rfl) ?_
        refine WL.nil ?_
        refine th_norm ?_
        refine hx_cond (by simp only [EN, Nat.reduceEqDiff, reduceIte, hB1.cell, hB1.cell]; rfl) (fun hct33 => ?_) (fun hct33 => ?_)
        ·
          try simp only [BD] at hct33
          have hsl := scan_len bf n [] q
          obtain ⟨O, hO⟩ : ∃ O, scan bf q n [] = O := ⟨_, rfl⟩
          have hsc : scan bf (q + 1) n [] = rst bf O (n + q) := (by rw [← hO]; rfl)
          rw [hO] at ho hsl
          simp only [List.length_nil, Nat.zero_add] at hsl
          refine hx_skip ?_
          refine th_norm ?_
          refine hx_seq ?_
          refine hx_block ?_
          refine hx_seq ?_
          refine hx_seq ?_
          refine hx_region ?_
          refine WL.qq (by simp only [EN, Nat.reduceEqDiff, reduceIte, qv_fieldAddr, fa27_2, Nat.zero_add, Nat.reduceAdd, k1_1, hB1.cell, hB1.cell]; rfl) ?_
          refine WL.qq (by simp only [EN, Nat.reduceEqDiff, reduceIte, qv_load, ld22, readN, AR, Nat.zero_add, Nat.reduceAdd, hB1.cell, hB1.cell]; rfl) ?_
          refine WL.qq (by simp only [EN, Nat.reduceEqDiff, reduceIte, qv_move, i6_1, hB1.cell, hB1.cell]; rfl) ?_
          refine WL.ck Try.call49 (by simp only [EN, Nat.reduceEqDiff, reduceIte, AR, hB1.cell, hB1.cell]; exact c_find ar bf cr (n + q) (by omega) hs.rd) ?_
          refine WL.qq (by simp only [EN, Nat.reduceEqDiff, reduceIte, qv_binOp, binv_geq, hB1.cell, hB1.cell]; rfl) ?_
          refine WL.nil ?_
          refine th_norm ?_
          refine hx_cond (by simp only [EN, Nat.reduceEqDiff, reduceIte, hB1.cell, hB1.cell]; rfl) (fun hct40 => ?_) (fun hct40 => ?_)
          ·
            try simp only [BD] at hct40
            have hrs : rst bf O (n + q) = O := if_pos (idxV_ge.1 hct40)
            refine hx_exit ?_
            refine th_exit ?_
            refine bl_hit ?_
            refine th_norm ?_
            refine hx_region ?_
            refine WL.qq (by simp only [EN, Nat.reduceEqDiff, reduceIte, qv_move, i6_1, hB1.cell, hB1.cell]; rfl) ?_
            refine WL.qq (by simp only [EN, Nat.reduceEqDiff, reduceIte, qv_binOp, binv_add, hB1.cell, hB1.cell]; (try simp (disch := omega) only [w64, w8, wu64]); rfl) ?_
            refine WL.qq (by simp only [EN, Nat.reduceEqDiff, reduceIte, qv_assign, hB1.cell, hB1.cell]; rfl) ?_
            refine WL.nil ?_
            refine th_norm ?_
            refine ⟨rfl, ?_, _, ?_, q + 1, v, rfl, ?_, ?_, ?_, ?_, ?_, ?_⟩  -- again 0 of loop 1
            · (repeat (first | exact Fr.refl _ _ | refine Fr.set rfl ?_ | refine Fr.put rfl ?_ | with_reducible refine Fr.put0 ?_))
            · omega
            · omega
            · exact hE
            · exact hB1
            · rw [hsc, hrs]; exact ho
            · simp only [EN, Nat.reduceEqDiff, reduceIte, k1_1, k3_1, i6_1, i5_1, hB1.cell, hB1.cell] <;> first | rfl | (congr 1; omega)
            · simp only [EN, Nat.reduceEqDiff, reduceIte, k1_1, k3_1, i6_1, i5_1, hB1.cell, hB1.cell] <;> first | rfl | (congr 1; omega)
          ·
            try simp only [BD] at hct40
            have hns : ¬ (bf.lookup (n + q)).isSome = true := fun hh => hct40 (idxV_ge.2 hh)
            obtain ⟨a5, c5, hv5, hcap5, hnil5, hblk5⟩ := ho.shape
            subst hv5
            obtain ⟨g5, gl, hg5⟩ : ∃ g5 gl, 0 < O.length → a5 = some ⟨g5, 0, none⟩ ∧ O.getLast? = some gl := last_ex hblk5 hnil5 hcap5
            have hrs := rst_no (x := n + q) hns (fun hh => (hg5 hh).2)
            have hsO : SlG 2 gapL hL1 a5 O := slG_own (f := gapL) (sz := 2) (fun _ => rfl) ho rfl
            have hcl : 0 < O.length → GL.cell hL1 g5 (0 + ((O.length : Int) - 1).toNat * 2 + 1) = some (iV gl.2) := fun hh => (by obtain ⟨b, off, hab, _, _, hc⟩ := gap_rd hsO (last_at (hg5 hh).2); rw [(hg5 hh).1] at hab; cases hab; rw [show ((O.length : Int) - 1).toNat = O.length - 1 from by omega]; exact hc)
            refine hx_skip ?_
            refine th_norm ?_
            refine hx_seq ?_
            refine hx_region ?_
            refine WL.qq (by simp only [EN, Nat.reduceEqDiff, reduceIte, qv_move, i5_1, hB1.cell, hB1.cell]; rfl) ?_
            refine WL.qq (by simp only [EN, Nat.reduceEqDiff, reduceIte, qv_len, ln102, AR, hB1.cell, hB1.cell]; rfl) ?_
            refine WL.qq (by simp only [EN, Nat.reduceEqDiff, reduceIte, qv_assign, hB1.cell, hB1.cell]; rfl) ?_
            refine WL.nil ?_
            refine th_norm ?_
            refine hx_seq ?_
            refine hx_region ?_
            refine WL.qq (by simp only [EN, Nat.reduceEqDiff, reduceIte, qv_move, hB1.cell, hB1.cell]; rfl) ?_
            refine WL.qq (by simp only [EN, Nat.reduceEqDiff, reduceIte, qv_binOp, binv_gtr, hB1.cell, hB1.cell]; rfl) ?_
            refine WL.qq (by simp only [EN, Nat.reduceEqDiff, reduceIte, qv_move, hB1.cell, hB1.cell]; rfl) ?_
            refine WL.cq (gd_at (t := 45) rfl (by simp only [EN, Nat.reduceEqDiff, reduceIte, i5_1, hB1.cell, hB1.cell] <;> rfl)) (fun hg13_3 => by simp only [EN, Nat.reduceEqDiff, reduceIte, qv_move, i5_1, hB1.cell, hB1.cell, hg13_3, GR]; rfl) ?_
            refine WL.cq (gd_at (t := 45) rfl (by simp only [EN, Nat.reduceEqDiff, reduceIte, hB1.cell, hB1.cell] <;> rfl)) (fun hg13_4 => by simp only [EN, Nat.reduceEqDiff, reduceIte, qv_move, hB1.cell, hB1.cell, hg13_4, GR]; rfl) ?_
            refine WL.cq (gd_at (t := 45) rfl (by simp only [EN, Nat.reduceEqDiff, reduceIte, hB1.cell, hB1.cell] <;> rfl)) (fun hg13_5 => by have hq0 := hg13_5; (try simp only [BD] at hq0); simp only [EN, Nat.reduceEqDiff, reduceIte, qv_binOp, binv_sub, hB1.cell, hB1.cell, hg13_5, GR]; (try simp (disch := omega) only [w64, w8, wu64]); rfl) ?_
            refine WL.cq (gd_at (t := 45) rfl (by simp only [EN, Nat.reduceEqDiff, reduceIte, hB1.cell, hB1.cell] <;> rfl)) (fun hg13_6 => by simp only [EN, Nat.reduceEqDiff, reduceIte, k1_1, k3_1, i6_1, i5_1, hB1.cell, hB1.cell, GR, hg13_6, (hg5 (by simpa using hg13_6)).1, qv_indexAddr]; rw [ix102 _ _ _ _ _ _ (by have := hg13_6; simp at this; omega) (by omega)]) ?_
            refine WL.cq (gd_at (t := 45) rfl (by simp only [EN, Nat.reduceEqDiff, reduceIte, hB1.cell, hB1.cell] <;> rfl)) (fun hg13_7 => by have hq0 := hg13_7; (try simp only [BD] at hq0); simp only [EN, Nat.reduceEqDiff, reduceIte, qv_indexAddr, hB1.cell, hB1.cell, hg13_7, GR]; (try simp (disch := omega) only [ix104, Int.toNat_natCast]); rfl) ?_
            refine WL.cq (gd_at (t := 45) rfl (by simp only [EN, Nat.reduceEqDiff, reduceIte, hB1.cell, hB1.cell] <;> rfl)) (fun hg13_8 => by simp only [EN, Nat.reduceEqDiff, reduceIte, k1_1, k3_1, i6_1, i5_1, hB1.cell, hB1.cell, GR, hg13_8, qv_load, ld3, Int.toNat_one]; exact hcl (by simpa using hg13_8)) ?_
            refine WL.cq (gd_at (t := 45) rfl (by simp only [EN, Nat.reduceEqDiff, reduceIte, i6_1, hB1.cell, hB1.cell] <;> rfl)) (fun hg13_9 => by simp only [EN, Nat.reduceEqDiff, reduceIte, qv_move, i6_1, hB1.cell, hB1.cell, hg13_9, GR]; rfl) ?_
            refine WL.cq (gd_at (t := 45) rfl (by simp only [EN, Nat.reduceEqDiff, reduceIte, hB1.cell, hB1.cell] <;> rfl)) (fun hg13_10 => by have hq0 := hg13_10; (try simp only [BD] at hq0); simp only [EN, Nat.reduceEqDiff, reduceIte, qv_binOp, binv_sub, hB1.cell, hB1.cell, hg13_10, GR]; (try simp (disch := omega) only [w64, w8, wu64]); rfl) ?_
            refine WL.cq (gd_at (t := 45) rfl (by simp only [EN, Nat.reduceEqDiff, reduceIte, hB1.cell, hB1.cell] <;> rfl)) (fun hg13_11 => by simp only [EN, Nat.reduceEqDiff, reduceIte, qv_binOp, binv_eql, eq3, Option.map_some, hB1.cell, hB1.cell, hg13_11, GR]; rfl) ?_
            refine WL.qq (by simp only [EN, Nat.reduceEqDiff, reduceIte, qv_pick, pk_and, pk_or, GR, hB1.cell, hB1.cell]; rfl) ?_
            refine WL.nil ?_
            refine th_norm ?_
            refine hx_cond (by simp only [EN, Nat.reduceEqDiff, reduceIte, hB1.cell, hB1.cell]; rfl) (fun hct55 => ?_) (fun hct55 => ?_)
            ·
              try simp only [BD] at hct55
              have hpos : 0 < O.length := (by have := hct55.1; omega)
              obtain ⟨ha5, hgl5⟩ := hg5 hpos
              subst ha5
              rw [if_pos ⟨hpos, hct55.2⟩] at hrs
              obtain ⟨cur, hcu, hle, hput⟩ := Own.putAt (f := gapL) (sz := 2) (k := 1) (y' := (gl.1, n + q)) (vs := [iV (n + q)]) (fun _ => rfl) ho rfl rfl (last_at hgl5) (by simp) (by simp [splc])
              refine hx_region ?_
              refine WL.qq (by simp only [EN, Nat.reduceEqDiff, reduceIte, qv_move, i5_1, hB1.cell, hB1.cell]; rfl) ?_
              refine WL.qq (by simp only [EN, Nat.reduceEqDiff, reduceIte, qv_move, hB1.cell, hB1.cell]; rfl) ?_
              refine WL.qq (by simp only [EN, Nat.reduceEqDiff, reduceIte, qv_binOp, binv_sub, hB1.cell, hB1.cell]; (try simp (disch := omega) only [w64, w8, wu64]); rfl) ?_
              refine WL.qq (by simp only [EN, Nat.reduceEqDiff, reduceIte, qv_move, i6_1, hB1.cell, hB1.cell]; rfl) ?_
              refine WL.qq (by simp only [EN, Nat.reduceEqDiff, reduceIte, qv_indexAddr, hB1.cell, hB1.cell]; (try simp (disch := omega) only [ix102, Int.toNat_natCast]); rfl) ?_
              refine WL.qq (by simp only [EN, Nat.reduceEqDiff, reduceIte, qv_indexAddr, hB1.cell, hB1.cell]; (try simp (disch := omega) only [ix104, Int.toNat_natCast]); rfl) ?_
              refine WL.store (b := g5) (off := (O.length - 1) * 2 + 1) (by simp only [EN, Nat.reduceEqDiff, reduceIte, k1_1, k3_1, i6_1, i5_1, hB1.cell, hB1.cell]; rw [show ((O.length : Int) - 1).toNat = O.length - 1 from by omega]; simp) sz3 (by simp only [EN, Nat.reduceEqDiff, reduceIte, k1_1, k3_1, i6_1, i5_1, hB1.cell, hB1.cell, Value.cells]; rfl) rfl hcu (by simpa using hle) (by simp [Value.oneCell']) ?_
              intro h41 hw41
              have ho41 := hput _ (by simpa using hw41)
              have hg5b := hblk5 _ rfl
              rw [set_last _ hgl5] at ho41
              refine WL.nil ?_
              refine bl_norm ?_
              refine th_norm ?_
              refine hx_region ?_
              refine WL.qq (by simp only [EN, Nat.reduceEqDiff, reduceIte, qv_move, i6_1, hB1.cell, hB1.cell]; rfl) ?_
              refine WL.qq (by simp only [EN, Nat.reduceEqDiff, reduceIte, qv_binOp, binv_add, hB1.cell, hB1.cell]; (try simp (disch := omega) only [w64, w8, wu64]); rfl) ?_
              refine WL.qq (by simp only [EN, Nat.reduceEqDiff, reduceIte, qv_assign, hB1.cell, hB1.cell]; rfl) ?_
              refine WL.nil ?_
              refine th_norm ?_
              refine ⟨rfl, ?_, _, ?_, q + 1, .slice (some ⟨g5, 0, none⟩) O.length c5, rfl, ?_, ?_, ?_, ?_, ?_, ?_⟩  -- again 1 of loop 1
              · (repeat (first | exact Fr.refl _ _ | refine Fr.set rfl ?_ | refine Fr.put rfl ?_ | with_reducible refine Fr.put0 ?_))
              · omega
              · omega
              · exact hw41.ext hE (by obtain ⟨g, hgq, hgb, _⟩ := hg5b; cases hgq; exact hgb)
              · exact hB1.wr hw41 (fun hh => by subst hh; have := hB1.un hcu; cases this)
              · rw [hsc, hrs, List.length_append, List.length_dropLast, List.length_singleton, show O.length - 1 + 1 = O.length from by omega]; exact ho41
              · simp only [EN, Nat.reduceEqDiff, reduceIte, k1_1, k3_1, i6_1, i5_1, hB1.cell, hB1.cell] <;> first | rfl | (congr 1; omega)
              · simp only [EN, Nat.reduceEqDiff, reduceIte, k1_1, k3_1, i6_1, i5_1, hB1.cell, hB1.cell] <;> first | rfl | (congr 1; omega)
            ·
              try simp only [BD] at hct55
              rw [if_neg (fun hh => by have := hct55; omega)] at hrs
              refine hx_region ?_
              refine WL.qq (by simp only [EN, Nat.reduceEqDiff, reduceIte, qv_move, i5_1, hB1.cell, hB1.cell]; rfl) ?_
              refine WL.qq (by simp only [EN, Nat.reduceEqDiff, reduceIte, qv_move, i6_1, hB1.cell, hB1.cell]; rfl) ?_
              refine WL.qq (by simp only [EN, Nat.reduceEqDiff, reduceIte, qv_move, i6_1, hB1.cell, hB1.cell]; rfl) ?_
              refine WL.qq (by refine qv_bld (by simp only [EN, Nat.reduceEqDiff, reduceIte, AR, hB1.cell, hB1.cell] <;> rfl) (by rw [bl104]; simp [Instr.fill, Value.cells]; rfl)) ?_
              have hne1 := ho.ncell hB1 (by decide)
              refine WL.push (bytes := 16) Try.underlying102 (inf_of Try.type104) rfl rfl rfl rfl (by decide) (by decide) sz104 zr104 (fun u => by simp only [EN, Nat.reduceEqDiff, reduceIte, k1_1, k3_1, i6_1, i5_1, hB1.cell, hB1.cell]) ho (by simp only [EN, Nat.reduceEqDiff, reduceIte, k1_1, k3_1, i6_1, i5_1, hB1.cell, hB1.cell, Value.cells]; rfl) rfl (by intro u hu; simp at hu; rcases hu with rfl | rfl <;> rfl) (by simp only [maxLen]; omega) (by omega) hE.size ?_
              intro h42 v42 B42 ho42 hg42 hp42 hn42
              have hE42 := hg42.ext hE (fun c hc => (ho.block c hc).1)
              skip
              refine WL.qq (by simp only [EN, Nat.reduceEqDiff, reduceIte, qv_assign, hB1.cell, hB1.cell]; rfl) ?_
              refine WL.nil ?_
              refine bl_norm ?_
              refine th_norm ?_
              refine hx_region ?_
              refine WL.qq (by simp only [EN, Nat.reduceEqDiff, reduceIte, qv_move, i6_1, hB1.cell, hB1.cell]; rfl) ?_
              refine WL.qq (by simp only [EN, Nat.reduceEqDiff, reduceIte, qv_binOp, binv_add, hB1.cell, hB1.cell]; (try simp (disch := omega) only [w64, w8, wu64]); rfl) ?_
              refine WL.qq (by simp only [EN, Nat.reduceEqDiff, reduceIte, qv_assign, hB1.cell, hB1.cell]; rfl) ?_
              refine WL.nil ?_
              refine th_norm ?_
              refine ⟨rfl, ?_, _, ?_, q + 1, v42, rfl, ?_, ?_, ?_, ?_, ?_, ?_⟩  -- again 2 of loop 1
              · (repeat (first | exact Fr.refl _ _ | refine Fr.set rfl ?_ | refine Fr.put rfl ?_ | with_reducible refine Fr.put0 ?_))
              · omega
              · omega
              · exact hE42
              · exact hB1.gr hg42 hne1
              · rw [hsc, hrs, List.length_append, List.flatMap_append]; exact ho42
              · simp only [EN, Nat.reduceEqDiff, reduceIte, k1_1, k3_1, i6_1, i5_1, hB1.cell, hB1.cell] <;> first | rfl | (congr 1; omega)
              · simp only [EN, Nat.reduceEqDiff, reduceIte, k1_1, k3_1, i6_1, i5_1, hB1.cell, hB1.cell] <;> first | rfl | (congr 1; omega)
        ·
          try simp only [BD] at hct33
          have hqe : q = (mostF bf - n).toNat := (by omega)
          subst hqe
          refine hx_exit ?_
          refine th_exit ?_
          refine th_exit ?_
          refine bl_hit ?_
          refine th_norm ?_
          refine hx_seq ?_
          refine hx_region ?_
          refine WL.qq (by simp only [EN, Nat.reduceEqDiff, reduceIte, qv_move, i5_1, hB1.cell, hB1.cell]; rfl) ?_
          refine WL.qq (by simp only [EN, Nat.reduceEqDiff, reduceIte, qv_assign, hB1.cell, hB1.cell]; rfl) ?_
          refine WL.nil ?_
          refine th_norm ?_
          refine hx_ret ?_
          refine fin_ret [.tmp 2] rfl rfl (by simp only [EN, Nat.reduceEqDiff, reduceIte, resv, k1_1, k3_1, i6_1, i5_1, hB1.cell, hB1.cell]; rfl) ?_  -- ret 0 r16
          obtain ⟨a, cap, hv, _, hs9, _⟩ := Own.slG (f := gapL) (sz := 2) (fun _ => rfl) ho rfl
          subst hv
          exact ⟨hE, a, cap, rfl, hs9⟩
end GL


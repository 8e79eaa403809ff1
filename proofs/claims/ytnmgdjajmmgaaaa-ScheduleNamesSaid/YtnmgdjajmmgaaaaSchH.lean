/- Schedule: the plain laws: the program's beginnings and the reference's are one list. -/
import Derived.Test.YtnmgdjajmmgaaaaSchG
set_option linter.unusedSimpArgs false
set_option linter.unusedVariables false
set_option linter.unnecessarySimpa false
namespace GL
open Go
/-- A schedule whose minutes rise. -/
structure Val6 (s : List Int) : Prop where
  lo : ∀ i, i < 6 → 0 ≤ s.getD i 0 ∧ s.getD i 0 ≤ 1439
  inc : ∀ i j, i < j → j < 6 → s.getD i 0 < s.getD j 0
theorem chk6 {s0 s1 s2 s3 s4 s5 : Int} (h : chkGo (-1) [s0, s1, s2, s3, s4, s5] = 0) : (0 ≤ s0 ∧ s0 < s1 ∧ s1 < s2) ∧ (s2 < s3 ∧ s3 < s4 ∧ s4 < s5 ∧ s5 ≤ 1439) := by
  simp only [chkGo] at h
  repeat' (split at h; · cases h)
  omega
theorem val6 {s0 s1 s2 s3 s4 s5 : Int} (h : chkGo (-1) [s0, s1, s2, s3, s4, s5] = 0) : Val6 [s0, s1, s2, s3, s4, s5] := by
  obtain ⟨h1, h2⟩ := chk6 h
  constructor
  · intro i hi
    rcases (by omega : i = 0 ∨ i = 1 ∨ i = 2 ∨ i = 3 ∨ i = 4 ∨ i = 5) with rfl | rfl | rfl | rfl | rfl | rfl <;> simp only [List.getD_cons_zero, List.getD_cons_succ] <;> omega
  · intro i j hij hj
    rcases (by omega : i = 0 ∨ i = 1 ∨ i = 2 ∨ i = 3 ∨ i = 4) with rfl | rfl | rfl | rfl | rfl <;> rcases (by omega : j = 1 ∨ j = 2 ∨ j = 3 ∨ j = 4 ∨ j = 5) with rfl | rfl | rfl | rfl | rfl <;> simp only [List.getD_cons_zero, List.getD_cons_succ] <;> omega
def keyC (c : Chg) : Int := c.1 * 1440 + c.2.1
theorem day6_mem {s : List Int} (hs : Val6 s) {d : Int} {c : Chg} (hc : c ∈ day6 s d) : c.1 = d ∧ 0 ≤ c.2.1 ∧ c.2.1 ≤ 1439 := by
  simp only [day6, List.mem_map, List.mem_range] at hc
  obtain ⟨i, hi, rfl⟩ := hc
  exact ⟨rfl, (hs.lo i hi).1, (hs.lo i hi).2⟩
theorem day6_inc {s : List Int} (hs : Val6 s) (d : Int) : (day6 s d).Pairwise fun a b => keyC a < keyC b := by
  unfold day6
  rw [List.pairwise_map]
  have : (List.range 6).Pairwise fun i j => i < j ∧ j < 6 := by decide
  refine this.imp fun {i j} h => ?_
  have := hs.inc i j h.1 h.2
  simp only [keyC]
  omega
theorem allF_mem {bus : Int → Bool} {s : List Int} (hs : Val6 s) : ∀ (n : Nat) (d : Int) (c : Chg), c ∈ allF bus s d n → d ≤ c.1 ∧ c.1 < d + n ∧ 0 ≤ c.2.1 ∧ c.2.1 ≤ 1439
  | 0, d, c, h => by simp [allF] at h
  | n + 1, d, c, h => by
    simp only [allF, List.mem_append] at h
    rcases h with h | h
    · split at h
      · have := day6_mem hs h; omega
      · cases h
    · have := allF_mem hs n (d + 1) c h; omega
theorem allF_inc {bus : Int → Bool} {s : List Int} (hs : Val6 s) : ∀ (n : Nat) (d : Int), (allF bus s d n).Pairwise fun a b => keyC a < keyC b
  | 0, d => by simp [allF]
  | n + 1, d => by
    simp only [allF]
    rw [List.pairwise_append]
    refine ⟨?_, allF_inc hs n (d + 1), ?_⟩
    · split
      · exact day6_inc hs d
      · exact List.Pairwise.nil
    · intro a ha b hb
      split at ha
      · have h1 := day6_mem hs ha
        have h2 := allF_mem hs n (d + 1) b hb
        simp only [keyC]
        omega
      · cases ha
theorem allF_split (bus : Int → Bool) (s : List Int) : ∀ (n k : Nat) (d : Int), allF bus s d (n + k) = allF bus s d n ++ allF bus s (d + n) k
  | 0, k, d => by simp [allF]
  | n + 1, k, d => by
    rw [show n + 1 + k = (n + k) + 1 by omega, allF, allF, allF_split bus s n k (d + 1), List.append_assoc]
    congr 3
    omega
theorem gt_key {a : Int × Int} (ha : 0 ≤ a.2 ∧ a.2 ≤ 1439) {c : Chg} (hc : 0 ≤ c.2.1 ∧ c.2.1 ≤ 1439) : gtC a c = decide (a.1 * 1440 + a.2 < keyC c) := by
  simp only [gtC, cmpC, keyC]
  congr 1
  apply propext
  split
  · omega
  · split <;> omega
theorem le_key {u : Int × Int} (hu : 0 ≤ u.2 ∧ u.2 ≤ 1439) {c : Chg} (hc : 0 ≤ c.2.1 ∧ c.2.1 ≤ 1439) : leC u c = decide (keyC c ≤ u.1 * 1440 + u.2) := by
  have h1 := gt_key hu hc
  simp only [gtC] at h1
  simp only [leC, h1]
  by_cases h : u.1 * 1440 + u.2 < keyC c
  · simp [h]
  · simp [h]; omega
theorem tw_filter {α : Type} {k : α → Int} {U : Int} : ∀ {L : List α}, L.Pairwise (fun a b => k a < k b) → L.takeWhile (fun c => decide (k c ≤ U)) = L.filter (fun c => decide (k c ≤ U))
  | [], _ => rfl
  | a :: L, h => by
    rw [List.pairwise_cons] at h
    by_cases ha : k a ≤ U
    · simp only [List.takeWhile_cons, List.filter_cons, ha, decide_true, if_true, tw_filter h.2]
    · simp only [List.takeWhile_cons, List.filter_cons, ha, decide_false, Bool.false_eq_true, if_false]
      refine (List.filter_eq_nil_iff.2 fun c hc => ?_).symm
      have := h.1 c hc
      simp only [decide_eq_true_eq]
      omega
theorem tw_congr {α : Type} {p q : α → Bool} : ∀ {L : List α}, (∀ c ∈ L, p c = q c) → L.takeWhile p = L.takeWhile q
  | [], _ => rfl
  | a :: L, h => by
    simp only [List.takeWhile_cons, h a (by simp), tw_congr (L := L) fun c hc => h c (by simp [hc])]
/-- The changes between two points in time, told by their keys. -/
def chgK (bus : Int → Bool) (s : List Int) (N : Nat) (A U : Int) : List Chg := (allF bus s 0 N).filter fun c => decide (A < keyC c ∧ keyC c ≤ U)
theorem part_K {bus : Int → Bool} {s : List Int} (hs : Val6 s) {N : Nat} {d : Int} {n : Nat} {A U : Int} (hd : 0 ≤ d) (hN : d + n ≤ N) (hA : d * 1440 ≤ A) (hU : U < (d + n) * 1440) :
    (allF bus s d n).filter (fun c => decide (A < keyC c ∧ keyC c ≤ U)) = chgK bus s N A U := by
  have e1 := allF_split bus s (d.toNat + n) (N - (d.toNat + n)) 0
  rw [show d.toNat + n + (N - (d.toNat + n)) = N by omega, allF_split bus s d.toNat n 0] at e1
  unfold chgK
  rw [e1, List.filter_append, List.filter_append, show (0 : Int) + (d.toNat : Nat) = d by omega]
  have h1 : (allF bus s 0 d.toNat).filter (fun c => decide (A < keyC c ∧ keyC c ≤ U)) = [] := List.filter_eq_nil_iff.2 fun c hc => by
    have := allF_mem hs _ _ c hc
    simp only [decide_eq_true_eq]; simp only [keyC]
    omega
  have h2 : (allF bus s (0 + ((d.toNat + n : Nat) : Int)) (N - (d.toNat + n))).filter (fun c => decide (A < keyC c ∧ keyC c ≤ U)) = [] := List.filter_eq_nil_iff.2 fun c hc => by
    have := allF_mem hs _ _ c hc
    simp only [decide_eq_true_eq]; simp only [keyC]
    omega
  rw [h1, h2]
  simp
theorem chgR_K {bus : Int → Bool} {s : List Int} (hs : Val6 s) {N : Nat} (hN : (N : Int) = 73049) {a u : Int × Int} (ha : 0 ≤ a.1 ∧ 0 ≤ a.2 ∧ a.2 ≤ 1439) (hu : -1 ≤ u.1 ∧ u.1 ≤ 73048 ∧ 0 ≤ u.2 ∧ u.2 ≤ 1439) (ha2 : a.1 ≤ 73049) :
    chgR bus s a u = chgK bus s N (a.1 * 1440 + a.2) (u.1 * 1440 + u.2) := by
  unfold chgR
  rcases Int.lt_or_le u.1 a.1 with hlt | hle
  · have h0 : (u.1 + 1 - a.1).toNat = 0 := by omega
    rw [h0, allF, List.filter_nil]
    symm
    refine List.filter_eq_nil_iff.2 fun c hc => ?_
    simp only [decide_eq_true_eq]
    omega
  · rw [← part_K hs (d := a.1) (n := (u.1 + 1 - a.1).toNat) (N := N) (by omega) (by omega) (by omega) (by omega)]
    refine List.filter_congr fun c hc => ?_
    have hm := allF_mem hs _ _ c hc
    rw [Bool.eq_iff_iff]
    simp only [selC, Bool.and_eq_true, Bool.or_eq_true, decide_eq_true_eq]; simp only [keyC]
    omega
theorem begs_K {bus : Int → Bool} {s : List Int} (hs : Val6 s) {N : Nat} (hN : (N : Int) = 73049) {a u : Int × Int} (ha : 0 ≤ a.1 ∧ a.1 ≤ 73048 ∧ 0 ≤ a.2 ∧ a.2 ≤ 1439) (hu : 0 ≤ u.1 ∧ u.1 ≤ 73048 ∧ 0 ≤ u.2 ∧ u.2 ≤ 1439) :
    (begs bus s a).takeWhile (leC u) = chgK bus s N (a.1 * 1440 + a.2) (u.1 * 1440 + u.2) := by
  have hmem : ∀ c ∈ begs bus s a, 0 ≤ c.2.1 ∧ c.2.1 ≤ 1439 := fun c hc => by
    have := allF_mem hs _ _ c (List.mem_filter.1 hc).1
    omega
  rw [tw_congr (q := fun c => decide (keyC c ≤ u.1 * 1440 + u.2)) fun c hc => le_key hu.2.2 (hmem c hc)]
  unfold begs
  rw [tw_filter ((allF_inc hs _ _).filter _)]
  rw [List.filter_filter, ← part_K hs (d := a.1) (n := (73049 - a.1).toNat) (N := N) (by omega) (by omega) (by omega) (by omega)]
  refine List.filter_congr fun c hc => ?_
  have hm := allF_mem hs _ _ c hc
  rw [gt_key ha.2.2 (by omega), Bool.eq_iff_iff]
  simp only [Bool.and_eq_true, decide_eq_true_eq]
  omega
theorem adj_filter {α : Type} {k : α → Int} {A B C : Int} (hAB : A ≤ B) (hBC : B ≤ C) : ∀ {L : List α}, L.Pairwise (fun a b => k a < k b) →
    L.filter (fun c => decide (A < k c ∧ k c ≤ B)) ++ L.filter (fun c => decide (B < k c ∧ k c ≤ C)) = L.filter (fun c => decide (A < k c ∧ k c ≤ C))
  | [], _ => rfl
  | a :: L, h => by
    rw [List.pairwise_cons] at h
    have ih := adj_filter hAB hBC h.2
    simp only [List.filter_cons]
    by_cases h1 : A < k a ∧ k a ≤ B
    · rw [if_pos (by simpa using h1), if_neg (by simp; omega), if_pos (by simp; omega), List.cons_append, ih]
    · rw [if_neg (by simpa using h1)]
      by_cases h2 : B < k a ∧ k a ≤ C
      · have h3 : L.filter (fun c => decide (A < k c ∧ k c ≤ B)) = [] := List.filter_eq_nil_iff.2 fun c hc => by
          have := h.1 c hc
          simp only [decide_eq_true_eq]
          omega
        rw [h3] at ih ⊢
        rw [if_pos (by simpa using h2), if_pos (by simp; omega), ← ih]
        rfl
      · rw [if_neg (by simpa using h2), if_neg (by simp; omega), ih]
theorem one_filter {α : Type} {k : α → Int} {A : Int} : ∀ {L : List α} {n : α}, L.Pairwise (fun a b => k a < k b) → (L.filter (fun c => decide (A < k c)))[0]? = some n → L.filter (fun c => decide (A < k c ∧ k c ≤ k n)) = [n]
  | [], n, _, h => by simp at h
  | a :: L, n, hp, h => by
    rw [List.pairwise_cons] at hp
    simp only [List.filter_cons] at h ⊢
    by_cases ha : A < k a
    · rw [if_pos (by simpa using ha)] at h
      simp only [List.getElem?_cons_zero, Option.some.injEq] at h
      subst h
      rw [if_pos (by simp [ha])]
      congr 1
      refine List.filter_eq_nil_iff.2 fun c hc => ?_
      have := hp.1 c hc
      simp only [decide_eq_true_eq]
      omega
    · rw [if_neg (by simpa using ha)] at h
      rw [if_neg (by simp; omega)]
      exact one_filter hp.2 h
theorem begs_first {bus : Int → Bool} {s : List Int} (hs : Val6 s) {N : Nat} (hN : (N : Int) = 73049) {a : Int × Int} (ha : 0 ≤ a.1 ∧ a.1 ≤ 73048 ∧ 0 ≤ a.2 ∧ a.2 ≤ 1439) {n : Chg} (h : (begs bus s a)[0]? = some n) :
    (0 ≤ n.1 ∧ n.1 ≤ 73048 ∧ 0 ≤ n.2.1 ∧ n.2.1 ≤ 1439) ∧ (begs bus s a).takeWhile (leC (n.1, n.2.1)) = [n] := by
  have hm := List.mem_of_getElem? h
  have h1 := allF_mem hs _ _ n (List.mem_filter.1 hm).1
  refine ⟨by omega, ?_⟩
  rw [begs_K hs hN ha (u := (n.1, n.2.1)) (by simp only; omega), ← part_K hs (d := a.1) (n := (73049 - a.1).toNat) (N := N) (by omega) (by omega) (by omega) (by simp only; omega)]
  have e1 : begs bus s a = (allF bus s a.1 (73049 - a.1).toNat).filter (fun c => decide (a.1 * 1440 + a.2 < keyC c)) := List.filter_congr fun c hc => by
    have := allF_mem hs _ _ c hc
    exact gt_key ha.2.2 (by omega)
  rw [e1] at h
  exact one_filter (k := keyC) (allF_inc hs _ _) h
/-- One day of the reference's search for the next beginning. -/
theorem day_R {bus : Int → Bool} {s : List Int} (hs : Val6 s) {a : Int × Int} (ha : 0 ≤ a.2 ∧ a.2 ≤ 1439) {day : Int} :
    (day = a.1 → chgR bus s a (day, 1439) = (if bus day = true then day6 s day else []).filter (gtC a)) ∧ (a.1 < day → chgR bus s (day - 1, 1439) (day, 1439) = (if bus day = true then day6 s day else []).filter (gtC a)) := by
  constructor
  · rintro rfl
    unfold chgR
    rw [show (((a.1, (1439 : Int)).1 + 1 - a.1).toNat) = 1 by simp only; omega, allF, allF, List.append_nil]
    refine List.filter_congr fun c hc => ?_
    split at hc
    · have hm := day6_mem hs hc
      rw [gt_key ha (by omega), Bool.eq_iff_iff]
      simp only [selC, Bool.and_eq_true, Bool.or_eq_true, decide_eq_true_eq]; simp only [keyC]
      omega
    · cases hc
  · intro hlt
    unfold chgR
    rw [show (((day, (1439 : Int)).1 + 1 - (day - 1, (1439 : Int)).1).toNat) = 2 by simp only; omega]
    simp only [allF, List.append_nil]
    rw [List.filter_append, show day - 1 + 1 = day by omega]
    have h1 : (if bus (day - 1) = true then day6 s (day - 1) else []).filter (selC (day - 1, 1439) (day, 1439)) = [] := List.filter_eq_nil_iff.2 fun c hc => by
      split at hc
      · have hm := day6_mem hs hc
        simp only [selC, Bool.and_eq_true, Bool.or_eq_true, decide_eq_true_eq]
        omega
      · cases hc
    rw [h1, List.nil_append]
    refine List.filter_congr fun c hc => ?_
    split at hc
    · have hm := day6_mem hs hc
      rw [gt_key ha (by omega), Bool.eq_iff_iff]
      simp only [selC, Bool.and_eq_true, Bool.or_eq_true, decide_eq_true_eq]; simp only [keyC]
      omega
    · cases hc
end GL


/- Ledger: what a posting does to the balances (plain lists). -/
import Derived.Test.YtlmealnfkadndaaLedD
set_option linter.unusedSimpArgs false
set_option linter.unusedVariables false
set_option linter.unnecessarySimpa false
namespace GL
open Go Go.Proofs
set_option maxRecDepth 8000
/-- The balances behind a posting, in the reference's way. -/
def putL (ks l : List E2) : List E2 := l.foldl (fun m x => mset m x.1 (IntKind.i64.wrap (lk m x.1 + x.2))) ks
/-- The keys of a posting, at 0 where they are new. -/
def addK (ks l : List E2) : List E2 := l.foldl (fun m x => if x.1 ∈ m.map Prod.fst then m else m ++ [(x.1, 0)]) ks
theorem putL_step (ks : List E2) {l : List E2} {i : Nat} {x : E2} (hx : l[i]? = some x) : putL ks (l.take (i + 1)) = mset (putL ks (l.take i)) x.1 (IntKind.i64.wrap (lk (putL ks (l.take i)) x.1 + x.2)) := by
  rw [List.take_add_one, hx, putL, List.foldl_append]; rfl
theorem addK_step (ks : List E2) {l : List E2} {i : Nat} {x : E2} (hx : l[i]? = some x) : addK ks (l.take (i + 1)) = if x.1 ∈ (addK ks (l.take i)).map Prod.fst then addK ks (l.take i) else addK ks (l.take i) ++ [(x.1, 0)] := by
  rw [List.take_add_one, hx, addK, List.foldl_append]; rfl
theorem mset_fst (m : List E2) (x : K2) (v : Int) : (mset m x v).map Prod.fst = if x ∈ m.map Prod.fst then m.map Prod.fst else m.map Prod.fst ++ [x] := by
  induction m with
  | nil => simp [mset]
  | cons p m ih =>
    simp only [mset]
    by_cases h : p.1 = x
    · rw [if_pos h, if_pos (by simp [h])]; simp [h]
    · rw [if_neg h, List.map_cons, ih, List.map_cons]
      by_cases h2 : x ∈ m.map Prod.fst
      · rw [if_pos h2, if_pos (List.mem_cons_of_mem _ h2)]
      · rw [if_neg h2, if_neg (fun hh => by rcases List.mem_cons.1 hh with h3 | h3; exact h h3.symm; exact h2 h3)]; rfl
theorem put_add (l : List E2) : ∀ (m m' : List E2), m.map Prod.fst = m'.map Prod.fst → (putL m l).map Prod.fst = (addK m' l).map Prod.fst := by
  induction l with
  | nil => intro m m' h; exact h
  | cons x l ih =>
    intro m m' h
    refine ih _ _ ?_
    show (mset m x.1 _).map Prod.fst = List.map Prod.fst (if x.1 ∈ m'.map Prod.fst then m' else m' ++ [(x.1, 0)])
    rw [mset_fst, h]
    by_cases h2 : x.1 ∈ m'.map Prod.fst
    · rw [if_pos h2, if_pos h2]
    · rw [if_neg h2, if_neg h2]; simp
theorem lk_app (m : List E2) (x q : K2) : lk (m ++ [(x, 0)]) q = lk m q := by
  induction m with
  | nil => rw [List.nil_append, lk_cons, lk_nil]; simp
  | cons p m ih => rw [List.cons_append, lk_cons, lk_cons, ih]
theorem addK_lk (l : List E2) (q : K2) : ∀ m : List E2, lk (addK m l) q = lk m q := by
  induction l with
  | nil => intro m; rfl
  | cons x l ih =>
    intro m
    have h1 : lk (addK m (x :: l)) q = lk (if x.1 ∈ m.map Prod.fst then m else m ++ [(x.1, 0)]) q := ih _
    rw [h1]
    split
    · rfl
    · exact lk_app _ _ _
theorem putL_fold (l : List E2) (q : K2) : ∀ m : List E2, lk (putL m l) q = l.foldl (fun n x => if x.1 = q then IntKind.i64.wrap (n + x.2) else n) (lk m q) := by
  induction l with
  | nil => intro m; rfl
  | cons x l ih =>
    intro m
    have h1 : lk (putL m (x :: l)) q = lk (putL (mset m x.1 (IntKind.i64.wrap (lk m x.1 + x.2))) l) q := rfl
    rw [h1, ih, lk_mset, List.foldl_cons]
    congr 1
    by_cases hq : x.1 = q
    · rw [if_pos hq, if_pos hq, hq]
    · rw [if_neg hq, if_neg hq]
theorem putL_lk {ks l : List E2} (hl : l.length ≤ 4096) (hv : ∀ x ∈ l, vld x.2 = true) {q : K2} (hb : vld (lk ks q) = true) : lk (putL ks l) q = lk ks q + netM l q := by
  have hB := vld_iff.1 hb
  rw [putL_fold, (netM_eq hl hv q).1]
  exact (sumW (fun x => x.1 = q) l (lk ks q) 1000000000000000 (by omega) (by omega) (by omega) hv).1
theorem netM_no {l : List E2} {q : K2} (h : ∀ x ∈ l, x.1 ≠ q) : netM l q = 0 := by
  unfold netM
  rw [foldl_congr2 (g := fun n _ => n) l 0 fun x hx n => if_neg (h x hx)]
  induction l with
  | nil => rfl
  | cons x l ih => exact ih fun y hy => h y (by simp [hy])
/-- What a check without an error says. -/
theorem chk_ok {bal flo : K2 → Int} {l : List E2} (h : chkE bal flo l = 0) : (0 < l.length ∧ l.length ≤ 4096) ∧ (∀ x ∈ l, vld x.2 = true) ∧ (∀ x ∈ l, vld (bal x.1 + netM l x.1) = true) ∧ (∀ x ∈ l, sumA l x.1.a = 0) ∧ ∀ x ∈ l, netM l x.1 < 0 → flo x.1 ≤ bal x.1 + netM l x.1 := by
  unfold chkE at h
  split at h
  · simp at h
  · split at h
    · simp at h
    · split at h
      · simp at h
      · split at h
        · simp at h
        · split at h
          · simp at h
          · split at h
            · simp at h
            · rename_i h1 h2 h3 h4 h5 h6
              exact ⟨⟨by omega, by omega⟩, Decidable.of_not_not h3, Decidable.of_not_not h4, Decidable.of_not_not h5, Decidable.of_not_not h6⟩
theorem put_vld {ks l : List E2} {flo : K2 → Int} (h : chkE (lk ks) flo l = 0) (hb : ∀ q, vld (lk ks q) = true) (q : K2) : vld (lk (putL ks l) q) = true := by
  obtain ⟨h1, h2, h3, _⟩ := chk_ok h
  rw [putL_lk h1.2 h2 (hb q)]
  by_cases hq : ∃ x ∈ l, x.1 = q
  · obtain ⟨x, hx, rfl⟩ := hq
    exact h3 x hx
  · rw [netM_no (fun x hx hh => hq ⟨x, hx, hh⟩), Int.add_zero]; exact hb q
theorem keys_ext : ∀ {m m' : List E2}, m.map Prod.fst = m'.map Prod.fst → (m.map Prod.fst).Nodup → (∀ q, lk m q = lk m' q) → m = m'
  | [], [], _, _, _ => rfl
  | [], _ :: _, h, _, _ => by simp at h
  | _ :: _, [], h, _, _ => by simp at h
  | (a, v) :: m, (a', v') :: m', h, hn, hl => by
    simp only [List.map_cons, List.cons.injEq] at h
    obtain ⟨rfl, h⟩ := h
    simp only [List.map_cons, List.nodup_cons] at hn
    have h1 := hl a
    rw [lk_cons, lk_cons, if_pos rfl, if_pos rfl] at h1
    simp only at h1
    subst h1
    congr 1
    refine keys_ext h hn.2 fun q => ?_
    have h2 := hl q
    rw [lk_cons, lk_cons] at h2
    by_cases hq : a = q
    · subst hq
      have g1 : lk m a = 0 := by unfold lk; rw [lookup_no (fun p hp hh => hn.1 (List.mem_map.2 ⟨p, hp, hh⟩))]; rfl
      have g2 : lk m' a = 0 := by unfold lk; rw [lookup_no (fun p hp hh => hn.1 (by rw [h]; exact List.mem_map.2 ⟨p, hp, hh⟩))]; rfl
      rw [g1, g2]
    · rw [if_neg hq, if_neg hq] at h2; exact h2
theorem vals_step {ks l M left left' : List E2} {q1 : E2} (hl : l.length ≤ 4096) (hv : ∀ x ∈ l, vld x.2 = true) (hb : vld (lk ks q1.1) = true) (hp : left.Perm (q1 :: left')) (hnd : (left.map Prod.fst).Nodup) (hq : q1.2 = netM l q1.1)
    (h : ∀ q, lk M q = if q ∈ left.map Prod.fst then lk ks q else lk ks q + netM l q) : ∀ q, lk (mset M q1.1 (IntKind.i64.wrap (lk M q1.1 + q1.2))) q = if q ∈ left'.map Prod.fst then lk ks q else lk ks q + netM l q := by
  intro q
  have hpm := hp.map Prod.fst
  have hnd2 := hpm.nodup_iff.1 hnd
  simp only [List.map_cons, List.nodup_cons] at hnd2
  have hB := vld_iff.1 hb
  have hN := (netM_eq hl hv q1.1).2
  have h1 := h q1.1
  rw [if_pos (hpm.mem_iff.2 (by simp))] at h1
  rw [lk_mset]
  by_cases hqq : q1.1 = q
  · subst hqq
    rw [if_pos rfl, if_neg hnd2.1, h1, hq, w64 (by omega) (by omega)]
  · rw [if_neg hqq, h q]
    by_cases hm : q ∈ left'.map Prod.fst
    · rw [if_pos hm, if_pos (hpm.mem_iff.2 (by simp [hm]))]
    · rw [if_neg hm, if_neg (fun hh => by
        have h9 := hpm.mem_iff.1 hh
        simp only [List.map_cons] at h9
        rcases List.mem_cons.1 h9 with h9 | h9
        · exact hqq h9.symm
        · exact hm h9)]
theorem vals_start (ks l : List E2) : ∀ q, lk (addK ks l) q = if q ∈ (netL l).map Prod.fst then lk ks q else lk ks q + netM l q := by
  intro q
  rw [addK_lk]
  split
  · rfl
  · rename_i h
    rw [netM_no (fun x hx hh => h ((accL_keys _ _ _).2 ⟨x, hx, hh⟩)), Int.add_zero]
theorem vals_end {ks l M : List E2} (hl : l.length ≤ 4096) (hv : ∀ x ∈ l, vld x.2 = true) (hb : ∀ q, vld (lk ks q) = true) (hk : M.map Prod.fst = (addK ks l).map Prod.fst) (hn : (M.map Prod.fst).Nodup)
    (h : ∀ q, lk M q = if q ∈ ([] : List E2).map Prod.fst then lk ks q else lk ks q + netM l q) : M = putL ks l := by
  refine keys_ext (hk.trans (put_add l ks ks rfl).symm) hn fun q => ?_
  rw [h q, if_neg (by simp), putL_lk hl hv (hb q)]
theorem putL_len (l : List E2) : ∀ ks : List E2, (putL ks l).length ≤ ks.length + l.length := by
  induction l with
  | nil => intro ks; exact Nat.le_refl _
  | cons x l ih =>
    intro ks
    have h1 := ih (mset ks x.1 (IntKind.i64.wrap (lk ks x.1 + x.2)))
    have h2 := mset_len ks x.1 (IntKind.i64.wrap (lk ks x.1 + x.2))
    have h3 : putL ks (x :: l) = putL (mset ks x.1 (IntKind.i64.wrap (lk ks x.1 + x.2))) l := rfl
    rw [h3, List.length_cons]
    omega
theorem addK_len (l : List E2) : ∀ ks : List E2, (addK ks l).length ≤ ks.length + l.length := by
  intro ks
  have h1 := congrArg List.length (put_add l ks ks rfl)
  rw [List.length_map, List.length_map] at h1
  rw [← h1]; exact putL_len l ks
theorem addK_mem (l : List E2) : ∀ (ks : List E2) (x : E2), x ∈ l → x.1 ∈ (addK ks l).map Prod.fst := by
  have hk : ∀ (l : List E2) (m : List E2) (q : K2), q ∈ m.map Prod.fst → q ∈ (addK m l).map Prod.fst := by
    intro l
    induction l with
    | nil => intro m q h; exact h
    | cons y l ih =>
      intro m q h
      refine ih _ q ?_
      show q ∈ List.map Prod.fst (if y.1 ∈ m.map Prod.fst then m else m ++ [(y.1, 0)])
      split
      · exact h
      · rw [List.map_append]; exact List.mem_append_left _ h
  induction l with
  | nil => intro ks x h; cases h
  | cons y l ih =>
    intro ks x h
    rcases List.mem_cons.1 h with rfl | h
    · refine hk l _ _ ?_
      show x.1 ∈ List.map Prod.fst (if x.1 ∈ ks.map Prod.fst then ks else ks ++ [(x.1, 0)])
      split
      · assumption
      · simp
    · exact ih _ x h
end GL


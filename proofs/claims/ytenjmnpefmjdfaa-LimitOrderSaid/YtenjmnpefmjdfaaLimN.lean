/- Limits: the program and the reference say the same (plain). -/
import Derived.Test.YtenjmnpefmjdfaaLimM
set_option linter.unusedSimpArgs false
set_option linter.unusedVariables false
set_option linter.unnecessarySimpa false
namespace GL
open Go Go.Proofs
set_option maxRecDepth 8000
/-- A flow that is taken. -/
structure FV (x : L2) : Prop where
  f : x.1.f ≠ em
  t : x.1.t ≠ em
  ne : x.1.f ≠ x.1.t
  n0 : 0 ≤ x.2
  n1 : x.2 ≤ 1000000000000000
theorem valL_ok : ∀ {G : List L2}, valL G = 0 → ∀ x ∈ G, FV x
  | [], _ => fun x hx => by cases hx
  | y :: G, h => by
    simp only [valL] at h
    by_cases h6 : y.1.f = em ∨ y.1.t = em
    · rw [if_pos h6] at h; cases h
    · rw [if_neg h6] at h
      by_cases h7 : y.1.f = y.1.t
      · rw [if_pos h7] at h; cases h
      · rw [if_neg h7] at h
        by_cases h2 : y.2 < 0 ∨ 1000000000000000 < y.2
        · rw [if_pos h2] at h; cases h
        · rw [if_neg h2] at h
          intro x hx
          rcases List.mem_cons.1 hx with rfl | hx
          · exact ⟨fun hh => h6 (.inl hh), fun hh => h6 (.inr hh), h7, by omega, by omega⟩
          · exact valL_ok h x hx
theorem valE_ok {G : List L2} (h : valE G = 0) : ∀ x ∈ G, FV x := by
  unfold valE at h
  by_cases h1 : 4096 < G.length
  · rw [if_pos h1] at h; cases h
  · rw [if_neg h1] at h; exact valL_ok h
/-! Numbers of 64 bits. -/
theorem wrap_add_r (a b : Int) : IntKind.i64.wrap (a + IntKind.i64.wrap b) = IntKind.i64.wrap (a + b) := by
  rw [Int.add_comm, wrap_add_l, Int.add_comm]
theorem wrap_in {a : Int} (h1 : -9223372036854775808 ≤ a) (h2 : a ≤ 9223372036854775807) : IntKind.i64.wrap a = a := by
  have hb : IntKind.i64.bits = 64 := rfl
  have hs : IntKind.i64.signed = true := rfl
  unfold IntKind.wrap
  rw [hb, hs]
  simp only [Bool.true_and, decide_eq_true_eq]
  have e1 : (2 : Int) ^ 64 = 18446744073709551616 := by decide
  have e2 : (2 : Int) ^ (64 - 1) = 9223372036854775808 := by decide
  rw [e1, e2]
  split <;> omega
theorem wrap_rng (a : Int) : -9223372036854775808 ≤ IntKind.i64.wrap a ∧ IntKind.i64.wrap a ≤ 9223372036854775807 := by
  have hb : IntKind.i64.bits = 64 := rfl
  have hs : IntKind.i64.signed = true := rfl
  unfold IntKind.wrap
  rw [hb, hs]
  simp only [Bool.true_and, decide_eq_true_eq]
  have e1 : (2 : Int) ^ 64 = 18446744073709551616 := by decide
  have e2 : (2 : Int) ^ (64 - 1) = 9223372036854775808 := by decide
  rw [e1, e2]
  split <;> omega
theorem wrap_neg {a : Int} (h : -9223372036854775808 < IntKind.i64.wrap a) : IntKind.i64.wrap (-a) = - IntKind.i64.wrap a := by
  revert h
  have hb : IntKind.i64.bits = 64 := rfl
  have hs : IntKind.i64.signed = true := rfl
  unfold IntKind.wrap
  rw [hb, hs]
  simp only [Bool.true_and, decide_eq_true_eq]
  have e1 : (2 : Int) ^ 64 = 18446744073709551616 := by decide
  have e2 : (2 : Int) ^ (64 - 1) = 9223372036854775808 := by decide
  rw [e1, e2]
  intro h
  split <;> split at h <;> split <;> omega
/-! Net amounts. -/
theorem netV_same {a : ByteArray} {x : L2} (h : FV x) : netV a a x = 0 := by
  unfold netV
  have : ¬ (x.1.f = a ∧ x.1.t = a) := fun hh => h.ne (hh.1.trans hh.2.symm)
  rw [if_neg this]; rfl
theorem netR_eq {F : List L2} (hF : ∀ x ∈ F, FV x) (a b : ByteArray) : netR F a b = IntKind.i64.wrap (sumF (netV a b) F) := by
  unfold netR
  by_cases h : a = b
  · subst h
    rw [if_pos rfl, sumF_zero (f := netV a a) (fun x hx => netV_same (hF x hx))]
    rfl
  · rw [if_neg h]
theorem netV_swap (a b : ByteArray) (x : L2) : netV b a x = - netV a b x := by unfold netV; omega
theorem sumN_swap (a b : ByteArray) (F : List L2) : sumF (netV b a) F = - sumF (netV a b) F := by
  rw [sumF_congr (g := fun x => - netV a b x) (fun x _ => netV_swap a b x), sumF_neg]
theorem swp_ne {k : PK} (h : k.f ≠ k.t) : swp k ≠ k := fun hh => h (congrArg PK.t hh)
theorem stF_lk {m : List L2} {x : L2} (hx : FV x) (q : PK) (hq : IntKind.i64.wrap (lk m q) = lk m q) : lk (stF m x) q = IntKind.i64.wrap (lk m q + netV q.f q.t x) := by
  have hne := swp_ne hx.ne
  unfold stF
  rw [lk_mset, lk_mset, lk_mset]
  rw [if_neg (Ne.symm hne)]
  unfold netV
  have e1 : x.1 = q ↔ x.1.f = q.f ∧ x.1.t = q.t := pk_eq
  have e2 : swp x.1 = q ↔ x.1.f = q.t ∧ x.1.t = q.f := by rw [pk_eq]; exact and_comm
  by_cases h2 : swp x.1 = q
  · have h1 : ¬ x.1 = q := fun hh => hne (h2.trans hh.symm)
    rw [if_pos h2, if_neg (fun hh => h1 (e1.2 hh)), if_pos (e2.1 h2), h2, Int.zero_sub, Int.sub_eq_add_neg]
  · rw [if_neg h2]
    by_cases h1 : x.1 = q
    · rw [if_pos h1, if_pos (e1.1 h1), if_neg (fun hh => h2 (e2.2 hh)), h1, Int.sub_zero]
    · rw [if_neg h1, if_neg (fun hh => h1 (e1.2 hh)), if_neg (fun hh => h2 (e2.2 hh)), Int.sub_zero, Int.add_zero, hq]
theorem foF_lk : ∀ (G : List L2) {m : List L2} (hG : ∀ x ∈ G, FV x) (q : PK) (hq : IntKind.i64.wrap (lk m q) = lk m q), lk (foF m G) q = IntKind.i64.wrap (lk m q + sumF (netV q.f q.t) G)
  | [], m, _, q, hq => by simp [foF, sumF, hq]
  | x :: G, m, hG, q, hq => by
    show lk (foF (stF m x) G) q = _
    have h1 := stF_lk (m := m) (hG x (by simp)) q hq
    rw [foF_lk G (fun y hy => hG y (by simp [hy])) q (by rw [h1, wrap_wrap64]), h1, wrap_add_l, sumF, Int.add_assoc]
theorem stF_nd {m : List L2} {x : L2} (h : (m.map Prod.fst).Nodup) : ((stF m x).map Prod.fst).Nodup := mset_nodup (mset_nodup h)
theorem foF_nd : ∀ (G : List L2) {m : List L2} (h : (m.map Prod.fst).Nodup), ((foF m G).map Prod.fst).Nodup
  | [], _, h => h
  | x :: G, _, h => foF_nd G (stF_nd h)
theorem lk_nz {m : List L2} (hn : (m.map Prod.fst).Nodup) (q : PK) : lk (m.filter nz) q = lk m q := by
  have hn2 : ((m.filter nz).map Prod.fst).Nodup := (List.filter_sublist.map _).nodup hn
  by_cases h : ∃ v, (q, v) ∈ m.filter nz
  · obtain ⟨v, hv⟩ := h
    rw [lk_mem hn2 hv, lk_mem hn (List.mem_filter.1 hv).1]
  · rw [lk_none (fun y hy hh => h ⟨y.2, by rw [← hh]; exact hy⟩)]
    by_cases h2 : ∃ v, (q, v) ∈ m
    · obtain ⟨v, hv⟩ := h2
      rw [lk_mem hn hv]
      by_cases hv0 : v = 0
      · exact hv0.symm
      · exact absurd ⟨v, List.mem_filter.2 ⟨hv, by simp [nz, hv0]⟩⟩ h
    · rw [lk_none (fun y hy hh => h2 ⟨y.2, by rw [← hh]; exact hy⟩)]
theorem aft_nd {m : List L2} (G : List L2) (h : (m.map Prod.fst).Nodup) : ((aftS m G).map Prod.fst).Nodup := (List.filter_sublist.map _).nodup (foF_nd G h)
theorem aft_nz {m G : List L2} : ∀ x ∈ aftS m G, x.2 ≠ 0 := fun x hx => by simpa [nz] using (List.mem_filter.1 hx).2
/-! Outflows. -/
theorem sumF_mset (a : ByteArray) {k : PK} {v : Int} : ∀ {m : List L2} (hn : (m.map Prod.fst).Nodup), sumF (outV a) (mset m k v) = sumF (outV a) m + (if k.f = a then v - lk m k else 0)
  | [], _ => by
    simp only [mset, sumF, outV, lk, List.lookup, Option.getD_none]
    split <;> omega
  | p :: m, hn => by
    rw [List.map_cons, List.nodup_cons] at hn
    by_cases hp : p.1 = k
    · have hm : ∀ y ∈ m, y.1 ≠ k := fun y hy hh => hn.1 (by rw [hp, ← hh]; exact List.mem_map_of_mem hy)
      have hl : lk (p :: m) k = p.2 := by
        have h9 : (((p :: m).map Prod.fst).Nodup) := by rw [List.map_cons, List.nodup_cons]; exact hn
        exact lk_mem h9 (by rw [← hp]; exact List.mem_cons_self)
      rw [hl, mset, if_pos hp]
      show outV a (k, v) + sumF (outV a) m = outV a p + sumF (outV a) m + _
      unfold outV
      rw [hp]
      split <;> omega
    · have hl : lk (p :: m) k = lk m k := by
        unfold lk
        have h9 : (k == p.1) = false := by simpa using fun hh => hp hh.symm
        rw [List.lookup_cons, h9]
      rw [hl, mset, if_neg hp]
      show outV a p + sumF (outV a) (mset m k v) = outV a p + sumF (outV a) m + _
      rw [sumF_mset a hn.2]
      omega
theorem stF_out (a : ByteArray) {m : List L2} {x : L2} (hn : (m.map Prod.fst).Nodup) : IntKind.i64.wrap (sumF (outV a) (stF m x)) = IntKind.i64.wrap (sumF (outV a) m + outU a x) := by
  unfold stF
  rw [sumF_mset a (mset_nodup hn), sumF_mset a hn]
  unfold outU
  obtain ⟨s, hs⟩ : ∃ s, sumF (outV a) m = s := ⟨_, rfl⟩
  obtain ⟨y, hy⟩ : ∃ y, lk m x.1 = y := ⟨_, rfl⟩
  obtain ⟨z, hz⟩ : ∃ z, lk (mset m x.1 (IntKind.i64.wrap (lk m x.1 + x.2))) (swp x.1) = z := ⟨_, rfl⟩
  rw [hs, hz, hy]
  show IntKind.i64.wrap (s + (if x.1.f = a then IntKind.i64.wrap (y + x.2) - y else 0) + (if x.1.t = a then IntKind.i64.wrap (z - x.2) - z else 0)) = _
  by_cases h1 : x.1.f = a
  · by_cases h2 : x.1.t = a
    · rw [if_pos h1, if_pos h2, if_pos h1, if_pos h2]
      have e1 : s + (IntKind.i64.wrap (y + x.2) - y) + (IntKind.i64.wrap (z - x.2) - z) = (s - y - z + IntKind.i64.wrap (y + x.2)) + IntKind.i64.wrap (z - x.2) := by omega
      rw [e1, wrap_add_r, Int.add_assoc, Int.add_comm (IntKind.i64.wrap (y + x.2)), ← Int.add_assoc, wrap_add_r]
      congr 1; omega
    · rw [if_pos h1, if_neg h2, if_pos h1, if_neg h2]
      have e1 : s + (IntKind.i64.wrap (y + x.2) - y) + 0 = (s - y) + IntKind.i64.wrap (y + x.2) := by omega
      rw [e1, wrap_add_r]
      congr 1; omega
  · by_cases h2 : x.1.t = a
    · rw [if_neg h1, if_pos h2, if_neg h1, if_pos h2]
      have e1 : s + 0 + (IntKind.i64.wrap (z - x.2) - z) = (s - z) + IntKind.i64.wrap (z - x.2) := by omega
      rw [e1, wrap_add_r]
      congr 1; omega
    · rw [if_neg h1, if_neg h2, if_neg h1, if_neg h2]
      congr 1; omega
theorem foF_out (a : ByteArray) : ∀ (G : List L2) {m : List L2} (hn : (m.map Prod.fst).Nodup), IntKind.i64.wrap (sumF (outV a) (foF m G)) = IntKind.i64.wrap (sumF (outV a) m + sumF (outU a) G)
  | [], m, _ => by simp [foF, sumF]
  | x :: G, m, hn => by
    show IntKind.i64.wrap (sumF (outV a) (foF (stF m x) G)) = _
    rw [foF_out a G (stF_nd hn), ← wrap_add_l, stF_out a hn, wrap_add_l, sumF, Int.add_assoc]
theorem aft_out (a : ByteArray) {m G : List L2} (hn : (m.map Prod.fst).Nodup) : outW (aftS m G) a = IntKind.i64.wrap (sumF (outV a) m + sumF (outU a) G) := by
  unfold outW aftS
  rw [sumF_filter (f := outV a) (p := nz) (fun x _ hx => by unfold outV; split; (simpa [nz] using hx); rfl), foF_out a G hn]
/-! The relation of the program's table and the reference's. -/
structure EQ (ls ns Ls F : List L2) (n : Nat) : Prop where
  so : kSorted Ls
  pm : Ls.Perm ls
  nd : (ns.map Prod.fst).Nodup
  nz : ∀ x ∈ ns, x.2 ≠ 0
  nt : ∀ q : PK, lk ns q = netR F q.f q.t
  ou : ∀ a, outW ns a = outR F a
  wn : ∀ q : PK, wthn (lk ns q) = true
  wo : ∀ a, wthn (outW ns a) = true
  va : ∀ x ∈ F, FV x
  ll : ls.length ≤ n
  lF : F.length ≤ 12 * n
  ln : ns.length ≤ 24 * n
theorem EQ.new : EQ [] [] [] [] 0 := by
  refine ⟨List.Pairwise.nil, List.Perm.refl _, List.nodup_nil, (fun x hx => by cases hx), fun q => ?_, fun a => rfl, fun q => rfl, fun a => rfl, (fun x hx => by cases hx), Nat.le_refl _, Nat.le_refl _, Nat.le_refl _⟩
  rw [netR_eq (fun x hx => by cases hx)]; rfl
/-- A flow that moves a net amount stands among the flows. -/
theorem netR_mem {F : List L2} {a b : ByteArray} (h : netR F a b ≠ 0) : ∃ y ∈ F, (y.1.f = a ∧ y.1.t = b) ∨ (y.1.f = b ∧ y.1.t = a) := by
  apply Decidable.byContradiction
  intro hn
  apply h
  unfold netR
  by_cases hab : a = b
  · rw [if_pos hab]
  · rw [if_neg hab, sumF_zero (f := netV a b) (fun x hx => ?_)]
    · rfl
    · unfold netV
      rw [if_neg (fun hh => hn ⟨x, hx, .inl hh⟩), if_neg (fun hh => hn ⟨x, hx, .inr hh⟩)]; rfl
theorem netR_swap {F : List L2} (hF : ∀ x ∈ F, FV x) {a b : ByteArray} (h : wthn (netR F a b) = true) : netR F b a = - netR F a b := by
  rw [netR_eq hF, sumN_swap, netR_eq hF]
  rw [netR_eq hF, wthn_iff] at h
  exact wrap_neg (by omega)
theorem netR_sw0 {F : List L2} (hF : ∀ x ∈ F, FV x) {a b : ByteArray} (h : netR F a b = 0) : netR F b a = 0 := by
  rw [netR_swap hF (by rw [h]; rfl), h]; rfl
/-- The number of the members. -/
theorem cnt_eq {ls ns Ls F : List L2} (hp : Ls.Perm ls) (hnd : (ns.map Prod.fst).Nodup) (hnz : ∀ x ∈ ns, x.2 ≠ 0) (hnt : ∀ q : PK, lk ns q = netR F q.f q.t) (hF : ∀ x ∈ F, FV x) : cntM ls ns = cntR Ls F := by
  unfold cntR
  refine nub_len (nub_nd _) fun a => ?_
  rw [mem_nub, List.mem_append, List.mem_append]
  have h1 : a ∈ ments ls ↔ a ∈ ments Ls := by
    rw [mem_ments, mem_ments]
    exact ⟨fun ⟨x, hx, h⟩ => ⟨x, hp.mem_iff.2 hx, h⟩, fun ⟨x, hx, h⟩ => ⟨x, hp.mem_iff.1 hx, h⟩⟩
  have h2 : a ∈ ments ns ↔ a ∈ F.flatMap (flM F) := by
    rw [mem_ments, List.mem_flatMap]
    constructor
    · rintro ⟨x, hx, h⟩
      have h3 : netR F x.1.f x.1.t ≠ 0 := by rw [← hnt x.1, lk_mem hnd hx]; exact hnz x hx
      obtain ⟨y, hy, hyx⟩ := netR_mem h3
      refine ⟨y, hy, flM_mem.2 ?_⟩
      rcases hyx with ⟨e1, e2⟩ | ⟨e1, e2⟩
      · rw [e1, e2]; exact ⟨h3, h.imp id And.right⟩
      · rw [e1, e2]; exact ⟨fun hh => h3 (netR_sw0 hF hh), (h.imp id And.right).symm⟩
    · rintro ⟨y, hy, h⟩
      obtain ⟨h3, h4⟩ := flM_mem.1 h
      have h5 : lk ns y.1 ≠ 0 := by rw [hnt y.1]; exact h3
      have h6 : ∃ v, (y.1, v) ∈ ns := by
        apply Classical.byContradiction
        intro hh
        exact h5 (lk_none fun z hz hzy => hh ⟨z.2, by rw [← hzy]; exact hz⟩)
      obtain ⟨v, hv⟩ := h6
      exact ⟨_, hv, h4.imp id fun hh => ⟨(hF y hy).t, hh⟩⟩
  rw [h1, h2]
theorem EQ.aftlk {ls ns Ls F G : List L2} {n : Nat} (hQ : EQ ls ns Ls F n) (hG : ∀ x ∈ G, FV x) (q : PK) : lk (aftS ns G) q = netR (F ++ G) q.f q.t := by
  have hFG : ∀ x ∈ F ++ G, FV x := fun x hx => (List.mem_append.1 hx).elim (hQ.va x) (hG x)
  unfold aftS
  rw [lk_nz (foF_nd G hQ.nd), foF_lk G hG q (by rw [hQ.nt q, netR_eq hQ.va, wrap_wrap64]), hQ.nt q, netR_eq hQ.va, wrap_add_l, netR_eq hFG, sumF_app]
theorem EQ.aftout {ls ns Ls F G : List L2} {n : Nat} (hQ : EQ ls ns Ls F n) (a : ByteArray) : outW (aftS ns G) a = outR (F ++ G) a := by
  rw [aft_out a hQ.nd, ← wrap_add_l]
  have := hQ.ou a
  unfold outW outR at this
  rw [this, wrap_add_l]
  unfold outR
  rw [sumF_app]
/-- All is within the bounds, or a flow tells. -/
theorem EQ.over {ls ns Ls F G : List L2} {n : Nat} (hQ : EQ ls ns Ls F n) (hG : ∀ x ∈ G, FV x) :
    (∃ x ∈ G, overR (F ++ G) x) ↔ ¬ ((∀ q : PK, wthn (lk (aftS ns G) q) = true) ∧ ∀ a, wthn (outW (aftS ns G) a) = true) := by
  have hFG : ∀ x ∈ F ++ G, FV x := fun x hx => (List.mem_append.1 hx).elim (hQ.va x) (hG x)
  constructor
  · rintro ⟨x, hx, h⟩ ⟨h1, h2⟩
    rcases h with h | h | h
    · exact h (by rw [← hQ.aftlk hG x.1]; exact h1 _)
    · exact h (by rw [← hQ.aftout]; exact h2 _)
    · exact h (by rw [← hQ.aftout]; exact h2 _)
  · intro h
    apply Decidable.byContradiction
    intro hno
    apply h
    have hn : ∀ x ∈ G, wthn (netR (F ++ G) x.1.f x.1.t) = true ∧ wthn (outR (F ++ G) x.1.f) = true ∧ wthn (outR (F ++ G) x.1.t) = true := fun x hx => by
      refine ⟨?_, ?_, ?_⟩
      · exact Decidable.byContradiction fun hh => hno ⟨x, hx, .inl hh⟩
      · exact Decidable.byContradiction fun hh => hno ⟨x, hx, .inr (.inl hh)⟩
      · exact Decidable.byContradiction fun hh => hno ⟨x, hx, .inr (.inr hh)⟩
    refine ⟨fun q => ?_, fun a => ?_⟩
    · by_cases hq : ∃ x ∈ G, (x.1.f = q.f ∧ x.1.t = q.t) ∨ (x.1.f = q.t ∧ x.1.t = q.f)
      · obtain ⟨x, hx, ⟨e1, e2⟩ | ⟨e1, e2⟩⟩ := hq
        · rw [hQ.aftlk hG q, ← e1, ← e2]; exact (hn x hx).1
        · have h1 := (hn x hx).1
          rw [hQ.aftlk hG q, ← e1, ← e2, netR_swap hFG h1]
          rw [wthn_iff] at h1 ⊢
          omega
      · have h0 : sumF (netV q.f q.t) G = 0 := sumF_zero fun x hx => by
          unfold netV
          rw [if_neg (fun hh => hq ⟨x, hx, .inl hh⟩), if_neg (fun hh => hq ⟨x, hx, .inr hh⟩)]; rfl
        rw [hQ.aftlk hG q, netR_eq hFG, sumF_app, h0, Int.add_zero, ← netR_eq hQ.va, ← hQ.nt q]
        exact hQ.wn q
    · by_cases ha : ∃ x ∈ G, x.1.f = a ∨ x.1.t = a
      · obtain ⟨x, hx, rfl | rfl⟩ := ha
        · rw [hQ.aftout]; exact (hn x hx).2.1
        · rw [hQ.aftout]; exact (hn x hx).2.2
      · have h0 : sumF (outU a) G = 0 := sumF_zero fun x hx => by
          unfold outU
          rw [if_neg (fun hh => ha ⟨x, hx, .inl hh⟩), if_neg (fun hh => ha ⟨x, hx, .inr hh⟩)]; rfl
        rw [hQ.aftout]
        have h9 := hQ.wo a
        rw [hQ.ou a] at h9
        unfold outR at h9 ⊢
        rw [sumF_app, h0, Int.add_zero]
        exact h9
/-- What the program finds out of range. -/
theorem prog_over {m : List L2} (hn : (m.map Prod.fst).Nodup) : ((∀ x ∈ m, wthn x.2 = true) ∧ ∀ x ∈ m, wthn (outW m x.1.f) = true) ↔ ((∀ q : PK, wthn (lk m q) = true) ∧ ∀ a, wthn (outW m a) = true) := by
  constructor
  · rintro ⟨h1, h2⟩
    refine ⟨fun q => ?_, fun a => ?_⟩
    · by_cases h : ∃ v, (q, v) ∈ m
      · obtain ⟨v, hv⟩ := h
        rw [lk_mem hn hv]; exact h1 _ hv
      · rw [lk_none (fun y hy hh => h ⟨y.2, by rw [← hh]; exact hy⟩)]; rfl
    · by_cases h : ∃ x ∈ m, x.1.f = a
      · obtain ⟨x, hx, rfl⟩ := h
        exact h2 x hx
      · rw [outW_no (fun x hx hh => h ⟨x, hx, hh⟩)]; rfl
  · rintro ⟨h1, h2⟩
    refine ⟨fun x hx => ?_, fun x hx => h2 _⟩
    have := h1 x.1
    rw [lk_mem hn (v := x.2) hx] at this
    exact this
/-- Both reject the same flows. -/
theorem EQ.chk {ls ns Ls F : List L2} {n : Nat} (hQ : EQ ls ns Ls F n) (G : List L2) : chkS ls ns G = chkR Ls F G := by
  unfold chkS chkR
  by_cases h0 : valE G ≠ 0
  · rw [if_pos h0, if_pos h0]
  rw [if_neg h0, if_neg h0]
  have hG := valE_ok (Decidable.not_not.1 h0)
  have hFG : ∀ x ∈ F ++ G, FV x := fun x hx => (List.mem_append.1 hx).elim (hQ.va x) (hG x)
  have hn := aft_nd G hQ.nd
  rw [cnt_eq hQ.pm hn aft_nz (hQ.aftlk hG) hFG]
  by_cases h1 : 256 < cntR Ls (F ++ G)
  · rw [if_pos h1, if_pos h1]
  rw [if_neg h1, if_neg h1]
  by_cases h2 : ∃ x ∈ G, overR (F ++ G) x
  · rw [if_pos h2]
    by_cases h3 : ¬ (∀ x ∈ aftS ns G, wthn x.2 = true)
    · rw [if_pos h3]
    · have h4 : ¬ (∀ x ∈ aftS ns G, wthn (outW (aftS ns G) x.1.f) = true) := fun hh => (hQ.over hG).1 h2 ((prog_over hn).1 ⟨Decidable.not_not.1 h3, hh⟩)
      rw [if_neg h3, if_pos h4]
  · have h5 := Classical.not_not.1 (fun hh => h2 ((hQ.over hG).2 hh))
    obtain ⟨h3, h4⟩ := (prog_over hn).2 h5
    rw [if_neg h2, if_neg (fun hh => hh h3), if_neg (fun hh => hh h4)]
    have e1 : (∃ x ∈ ls, x.1.t ≠ em ∧ excd x.2 (lk ns x.1) (lk (aftS ns G) x.1) = true) ↔ ∃ x ∈ Ls, x.1.t ≠ em ∧ excd x.2 (netR F x.1.f x.1.t) (netR (F ++ G) x.1.f x.1.t) = true :=
      ⟨fun ⟨x, hx, h, h'⟩ => ⟨x, hQ.pm.mem_iff.2 hx, h, by rw [← hQ.nt x.1, ← hQ.aftlk hG x.1]; exact h'⟩, fun ⟨x, hx, h, h'⟩ => ⟨x, hQ.pm.mem_iff.1 hx, h, by rw [hQ.nt x.1, hQ.aftlk hG x.1]; exact h'⟩⟩
    have e2 : (∃ x ∈ ls, x.1.t = em ∧ excd x.2 (outW ns x.1.f) (outW (aftS ns G) x.1.f) = true) ↔ ∃ x ∈ Ls, x.1.t = em ∧ excd x.2 (outR F x.1.f) (outR (F ++ G) x.1.f) = true :=
      ⟨fun ⟨x, hx, h, h'⟩ => ⟨x, hQ.pm.mem_iff.2 hx, h, by rw [← hQ.ou, ← hQ.aftout]; exact h'⟩, fun ⟨x, hx, h, h'⟩ => ⟨x, hQ.pm.mem_iff.1 hx, h, by rw [hQ.ou, hQ.aftout]; exact h'⟩⟩
    simp only [e1, e2]
/-- Both take the same flows. -/
theorem EQ.recd {ls ns Ls F : List L2} {n : Nat} (hQ : EQ ls ns Ls F n) {G : List L2} (hG : G.length ≤ 12) {r : Int} (hr : chkS ls ns G = r) : EQ ls (if r = 0 then aftS ns G else ns) Ls (if r = 0 then F ++ G else F) (n + 1) := by
  by_cases h : r = 0
  · rw [if_pos h, if_pos h]
    obtain ⟨h0, _, h3, h4, _, _⟩ := chkS_ok (hr.trans h)
    have hv := valE_ok h0
    have hn := aft_nd G hQ.nd
    obtain ⟨h5, h6⟩ := (prog_over hn).1 ⟨h3, h4⟩
    refine ⟨hQ.so, hQ.pm, hn, aft_nz, hQ.aftlk hv, hQ.aftout, h5, h6, fun x hx => (List.mem_append.1 hx).elim (hQ.va x) (hv x), Nat.le_succ_of_le hQ.ll, ?_, ?_⟩
    · have := hQ.lF; rw [List.length_append]; omega
    · have := hQ.ln; have := aft_len ns G; omega
  · rw [if_neg h, if_neg h]
    exact ⟨hQ.so, hQ.pm, hQ.nd, hQ.nz, hQ.nt, hQ.ou, hQ.wn, hQ.wo, hQ.va, Nat.le_succ_of_le hQ.ll, by have := hQ.lF; omega, by have := hQ.ln; omega⟩
theorem EQ.reset {ls ns Ls F : List L2} {n : Nat} (hQ : EQ ls ns Ls F n) : EQ ls [] Ls [] (n + 1) := by
  have h := EQ.new
  exact ⟨hQ.so, hQ.pm, h.nd, h.nz, h.nt, h.ou, h.wn, h.wo, h.va, Nat.le_succ_of_le hQ.ll, Nat.zero_le _, Nat.zero_le _⟩
/-! Limits are set. -/
theorem insR_true (q : PK) (a : Int) : ∀ l : List L2, insR q a true l = mdel l q
  | [] => rfl
  | x :: l => by
    by_cases h : x.1 = q
    · simp only [insR, if_pos h, insR_true q a l]
      unfold mdel
      rw [List.filter_cons_of_neg (by simpa using h)]
    · simp only [insR, if_neg h, if_neg (show ¬ (true = false ∧ kLt q x.1) from fun hh => by cases hh.1), insR_true q a l]
      unfold mdel
      rw [List.filter_cons_of_pos (by simpa using h)]
theorem insR_lt {q : PK} {a : Int} {x : L2} {l : List L2} (h : ¬ x.1 = q) (h2 : kLt q x.1) : insR q a false (x :: l) = (q, a) :: x :: insR q a true l := by
  rw [insR, if_neg h, if_pos ⟨rfl, h2⟩]
theorem insR_ge {q : PK} {a : Int} {x : L2} {l : List L2} (h : ¬ x.1 = q) (h2 : ¬ kLt q x.1) : insR q a false (x :: l) = x :: insR q a false l := by
  rw [insR, if_neg h, if_neg (fun hh => h2 hh.2)]
theorem mdel_cons_eq {q : PK} {x : L2} {l : List L2} (h : x.1 = q) : mdel (x :: l) q = mdel l q := by
  unfold mdel; rw [List.filter_cons_of_neg (by simpa using h)]
theorem mdel_cons_ne {q : PK} {x : L2} {l : List L2} (h : x.1 ≠ q) : mdel (x :: l) q = x :: mdel l q := by
  unfold mdel; rw [List.filter_cons_of_pos (by simpa using h)]
theorem insR_perm (q : PK) (a : Int) : ∀ l : List L2, (insR q a false l).Perm ((q, a) :: mdel l q)
  | [] => List.Perm.refl _
  | x :: l => by
    by_cases h : x.1 = q
    · simp only [insR, if_pos h]
      rw [mdel_cons_eq h]
      exact insR_perm q a l
    · rw [mdel_cons_ne h]
      by_cases h2 : kLt q x.1
      · rw [insR_lt h h2, insR_true]
      · rw [insR_ge h h2]
        exact ((insR_perm q a l).cons x).trans (List.Perm.swap _ _ _)
theorem insR_sorted (q : PK) (a : Int) : ∀ {l : List L2}, kSorted l → kSorted (insR q a false l)
  | [], _ => List.pairwise_singleton _ _
  | x :: l, hs => by
    have hs' := List.pairwise_cons.1 hs
    by_cases h : x.1 = q
    · simp only [insR, if_pos h]
      exact insR_sorted q a hs'.2
    · by_cases h2 : kLt q x.1
      · rw [insR_lt h h2, insR_true]
        have h3 : (mdel l q).Pairwise fun x y => kLt x.1 y.1 := hs'.2.sublist List.filter_sublist
        have h4 : ∀ y ∈ mdel l q, kLt x.1 y.1 := fun y hy => hs'.1 y (List.mem_filter.1 hy).1
        refine List.pairwise_cons.2 ⟨fun y hy => ?_, List.pairwise_cons.2 ⟨h4, h3⟩⟩
        rcases List.mem_cons.1 hy with rfl | hy
        · exact h2
        · exact kLt_trans h2 (h4 y hy)
      · rw [insR_ge h h2]
        have h5 : kLt x.1 q := Classical.byContradiction fun hh => h (kLt_tri hh h2)
        refine List.pairwise_cons.2 ⟨fun y hy => ?_, insR_sorted q a hs'.2⟩
        rcases List.mem_cons.1 ((insR_perm q a l).mem_iff.1 hy) with rfl | hy
        · exact h5
        · exact hs'.1 y (List.mem_filter.1 hy).1
theorem mset_perm (q : PK) (a : Int) : ∀ {l : List L2}, (l.map Prod.fst).Nodup → (mset l q a).Perm ((q, a) :: mdel l q)
  | [], _ => List.Perm.refl _
  | x :: l, hn => by
    rw [List.map_cons, List.nodup_cons] at hn
    by_cases h : x.1 = q
    · rw [mdel_cons_eq h, mdel_no (fun y hy hh => hn.1 (by rw [h, ← hh]; exact List.mem_map_of_mem hy))]
      simp only [mset, if_pos h]
      exact List.Perm.refl _
    · rw [mdel_cons_ne h]
      simp only [mset, if_neg h]
      exact ((mset_perm q a hn.2).cons x).trans (List.Perm.swap _ _ _)
theorem ks_nd {l : List L2} (hs : kSorted l) : (l.map Prod.fst).Nodup := by
  rw [List.nodup_iff_pairwise_ne, List.pairwise_map]
  refine List.Pairwise.imp ?_ hs
  intro x y h hh
  rw [hh] at h
  exact kLt_irrefl _ h
theorem setL_perm {ls Ls : List L2} (hp : Ls.Perm ls) (hs : kSorted Ls) (q : PK) (a : Int) : (insR q a (decide (a < 0)) Ls).Perm (setL ls q a) := by
  have hm : (mdel Ls q).Perm (mdel ls q) := hp.filter _
  unfold setL
  by_cases h : a < 0
  · rw [if_pos h, decide_eq_true h, insR_true]
    exact hm
  · rw [if_neg h, decide_eq_false h]
    have hn : (ls.map Prod.fst).Nodup := (hp.map Prod.fst).nodup_iff.1 (ks_nd hs)
    exact (insR_perm q a Ls).trans ((hm.cons _).trans (mset_perm q a hn).symm)
theorem setL_sorted {Ls : List L2} (hs : kSorted Ls) (q : PK) (a : Int) : kSorted (insR q a (decide (a < 0)) Ls) := by
  by_cases h : a < 0
  · rw [decide_eq_true h, insR_true]
    exact List.Pairwise.sublist List.filter_sublist hs
  · rw [decide_eq_false h]
    exact insR_sorted q a hs
theorem EQ.cntS {ls ns Ls F : List L2} {n : Nat} (hQ : EQ ls ns Ls F n) (q : PK) (a : Int) : cntM (setL ls q a) ns = cntR (insR q a (decide (a < 0)) Ls) F := cnt_eq (setL_perm hQ.pm hQ.so q a) hQ.nd hQ.nz hQ.nt hQ.va
theorem EQ.setBE {ls ns Ls F : List L2} {n : Nat} (hQ : EQ ls ns Ls F n) (q : PK) (a : Int) : GL.setBE ls ns q a = rsetE Ls F q.f q.t a false := by
  unfold GL.setBE rsetE setE
  rw [hQ.cntS q a]
  simp
theorem EQ.setME {ls ns Ls F : List L2} {n : Nat} (hQ : EQ ls ns Ls F n) (f t : ByteArray) (a : Int) : GL.setME ls ns f a = rsetE Ls F f t a true := by
  unfold GL.setME rsetE setE
  rw [hQ.cntS ⟨f, em⟩ a]
  simp
theorem EQ.set {ls ns Ls F : List L2} {n : Nat} (hQ : EQ ls ns Ls F n) (q : PK) (a : Int) (r : Int) : EQ (if r = 0 then setL ls q a else ls) ns (if r = 0 then insR q a (decide (a < 0)) Ls else Ls) F (n + 1) := by
  have h1 := hQ.lF
  have h2 := hQ.ln
  by_cases h : r = 0
  · rw [if_pos h, if_pos h]
    exact ⟨setL_sorted hQ.so q a, setL_perm hQ.pm hQ.so q a, hQ.nd, hQ.nz, hQ.nt, hQ.ou, hQ.wn, hQ.wo, hQ.va, Nat.le_trans (setL_len _ _ _) (Nat.succ_le_succ hQ.ll), by omega, by omega⟩
  · rw [if_neg h, if_neg h]
    exact ⟨hQ.so, hQ.pm, hQ.nd, hQ.nz, hQ.nt, hQ.ou, hQ.wn, hQ.wo, hQ.va, Nat.le_succ_of_le hQ.ll, by omega, by omega⟩
theorem lookup_perm {l m : List L2} (hp : l.Perm m) (hn : (l.map Prod.fst).Nodup) (q : PK) : l.lookup q = m.lookup q := by
  have hn2 : (m.map Prod.fst).Nodup := (hp.map Prod.fst).nodup_iff.1 hn
  cases h : l.lookup q with
  | some v => exact (lookup_mem hn2 (hp.mem_iff.1 (mem_lookup h))).symm
  | none => exact (lookup_no fun p hp' => lookup_none_iff.1 h p (hp.mem_iff.2 hp')).symm
theorem EQ.look {ls ns Ls F : List L2} {n : Nat} (hQ : EQ ls ns Ls F n) (q : PK) : Ls.lookup q = ls.lookup q := lookup_perm hQ.pm (ks_nd hQ.so) q
theorem EQ.list {ls ns Ls F L : List L2} {n : Nat} (hQ : EQ ls ns Ls F n) (hs : kSorted L) (hp : L.Perm ls) : L = Ls := sorted_uniq hs hQ.so (hp.trans hQ.pm.symm)
end GL


/- Ledger: the statement on netting. -/
import Derived.Test.YtlmealnfkadndaaLedS
set_option linter.unusedSimpArgs false
set_option linter.unusedVariables false
set_option linter.unnecessarySimpa false
namespace GL
open Go Go.Proofs
set_option maxRecDepth 8000
theorem net_put (m : List E2) : netL m = putL [] m := rfl
theorem net_sum (p : E2 → Prop) [DecidablePred p] (hp : ∀ (k : K2) (u v : Int), p (k, u) ↔ p (k, v)) {m : List E2} (hl : m.length ≤ 4096) (hv : ∀ x ∈ m, vld x.2 = true) : sumS p (netL m) = sumS p m := by
  rw [net_put, put_sum p hp m (B := 0) (by simp) (fun q => by simp [lk_nil]) (by omega) hv]
  simp [sumS]
theorem net_nd (m : List E2) : ((netL m).map Prod.fst).Nodup := putL_nodup m (ks := []) (by simp)
theorem net_len (m : List E2) : (netL m).length ≤ m.length := by have := putL_len m []; simpa [net_put] using this
theorem net_key (m : List E2) (q : K2) : q ∈ (netL m).map Prod.fst ↔ ∃ x ∈ m, x.1 = q := accL_keys _ _ _
structure OkN (m : List E2) : Prop where
  len : m.length ≤ 4096
  val : ∀ x ∈ m, vld x.2 = true
  net : ∀ x ∈ m, vld (netM m x.1) = true
theorem OkN.vals {m : List E2} (o : OkN m) : ∀ x ∈ netL m, vld x.2 = true := fun x hx => by
  obtain ⟨h1, y, hy, h2⟩ := net_mem (net_nd m) hx
  rw [h1, ← h2]; exact o.net y hy
theorem OkN.netM {m : List E2} (o : OkN m) (q : K2) : netM (netL m) q = GL.netM m q := by
  rw [(netM_eq (Nat.le_trans (net_len m) o.len) o.vals q).1, (netM_eq o.len o.val q).1, net_sum _ (fun k u v => Iff.rfl) o.len o.val]
theorem OkN.sumA {m : List E2} (o : OkN m) (a : Int) : sumA (netL m) a = GL.sumA m a := by
  rw [(sumA_eq (Nat.le_trans (net_len m) o.len) o.vals a).1, (sumA_eq o.len o.val a).1, net_sum _ (fun k u v => Iff.rfl) o.len o.val]
theorem OkN.all {m : List E2} {P : K2 → Prop} : (∀ x ∈ netL m, P x.1) ↔ ∀ x ∈ m, P x.1 := by
  constructor
  · intro h x hx
    obtain ⟨p, hp, h1⟩ := List.mem_map.1 ((net_key m x.1).2 ⟨x, hx, rfl⟩)
    rw [← h1]; exact h p hp
  · intro h x hx
    obtain ⟨_, y, hy, h2⟩ := net_mem (net_nd m) hx
    rw [← h2]; exact h y hy
theorem OkN.chk {m : List E2} (o : OkN m) (bal flo : K2 → Int) : chkE bal flo (netL m) = chkE bal flo m := by
  have h0 : (netL m).length = 0 ↔ m.length = 0 := by
    constructor
    · intro h
      cases m with
      | nil => rfl
      | cons x m =>
        have h1 := (net_key (x :: m) x.1).2 ⟨x, by simp, rfl⟩
        rw [List.length_eq_zero_iff.1 h] at h1
        cases h1
    · intro h; rw [List.length_eq_zero_iff.1 h]; rfl
  have h1 := net_len m
  have h2 := o.len
  unfold chkE
  simp only [o.netM, o.sumA, h0]
  by_cases hz : m.length = 0
  · rw [if_pos hz, if_pos hz]
  have e1 : ¬ 4096 < (netL m).length := by omega
  have e2 : ¬ 4096 < m.length := by omega
  rw [if_neg hz, if_neg hz, if_neg e1, if_neg e2, if_neg (show ¬ ¬ ∀ x ∈ netL m, vld x.2 = true from fun h => h o.vals), if_neg (show ¬ ¬ ∀ x ∈ m, vld x.2 = true from fun h => h o.val)]
  have a1 := OkN.all (m := m) (P := fun q => vld (bal q + GL.netM m q) = true)
  have a2 := OkN.all (m := m) (P := fun q => GL.sumA m q.a = 0)
  have a3 := OkN.all (m := m) (P := fun q => GL.netM m q < 0 → flo q ≤ bal q + GL.netM m q)
  simp only [a1, a2, a3]
/-! The order of keys does not see the netting. -/
def kf (A l : List K2) : List K2 := l.foldl (fun acc x => if x ∈ acc then acc else acc ++ [x]) A
theorem kf_app (A l m : List K2) : kf A (l ++ m) = kf (kf A l) m := List.foldl_append
theorem kf_mem (l : List K2) (q : K2) : ∀ A, q ∈ kf A l ↔ q ∈ A ∨ q ∈ l := by
  induction l with
  | nil => intro A; simp [kf]
  | cons x l ih =>
    intro A
    show q ∈ kf (if x ∈ A then A else A ++ [x]) l ↔ _
    rw [ih]
    by_cases h : x ∈ A
    · rw [if_pos h, List.mem_cons]
      constructor
      · rintro (h1 | h1)
        · exact .inl h1
        · exact .inr (.inr h1)
      · rintro (h1 | rfl | h1)
        · exact .inl h1
        · exact .inl h
        · exact .inr h1
    · rw [if_neg h, List.mem_append, List.mem_singleton, List.mem_cons, or_assoc]
theorem kf_kf (A : List K2) : ∀ (n : Nat) (l : List K2), l.length = n → kf A (kf [] l) = kf A l := by
  intro n
  induction n with
  | zero => intro l hl; rw [List.length_eq_zero_iff.1 hl]; rfl
  | succ n ih =>
    intro l hl
    have hne : l ≠ [] := fun h => by rw [h] at hl; cases hl
    obtain ⟨m, x, rfl⟩ : ∃ m x, l = m ++ [x] := ⟨l.dropLast, l.getLast hne, (List.dropLast_concat_getLast hne).symm⟩
    have hm : m.length = n := by simpa using hl
    rw [kf_app [] m [x], kf_app A m [x]]
    show kf A (if x ∈ kf [] m then kf [] m else kf [] m ++ [x]) = if x ∈ kf A m then kf A m else kf A m ++ [x]
    by_cases h : x ∈ kf [] m
    · rw [if_pos h, ih m hm, if_pos ((kf_mem m x A).2 (.inr (((kf_mem m x []).1 h).resolve_left (by simp))))]
    · rw [if_neg h, kf_app, ih m hm]
      rfl
theorem putL_kf (l : List E2) : ∀ ks : List E2, (putL ks l).map Prod.fst = kf (ks.map Prod.fst) (l.map Prod.fst) := by
  induction l with
  | nil => intro ks; rfl
  | cons x l ih =>
    intro ks
    show (putL (mset ks x.1 _) l).map Prod.fst = kf (if x.1 ∈ ks.map Prod.fst then ks.map Prod.fst else ks.map Prod.fst ++ [x.1]) (l.map Prod.fst)
    rw [ih, mset_fst]
theorem OkN.put {m ks : List E2} (o : OkN m) (hn : (ks.map Prod.fst).Nodup) (hb : ∀ q, vld (lk ks q) = true) : putL ks (netL m) = putL ks m := by
  refine keys_ext ?_ (putL_nodup _ hn) fun q => ?_
  · rw [putL_kf, putL_kf, net_put, putL_kf]
    exact kf_kf _ _ _ rfl
  · rw [putL_lk (Nat.le_trans (net_len m) o.len) o.vals (hb q), putL_lk o.len o.val (hb q), o.netM]
/-- The list as the statement makes it. -/
def ntP (m : List E2) (i : Nat) : List E2 := ((netL (m.take i)).map Prod.fst).map fun k => (k, netM m k)
theorem ntP_all (m : List E2) : ntP m m.length = netL m := by
  unfold ntP
  rw [List.take_length, List.map_map]
  conv => rhs; rw [← List.map_id (netL m)]
  exact List.map_congr_left fun p hp => by
    have := (net_mem (net_nd m) hp).1
    simp only [Function.comp, id]
    rw [← this]
theorem ntP_step {m : List E2} {i : Nat} {x : E2} (hx : m[i]? = some x) : ntP m (i + 1) = if x.1 ∈ (m.take i).map Prod.fst then ntP m i else ntP m i ++ [(x.1, netM m x.1)] := by
  unfold ntP
  have h1 : netL (m.take (i + 1)) = mset (netL (m.take i)) x.1 (IntKind.i64.wrap (lk (netL (m.take i)) x.1 + x.2)) := accL_step Prod.fst hx
  have h2 : x.1 ∈ (netL (m.take i)).map Prod.fst ↔ x.1 ∈ (m.take i).map Prod.fst := by
    rw [net_key, List.mem_map]
  rw [h1, mset_fst]
  by_cases h : x.1 ∈ (m.take i).map Prod.fst
  · rw [if_pos h, if_pos (h2.2 h)]
  · rw [if_neg h, if_neg (fun hh => h (h2.1 hh)), List.map_append]
    rfl
theorem ntP_len (m : List E2) (i : Nat) : (ntP m i).length ≤ m.length := by
  unfold ntP
  rw [List.length_map, List.length_map]
  have := net_len (m.take i)
  rw [List.length_take] at this
  omega
theorem again_step {m : List E2} {j : Nat} {q : K2} {y : E2} (hy : m[j]? = some y) : (decide (q ∈ (m.take j).map Prod.fst) || (decide (y.1.o = q.o) && decide (y.1.a = q.a))) = decide (q ∈ (m.take (j + 1)).map Prod.fst) := by
  rw [List.take_add_one, hy, Bool.eq_iff_iff]
  simp only [Bool.or_eq_true, Bool.and_eq_true, decide_eq_true_eq, Option.toList_some, List.map_append, List.map_cons, List.map_nil, List.mem_append, List.mem_singleton, k2_eq]
  constructor
  · rintro (h | ⟨h1, h2⟩)
    · exact .inl h
    · exact .inr ⟨h1.symm, h2.symm⟩
  · rintro (h | ⟨h1, h2⟩)
    · exact .inl h
    · exact .inr ⟨h1.symm, h2.symm⟩
theorem u8E_net {m : List E2} (h : okE m) : okE (netL m) := put_rng h (fun x hx => by cases hx)
set_option maxHeartbeats 2000000 in
theorem l_net (al : Option Addr) (l : List LOp) (cl : Nat) (am : Option Addr) (m : List E2) (cm : Nat) {h : Heap} (hl : SlO h al l) (ll : l.length ≤ 9223372036854775807) (hu : ∀ o ∈ l, okE o.L)
    (hm : SlG 3 entL h am m) (hum : okE m) : HCalls Try.prog 7 #[.slice al l.length cl, .slice am m.length cm] h (Grow (.bool true) h) := by
  refine hcalls2 Try.func7 rfl (by decide +kernel) (by simp only [Try.ntmps7]; exact of_decide_eq_true rfl) ?_
  intro e hin
  have e0 := hin 0 _ rfl
  have e1 := hin 1 _ rfl
  have hE := Ext.refl h; have km := hm
  refine hx_seq ?_
  refine hx_region ?_
  refine WL.qq (by simp only [EN, Nat.reduceEqDiff, reduceIte, qv_assign, decide_true, Bool.not_true, Bool.not_false, decide_false, eq_self, if_true, if_false, Bool.or_true, Bool.and_true]; rfl) ?_
  refine WL.nil ?_
  refine th_norm ?_
  refine hx_seq ?_
  refine hx_seq ?_
  refine hx_region ?_
  refine WL.qq (by simp only [EN, Nat.reduceEqDiff, reduceIte, qv_move, e0, decide_true, Bool.not_true, Bool.not_false, decide_false, eq_self, if_true, if_false, Bool.or_true, Bool.and_true]; rfl) ?_
  refine WL.cg Try.call11 (by simp only [EN, Nat.reduceEqDiff, reduceIte, AR, decide_true, Bool.not_true, Bool.not_false, decide_false, eq_self, if_true, if_false, Bool.or_true, Bool.and_true]; exact c_few al l cl ll hl.ops) ?_
  intro h1 hx1
  replace hE := hE.ext hx1
  replace hl := hl.ext hx1
  replace hm := hm.ext hx1
  refine WL.qq (by simp only [EN, Nat.reduceEqDiff, reduceIte, qv_unOp, unv_not, decide_true, Bool.not_true, Bool.not_false, decide_false, eq_self, if_true, if_false, Bool.or_true, Bool.and_true]; rfl) ?_
  refine WL.qq (by simp only [EN, Nat.reduceEqDiff, reduceIte, qv_move, decide_true, Bool.not_true, Bool.not_false, decide_false, eq_self, if_true, if_false, Bool.or_true, Bool.and_true]; rfl) ?_
  refine WL.cq (gd_at (t := 17) rfl (by simp only [EN, Nat.reduceEqDiff, reduceIte, e1, decide_true, Bool.not_true, Bool.not_false, decide_false, eq_self, if_true, if_false, Bool.or_true, Bool.and_true] <;> rfl)) (fun hg1_4 => by simp only [EN, Nat.reduceEqDiff, reduceIte, qv_move, e1, decide_true, Bool.not_true, Bool.not_false, decide_false, eq_self, if_true, if_false, Bool.or_true, Bool.and_true, hg1_4, GR]; rfl) ?_
  refine WL.cq (gd_at (t := 17) rfl (by simp only [EN, Nat.reduceEqDiff, reduceIte, decide_true, Bool.not_true, Bool.not_false, decide_false, eq_self, if_true, if_false, Bool.or_true, Bool.and_true] <;> rfl)) (fun hg1_5 => by simp only [EN, Nat.reduceEqDiff, reduceIte, qv_len, ln26, AR, decide_true, Bool.not_true, Bool.not_false, decide_false, eq_self, if_true, if_false, Bool.or_true, Bool.and_true, hg1_5, GR]; rfl) ?_
  refine WL.cq (gd_at (t := 17) rfl (by simp only [EN, Nat.reduceEqDiff, reduceIte, decide_true, Bool.not_true, Bool.not_false, decide_false, eq_self, if_true, if_false, Bool.or_true, Bool.and_true] <;> rfl)) (fun hg1_6 => by simp only [EN, Nat.reduceEqDiff, reduceIte, qv_binOp, binv_gtr, decide_true, Bool.not_true, Bool.not_false, decide_false, eq_self, if_true, if_false, Bool.or_true, Bool.and_true, hg1_6, GR]; rfl) ?_
  refine WL.qq (by simp only [EN, Nat.reduceEqDiff, reduceIte, qv_pick, pk_and, pk_or, GR, decide_true, Bool.not_true, Bool.not_false, decide_false, eq_self, if_true, if_false, Bool.or_true, Bool.and_true]; rfl) ?_
  refine WL.nil ?_
  refine th_norm ?_
  refine hx_cond (by simp only [EN, Nat.reduceEqDiff, reduceIte, e0, e1, decide_true, Bool.not_true, Bool.not_false, decide_false, eq_self, if_true, if_false, Bool.or_true, Bool.and_true]; rfl) (fun hct21 => ?_) (fun hct21 => ?_)
  ·
    try simp only [BD] at hct21
    refine hx_seq ?_
    refine hx_region ?_
    refine WL.cg Try.call12 (by simp only [EN, Nat.reduceEqDiff, reduceIte, AR, decide_true, Bool.not_true, Bool.not_false, decide_false, eq_self, if_true, if_false, Bool.or_true, Bool.and_true]; exact c_known13 _) ?_
    intro h2 hx2
    replace hE := hE.ext hx2
    replace hl := hl.ext hx2
    replace hm := hm.ext hx2
    refine WL.qq (by simp only [EN, Nat.reduceEqDiff, reduceIte, qv_assign, decide_true, Bool.not_true, Bool.not_false, decide_false, eq_self, if_true, if_false, Bool.or_true, Bool.and_true]; rfl) ?_
    refine WL.nil ?_
    refine th_norm ?_
    refine hx_ret ?_
    refine th_ret ?_
    refine fin_ret [.tmp 4] rfl rfl (by simp only [EN, Nat.reduceEqDiff, reduceIte, resv, e0, e1, decide_true, Bool.not_true, Bool.not_false, decide_false, eq_self, if_true, if_false, Bool.or_true, Bool.and_true]; rfl) ?_  -- ret 0 r2
    exact ⟨rfl, hE⟩
  ·
    try simp only [BD] at hct21
    have ok : OkO l := few_ok (by simpa using hct21.1) hu
    have hml : m.length ≤ 12 := (by have h9 := hct21.2; omega)
    obtain ⟨s, hs⟩ : ∃ s, runB l = s := ⟨_, rfl⟩
    have hg : GoodB s 12 := hs ▸ (List.take_length (l := l) ▸ good_run ok l.length (Nat.le_refl _)).up ok.len
    have hgl := hg.lk_; have hgs := hg.sq_; have hgg := hg.lg
    refine hx_skip ?_
    refine th_norm ?_
    refine hx_seq ?_
    refine hx_region ?_
    refine WL.qq (by simp only [EN, Nat.reduceEqDiff, reduceIte, qv_move, e0, decide_true, Bool.not_true, Bool.not_false, decide_false, eq_self, if_true, if_false, Bool.or_true, Bool.and_true]; rfl) ?_
    refine WL.ce Try.call13 (by simp only [EN, Nat.reduceEqDiff, reduceIte, AR, decide_true, Bool.not_true, Bool.not_false, decide_false, eq_self, if_true, if_false, Bool.or_true, Bool.and_true]; exact hs ▸ c_made al l cl ok hl) ?_
    rintro _ h3 ⟨hx3, p, bm, fm, vo, w, vk, vf, rfl, hbk, hrk, hfr⟩
    replace hE := hE.ext hx3
    replace hl := hl.ext hx3
    replace hm := hm.ext hx3
    simp only [put_some]
    refine WL.qq (by simp only [EN, Nat.reduceEqDiff, reduceIte, qv_move, decide_true, Bool.not_true, Bool.not_false, decide_false, eq_self, if_true, if_false, Bool.or_true, Bool.and_true]; rfl) ?_
    refine WL.qq (by simp only [EN, Nat.reduceEqDiff, reduceIte, qv_extract, AR, decide_true, Bool.not_true, Bool.not_false, decide_false, eq_self, if_true, if_false, Bool.or_true, Bool.and_true]; rfl) ?_
    refine WL.qq (by simp only [EN, Nat.reduceEqDiff, reduceIte, qv_extract, AR, decide_true, Bool.not_true, Bool.not_false, decide_false, eq_self, if_true, if_false, Bool.or_true, Bool.and_true]; rfl) ?_
    have hs2 := hE.size
    have hE0 := hE; replace hfr := hfr.le hx1.size
    refine WL.alloc2 zr29 ?_
    intro h4 B4 hx4 hlt4 hB4
    replace hE := hE.ext hx4
    replace hl := hl.ext hx4
    replace hm := hm.ext hx4
    replace hbk := hbk.ext hx4
    replace hrk := hrk.ext hx4
    simp only [Value.cells] at hB4
    refine WL.qq (by simp only [EN, Nat.reduceEqDiff, reduceIte, qv_assign, decide_true, Bool.not_true, Bool.not_false, decide_false, eq_self, if_true, if_false, Bool.or_true, Bool.and_true, hB4.cell]; rfl) ?_
    obtain rfl := hrk.val
    refine WL.store (by simp only [EN, Nat.reduceEqDiff, reduceIte, e0, e1, decide_true, Bool.not_true, Bool.not_false, decide_false, eq_self, if_true, if_false, Bool.or_true, Bool.and_true, hB4.cell] <;> rfl) sz29 (by simp only [EN, Nat.reduceEqDiff, reduceIte, e0, e1, decide_true, Bool.not_true, Bool.not_false, decide_false, eq_self, if_true, if_false, Bool.or_true, Bool.and_true, hB4.cell, Value.cells]; rfl) rfl hB4 (by simp) (by have h8 := hrk.ks.one; have h9 := hrk.fs.one; intro u hu; simp at hu; rcases hu with rfl | rfl | rfl <;> first | exact h8 | exact h9 | rfl) ?_
    intro h30 hw30
    replace hE := hw30.ext (hE0.trans hx4) (Nat.le_trans hs2 hlt4)
    replace hbk := hbk.st (.inr ⟨_, hw30⟩) hB4 (by decide) (by decide)
    replace hrk : IsRef h30 _ _ _ _ _ _ := ⟨hrk.val, hrk.ks.keep (fun c hc => hw30.same c fun hh => by subst hh; exact hrk.ks.ncell hB4 (by decide) hc), hrk.fs.keep (fun c hc => hw30.same c fun hh => by subst hh; exact hrk.fs.ncell hB4 (by decide) hc)⟩
    replace hm := km.ext hE
    replace hB4 := hw30.at_
    simp only [splc, List.take_zero, List.nil_append, List.drop_succ_cons, List.drop_zero, List.length_cons, List.length_nil, List.drop_nil, List.append_nil, Nat.zero_add, Nat.reduceAdd] at hB4
    refine WL.nil ?_
    refine th_norm ?_
    refine hx_seq ?_
    refine hx_seq ?_
    refine hx_region ?_
    refine WL.qq (by simp only [EN, Nat.reduceEqDiff, reduceIte, qv_move, decide_true, Bool.not_true, Bool.not_false, decide_false, eq_self, if_true, if_false, Bool.or_true, Bool.and_true, hB4.cell]; rfl) ?_
    refine WL.qq (by simp only [EN, Nat.reduceEqDiff, reduceIte, qv_binOp, binv_eql, eqz25, eqn25, eqm25, Option.map_some, decide_true, Bool.not_true, Bool.not_false, decide_false, eq_self, if_true, if_false, Bool.or_true, Bool.and_true, hB4.cell]; rfl) ?_
    refine WL.nil ?_
    refine th_norm ?_
    refine hx_cond (by simp only [EN, Nat.reduceEqDiff, reduceIte, e0, e1, decide_true, Bool.not_true, Bool.not_false, decide_false, eq_self, if_true, if_false, Bool.or_true, Bool.and_true, hB4.cell]; rfl) (fun hct29 => ?_) (fun hct29 => ?_)
    ·
      simp at hct29
    ·
      try simp only [BD] at hct29
      refine hx_skip ?_
      refine th_norm ?_
      refine hx_seq ?_
      refine hx_region ?_
      refine WL.qq (by simp only [EN, Nat.reduceEqDiff, reduceIte, qv_assign, decide_true, Bool.not_true, Bool.not_false, decide_false, eq_self, if_true, if_false, Bool.or_true, Bool.and_true, hB4.cell]; rfl) ?_
      refine WL.nil ?_
      refine th_norm ?_
      refine hx_seq ?_
      refine hx_seq ?_
      refine hx_region ?_
      refine WL.qq (by simp only [EN, Nat.reduceEqDiff, reduceIte, qv_assign, decide_true, Bool.not_true, Bool.not_false, decide_false, eq_self, if_true, if_false, Bool.or_true, Bool.and_true, hB4.cell]; rfl) ?_
      refine WL.nil ?_
      refine th_norm ?_
      refine hx_block ?_
      refine hx_loopG [4, 7, 8, 9, 10, 30, 31, 32, 33, 34, 35, 36, 37, 38, 39, 40, 41, 42, 43, 44, 45, 46, 47, 48, 49, 50, 51, 52, 53, 54, 55, 56, 57, 58, 59, 60, 61, 62, 63, 64, 65, 66, 67, 68, 69, 70, 71, 72, 73, 74, 75, 76, 77, 78, 79, 80, 81, 82, 83, 84, 85, 86, 87, 88, 89, 90, 91, 92] (fun k e hL0 => ∃ (i : Nat) (v : Value), m.length - i = k ∧ (i ≤ m.length) ∧ (Ext h30 hL0) ∧ (Own hL0 h30.size 44 3 v (ntP m i).length ((ntP m i).flatMap entL)) ∧ (∀ x ∈ m.take i, vld x.2 = true) ∧ (∀ x ∈ m.take i, vld (netM m x.1) = true) ∧ e 8 = .int .i64 i ∧ e 7 = v) _ ⟨0, .slice none 0 0, rfl, ?_, ?_, ?_, ?_, ?_, ?_, ?_⟩ ?_
      · omega
      · exact Ext.refl _
      · exact Own.nil
      · simp
      · simp
      · simp only [EN, Nat.reduceEqDiff, reduceIte, e0, e1, decide_true, Bool.not_true, Bool.not_false, decide_false, eq_self, if_true, if_false, Bool.or_true, Bool.and_true, hB4.cell] <;> rfl
      · simp only [EN, Nat.reduceEqDiff, reduceIte, e0, e1, decide_true, Bool.not_true, Bool.not_false, decide_false, eq_self, if_true, if_false, Bool.or_true, Bool.and_true, hB4.cell] <;> rfl
      ·
        rintro k e0L hL0 hfr0 ⟨i, v, rfl, hi, hX, ho, hv1, hv2, i8_0, i7_0⟩
        have k1_0 := hfr0 1 rfl; simp only [EN, Nat.reduceEqDiff, reduceIte, e0, e1, decide_true, Bool.not_true, Bool.not_false, decide_false, eq_self, if_true, if_false, Bool.or_true, Bool.and_true, hB4.cell] at k1_0
        have k5_0 := hfr0 5 rfl; simp only [EN, Nat.reduceEqDiff, reduceIte, e0, e1, decide_true, Bool.not_true, Bool.not_false, decide_false, eq_self, if_true, if_false, Bool.or_true, Bool.and_true, hB4.cell] at k5_0
        have k6_0 := hfr0 6 rfl; simp only [EN, Nat.reduceEqDiff, reduceIte, e0, e1, decide_true, Bool.not_true, Bool.not_false, decide_false, eq_self, if_true, if_false, Bool.or_true, Bool.and_true, hB4.cell] at k6_0
        have hm := hm.ext hX
        refine hx_seq ?_
        refine hx_seq ?_
        refine hx_region ?_
        refine WL.qq (by simp only [EN, Nat.reduceEqDiff, reduceIte, qv_move, i8_0, decide_true, Bool.not_true, Bool.not_false, decide_false, eq_self, if_true, if_false, Bool.or_true, Bool.and_true, hB4.cell]; rfl) ?_
        refine WL.qq (by simp only [EN, Nat.reduceEqDiff, reduceIte, qv_move, k1_0, decide_true, Bool.not_true, Bool.not_false, decide_false, eq_self, if_true, if_false, Bool.or_true, Bool.and_true, hB4.cell]; rfl) ?_
        refine WL.qq (by simp only [EN, Nat.reduceEqDiff, reduceIte, qv_len, ln26, AR, decide_true, Bool.not_true, Bool.not_false, decide_false, eq_self, if_true, if_false, Bool.or_true, Bool.and_true, hB4.cell]; rfl) ?_
        refine WL.qq (by simp only [EN, Nat.reduceEqDiff, reduceIte, qv_binOp, binv_lss, decide_true, Bool.not_true, Bool.not_false, decide_false, eq_self, if_true, if_false, Bool.or_true, Bool.and_true, hB4.cell]; rfl) ?_
        refine WL.nil ?_
        refine th_norm ?_
        refine hx_cond (by simp only [EN, Nat.reduceEqDiff, reduceIte, k1_0, k5_0, k6_0, i8_0, i7_0, decide_true, Bool.not_true, Bool.not_false, decide_false, eq_self, if_true, if_false, Bool.or_true, Bool.and_true, hB4.cell]; rfl) (fun hct33 => ?_) (fun hct33 => ?_)
        ·
          try simp only [BD] at hct33
          obtain ⟨x, hx⟩ := atG (l := m) (i := i) (by omega)
          have hae : ∃ b off, am = some ⟨b, off, none⟩ := (by obtain ⟨b, off, ha, _⟩ := ent_rd hm hx; exact ⟨b, off, ha⟩)
          obtain ⟨b, off, rfl⟩ := hae
          obtain ⟨b', off', hbo, hr3, hr2, hc0, hc1, hc2⟩ := ent_rd hm hx; cases hbo
          refine hx_skip ?_
          refine th_norm ?_
          refine hx_seq ?_
          refine hx_block ?_
          refine hx_seq ?_
          refine hx_region ?_
          refine WL.qq (by simp only [EN, Nat.reduceEqDiff, reduceIte, qv_move, k1_0, decide_true, Bool.not_true, Bool.not_false, decide_false, eq_self, if_true, if_false, Bool.or_true, Bool.and_true, hB4.cell]; rfl) ?_
          refine WL.qq (by simp only [EN, Nat.reduceEqDiff, reduceIte, qv_move, i8_0, decide_true, Bool.not_true, Bool.not_false, decide_false, eq_self, if_true, if_false, Bool.or_true, Bool.and_true, hB4.cell]; rfl) ?_
          refine WL.qq (by simp only [EN, Nat.reduceEqDiff, reduceIte, qv_indexAddr, decide_true, Bool.not_true, Bool.not_false, decide_false, eq_self, if_true, if_false, Bool.or_true, Bool.and_true, hB4.cell]; (try simp (disch := omega) only [ix26, Int.toNat_natCast]); rfl) ?_
          refine WL.qq (by simp only [EN, Nat.reduceEqDiff, reduceIte, qv_fieldAddr, fa44_1, Nat.zero_add, Nat.reduceAdd, decide_true, Bool.not_true, Bool.not_false, decide_false, eq_self, if_true, if_false, Bool.or_true, Bool.and_true, hB4.cell]; rfl) ?_
          refine WL.qq (by simp only [EN, Nat.reduceEqDiff, reduceIte, k1_0, k5_0, k6_0, i8_0, i7_0, decide_true, Bool.not_true, Bool.not_false, decide_false, eq_self, if_true, if_false, Bool.or_true, Bool.and_true, hB4.cell, qv_load, ld2, Int.toNat_natCast, hc2]; rfl) ?_
          refine WL.ck Try.call26 (by simp only [EN, Nat.reduceEqDiff, reduceIte, AR, decide_true, Bool.not_true, Bool.not_false, decide_false, eq_self, if_true, if_false, Bool.or_true, Bool.and_true, hB4.cell]; exact c_rValid _ _) ?_
          refine WL.qq (by simp only [EN, Nat.reduceEqDiff, reduceIte, qv_unOp, unv_not, decide_true, Bool.not_true, Bool.not_false, decide_false, eq_self, if_true, if_false, Bool.or_true, Bool.and_true, hB4.cell]; rfl) ?_
          refine WL.qq (by simp only [EN, Nat.reduceEqDiff, reduceIte, qv_move, decide_true, Bool.not_true, Bool.not_false, decide_false, eq_self, if_true, if_false, Bool.or_true, Bool.and_true, hB4.cell]; rfl) ?_
          refine WL.cq (gd_at (t := 43) rfl (by simp only [EN, Nat.reduceEqDiff, reduceIte, k1_0, decide_true, Bool.not_true, Bool.not_false, decide_false, eq_self, if_true, if_false, Bool.or_true, Bool.and_true, hB4.cell] <;> rfl)) (fun hg10_8 => by simp only [EN, Nat.reduceEqDiff, reduceIte, qv_move, k1_0, decide_true, Bool.not_true, Bool.not_false, decide_false, eq_self, if_true, if_false, Bool.or_true, Bool.and_true, hB4.cell, hg10_8, GR]; rfl) ?_
          refine WL.cq (gd_at (t := 43) rfl (by simp only [EN, Nat.reduceEqDiff, reduceIte, k1_0, decide_true, Bool.not_true, Bool.not_false, decide_false, eq_self, if_true, if_false, Bool.or_true, Bool.and_true, hB4.cell] <;> rfl)) (fun hg10_9 => by simp only [EN, Nat.reduceEqDiff, reduceIte, qv_move, k1_0, decide_true, Bool.not_true, Bool.not_false, decide_false, eq_self, if_true, if_false, Bool.or_true, Bool.and_true, hB4.cell, hg10_9, GR]; rfl) ?_
          refine WL.cq (gd_at (t := 43) rfl (by simp only [EN, Nat.reduceEqDiff, reduceIte, i8_0, decide_true, Bool.not_true, Bool.not_false, decide_false, eq_self, if_true, if_false, Bool.or_true, Bool.and_true, hB4.cell] <;> rfl)) (fun hg10_10 => by simp only [EN, Nat.reduceEqDiff, reduceIte, qv_move, i8_0, decide_true, Bool.not_true, Bool.not_false, decide_false, eq_self, if_true, if_false, Bool.or_true, Bool.and_true, hB4.cell, hg10_10, GR]; rfl) ?_
          refine WL.cq (gd_at (t := 43) rfl (by simp only [EN, Nat.reduceEqDiff, reduceIte, decide_true, Bool.not_true, Bool.not_false, decide_false, eq_self, if_true, if_false, Bool.or_true, Bool.and_true, hB4.cell] <;> rfl)) (fun hg10_11 => by have hq0 := hg10_11; (try simp only [BD] at hq0); simp only [EN, Nat.reduceEqDiff, reduceIte, qv_indexAddr, decide_true, Bool.not_true, Bool.not_false, decide_false, eq_self, if_true, if_false, Bool.or_true, Bool.and_true, hB4.cell, hg10_11, GR]; (try simp (disch := omega) only [ix26, Int.toNat_natCast]); rfl) ?_
          refine WL.cq (gd_at (t := 43) rfl (by simp only [EN, Nat.reduceEqDiff, reduceIte, decide_true, Bool.not_true, Bool.not_false, decide_false, eq_self, if_true, if_false, Bool.or_true, Bool.and_true, hB4.cell] <;> rfl)) (fun hg10_12 => by simp only [EN, Nat.reduceEqDiff, reduceIte, qv_fieldAddr, fa44_0, Nat.zero_add, Nat.reduceAdd, decide_true, Bool.not_true, Bool.not_false, decide_false, eq_self, if_true, if_false, Bool.or_true, Bool.and_true, hB4.cell, hg10_12, GR]; rfl) ?_
          refine WL.cq (gd_at (t := 43) rfl (by simp only [EN, Nat.reduceEqDiff, reduceIte, decide_true, Bool.not_true, Bool.not_false, decide_false, eq_self, if_true, if_false, Bool.or_true, Bool.and_true, hB4.cell] <;> rfl)) (fun hg10_13 => by simp only [EN, Nat.reduceEqDiff, reduceIte, k1_0, k5_0, k6_0, i8_0, i7_0, decide_true, Bool.not_true, Bool.not_false, decide_false, eq_self, if_true, if_false, Bool.or_true, Bool.and_true, hB4.cell, GR, hg10_13, qv_load, ld34, Int.toNat_natCast, Nat.add_zero, hr2]; rfl) ?_
          refine WL.ccg (gd_at (t := 43) rfl (by simp only [EN, Nat.reduceEqDiff, reduceIte, decide_true, Bool.not_true, Bool.not_false, decide_false, eq_self, if_true, if_false, Bool.or_true, Bool.and_true, hB4.cell] <;> rfl)) Try.call27 (fun hg10_14 => by simp only [EN, Nat.reduceEqDiff, reduceIte, AR, decide_true, Bool.not_true, Bool.not_false, decide_false, eq_self, if_true, if_false, Bool.or_true, Bool.and_true, hB4.cell, hg10_14, GR]; exact c_rnet _ m _ x.1 (by omega) hm) ?_
          intro h5 hx5
          replace ho := ho.ext hx5
          replace hX := hX.ext hx5
          replace hm := hm.ext hx5
          refine WL.cck (gd_at (t := 43) rfl (by simp only [EN, Nat.reduceEqDiff, reduceIte, decide_true, Bool.not_true, Bool.not_false, decide_false, eq_self, if_true, if_false, Bool.or_true, Bool.and_true, hB4.cell] <;> rfl)) Try.call26 (fun hg10_15 => by simp only [EN, Nat.reduceEqDiff, reduceIte, AR, decide_true, Bool.not_true, Bool.not_false, decide_false, eq_self, if_true, if_false, Bool.or_true, Bool.and_true, hB4.cell, hg10_15, GR]; exact c_rValid _ _) ?_
          refine WL.cq (gd_at (t := 43) rfl (by simp only [EN, Nat.reduceEqDiff, reduceIte, decide_true, Bool.not_true, Bool.not_false, decide_false, eq_self, if_true, if_false, Bool.or_true, Bool.and_true, hB4.cell] <;> rfl)) (fun hg10_16 => by simp only [EN, Nat.reduceEqDiff, reduceIte, qv_unOp, unv_not, decide_true, Bool.not_true, Bool.not_false, decide_false, eq_self, if_true, if_false, Bool.or_true, Bool.and_true, hB4.cell, hg10_16, GR]; rfl) ?_
          refine WL.qq (by simp only [EN, Nat.reduceEqDiff, reduceIte, qv_pick, pk_and, pk_or, GR, decide_true, Bool.not_true, Bool.not_false, decide_false, eq_self, if_true, if_false, Bool.or_true, Bool.and_true, hB4.cell]; rfl) ?_
          refine WL.qq (by simp only [EN, Nat.reduceEqDiff, reduceIte, qv_assign, decide_true, Bool.not_true, Bool.not_false, decide_false, eq_self, if_true, if_false, Bool.or_true, Bool.and_true, hB4.cell]; rfl) ?_
          refine WL.nil ?_
          refine th_norm ?_
          refine hx_seq ?_
          refine hx_seq ?_
          refine hx_region ?_
          refine WL.qq (by simp only [EN, Nat.reduceEqDiff, reduceIte, qv_move, decide_true, Bool.not_true, Bool.not_false, decide_false, eq_self, if_true, if_false, Bool.or_true, Bool.and_true, hB4.cell]; rfl) ?_
          refine WL.nil ?_
          refine th_norm ?_
          refine hx_cond (by simp only [EN, Nat.reduceEqDiff, reduceIte, k1_0, k5_0, k6_0, i8_0, i7_0, decide_true, Bool.not_true, Bool.not_false, decide_false, eq_self, if_true, if_false, Bool.or_true, Bool.and_true, hB4.cell]; rfl) (fun hct54 => ?_) (fun hct54 => ?_)
          ·
            try simp only [BD] at hct54
            refine hx_seq ?_
            refine hx_region ?_
            refine WL.cg Try.call12 (by simp only [EN, Nat.reduceEqDiff, reduceIte, AR, decide_true, Bool.not_true, Bool.not_false, decide_false, eq_self, if_true, if_false, Bool.or_true, Bool.and_true, hB4.cell]; exact c_known13 _) ?_
            intro h6 hx6
            replace ho := ho.ext hx6
            replace hX := hX.ext hx6
            replace hm := hm.ext hx6
            refine WL.qq (by simp only [EN, Nat.reduceEqDiff, reduceIte, qv_assign, decide_true, Bool.not_true, Bool.not_false, decide_false, eq_self, if_true, if_false, Bool.or_true, Bool.and_true, hB4.cell]; rfl) ?_
            refine WL.nil ?_
            refine th_norm ?_
            refine hx_ret ?_
            refine th_ret ?_
            refine bl_ret ?_
            refine th_ret ?_
            refine th_ret ?_
            refine bl_ret ?_
            refine th_ret ?_
            refine fin_ret [.tmp 4] rfl rfl (by simp only [EN, Nat.reduceEqDiff, reduceIte, resv, k1_0, k5_0, k6_0, i8_0, i7_0, decide_true, Bool.not_true, Bool.not_false, decide_false, eq_self, if_true, if_false, Bool.or_true, Bool.and_true, hB4.cell]; rfl) ?_  -- ret 1 r12
            exact ⟨rfl, hE.trans hX⟩
          ·
            try simp only [BD] at hct54
            have hvx : vld x.2 = true ∧ vld (netM m x.1) = true := (by cases h8 : vld x.2 <;> cases h9 : vld (netM m x.1) <;> simp [h8, h9] at hct54 ⊢)
            refine hx_skip ?_
            refine th_norm ?_
            refine hx_seq ?_
            refine hx_seq ?_
            refine hx_region ?_
            refine WL.qq (by simp only [EN, Nat.reduceEqDiff, reduceIte, qv_assign, decide_true, Bool.not_true, Bool.not_false, decide_false, eq_self, if_true, if_false, Bool.or_true, Bool.and_true, hB4.cell]; rfl) ?_
            refine WL.nil ?_
            refine th_norm ?_
            refine hx_block ?_
            refine hx_loopS [9, 10, 56, 57, 58, 59, 60, 61, 62, 63, 64, 65, 66, 67, 68, 69, 70, 71, 72, 73, 74] (fun k e => ∃ (j : Nat), i - j = k ∧ (j ≤ i) ∧ e 10 = .int .i64 j ∧ e 9 = .bool (decide (x.1 ∈ (m.take j).map Prod.fst))) _ ⟨0, rfl, ?_, ?_, ?_⟩ ?_
            · omega
            · simp only [EN, Nat.reduceEqDiff, reduceIte, k1_0, k5_0, k6_0, i8_0, i7_0, decide_true, Bool.not_true, Bool.not_false, decide_false, eq_self, if_true, if_false, Bool.or_true, Bool.and_true, hB4.cell] <;> rfl
            · simp only [EN, Nat.reduceEqDiff, reduceIte, k1_0, k5_0, k6_0, i8_0, i7_0, decide_true, Bool.not_true, Bool.not_false, decide_false, eq_self, if_true, if_false, Bool.or_true, Bool.and_true, hB4.cell] <;> simp [hvx.1, hvx.2]
            ·
              rintro k e1L hfr1 ⟨j, rfl, hj, i10_1, i9_1⟩
              have k1_1 := hfr1 1 rfl; simp only [EN, Nat.reduceEqDiff, reduceIte, k1_0, k5_0, k6_0, i8_0, i7_0, decide_true, Bool.not_true, Bool.not_false, decide_false, eq_self, if_true, if_false, Bool.or_true, Bool.and_true, hB4.cell] at k1_1
              have k4_1 := hfr1 4 rfl; simp only [EN, Nat.reduceEqDiff, reduceIte, k1_0, k5_0, k6_0, i8_0, i7_0, decide_true, Bool.not_true, Bool.not_false, decide_false, eq_self, if_true, if_false, Bool.or_true, Bool.and_true, hB4.cell] at k4_1
              have k5_1 := hfr1 5 rfl; simp only [EN, Nat.reduceEqDiff, reduceIte, k1_0, k5_0, k6_0, i8_0, i7_0, decide_true, Bool.not_true, Bool.not_false, decide_false, eq_self, if_true, if_false, Bool.or_true, Bool.and_true, hB4.cell] at k5_1
              have k6_1 := hfr1 6 rfl; simp only [EN, Nat.reduceEqDiff, reduceIte, k1_0, k5_0, k6_0, i8_0, i7_0, decide_true, Bool.not_true, Bool.not_false, decide_false, eq_self, if_true, if_false, Bool.or_true, Bool.and_true, hB4.cell] at k6_1
              have k7_1 := hfr1 7 rfl; simp only [EN, Nat.reduceEqDiff, reduceIte, k1_0, k5_0, k6_0, i8_0, i7_0, decide_true, Bool.not_true, Bool.not_false, decide_false, eq_self, if_true, if_false, Bool.or_true, Bool.and_true, hB4.cell] at k7_1
              have k8_1 := hfr1 8 rfl; simp only [EN, Nat.reduceEqDiff, reduceIte, k1_0, k5_0, k6_0, i8_0, i7_0, decide_true, Bool.not_true, Bool.not_false, decide_false, eq_self, if_true, if_false, Bool.or_true, Bool.and_true, hB4.cell] at k8_1
              have k30_1 := hfr1 30 rfl; simp only [EN, Nat.reduceEqDiff, reduceIte, k1_0, k5_0, k6_0, i8_0, i7_0, decide_true, Bool.not_true, Bool.not_false, decide_false, eq_self, if_true, if_false, Bool.or_true, Bool.and_true, hB4.cell] at k30_1
              have k31_1 := hfr1 31 rfl; simp only [EN, Nat.reduceEqDiff, reduceIte, k1_0, k5_0, k6_0, i8_0, i7_0, decide_true, Bool.not_true, Bool.not_false, decide_false, eq_self, if_true, if_false, Bool.or_true, Bool.and_true, hB4.cell] at k31_1
              have k32_1 := hfr1 32 rfl; simp only [EN, Nat.reduceEqDiff, reduceIte, k1_0, k5_0, k6_0, i8_0, i7_0, decide_true, Bool.not_true, Bool.not_false, decide_false, eq_self, if_true, if_false, Bool.or_true, Bool.and_true, hB4.cell] at k32_1
              have k33_1 := hfr1 33 rfl; simp only [EN, Nat.reduceEqDiff, reduceIte, k1_0, k5_0, k6_0, i8_0, i7_0, decide_true, Bool.not_true, Bool.not_false, decide_false, eq_self, if_true, if_false, Bool.or_true, Bool.and_true, hB4.cell] at k33_1
              have k36_1 := hfr1 36 rfl; simp only [EN, Nat.reduceEqDiff, reduceIte, k1_0, k5_0, k6_0, i8_0, i7_0, decide_true, Bool.not_true, Bool.not_false, decide_false, eq_self, if_true, if_false, Bool.or_true, Bool.and_true, hB4.cell] at k36_1
              have k37_1 := hfr1 37 rfl; simp only [EN, Nat.reduceEqDiff, reduceIte, k1_0, k5_0, k6_0, i8_0, i7_0, decide_true, Bool.not_true, Bool.not_false, decide_false, eq_self, if_true, if_false, Bool.or_true, Bool.and_true, hB4.cell] at k37_1
              have k38_1 := hfr1 38 rfl; simp only [EN, Nat.reduceEqDiff, reduceIte, k1_0, k5_0, k6_0, i8_0, i7_0, decide_true, Bool.not_true, Bool.not_false, decide_false, eq_self, if_true, if_false, Bool.or_true, Bool.and_true, hB4.cell] at k38_1
              have k39_1 := hfr1 39 rfl; simp only [EN, Nat.reduceEqDiff, reduceIte, k1_0, k5_0, k6_0, i8_0, i7_0, decide_true, Bool.not_true, Bool.not_false, decide_false, eq_self, if_true, if_false, Bool.or_true, Bool.and_true, hB4.cell] at k39_1
              have k40_1 := hfr1 40 rfl; simp only [EN, Nat.reduceEqDiff, reduceIte, k1_0, k5_0, k6_0, i8_0, i7_0, decide_true, Bool.not_true, Bool.not_false, decide_false, eq_self, if_true, if_false, Bool.or_true, Bool.and_true, hB4.cell] at k40_1
              have k41_1 := hfr1 41 rfl; simp only [EN, Nat.reduceEqDiff, reduceIte, k1_0, k5_0, k6_0, i8_0, i7_0, decide_true, Bool.not_true, Bool.not_false, decide_false, eq_self, if_true, if_false, Bool.or_true, Bool.and_true, hB4.cell] at k41_1
              have k42_1 := hfr1 42 rfl; simp only [EN, Nat.reduceEqDiff, reduceIte, k1_0, k5_0, k6_0, i8_0, i7_0, decide_true, Bool.not_true, Bool.not_false, decide_false, eq_self, if_true, if_false, Bool.or_true, Bool.and_true, hB4.cell] at k42_1
              have k43_1 := hfr1 43 rfl; simp only [EN, Nat.reduceEqDiff, reduceIte, k1_0, k5_0, k6_0, i8_0, i7_0, decide_true, Bool.not_true, Bool.not_false, decide_false, eq_self, if_true, if_false, Bool.or_true, Bool.and_true, hB4.cell] at k43_1
              have k44_1 := hfr1 44 rfl; simp only [EN, Nat.reduceEqDiff, reduceIte, k1_0, k5_0, k6_0, i8_0, i7_0, decide_true, Bool.not_true, Bool.not_false, decide_false, eq_self, if_true, if_false, Bool.or_true, Bool.and_true, hB4.cell] at k44_1
              have k45_1 := hfr1 45 rfl; simp only [EN, Nat.reduceEqDiff, reduceIte, k1_0, k5_0, k6_0, i8_0, i7_0, decide_true, Bool.not_true, Bool.not_false, decide_false, eq_self, if_true, if_false, Bool.or_true, Bool.and_true, hB4.cell] at k45_1
              have k46_1 := hfr1 46 rfl; simp only [EN, Nat.reduceEqDiff, reduceIte, k1_0, k5_0, k6_0, i8_0, i7_0, decide_true, Bool.not_true, Bool.not_false, decide_false, eq_self, if_true, if_false, Bool.or_true, Bool.and_true, hB4.cell] at k46_1
              have k47_1 := hfr1 47 rfl; simp only [EN, Nat.reduceEqDiff, reduceIte, k1_0, k5_0, k6_0, i8_0, i7_0, decide_true, Bool.not_true, Bool.not_false, decide_false, eq_self, if_true, if_false, Bool.or_true, Bool.and_true, hB4.cell] at k47_1
              have k48_1 := hfr1 48 rfl; simp only [EN, Nat.reduceEqDiff, reduceIte, k1_0, k5_0, k6_0, i8_0, i7_0, decide_true, Bool.not_true, Bool.not_false, decide_false, eq_self, if_true, if_false, Bool.or_true, Bool.and_true, hB4.cell] at k48_1
              have k49_1 := hfr1 49 rfl; simp only [EN, Nat.reduceEqDiff, reduceIte, k1_0, k5_0, k6_0, i8_0, i7_0, decide_true, Bool.not_true, Bool.not_false, decide_false, eq_self, if_true, if_false, Bool.or_true, Bool.and_true, hB4.cell] at k49_1
              have k50_1 := hfr1 50 rfl; simp only [EN, Nat.reduceEqDiff, reduceIte, k1_0, k5_0, k6_0, i8_0, i7_0, decide_true, Bool.not_true, Bool.not_false, decide_false, eq_self, if_true, if_false, Bool.or_true, Bool.and_true, hB4.cell] at k50_1
              have k51_1 := hfr1 51 rfl; simp only [EN, Nat.reduceEqDiff, reduceIte, k1_0, k5_0, k6_0, i8_0, i7_0, decide_true, Bool.not_true, Bool.not_false, decide_false, eq_self, if_true, if_false, Bool.or_true, Bool.and_true, hB4.cell] at k51_1
              have k52_1 := hfr1 52 rfl; simp only [EN, Nat.reduceEqDiff, reduceIte, k1_0, k5_0, k6_0, i8_0, i7_0, decide_true, Bool.not_true, Bool.not_false, decide_false, eq_self, if_true, if_false, Bool.or_true, Bool.and_true, hB4.cell] at k52_1
              have k53_1 := hfr1 53 rfl; simp only [EN, Nat.reduceEqDiff, reduceIte, k1_0, k5_0, k6_0, i8_0, i7_0, decide_true, Bool.not_true, Bool.not_false, decide_false, eq_self, if_true, if_false, Bool.or_true, Bool.and_true, hB4.cell] at k53_1
              have k54_1 := hfr1 54 rfl; simp only [EN, Nat.reduceEqDiff, reduceIte, k1_0, k5_0, k6_0, i8_0, i7_0, decide_true, Bool.not_true, Bool.not_false, decide_false, eq_self, if_true, if_false, Bool.or_true, Bool.and_true, hB4.cell] at k54_1
              refine hx_seq ?_
              refine hx_seq ?_
              refine hx_region ?_
              refine WL.qq (by simp only [EN, Nat.reduceEqDiff, reduceIte, qv_move, i10_1, decide_true, Bool.not_true, Bool.not_false, decide_false, eq_self, if_true, if_false, Bool.or_true, Bool.and_true, hB4.cell]; rfl) ?_
              refine WL.qq (by simp only [EN, Nat.reduceEqDiff, reduceIte, qv_move, k8_1, decide_true, Bool.not_true, Bool.not_false, decide_false, eq_self, if_true, if_false, Bool.or_true, Bool.and_true, hB4.cell]; rfl) ?_
              refine WL.qq (by simp only [EN, Nat.reduceEqDiff, reduceIte, qv_binOp, binv_lss, decide_true, Bool.not_true, Bool.not_false, decide_false, eq_self, if_true, if_false, Bool.or_true, Bool.and_true, hB4.cell]; rfl) ?_
              refine WL.nil ?_
              refine th_norm ?_
              refine hx_cond (by simp only [EN, Nat.reduceEqDiff, reduceIte, k1_1, k4_1, k5_1, k6_1, k7_1, k8_1, k30_1, k31_1, k32_1, k33_1, k36_1, k37_1, k38_1, k39_1, k40_1, k41_1, k42_1, k43_1, k44_1, k45_1, k46_1, k47_1, k48_1, k49_1, k50_1, k51_1, k52_1, k53_1, k54_1, i10_1, i9_1, decide_true, Bool.not_true, Bool.not_false, decide_false, eq_self, if_true, if_false, Bool.or_true, Bool.and_true, hB4.cell]; rfl) (fun hct58 => ?_) (fun hct58 => ?_)
              ·
                try simp only [BD] at hct58
                obtain ⟨y, hy⟩ := atG (l := m) (i := j) (by omega)
                obtain ⟨b4, off4, hbo4, hr3, hr2, hc0, hc1, hc2⟩ := ent_rd hm hx; cases hbo4
                obtain ⟨b3, off3, hbo3, hs3, hs2', hd0, hd1, hd2⟩ := ent_rd hm hy; cases hbo3
                refine hx_skip ?_
                refine th_norm ?_
                refine hx_seq ?_
                refine hx_block ?_
                apply hx_draw2 Rel.same [] [] [] rfl (by decide +kernel) rfl
                refine LD.qq rfl rfl (by simp only [EN, Nat.reduceEqDiff, reduceIte, qv_move, i9_1, decide_true, Bool.not_true, Bool.not_false, decide_false, eq_self, if_true, if_false, Bool.or_true, Bool.and_true, hB4.cell]; rfl) ?_
                refine LD.qq rfl rfl (by simp only [EN, Nat.reduceEqDiff, reduceIte, qv_move, decide_true, Bool.not_true, Bool.not_false, decide_false, eq_self, if_true, if_false, Bool.or_true, Bool.and_true, hB4.cell]; rfl) ?_
                refine LD.cq rfl rfl (gd_at (t := 62) rfl (by simp only [EN, Nat.reduceEqDiff, reduceIte, k1_1, decide_true, Bool.not_true, Bool.not_false, decide_false, eq_self, if_true, if_false, Bool.or_true, Bool.and_true, hB4.cell] <;> rfl)) (fun hg16_2 => by simp only [EN, Nat.reduceEqDiff, reduceIte, qv_move, k1_1, decide_true, Bool.not_true, Bool.not_false, decide_false, eq_self, if_true, if_false, Bool.or_true, Bool.and_true, hB4.cell, hg16_2, GR]; rfl) ?_
                refine LD.cq rfl rfl (gd_at (t := 62) rfl (by simp only [EN, Nat.reduceEqDiff, reduceIte, i10_1, decide_true, Bool.not_true, Bool.not_false, decide_false, eq_self, if_true, if_false, Bool.or_true, Bool.and_true, hB4.cell] <;> rfl)) (fun hg16_3 => by simp only [EN, Nat.reduceEqDiff, reduceIte, qv_move, i10_1, decide_true, Bool.not_true, Bool.not_false, decide_false, eq_self, if_true, if_false, Bool.or_true, Bool.and_true, hB4.cell, hg16_3, GR]; rfl) ?_
                refine LD.cq rfl rfl (gd_at (t := 62) rfl (by simp only [EN, Nat.reduceEqDiff, reduceIte, decide_true, Bool.not_true, Bool.not_false, decide_false, eq_self, if_true, if_false, Bool.or_true, Bool.and_true, hB4.cell] <;> rfl)) (fun hg16_4 => by simp only [EN, Nat.reduceEqDiff, reduceIte, k1_1, k4_1, k5_1, k6_1, k7_1, k8_1, k30_1, k31_1, k32_1, k33_1, k36_1, k37_1, k38_1, k39_1, k40_1, k41_1, k42_1, k43_1, k44_1, k45_1, k46_1, k47_1, k48_1, k49_1, k50_1, k51_1, k52_1, k53_1, k54_1, i10_1, i9_1, decide_true, Bool.not_true, Bool.not_false, decide_false, eq_self, if_true, if_false, Bool.or_true, Bool.and_true, hB4.cell, GR, hg16_4, qv_indexAddr]; (try simp (disch := omega) only [ix26, Int.toNat_natCast]); rfl) ?_
                refine LD.cq rfl rfl (gd_at (t := 62) rfl (by simp only [EN, Nat.reduceEqDiff, reduceIte, decide_true, Bool.not_true, Bool.not_false, decide_false, eq_self, if_true, if_false, Bool.or_true, Bool.and_true, hB4.cell] <;> rfl)) (fun hg16_5 => by simp only [EN, Nat.reduceEqDiff, reduceIte, qv_fieldAddr, fa44_0, Nat.zero_add, Nat.reduceAdd, decide_true, Bool.not_true, Bool.not_false, decide_false, eq_self, if_true, if_false, Bool.or_true, Bool.and_true, hB4.cell, hg16_5, GR]; rfl) ?_
                refine LD.cq rfl rfl (gd_at (t := 62) rfl (by simp only [EN, Nat.reduceEqDiff, reduceIte, decide_true, Bool.not_true, Bool.not_false, decide_false, eq_self, if_true, if_false, Bool.or_true, Bool.and_true, hB4.cell] <;> rfl)) (fun hg16_6 => by simp only [EN, Nat.reduceEqDiff, reduceIte, k1_1, k4_1, k5_1, k6_1, k7_1, k8_1, k30_1, k31_1, k32_1, k33_1, k36_1, k37_1, k38_1, k39_1, k40_1, k41_1, k42_1, k43_1, k44_1, k45_1, k46_1, k47_1, k48_1, k49_1, k50_1, k51_1, k52_1, k53_1, k54_1, i10_1, i9_1, decide_true, Bool.not_true, Bool.not_false, decide_false, eq_self, if_true, if_false, Bool.or_true, Bool.and_true, hB4.cell, GR, hg16_6, qv_load, ld34, Int.toNat_natCast, Nat.add_zero, hs2']; rfl) ?_
                refine LD.cq rfl rfl (gd_at (t := 62) rfl (by simp only [EN, Nat.reduceEqDiff, reduceIte, k1_1, decide_true, Bool.not_true, Bool.not_false, decide_false, eq_self, if_true, if_false, Bool.or_true, Bool.and_true, hB4.cell] <;> rfl)) (fun hg16_7 => by simp only [EN, Nat.reduceEqDiff, reduceIte, qv_move, k1_1, decide_true, Bool.not_true, Bool.not_false, decide_false, eq_self, if_true, if_false, Bool.or_true, Bool.and_true, hB4.cell, hg16_7, GR]; rfl) ?_
                refine LD.cq rfl rfl (gd_at (t := 62) rfl (by simp only [EN, Nat.reduceEqDiff, reduceIte, k8_1, decide_true, Bool.not_true, Bool.not_false, decide_false, eq_self, if_true, if_false, Bool.or_true, Bool.and_true, hB4.cell] <;> rfl)) (fun hg16_8 => by simp only [EN, Nat.reduceEqDiff, reduceIte, qv_move, k8_1, decide_true, Bool.not_true, Bool.not_false, decide_false, eq_self, if_true, if_false, Bool.or_true, Bool.and_true, hB4.cell, hg16_8, GR]; rfl) ?_
                refine LD.cq rfl rfl (gd_at (t := 62) rfl (by simp only [EN, Nat.reduceEqDiff, reduceIte, decide_true, Bool.not_true, Bool.not_false, decide_false, eq_self, if_true, if_false, Bool.or_true, Bool.and_true, hB4.cell] <;> rfl)) (fun hg16_9 => by have hq0 := hg16_9; (try simp only [BD] at hq0); simp only [EN, Nat.reduceEqDiff, reduceIte, qv_indexAddr, decide_true, Bool.not_true, Bool.not_false, decide_false, eq_self, if_true, if_false, Bool.or_true, Bool.and_true, hB4.cell, hg16_9, GR]; (try simp (disch := omega) only [ix26, Int.toNat_natCast]); rfl) ?_
                refine LD.cq rfl rfl (gd_at (t := 62) rfl (by simp only [EN, Nat.reduceEqDiff, reduceIte, decide_true, Bool.not_true, Bool.not_false, decide_false, eq_self, if_true, if_false, Bool.or_true, Bool.and_true, hB4.cell] <;> rfl)) (fun hg16_10 => by simp only [EN, Nat.reduceEqDiff, reduceIte, qv_fieldAddr, fa44_0, Nat.zero_add, Nat.reduceAdd, decide_true, Bool.not_true, Bool.not_false, decide_false, eq_self, if_true, if_false, Bool.or_true, Bool.and_true, hB4.cell, hg16_10, GR]; rfl) ?_
                refine LD.cq rfl rfl (gd_at (t := 62) rfl (by simp only [EN, Nat.reduceEqDiff, reduceIte, decide_true, Bool.not_true, Bool.not_false, decide_false, eq_self, if_true, if_false, Bool.or_true, Bool.and_true, hB4.cell] <;> rfl)) (fun hg16_11 => by simp only [EN, Nat.reduceEqDiff, reduceIte, k1_1, k4_1, k5_1, k6_1, k7_1, k8_1, k30_1, k31_1, k32_1, k33_1, k36_1, k37_1, k38_1, k39_1, k40_1, k41_1, k42_1, k43_1, k44_1, k45_1, k46_1, k47_1, k48_1, k49_1, k50_1, k51_1, k52_1, k53_1, k54_1, i10_1, i9_1, decide_true, Bool.not_true, Bool.not_false, decide_false, eq_self, if_true, if_false, Bool.or_true, Bool.and_true, hB4.cell, GR, hg16_11, qv_load, ld34, Int.toNat_natCast, Nat.add_zero, hr2]; rfl) ?_
                refine LD.cq rfl rfl (gd_at (t := 62) rfl (by simp only [EN, Nat.reduceEqDiff, reduceIte, decide_true, Bool.not_true, Bool.not_false, decide_false, eq_self, if_true, if_false, Bool.or_true, Bool.and_true, hB4.cell] <;> rfl)) (fun hg16_12 => by simp only [EN, Nat.reduceEqDiff, reduceIte, qv_binOp, binv_eql, eqs34, Option.map_some, decide_true, Bool.not_true, Bool.not_false, decide_false, eq_self, if_true, if_false, Bool.or_true, Bool.and_true, hB4.cell, hg16_12, GR]; rfl) ?_
                refine LD.qq rfl rfl (by simp only [EN, Nat.reduceEqDiff, reduceIte, qv_pick, pk_and, pk_or, GR, decide_true, Bool.not_true, Bool.not_false, decide_false, eq_self, if_true, if_false, Bool.or_true, Bool.and_true, hB4.cell]; rfl) ?_
                refine LD.qq rfl rfl (by simp only [EN, Nat.reduceEqDiff, reduceIte, qv_assign, decide_true, Bool.not_true, Bool.not_false, decide_false, eq_self, if_true, if_false, Bool.or_true, Bool.and_true, hB4.cell]; rfl) ?_
                refine LD.nil ?_
                rintro _ rfl -
                refine WL.nil ?_
                refine bl_norm ?_
                refine th_norm ?_
                refine hx_region ?_
                refine WL.qq (by simp only [EN, Nat.reduceEqDiff, reduceIte, qv_move, i10_1, decide_true, Bool.not_true, Bool.not_false, decide_false, eq_self, if_true, if_false, Bool.or_true, Bool.and_true, hB4.cell]; rfl) ?_
                refine WL.qq (by simp only [EN, Nat.reduceEqDiff, reduceIte, qv_binOp, binv_add, decide_true, Bool.not_true, Bool.not_false, decide_false, eq_self, if_true, if_false, Bool.or_true, Bool.and_true, hB4.cell]; (try simp (disch := omega) only [w64, w8, wu64]); rfl) ?_
                refine WL.qq (by simp only [EN, Nat.reduceEqDiff, reduceIte, qv_assign, decide_true, Bool.not_true, Bool.not_false, decide_false, eq_self, if_true, if_false, Bool.or_true, Bool.and_true, hB4.cell]; rfl) ?_
                refine WL.nil ?_
                refine th_norm ?_
                refine ⟨rfl, rfl, ?_, _, ?_, j + 1, rfl, ?_, ?_, ?_⟩  -- again 0 of loop 1
                · (repeat (first | exact Fr.refl _ _ | refine Fr.set rfl ?_ | refine Fr.put rfl ?_ | refine Fr.put0 ?_))
                · omega
                · omega
                · simp only [EN, Nat.reduceEqDiff, reduceIte, k1_1, k4_1, k5_1, k6_1, k7_1, k8_1, k30_1, k31_1, k32_1, k33_1, k36_1, k37_1, k38_1, k39_1, k40_1, k41_1, k42_1, k43_1, k44_1, k45_1, k46_1, k47_1, k48_1, k49_1, k50_1, k51_1, k52_1, k53_1, k54_1, i10_1, i9_1, decide_true, Bool.not_true, Bool.not_false, decide_false, eq_self, if_true, if_false, Bool.or_true, Bool.and_true, hB4.cell] <;> first | rfl | (congr 1; omega)
                · simp only [EN, Nat.reduceEqDiff, reduceIte, k1_1, k4_1, k5_1, k6_1, k7_1, k8_1, k30_1, k31_1, k32_1, k33_1, k36_1, k37_1, k38_1, k39_1, k40_1, k41_1, k42_1, k43_1, k44_1, k45_1, k46_1, k47_1, k48_1, k49_1, k50_1, k51_1, k52_1, k53_1, k54_1, i10_1, i9_1, decide_true, Bool.not_true, Bool.not_false, decide_false, eq_self, if_true, if_false, Bool.or_true, Bool.and_true, hB4.cell] <;> exact congrArg Value.bool (again_step hy)
              ·
                try simp only [BD] at hct58
                have hji : j = i := (by omega); subst hji
                refine hx_exit ?_
                refine th_exit ?_
                refine th_exit ?_
                refine bl_hit ?_
                refine th_norm ?_
                refine hx_seq ?_
                refine hx_region ?_
                refine WL.qq (by simp only [EN, Nat.reduceEqDiff, reduceIte, qv_move, i9_1, decide_true, Bool.not_true, Bool.not_false, decide_false, eq_self, if_true, if_false, Bool.or_true, Bool.and_true, hB4.cell]; rfl) ?_
                refine WL.qq (by simp only [EN, Nat.reduceEqDiff, reduceIte, qv_unOp, unv_not, decide_true, Bool.not_true, Bool.not_false, decide_false, eq_self, if_true, if_false, Bool.or_true, Bool.and_true, hB4.cell]; rfl) ?_
                refine WL.nil ?_
                refine th_norm ?_
                refine hx_cond (by simp only [EN, Nat.reduceEqDiff, reduceIte, k1_1, k4_1, k5_1, k6_1, k7_1, k8_1, k30_1, k31_1, k32_1, k33_1, k36_1, k37_1, k38_1, k39_1, k40_1, k41_1, k42_1, k43_1, k44_1, k45_1, k46_1, k47_1, k48_1, k49_1, k50_1, k51_1, k52_1, k53_1, k54_1, i10_1, i9_1, decide_true, Bool.not_true, Bool.not_false, decide_false, eq_self, if_true, if_false, Bool.or_true, Bool.and_true, hB4.cell]; rfl) (fun hct76 => ?_) (fun hct76 => ?_)
                ·
                  try simp only [BD] at hct76
                  obtain ⟨b4, off4, hbo4, hr3, hr2, hc0, hc1, hc2⟩ := ent_rd hm hx; cases hbo4
                  have hnk : ¬ x.1 ∈ (m.take j).map Prod.fst := (by simpa using hct76)
                  apply hx_draw2 Rel.grows [15, 16] [12, 14] [(12, Spec.is _), (14, Spec.ls h30.size _ _ _)] rfl (by decide +kernel) rfl
                  refine LD.qq rfl rfl (by simp only [EN, Nat.reduceEqDiff, reduceIte, qv_move, k7_1, decide_true, Bool.not_true, Bool.not_false, decide_false, eq_self, if_true, if_false, Bool.or_true, Bool.and_true, hB4.cell]; rfl) ?_
                  refine LD.qq rfl rfl (by simp only [EN, Nat.reduceEqDiff, reduceIte, qv_move, k1_1, decide_true, Bool.not_true, Bool.not_false, decide_false, eq_self, if_true, if_false, Bool.or_true, Bool.and_true, hB4.cell]; rfl) ?_
                  refine LD.qq rfl rfl (by simp only [EN, Nat.reduceEqDiff, reduceIte, qv_move, k8_1, decide_true, Bool.not_true, Bool.not_false, decide_false, eq_self, if_true, if_false, Bool.or_true, Bool.and_true, hB4.cell]; rfl) ?_
                  refine LD.qq rfl rfl (by simp only [EN, Nat.reduceEqDiff, reduceIte, qv_indexAddr, decide_true, Bool.not_true, Bool.not_false, decide_false, eq_self, if_true, if_false, Bool.or_true, Bool.and_true, hB4.cell]; (try simp (disch := omega) only [ix26, Int.toNat_natCast]); rfl) ?_
                  refine LD.qq rfl rfl (by simp only [EN, Nat.reduceEqDiff, reduceIte, qv_fieldAddr, fa44_0, Nat.zero_add, Nat.reduceAdd, decide_true, Bool.not_true, Bool.not_false, decide_false, eq_self, if_true, if_false, Bool.or_true, Bool.and_true, hB4.cell]; rfl) ?_
                  refine LD.qq rfl rfl (by simp only [EN, Nat.reduceEqDiff, reduceIte, k1_1, k4_1, k5_1, k6_1, k7_1, k8_1, k30_1, k31_1, k32_1, k33_1, k36_1, k37_1, k38_1, k39_1, k40_1, k41_1, k42_1, k43_1, k44_1, k45_1, k46_1, k47_1, k48_1, k49_1, k50_1, k51_1, k52_1, k53_1, k54_1, i10_1, i9_1, decide_true, Bool.not_true, Bool.not_false, decide_false, eq_self, if_true, if_false, Bool.or_true, Bool.and_true, hB4.cell, qv_load, ld34, Int.toNat_natCast, Nat.add_zero, hr2]; rfl) ?_
                  refine LD.qq rfl rfl (by simp only [EN, Nat.reduceEqDiff, reduceIte, qv_move, k1_1, decide_true, Bool.not_true, Bool.not_false, decide_false, eq_self, if_true, if_false, Bool.or_true, Bool.and_true, hB4.cell]; rfl) ?_
                  refine LD.qq rfl rfl (by simp only [EN, Nat.reduceEqDiff, reduceIte, qv_move, k1_1, decide_true, Bool.not_true, Bool.not_false, decide_false, eq_self, if_true, if_false, Bool.or_true, Bool.and_true, hB4.cell]; rfl) ?_
                  refine LD.qq rfl rfl (by simp only [EN, Nat.reduceEqDiff, reduceIte, qv_move, k8_1, decide_true, Bool.not_true, Bool.not_false, decide_false, eq_self, if_true, if_false, Bool.or_true, Bool.and_true, hB4.cell]; rfl) ?_
                  refine LD.qq rfl rfl (by simp only [EN, Nat.reduceEqDiff, reduceIte, qv_indexAddr, decide_true, Bool.not_true, Bool.not_false, decide_false, eq_self, if_true, if_false, Bool.or_true, Bool.and_true, hB4.cell]; (try simp (disch := omega) only [ix26, Int.toNat_natCast]); rfl) ?_
                  refine LD.qq rfl rfl (by simp only [EN, Nat.reduceEqDiff, reduceIte, qv_fieldAddr, fa44_0, Nat.zero_add, Nat.reduceAdd, decide_true, Bool.not_true, Bool.not_false, decide_false, eq_self, if_true, if_false, Bool.or_true, Bool.and_true, hB4.cell]; rfl) ?_
                  refine LD.qq rfl rfl (by simp only [EN, Nat.reduceEqDiff, reduceIte, k1_1, k4_1, k5_1, k6_1, k7_1, k8_1, k30_1, k31_1, k32_1, k33_1, k36_1, k37_1, k38_1, k39_1, k40_1, k41_1, k42_1, k43_1, k44_1, k45_1, k46_1, k47_1, k48_1, k49_1, k50_1, k51_1, k52_1, k53_1, k54_1, i10_1, i9_1, decide_true, Bool.not_true, Bool.not_false, decide_false, eq_self, if_true, if_false, Bool.or_true, Bool.and_true, hB4.cell, qv_load, ld34, Int.toNat_natCast, Nat.add_zero, hr2]; rfl) ?_
                  refine LD.ck rfl rfl Try.call27 (by intro hD hr; have hx : Ext _ _ := hr; have ho := ho.ext hx; have hX := hX.ext hx; have hm := hm.ext hx; simp only [EN, Nat.reduceEqDiff, reduceIte, AR, decide_true, Bool.not_true, Bool.not_false, decide_false, eq_self, if_true, if_false, Bool.or_true, Bool.and_true, hB4.cell]; exact c_rnet _ m _ x.1 (by omega) hm) ?_
                  refine LD.qq rfl rfl (by refine qv_bld (by simp only [EN, Nat.reduceEqDiff, reduceIte, AR, decide_true, Bool.not_true, Bool.not_false, decide_false, eq_self, if_true, if_false, Bool.or_true, Bool.and_true, hB4.cell] <;> rfl) (by rw [bl44]; simp [Instr.fill, Value.cells]; rfl)) ?_
                  refine LD.es rfl rfl (by intro hD hr hf; have hx : Ext _ _ := hr; have ho := ho.ext hx; have hX := hX.ext hx; have hm := hm.ext hx; exact e_lit1 (Nat.le_trans hX.size (Nat.le_refl _)) Try.underlying26 sz44 zr44 (by decide) (by simp only [EN, Nat.reduceEqDiff, reduceIte, k1_1, k4_1, k5_1, k6_1, k7_1, k8_1, k30_1, k31_1, k32_1, k33_1, k36_1, k37_1, k38_1, k39_1, k40_1, k41_1, k42_1, k43_1, k44_1, k45_1, k46_1, k47_1, k48_1, k49_1, k50_1, k51_1, k52_1, k53_1, k54_1, i10_1, i9_1, decide_true, Bool.not_true, Bool.not_false, decide_false, eq_self, if_true, if_false, Bool.or_true, Bool.and_true, hB4.cell, Value.cells]; rfl) rfl) ?_
                  intro u18_14 w18_14
                  obtain ⟨B12, hlt12, rfl⟩ := w18_14
                  refine LD.skip rfl ?_
                  refine LD.skip rfl ?_
                  refine LD.nil ?_
                  rintro h7 hx7 hF18
                  replace hx7 : Ext _ _ := hx7
                  replace ho := ho.ext hx7
                  replace hX := hX.ext hx7
                  replace hm := hm.ext hx7
                  have hB12 := hF18 (14, .slice (some ⟨B12, 0, none⟩) 1 1) (by simp) _ rfl B12 rfl
                  have hnl := ntP_len m j
                  refine WL.app1 (bytes := 16) Try.underlying26 (inf_of Try.type44) rfl rfl rfl rfl (by decide) (by simp only [EN, Nat.reduceEqDiff, reduceIte, k1_1, k4_1, k5_1, k6_1, k7_1, k8_1, k30_1, k31_1, k32_1, k33_1, k36_1, k37_1, k38_1, k39_1, k40_1, k41_1, k42_1, k43_1, k44_1, k45_1, k46_1, k47_1, k48_1, k49_1, k50_1, k51_1, k52_1, k53_1, k54_1, i10_1, i9_1, decide_true, Bool.not_true, Bool.not_false, decide_false, eq_self, if_true, if_false, Bool.or_true, Bool.and_true, hB4.cell]) ho (by simp only [EN, Nat.reduceEqDiff, reduceIte, k1_1, k4_1, k5_1, k6_1, k7_1, k8_1, k30_1, k31_1, k32_1, k33_1, k36_1, k37_1, k38_1, k39_1, k40_1, k41_1, k42_1, k43_1, k44_1, k45_1, k46_1, k47_1, k48_1, k49_1, k50_1, k51_1, k52_1, k53_1, k54_1, i10_1, i9_1, decide_true, Bool.not_true, Bool.not_false, decide_false, eq_self, if_true, if_false, Bool.or_true, Bool.and_true, hB4.cell]) hB12 rfl (by simp [Value.oneCell']) (by simp only [maxLen]; omega) (by omega) hX.size ?_
                  intro h40 v40 ho40 hg40 hp40 hn40
                  replace hX := hg40.ext hX (fun c hc => (ho.block c hc).1)
                  refine WL.qq (by simp only [EN, Nat.reduceEqDiff, reduceIte, qv_assign, decide_true, Bool.not_true, Bool.not_false, decide_false, eq_self, if_true, if_false, Bool.or_true, Bool.and_true, hB4.cell]; rfl) ?_
                  refine WL.nil ?_
                  refine bl_norm ?_
                  refine th_norm ?_
                  refine hx_region ?_
                  refine WL.qq (by simp only [EN, Nat.reduceEqDiff, reduceIte, qv_move, k8_1, decide_true, Bool.not_true, Bool.not_false, decide_false, eq_self, if_true, if_false, Bool.or_true, Bool.and_true, hB4.cell]; rfl) ?_
                  refine WL.qq (by simp only [EN, Nat.reduceEqDiff, reduceIte, qv_binOp, binv_add, decide_true, Bool.not_true, Bool.not_false, decide_false, eq_self, if_true, if_false, Bool.or_true, Bool.and_true, hB4.cell]; (try simp (disch := omega) only [w64, w8, wu64]); rfl) ?_
                  refine WL.qq (by simp only [EN, Nat.reduceEqDiff, reduceIte, qv_assign, decide_true, Bool.not_true, Bool.not_false, decide_false, eq_self, if_true, if_false, Bool.or_true, Bool.and_true, hB4.cell]; rfl) ?_
                  refine WL.nil ?_
                  refine th_norm ?_
                  refine ⟨rfl, ?_, _, ?_, j + 1, v40, rfl, ?_, ?_, ?_, ?_, ?_, ?_, ?_⟩  -- again 0 of loop 0
                  · (repeat (first | exact Fr.refl _ _ | refine Fr.set rfl ?_ | refine Fr.put rfl ?_ | refine Fr.put0 ?_ | refine Fr.trans ?_ (Fr.of hfr1 rfl)))
                  · omega
                  · omega
                  · exact hX
                  · rw [ntP_step hx, if_neg hnk, List.flatMap_append, List.length_append]; exact ho40
                  · exact all_take hv1 hx hvx.1
                  · exact all_take (p := fun x => vld (netM m x.1) = true) hv2 hx hvx.2
                  · simp only [EN, Nat.reduceEqDiff, reduceIte, k1_1, k4_1, k5_1, k6_1, k7_1, k8_1, k30_1, k31_1, k32_1, k33_1, k36_1, k37_1, k38_1, k39_1, k40_1, k41_1, k42_1, k43_1, k44_1, k45_1, k46_1, k47_1, k48_1, k49_1, k50_1, k51_1, k52_1, k53_1, k54_1, i10_1, i9_1, decide_true, Bool.not_true, Bool.not_false, decide_false, eq_self, if_true, if_false, Bool.or_true, Bool.and_true, hB4.cell] <;> first | rfl | (congr 1; omega)
                  · simp only [EN, Nat.reduceEqDiff, reduceIte, k1_1, k4_1, k5_1, k6_1, k7_1, k8_1, k30_1, k31_1, k32_1, k33_1, k36_1, k37_1, k38_1, k39_1, k40_1, k41_1, k42_1, k43_1, k44_1, k45_1, k46_1, k47_1, k48_1, k49_1, k50_1, k51_1, k52_1, k53_1, k54_1, i10_1, i9_1, decide_true, Bool.not_true, Bool.not_false, decide_false, eq_self, if_true, if_false, Bool.or_true, Bool.and_true, hB4.cell] <;> first | rfl | (congr 1; omega)
                ·
                  try simp only [BD] at hct76
                  refine hx_skip ?_
                  refine bl_norm ?_
                  refine th_norm ?_
                  refine hx_region ?_
                  refine WL.qq (by simp only [EN, Nat.reduceEqDiff, reduceIte, qv_move, k8_1, decide_true, Bool.not_true, Bool.not_false, decide_false, eq_self, if_true, if_false, Bool.or_true, Bool.and_true, hB4.cell]; rfl) ?_
                  refine WL.qq (by simp only [EN, Nat.reduceEqDiff, reduceIte, qv_binOp, binv_add, decide_true, Bool.not_true, Bool.not_false, decide_false, eq_self, if_true, if_false, Bool.or_true, Bool.and_true, hB4.cell]; (try simp (disch := omega) only [w64, w8, wu64]); rfl) ?_
                  refine WL.qq (by simp only [EN, Nat.reduceEqDiff, reduceIte, qv_assign, decide_true, Bool.not_true, Bool.not_false, decide_false, eq_self, if_true, if_false, Bool.or_true, Bool.and_true, hB4.cell]; rfl) ?_
                  refine WL.nil ?_
                  refine th_norm ?_
                  refine ⟨rfl, ?_, _, ?_, j + 1, v, rfl, ?_, ?_, ?_, ?_, ?_, ?_, ?_⟩  -- again 1 of loop 0
                  · (repeat (first | exact Fr.refl _ _ | refine Fr.set rfl ?_ | refine Fr.put rfl ?_ | refine Fr.put0 ?_ | refine Fr.trans ?_ (Fr.of hfr1 rfl)))
                  · omega
                  · omega
                  · exact hX
                  · rw [ntP_step hx, if_pos (by simpa using hct76)]; exact ho
                  · exact all_take hv1 hx hvx.1
                  · exact all_take (p := fun x => vld (netM m x.1) = true) hv2 hx hvx.2
                  · simp only [EN, Nat.reduceEqDiff, reduceIte, k1_1, k4_1, k5_1, k6_1, k7_1, k8_1, k30_1, k31_1, k32_1, k33_1, k36_1, k37_1, k38_1, k39_1, k40_1, k41_1, k42_1, k43_1, k44_1, k45_1, k46_1, k47_1, k48_1, k49_1, k50_1, k51_1, k52_1, k53_1, k54_1, i10_1, i9_1, decide_true, Bool.not_true, Bool.not_false, decide_false, eq_self, if_true, if_false, Bool.or_true, Bool.and_true, hB4.cell] <;> first | rfl | (congr 1; omega)
                  · simp only [EN, Nat.reduceEqDiff, reduceIte, k1_1, k4_1, k5_1, k6_1, k7_1, k8_1, k30_1, k31_1, k32_1, k33_1, k36_1, k37_1, k38_1, k39_1, k40_1, k41_1, k42_1, k43_1, k44_1, k45_1, k46_1, k47_1, k48_1, k49_1, k50_1, k51_1, k52_1, k53_1, k54_1, i10_1, i9_1, decide_true, Bool.not_true, Bool.not_false, decide_false, eq_self, if_true, if_false, Bool.or_true, Bool.and_true, hB4.cell] <;> first | rfl | (congr 1; omega)
        ·
          try simp only [BD] at hct33
          have hil : i = m.length := (by omega); subst hil; rw [List.take_length] at hv1 hv2; rw [ntP_all] at ho
          have okn : OkN m := ⟨by omega, hv1, hv2⟩
          obtain ⟨an, cn, rfl, _, hsn, _⟩ := Own.slG (f := entL) (sz := 3) (fun _ => rfl) ho rfl
          have hnl := net_len m
          replace hbk := hbk.ext hX; replace hrk := hrk.ext hX; replace hB4 := hB4.ext hX; replace hE := hE.trans hX
          obtain ⟨r, hck⟩ : ∃ r, chkE (lk s.ks) (lk s.fs) m = r := ⟨_, rfl⟩
          refine hx_exit ?_
          refine th_exit ?_
          refine th_exit ?_
          refine bl_hit ?_
          refine th_norm ?_
          refine hx_seq ?_
          refine hx_region ?_
          refine WL.qq (by simp only [EN, Nat.reduceEqDiff, reduceIte, qv_move, k5_0, decide_true, Bool.not_true, Bool.not_false, decide_false, eq_self, if_true, if_false, Bool.or_true, Bool.and_true, hB4.cell]; rfl) ?_
          refine WL.qq (by simp only [EN, Nat.reduceEqDiff, reduceIte, qv_move, i7_0, decide_true, Bool.not_true, Bool.not_false, decide_false, eq_self, if_true, if_false, Bool.or_true, Bool.and_true, hB4.cell]; rfl) ?_
          refine WL.ce Try.call19 (by simp only [EN, Nat.reduceEqDiff, reduceIte, AR, decide_true, Bool.not_true, Bool.not_false, decide_false, eq_self, if_true, if_false, Bool.or_true, Bool.and_true, hB4.cell]; exact c_entries an (netL m) cn (by omega) hsn) ?_
          rintro ve h50 ⟨hx50, hoe⟩
          simp only [put_some]
          obtain ⟨ae, ce, rfl, _, hse, _⟩ := Own.slG (f := entL) (sz := 3) (fun _ => rfl) hoe rfl
          replace hE := hE.ext hx50
          replace hbk := hbk.ext hx50
          replace hrk := hrk.ext hx50
          replace hB4 := hB4.ext hx50
          refine WL.ce Try.call18 (by simp only [EN, Nat.reduceEqDiff, reduceIte, AR, decide_true, Bool.not_true, Bool.not_false, decide_false, eq_self, if_true, if_false, Bool.or_true, Bool.and_true, hB4.cell]; exact c_postF ae (netL m) ce (by omega) (by omega) (by omega) hg.val (u8E_net hum) hbk (hoe.base (Nat.zero_le _)) ((okn.chk _ _).trans hck) hE hfr) ?_
          rintro _ h51 ⟨rfl, hE', hg51, vo2, hbk', hfr', _⟩
          simp only [put_some]
          replace hrk := hrk.gsP hbk hg51
          replace hB4 := hB4.gs hg51 (hbk.offC hB4 (by decide) (by decide))
          replace hE := hE'
          replace hbk := hbk'
          rw [okn.put hg.nd hg.val] at hbk
          replace hm := km.ext hE
          refine WL.qq (by simp only [EN, Nat.reduceEqDiff, reduceIte, qv_assign, decide_true, Bool.not_true, Bool.not_false, decide_false, eq_self, if_true, if_false, Bool.or_true, Bool.and_true, hB4.cell]; rfl) ?_
          refine WL.nil ?_
          refine th_norm ?_
          refine hx_seq ?_
          refine hx_region ?_
          refine WL.qq (by simp only [EN, Nat.reduceEqDiff, reduceIte, k1_0, k5_0, k6_0, i8_0, i7_0, decide_true, Bool.not_true, Bool.not_false, decide_false, eq_self, if_true, if_false, Bool.or_true, Bool.and_true, hB4.cell, qv_load, ld29, readN, hB4.cell, AR, Nat.zero_add, Nat.reduceAdd]; rfl) ?_
          refine WL.qq (by simp only [EN, Nat.reduceEqDiff, reduceIte, qv_move, k1_0, decide_true, Bool.not_true, Bool.not_false, decide_false, eq_self, if_true, if_false, Bool.or_true, Bool.and_true, hB4.cell]; rfl) ?_
          refine WL.ce Try.call28 (by simp only [EN, Nat.reduceEqDiff, reduceIte, AR, decide_true, Bool.not_true, Bool.not_false, decide_false, eq_self, if_true, if_false, Bool.or_true, Bool.and_true, hB4.cell]; exact c_rpost am m cm (by omega) (by omega) (by omega) (by omega) hg.val hg.nd hrk hm ((chkE_congr (fun _ => rfl) (fun q => (hg.same q).symm) _).trans hck)) ?_
          rintro _ h52 ⟨hx52, w2, vk2, vf2, rfl, hrk2⟩
          simp only [put_some]
          obtain rfl := hrk2.val
          replace hE := hE.ext hx52
          replace hbk := hbk.ext hx52
          refine WL.qq (by simp only [EN, Nat.reduceEqDiff, reduceIte, qv_move, decide_true, Bool.not_true, Bool.not_false, decide_false, eq_self, if_true, if_false, Bool.or_true, Bool.and_true, hB4.cell]; rfl) ?_
          refine WL.qq (by simp only [EN, Nat.reduceEqDiff, reduceIte, qv_extract, AR, decide_true, Bool.not_true, Bool.not_false, decide_false, eq_self, if_true, if_false, Bool.or_true, Bool.and_true, hB4.cell]; rfl) ?_
          refine WL.qq (by simp only [EN, Nat.reduceEqDiff, reduceIte, qv_extract, AR, decide_true, Bool.not_true, Bool.not_false, decide_false, eq_self, if_true, if_false, Bool.or_true, Bool.and_true, hB4.cell]; rfl) ?_
          refine WL.allocSt zr29 sz29 (fun u => by simp only [EN, Nat.reduceEqDiff, reduceIte, k1_0, k5_0, k6_0, i8_0, i7_0, decide_true, Bool.not_true, Bool.not_false, decide_false, eq_self, if_true, if_false, Bool.or_true, Bool.and_true, hB4.cell, Value.cells] <;> rfl) ⟨rfl, rfl⟩ (by have h8 := hrk2.ks.one; have h9 := hrk2.fs.one; intro u hu; simp at hu; rcases hu with rfl | rfl | rfl <;> first | exact h8 | exact h9 | rfl) ?_
          intro h53 B53 hx53 hlt53 hB53
          replace hE := hE.ext hx53
          replace hbk := hbk.ext hx53
          replace hrk2 := hrk2.ext hx53
          skip
          refine WL.qq (by simp only [EN, Nat.reduceEqDiff, reduceIte, qv_assign, decide_true, Bool.not_true, Bool.not_false, decide_false, eq_self, if_true, if_false, Bool.or_true, Bool.and_true, hB4.cell]; rfl) ?_
          refine WL.nil ?_
          refine th_norm ?_
          refine hx_seq ?_
          refine hx_region ?_
          refine WL.cg Try.call12 (by simp only [EN, Nat.reduceEqDiff, reduceIte, AR, decide_true, Bool.not_true, Bool.not_false, decide_false, eq_self, if_true, if_false, Bool.or_true, Bool.and_true, hB4.cell]; exact c_known13 _) ?_
          intro h8 hx8
          replace hE := hE.ext hx8
          replace hbk := hbk.ext hx8
          replace hrk2 := hrk2.ext hx8
          replace hB53 := hB53.ext hx8
          refine WL.qq (by simp only [EN, Nat.reduceEqDiff, reduceIte, qv_move, decide_true, Bool.not_true, Bool.not_false, decide_false, eq_self, if_true, if_false, Bool.or_true, Bool.and_true, hB4.cell]; rfl) ?_
          refine WL.cq (gd_at (t := 104) rfl (by simp only [EN, Nat.reduceEqDiff, reduceIte, decide_true, Bool.not_true, Bool.not_false, decide_false, eq_self, if_true, if_false, Bool.or_true, Bool.and_true, hB4.cell] <;> rfl)) (fun hg21_2 => by simp only [EN, Nat.reduceEqDiff, reduceIte, qv_move, decide_true, Bool.not_true, Bool.not_false, decide_false, eq_self, if_true, if_false, Bool.or_true, Bool.and_true, hB4.cell, hg21_2, GR]; rfl) ?_
          refine WL.cq (gd_at (t := 104) rfl (by simp only [EN, Nat.reduceEqDiff, reduceIte, decide_true, Bool.not_true, Bool.not_false, decide_false, eq_self, if_true, if_false, Bool.or_true, Bool.and_true, hB4.cell] <;> rfl)) (fun hg21_3 => by simp only [EN, Nat.reduceEqDiff, reduceIte, qv_move, decide_true, Bool.not_true, Bool.not_false, decide_false, eq_self, if_true, if_false, Bool.or_true, Bool.and_true, hB4.cell, hg21_3, GR]; rfl) ?_
          refine WL.cq (gd_at (t := 104) rfl (by simp only [EN, Nat.reduceEqDiff, reduceIte, decide_true, Bool.not_true, Bool.not_false, decide_false, eq_self, if_true, if_false, Bool.or_true, Bool.and_true, hB4.cell] <;> rfl)) (fun hg21_4 => by simp only [EN, Nat.reduceEqDiff, reduceIte, qv_binOp, binv_eql, eq3, Option.map_some, decide_true, Bool.not_true, Bool.not_false, decide_false, eq_self, if_true, if_false, Bool.or_true, Bool.and_true, hB4.cell, hg21_4, GR]; rfl) ?_
          refine WL.qq (by simp only [EN, Nat.reduceEqDiff, reduceIte, qv_pick, pk_and, pk_or, GR, decide_true, Bool.not_true, Bool.not_false, decide_false, eq_self, if_true, if_false, Bool.or_true, Bool.and_true, hB4.cell]; rfl) ?_
          refine WL.qq (by simp only [EN, Nat.reduceEqDiff, reduceIte, qv_move, decide_true, Bool.not_true, Bool.not_false, decide_false, eq_self, if_true, if_false, Bool.or_true, Bool.and_true, hB4.cell]; rfl) ?_
          refine WL.cq (gd_at (t := 109) rfl (by simp only [EN, Nat.reduceEqDiff, reduceIte, decide_true, Bool.not_true, Bool.not_false, decide_false, eq_self, if_true, if_false, Bool.or_true, Bool.and_true, hB4.cell] <;> rfl)) (fun hg21_7 => by simp only [EN, Nat.reduceEqDiff, reduceIte, qv_move, decide_true, Bool.not_true, Bool.not_false, decide_false, eq_self, if_true, if_false, Bool.or_true, Bool.and_true, hB4.cell, hg21_7, GR]; rfl) ?_
          refine WL.cq (gd_at (t := 109) rfl (by simp only [EN, Nat.reduceEqDiff, reduceIte, decide_true, Bool.not_true, Bool.not_false, decide_false, eq_self, if_true, if_false, Bool.or_true, Bool.and_true, hB4.cell] <;> rfl)) (fun hg21_8 => by simp only [EN, Nat.reduceEqDiff, reduceIte, qv_binOp, binv_neq, eq3, Option.map_some, decide_true, Bool.not_true, Bool.not_false, decide_false, eq_self, if_true, if_false, Bool.or_true, Bool.and_true, hB4.cell, hg21_8, GR]; rfl) ?_
          refine WL.cq (gd_at (t := 109) rfl (by simp only [EN, Nat.reduceEqDiff, reduceIte, decide_true, Bool.not_true, Bool.not_false, decide_false, eq_self, if_true, if_false, Bool.or_true, Bool.and_true, hB4.cell] <;> rfl)) (fun hg21_9 => by simp only [EN, Nat.reduceEqDiff, reduceIte, qv_move, decide_true, Bool.not_true, Bool.not_false, decide_false, eq_self, if_true, if_false, Bool.or_true, Bool.and_true, hB4.cell, hg21_9, GR]; rfl) ?_
          refine WL.cq (gd_at (t := 112) rfl (by simp only [EN, Nat.reduceEqDiff, reduceIte, k5_0, decide_true, Bool.not_true, Bool.not_false, decide_false, eq_self, if_true, if_false, Bool.or_true, Bool.and_true, hB4.cell] <;> rfl)) (fun hg21_10 => by simp only [EN, Nat.reduceEqDiff, reduceIte, qv_move, k5_0, decide_true, Bool.not_true, Bool.not_false, decide_false, eq_self, if_true, if_false, Bool.or_true, Bool.and_true, hB4.cell, hg21_10, GR]; rfl) ?_
          refine WL.cq (gd_at (t := 112) rfl (by simp only [EN, Nat.reduceEqDiff, reduceIte, decide_true, Bool.not_true, Bool.not_false, decide_false, eq_self, if_true, if_false, Bool.or_true, Bool.and_true, hB4.cell] <;> rfl)) (fun hg21_11 => by simp only [EN, Nat.reduceEqDiff, reduceIte, k1_0, k5_0, k6_0, i8_0, i7_0, decide_true, Bool.not_true, Bool.not_false, decide_false, eq_self, if_true, if_false, Bool.or_true, Bool.and_true, hB4.cell, GR, hg21_11, qv_load, ld29, readN, hB53.cell, AR, Nat.zero_add, Nat.reduceAdd]; rfl) ?_
          refine WL.ccg (gd_at (t := 112) rfl (by simp only [EN, Nat.reduceEqDiff, reduceIte, decide_true, Bool.not_true, Bool.not_false, decide_false, eq_self, if_true, if_false, Bool.or_true, Bool.and_true, hB4.cell] <;> rfl)) Try.call25 (fun hg21_12 => by simp only [EN, Nat.reduceEqDiff, reduceIte, AR, decide_true, Bool.not_true, Bool.not_false, decide_false, eq_self, if_true, if_false, Bool.or_true, Bool.and_true, hB4.cell, hg21_12, GR]; exact (by have h0 : r = 0 := (by simpa using hg21_12); subst h0; exact c_same ((good_post hg hum hml hck).up (by omega)) hbk hrk2)) ?_
          intro h9 hx9
          replace hE := hE.ext hx9
          replace hbk := hbk.ext hx9
          replace hrk2 := hrk2.ext hx9
          replace hB53 := hB53.ext hx9
          refine WL.cq (gd_at (t := 109) rfl (by simp only [EN, Nat.reduceEqDiff, reduceIte, decide_true, Bool.not_true, Bool.not_false, decide_false, eq_self, if_true, if_false, Bool.or_true, Bool.and_true, hB4.cell] <;> rfl)) (fun hg21_13 => by simp only [EN, Nat.reduceEqDiff, reduceIte, qv_pick, pk_and, pk_or, GR, decide_true, Bool.not_true, Bool.not_false, decide_false, eq_self, if_true, if_false, Bool.or_true, Bool.and_true, hB4.cell, hg21_13, GR]; rfl) ?_
          refine WL.qq (by simp only [EN, Nat.reduceEqDiff, reduceIte, qv_pick, pk_and, pk_or, GR, decide_true, Bool.not_true, Bool.not_false, decide_false, eq_self, if_true, if_false, Bool.or_true, Bool.and_true, hB4.cell]; rfl) ?_
          refine WL.qq (by simp only [EN, Nat.reduceEqDiff, reduceIte, qv_assign, decide_true, Bool.not_true, Bool.not_false, decide_false, eq_self, if_true, if_false, Bool.or_true, Bool.and_true, hB4.cell]; rfl) ?_
          refine WL.nil ?_
          refine th_norm ?_
          refine hx_ret ?_
          refine fin_ret [.tmp 4] rfl rfl (by simp only [EN, Nat.reduceEqDiff, reduceIte, resv, k1_0, k5_0, k6_0, i8_0, i7_0, decide_true, Bool.not_true, Bool.not_false, decide_false, eq_self, if_true, if_false, Bool.or_true, Bool.and_true, hB4.cell]; rfl) ?_  -- ret 2 r21
          exact ⟨by simp [retOf], hE⟩
end GL


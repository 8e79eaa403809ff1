/- Ledger: the statement on the order of entries. -/
import Derived.Test.YtlmealnfkadndaaLedL
set_option linter.unusedSimpArgs false
set_option linter.unusedVariables false
set_option linter.unnecessarySimpa false
namespace GL
open Go Go.Proofs
set_option maxRecDepth 8000
theorem sumS_perm (p : E2 → Prop) [DecidablePred p] {l m : List E2} (h : l.Perm m) : sumS p l = sumS p m := by
  induction h with
  | nil => rfl
  | cons x _ ih => simp only [sumS, ih]
  | swap x y l => simp only [sumS]; omega
  | trans _ _ h1 h2 => exact h1.trans h2
theorem netM_perm {l m : List E2} (h : l.Perm m) (hl : l.length ≤ 4096) (hv : ∀ x ∈ l, vld x.2 = true) (q : K2) : netM l q = netM m q := by
  rw [(netM_eq hl hv q).1, (netM_eq (h.length_eq ▸ hl) (fun x hx => hv x (h.mem_iff.2 hx)) q).1, sumS_perm _ h]
theorem sumA_perm {l m : List E2} (h : l.Perm m) (hl : l.length ≤ 4096) (hv : ∀ x ∈ l, vld x.2 = true) (a : Int) : sumA l a = sumA m a := by
  rw [(sumA_eq hl hv a).1, (sumA_eq (h.length_eq ▸ hl) (fun x hx => hv x (h.mem_iff.2 hx)) a).1, sumS_perm _ h]
theorem chk_perm {bal flo : K2 → Int} {l m : List E2} (h : l.Perm m) : chkE bal flo l = chkE bal flo m := by
  have hm : ∀ {p : E2 → Prop}, (∀ x ∈ l, p x) ↔ ∀ x ∈ m, p x := ⟨fun q x hx => q x (h.mem_iff.2 hx), fun q x hx => q x (h.mem_iff.1 hx)⟩
  unfold chkE
  rw [h.length_eq]
  by_cases h0 : m.length = 0
  · rw [if_pos h0, if_pos h0]
  rw [if_neg h0, if_neg h0]
  by_cases h1 : 4096 < m.length
  · rw [if_pos h1, if_pos h1]
  rw [if_neg h1, if_neg h1]
  by_cases h2 : ∀ x ∈ l, vld x.2 = true
  · have h2' := hm.1 h2
    have hn := netM_perm h (by rw [h.length_eq]; omega) h2
    have hs := sumA_perm h (by rw [h.length_eq]; omega) h2
    simp only [hn, hs, hm]
  · rw [if_pos h2, if_pos (fun q => h2 (hm.2 q))]
theorem putL_keys (l : List E2) (q : K2) : ∀ ks : List E2, q ∈ (putL ks l).map Prod.fst ↔ q ∈ ks.map Prod.fst ∨ ∃ x ∈ l, x.1 = q := by
  induction l with
  | nil => intro ks; simp [putL]
  | cons x l ih =>
    intro ks
    show q ∈ (putL (mset ks x.1 _) l).map Prod.fst ↔ _
    rw [ih, mset_keys]
    constructor
    · rintro ((h | h) | ⟨y, hy, h⟩)
      · exact .inr ⟨x, by simp, h.symm⟩
      · exact .inl h
      · exact .inr ⟨y, by simp [hy], h⟩
    · rintro (h | ⟨y, hy, h⟩)
      · exact .inl (.inr h)
      · rcases List.mem_cons.1 hy with rfl | hy
        · exact .inl (.inl h.symm)
        · exact .inr ⟨y, hy, h⟩
theorem putL_lenP {ks l m : List E2} (hn : (ks.map Prod.fst).Nodup) (h : l.Perm m) : (putL ks l).length = (putL ks m).length := by
  have h1 : ((putL ks l).map Prod.fst).Perm ((putL ks m).map Prod.fst) := by
    rw [List.perm_ext_iff_of_nodup (putL_nodup _ hn) (putL_nodup _ hn)]
    intro q
    rw [putL_keys, putL_keys]
    constructor
    · rintro (h1 | ⟨x, hx, h1⟩)
      · exact .inl h1
      · exact .inr ⟨x, h.mem_iff.1 hx, h1⟩
    · rintro (h1 | ⟨x, hx, h1⟩)
      · exact .inl h1
      · exact .inr ⟨x, h.mem_iff.2 hx, h1⟩
  have := h1.length_eq
  simpa using this
theorem slG_of {h : Heap} {base el n cap : Nat} {a : Option Addr} {L : List E2} (ho : Own h base el 3 (.slice a n cap) n (L.flatMap entL)) (hn : n = L.length := by rfl) : SlG 3 entL h a L := by
  obtain ⟨a', c', h1, _, h2, _⟩ := Own.slG (f := entL) (sz := 3) (fun _ => rfl) ho hn
  cases h1
  exact h2
/-- The list that the statement makes. -/
def turned (m : List E2) (t : Nat) : List E2 := (m.drop (t % m.length) ++ m.take (t % m.length)).reverse
theorem put_cmp {ks l m flo : List E2} {r : Int} (h : l.Perm m) (hb : ∀ q, vld (lk ks q) = true) (hr : chkE (lk ks) (lk flo) l = r) (q : K2) : lk (if r = 0 then putL ks l else ks) q = lk (if r = 0 then putL ks m else ks) q := by
  by_cases h0 : r = 0
  · rw [if_pos h0, if_pos h0]
    obtain ⟨hlen, hv, _⟩ := chk_ok (hr.trans h0)
    rw [putL_lk hlen.2 hv (hb q), putL_lk (h.length_eq ▸ hlen.2) (fun x hx => hv x (h.mem_iff.2 hx)) (hb q), netM_perm h hlen.2 hv]
  · rw [if_neg h0, if_neg h0]
theorem turned_perm (m : List E2) (t : Nat) : (turned m t).Perm m := by
  refine (List.reverse_perm _).trans (List.perm_append_comm.trans ?_)
  rw [List.take_append_drop]
theorem turned_len (m : List E2) (t : Nat) : (turned m t).length = m.length := (turned_perm m t).length_eq
theorem turned_at {m : List E2} {t i : Nat} (hi : i < m.length) : (turned m t)[i]? = m[(m.length - 1 - i + t) % m.length]? := by
  have hL : (m.drop (t % m.length) ++ m.take (t % m.length)).length = m.length := by
    have := turned_len m t
    rwa [turned, List.length_reverse] at this
  have hr : t % m.length < m.length := Nat.mod_lt _ (by omega)
  unfold turned
  rw [List.getElem?_reverse (by rw [hL]; exact hi), hL]
  have e1 : (m.length - 1 - i + t) % m.length = (m.length - 1 - i + t % m.length) % m.length := by rw [Nat.add_mod, Nat.add_mod (m.length - 1 - i) (t % m.length), Nat.mod_mod]
  rw [e1]
  generalize t % m.length = r at hr ⊢
  rcases Nat.lt_or_ge (m.length - 1 - i + r) m.length with h | h
  · rw [Nat.mod_eq_of_lt h, List.getElem?_append_left (by rw [List.length_drop]; omega), List.getElem?_drop]
    congr 1; omega
  · rw [List.getElem?_append_right (by rw [List.length_drop]; omega), List.length_drop]
    have e2 : (m.length - 1 - i + r) % m.length = m.length - 1 - i + r - m.length := by
      rw [Nat.mod_eq_sub_mod h, Nat.mod_eq_of_lt (by omega)]
    rw [e2, List.getElem?_take_of_lt (by omega)]
    congr 1; omega
set_option maxHeartbeats 1000000 in
theorem l_perm (al : Option Addr) (l : List LOp) (cl : Nat) (am : Option Addr) (m : List E2) (cm : Nat) (t : Nat) (ht : t ≤ 255) {h : Heap} (hl : SlO h al l) (ll : l.length ≤ 9223372036854775807) (hu : ∀ o ∈ l, okE o.L)
    (hm : SlG 3 entL h am m) (hum : okE m) : HCalls Try.prog 4 #[.slice al l.length cl, .slice am m.length cm, .int .u8 t] h (Grow (.bool true) h) := by
  refine hcalls2 Try.func4 rfl (by decide +kernel) (by simp only [Try.ntmps4]; exact of_decide_eq_true rfl) ?_
  intro e hin
  have e0 := hin 0 _ rfl
  have e1 := hin 1 _ rfl
  have e2 := hin 2 _ rfl
  have hE := Ext.refl h; have km := hm
  refine hx_seq ?_
  refine hx_region ?_
  refine WL.qq (by simp only [EN, Nat.reduceEqDiff, reduceIte, qv_assign, decide_true, Bool.not_true, Bool.not_false, decide_false]; rfl) ?_
  refine WL.nil ?_
  refine th_norm ?_
  refine hx_seq ?_
  refine hx_seq ?_
  refine hx_region ?_
  refine WL.qq (by simp only [EN, Nat.reduceEqDiff, reduceIte, qv_move, e0, decide_true, Bool.not_true, Bool.not_false, decide_false]; rfl) ?_
  refine WL.cg Try.call11 (by simp only [EN, Nat.reduceEqDiff, reduceIte, AR, decide_true, Bool.not_true, Bool.not_false, decide_false]; exact c_few al l cl ll hl.ops) ?_
  intro h1 hx1
  replace hE := hE.ext hx1
  replace hl := hl.ext hx1
  replace hm := hm.ext hx1
  refine WL.qq (by simp only [EN, Nat.reduceEqDiff, reduceIte, qv_unOp, unv_not, decide_true, Bool.not_true, Bool.not_false, decide_false]; rfl) ?_
  refine WL.qq (by simp only [EN, Nat.reduceEqDiff, reduceIte, qv_move, decide_true, Bool.not_true, Bool.not_false, decide_false]; rfl) ?_
  refine WL.cq (gd_at (t := 18) rfl (by simp only [EN, Nat.reduceEqDiff, reduceIte, e1, decide_true, Bool.not_true, Bool.not_false, decide_false] <;> rfl)) (fun hg1_4 => by simp only [EN, Nat.reduceEqDiff, reduceIte, qv_move, e1, decide_true, Bool.not_true, Bool.not_false, decide_false, hg1_4, GR]; rfl) ?_
  refine WL.cq (gd_at (t := 18) rfl (by simp only [EN, Nat.reduceEqDiff, reduceIte, decide_true, Bool.not_true, Bool.not_false, decide_false] <;> rfl)) (fun hg1_5 => by simp only [EN, Nat.reduceEqDiff, reduceIte, qv_len, ln26, AR, decide_true, Bool.not_true, Bool.not_false, decide_false, hg1_5, GR]; rfl) ?_
  refine WL.cq (gd_at (t := 18) rfl (by simp only [EN, Nat.reduceEqDiff, reduceIte, decide_true, Bool.not_true, Bool.not_false, decide_false] <;> rfl)) (fun hg1_6 => by simp only [EN, Nat.reduceEqDiff, reduceIte, qv_binOp, binv_gtr, decide_true, Bool.not_true, Bool.not_false, decide_false, hg1_6, GR]; rfl) ?_
  refine WL.qq (by simp only [EN, Nat.reduceEqDiff, reduceIte, qv_pick, pk_and, pk_or, GR, decide_true, Bool.not_true, Bool.not_false, decide_false]; rfl) ?_
  refine WL.nil ?_
  refine th_norm ?_
  refine hx_cond (by simp only [EN, Nat.reduceEqDiff, reduceIte, e0, e1, e2, decide_true, Bool.not_true, Bool.not_false, decide_false]; rfl) (fun hct22 => ?_) (fun hct22 => ?_)
  ·
    try simp only [BD] at hct22
    refine hx_seq ?_
    refine hx_region ?_
    refine WL.cg Try.call12 (by simp only [EN, Nat.reduceEqDiff, reduceIte, AR, decide_true, Bool.not_true, Bool.not_false, decide_false]; exact c_known13 _) ?_
    intro h2 hx2
    replace hE := hE.ext hx2
    replace hl := hl.ext hx2
    replace hm := hm.ext hx2
    refine WL.qq (by simp only [EN, Nat.reduceEqDiff, reduceIte, qv_assign, decide_true, Bool.not_true, Bool.not_false, decide_false]; rfl) ?_
    refine WL.nil ?_
    refine th_norm ?_
    refine hx_ret ?_
    refine th_ret ?_
    refine fin_ret [.tmp 6] rfl rfl (by simp only [EN, Nat.reduceEqDiff, reduceIte, resv, e0, e1, e2, decide_true, Bool.not_true, Bool.not_false, decide_false]; rfl) ?_  -- ret 0 r2
    exact ⟨rfl, hE⟩
  ·
    try simp only [BD] at hct22
    have ok : OkO l := few_ok (by simpa using hct22.1) hu
    have hml : m.length ≤ 12 := (by have h9 := hct22.2; omega)
    obtain ⟨s, hs⟩ : ∃ s, runB l = s := ⟨_, rfl⟩
    have hg : GoodB s 12 := hs ▸ (List.take_length (l := l) ▸ good_run ok l.length (Nat.le_refl _)).up ok.len
    have hgl := hg.lk_; have hgs := hg.sq_
    obtain ⟨r, hck⟩ : ∃ r, chkE (lk s.ks) (lk s.fs) m = r := ⟨_, rfl⟩
    obtain ⟨n, hn⟩ : ∃ n, turned m t = n := ⟨_, rfl⟩
    have hnp : n.Perm m := hn ▸ turned_perm m t
    have hnl := hnp.length_eq
    have hun : okE n := fun x hx => hum x (hnp.mem_iff.1 hx)
    refine hx_skip ?_
    refine th_norm ?_
    refine hx_seq ?_
    refine hx_region ?_
    refine WL.qq (by simp only [EN, Nat.reduceEqDiff, reduceIte, qv_move, e0, decide_true, Bool.not_true, Bool.not_false, decide_false]; rfl) ?_
    refine WL.ce Try.call13 (by simp only [EN, Nat.reduceEqDiff, reduceIte, AR, decide_true, Bool.not_true, Bool.not_false, decide_false]; exact hs ▸ c_made al l cl ok hl) ?_
    rintro _ h3 ⟨hx3, p, bm, fm, vo, w, vk, vf, rfl, hbk, hrk, hfr⟩
    replace hE := hE.ext hx3
    replace hl := hl.ext hx3
    replace hm := hm.ext hx3
    simp only [put_some]
    refine WL.qq (by simp only [EN, Nat.reduceEqDiff, reduceIte, qv_move, decide_true, Bool.not_true, Bool.not_false, decide_false]; rfl) ?_
    refine WL.qq (by simp only [EN, Nat.reduceEqDiff, reduceIte, qv_extract, AR, decide_true, Bool.not_true, Bool.not_false, decide_false]; rfl) ?_
    refine WL.qq (by simp only [EN, Nat.reduceEqDiff, reduceIte, qv_extract, AR, decide_true, Bool.not_true, Bool.not_false, decide_false]; rfl) ?_
    have hs2 := hE.size
    have hE0 := hE; replace hfr := hfr.le hx1.size
    refine WL.alloc2 zr29 ?_
    intro h4 B4 hx4 hlt4 hB4
    replace hE := hE.ext hx4
    replace hl := hl.ext hx4
    replace hm := hm.ext hx4
    replace hbk := hbk.ext hx4
    replace hrk := hrk.ext hx4
    simp only [Value.cells] at hB4
    refine WL.qq (by simp only [EN, Nat.reduceEqDiff, reduceIte, qv_assign, decide_true, Bool.not_true, Bool.not_false, decide_false, hB4.cell]; rfl) ?_
    obtain rfl := hrk.val
    refine WL.store (by simp only [EN, Nat.reduceEqDiff, reduceIte, e0, e1, e2, decide_true, Bool.not_true, Bool.not_false, decide_false, hB4.cell] <;> rfl) sz29 (by simp only [EN, Nat.reduceEqDiff, reduceIte, e0, e1, e2, decide_true, Bool.not_true, Bool.not_false, decide_false, hB4.cell, Value.cells]; rfl) rfl hB4 (by simp) (by have h8 := hrk.ks.one; have h9 := hrk.fs.one; intro u hu; simp at hu; rcases hu with rfl | rfl | rfl <;> first | exact h8 | exact h9 | rfl) ?_
    intro h30 hw30
    replace hE := hw30.ext (hE0.trans hx4) (Nat.le_trans hs2 hlt4)
    replace hbk := hbk.st (.inr ⟨_, hw30⟩) hB4 (by decide) (by decide)
    replace hm := km.ext hE
    refine WL.nil ?_
    refine th_norm ?_
    refine hx_seq ?_
    refine hx_seq ?_
    refine hx_region ?_
    refine WL.qq (by simp only [EN, Nat.reduceEqDiff, reduceIte, qv_move, decide_true, Bool.not_true, Bool.not_false, decide_false, hB4.cell]; rfl) ?_
    refine WL.qq (by simp only [EN, Nat.reduceEqDiff, reduceIte, qv_binOp, binv_eql, eqz25, eqn25, eqm25, Option.map_some, decide_true, Bool.not_true, Bool.not_false, decide_false, hB4.cell]; rfl) ?_
    refine WL.nil ?_
    refine th_norm ?_
    refine hx_cond (by simp only [EN, Nat.reduceEqDiff, reduceIte, e0, e1, e2, decide_true, Bool.not_true, Bool.not_false, decide_false, hB4.cell]; rfl) (fun hct30 => ?_) (fun hct30 => ?_)
    ·
      simp at hct30
    ·
      try simp only [BD] at hct30
      refine hx_skip ?_
      refine th_norm ?_
      refine hx_seq ?_
      refine hx_region ?_
      refine WL.qq (by simp only [EN, Nat.reduceEqDiff, reduceIte, qv_move, decide_true, Bool.not_true, Bool.not_false, decide_false, hB4.cell]; rfl) ?_
      refine WL.ce Try.call17 (by simp only [EN, Nat.reduceEqDiff, reduceIte, AR, decide_true, Bool.not_true, Bool.not_false, decide_false, hB4.cell]; exact c_bkClone (by omega) hbk) ?_
      rintro _ h31 ⟨hx31, p', bm', fm', vo', rfl, hck', hfc⟩
      simp only [put_some]
      have hblo : ∀ x ∈ blks p bm fm vo, x < h30.size := hbk.below
      have hclo : ∀ x ∈ blks p' bm' fm' vo', h30.size ≤ x := hfc.above
      replace hfc := hfc.le hE.size
      replace hE := hE.ext hx31
      replace hbk := hbk.ext hx31
      replace hm := km.ext hE
      refine WL.qq (by simp only [EN, Nat.reduceEqDiff, reduceIte, qv_assign, decide_true, Bool.not_true, Bool.not_false, decide_false, hB4.cell]; rfl) ?_
      refine WL.nil ?_
      refine th_norm ?_
      refine hx_seq ?_
      refine hx_region ?_
      refine WL.qq (by simp only [EN, Nat.reduceEqDiff, reduceIte, qv_assign, decide_true, Bool.not_true, Bool.not_false, decide_false, hB4.cell]; rfl) ?_
      refine WL.nil ?_
      refine th_norm ?_
      refine hx_seq ?_
      refine hx_seq ?_
      refine hx_region ?_
      refine WL.qq (by simp only [EN, Nat.reduceEqDiff, reduceIte, qv_assign, decide_true, Bool.not_true, Bool.not_false, decide_false, hB4.cell]; rfl) ?_
      refine WL.nil ?_
      refine th_norm ?_
      refine hx_block ?_
      refine hx_loopG [10, 11, 33, 34, 35, 36, 37, 38, 39, 40, 41, 42, 43, 44, 45, 46, 47, 48, 49, 50, 51, 52, 53, 54, 55] (fun k e hL0 => ∃ (i : Nat) (v : Value), m.length - i = k ∧ (i ≤ m.length) ∧ (Ext h31 hL0) ∧ (Own hL0 h31.size 44 3 v (n.take i).length ((n.take i).flatMap entL)) ∧ e 11 = .int .i64 i ∧ e 10 = v) _ ⟨0, .slice none 0 0, rfl, ?_, ?_, ?_, ?_, ?_⟩ ?_
      · omega
      · exact Ext.refl _
      · exact Own.nil
      · simp only [EN, Nat.reduceEqDiff, reduceIte, e0, e1, e2, decide_true, Bool.not_true, Bool.not_false, decide_false, hB4.cell] <;> rfl
      · simp only [EN, Nat.reduceEqDiff, reduceIte, e0, e1, e2, decide_true, Bool.not_true, Bool.not_false, decide_false, hB4.cell] <;> rfl
      ·
        rintro k e0L hL0 hfr0 ⟨i, v, rfl, hi, hX, ho, i11_0, i10_0⟩
        have k1_0 := hfr0 1 rfl; simp only [EN, Nat.reduceEqDiff, reduceIte, e0, e1, e2, decide_true, Bool.not_true, Bool.not_false, decide_false, hB4.cell] at k1_0
        have k2_0 := hfr0 2 rfl; simp only [EN, Nat.reduceEqDiff, reduceIte, e0, e1, e2, decide_true, Bool.not_true, Bool.not_false, decide_false, hB4.cell] at k2_0
        have k6_0 := hfr0 6 rfl; simp only [EN, Nat.reduceEqDiff, reduceIte, e0, e1, e2, decide_true, Bool.not_true, Bool.not_false, decide_false, hB4.cell] at k6_0
        have k7_0 := hfr0 7 rfl; simp only [EN, Nat.reduceEqDiff, reduceIte, e0, e1, e2, decide_true, Bool.not_true, Bool.not_false, decide_false, hB4.cell] at k7_0
        have k9_0 := hfr0 9 rfl; simp only [EN, Nat.reduceEqDiff, reduceIte, e0, e1, e2, decide_true, Bool.not_true, Bool.not_false, decide_false, hB4.cell] at k9_0
        have hm := hm.ext hX; have hEL := hE.trans hX
        refine hx_seq ?_
        refine hx_seq ?_
        refine hx_region ?_
        refine WL.qq (by simp only [EN, Nat.reduceEqDiff, reduceIte, qv_move, i11_0, decide_true, Bool.not_true, Bool.not_false, decide_false, hB4.cell]; rfl) ?_
        refine WL.qq (by simp only [EN, Nat.reduceEqDiff, reduceIte, qv_move, k1_0, decide_true, Bool.not_true, Bool.not_false, decide_false, hB4.cell]; rfl) ?_
        refine WL.qq (by simp only [EN, Nat.reduceEqDiff, reduceIte, qv_len, ln26, AR, decide_true, Bool.not_true, Bool.not_false, decide_false, hB4.cell]; rfl) ?_
        refine WL.qq (by simp only [EN, Nat.reduceEqDiff, reduceIte, qv_binOp, binv_lss, decide_true, Bool.not_true, Bool.not_false, decide_false, hB4.cell]; rfl) ?_
        refine WL.nil ?_
        refine th_norm ?_
        refine hx_cond (by simp only [EN, Nat.reduceEqDiff, reduceIte, k1_0, k2_0, k6_0, k7_0, k9_0, i11_0, i10_0, decide_true, Bool.not_true, Bool.not_false, decide_false, hB4.cell]; rfl) (fun hct36 => ?_) (fun hct36 => ?_)
        ·
          try simp only [BD] at hct36
          have hidl : (m.length - 1 - i + t) % m.length < m.length := Nat.mod_lt _ (by omega)
          obtain ⟨x, hx⟩ := atG (l := m) (i := (m.length - 1 - i + t) % m.length) hidl
          have hxn : n[i]? = some x := by rw [← hn, turned_at (by omega)]; exact hx
          obtain ⟨b, off, rfl, hr3, hr2, hc0, hc1, hc2⟩ := ent_rd hm hx
          have hidx : ((m.length : Int) - 1 - i + t).tmod m.length = (((m.length - 1 - i + t) % m.length : Nat) : Int) := by rw [Int.ofNat_tmod]; congr 1; omega
          refine hx_skip ?_
          refine th_norm ?_
          refine hx_seq ?_
          refine hx_block ?_
          refine hx_region ?_
          refine WL.qq (by simp only [EN, Nat.reduceEqDiff, reduceIte, qv_move, i10_0, decide_true, Bool.not_true, Bool.not_false, decide_false, hB4.cell]; rfl) ?_
          refine WL.qq (by simp only [EN, Nat.reduceEqDiff, reduceIte, qv_move, k1_0, decide_true, Bool.not_true, Bool.not_false, decide_false, hB4.cell]; rfl) ?_
          refine WL.qq (by simp only [EN, Nat.reduceEqDiff, reduceIte, qv_move, k1_0, decide_true, Bool.not_true, Bool.not_false, decide_false, hB4.cell]; rfl) ?_
          refine WL.qq (by simp only [EN, Nat.reduceEqDiff, reduceIte, qv_len, ln26, AR, decide_true, Bool.not_true, Bool.not_false, decide_false, hB4.cell]; rfl) ?_
          refine WL.qq (by simp only [EN, Nat.reduceEqDiff, reduceIte, qv_binOp, binv_sub, decide_true, Bool.not_true, Bool.not_false, decide_false, hB4.cell]; (try simp (disch := omega) only [w64, w8, wu64]); rfl) ?_
          refine WL.qq (by simp only [EN, Nat.reduceEqDiff, reduceIte, qv_move, i11_0, decide_true, Bool.not_true, Bool.not_false, decide_false, hB4.cell]; rfl) ?_
          refine WL.qq (by simp only [EN, Nat.reduceEqDiff, reduceIte, qv_binOp, binv_sub, decide_true, Bool.not_true, Bool.not_false, decide_false, hB4.cell]; (try simp (disch := omega) only [w64, w8, wu64]); rfl) ?_
          refine WL.qq (by simp only [EN, Nat.reduceEqDiff, reduceIte, qv_move, k2_0, decide_true, Bool.not_true, Bool.not_false, decide_false, hB4.cell]; rfl) ?_
          refine WL.qq (by simp only [EN, Nat.reduceEqDiff, reduceIte, qv_convert, convv, Try.underlying5, Try.underlying3, decide_true, Bool.not_true, Bool.not_false, decide_false, hB4.cell]; (try simp (disch := omega) only [w64, w8, wu64]); rfl) ?_
          refine WL.qq (by simp only [EN, Nat.reduceEqDiff, reduceIte, qv_binOp, binv_add, decide_true, Bool.not_true, Bool.not_false, decide_false, hB4.cell]; (try simp (disch := omega) only [w64, w8, wu64]); rfl) ?_
          refine WL.qq (by simp only [EN, Nat.reduceEqDiff, reduceIte, qv_move, k1_0, decide_true, Bool.not_true, Bool.not_false, decide_false, hB4.cell]; rfl) ?_
          refine WL.qq (by simp only [EN, Nat.reduceEqDiff, reduceIte, qv_len, ln26, AR, decide_true, Bool.not_true, Bool.not_false, decide_false, hB4.cell]; rfl) ?_
          refine WL.qq (by simp only [EN, Nat.reduceEqDiff, reduceIte, k1_0, k2_0, k6_0, k7_0, k9_0, i11_0, i10_0, decide_true, Bool.not_true, Bool.not_false, decide_false, hB4.cell, qv_binOp]; rw [binv_rem (by omega), hidx]) ?_
          refine WL.qq (by simp only [EN, Nat.reduceEqDiff, reduceIte, qv_indexAddr, decide_true, Bool.not_true, Bool.not_false, decide_false, hB4.cell]; (try simp (disch := omega) only [ix26, Int.toNat_natCast]); rfl) ?_
          refine WL.qq (by simp only [EN, Nat.reduceEqDiff, reduceIte, k1_0, k2_0, k6_0, k7_0, k9_0, i11_0, i10_0, decide_true, Bool.not_true, Bool.not_false, decide_false, hB4.cell, qv_load, ld44, Int.toNat_natCast, hr3]; rfl) ?_
          skip
          refine WL.push (bytes := 16) Try.underlying26 (inf_of Try.type44) rfl rfl rfl rfl (by decide) (by decide) sz44 zr44 (fun u => by simp only [EN, Nat.reduceEqDiff, reduceIte, k1_0, k2_0, k6_0, k7_0, k9_0, i11_0, i10_0, decide_true, Bool.not_true, Bool.not_false, decide_false, hB4.cell]) ho (by simp only [EN, Nat.reduceEqDiff, reduceIte, k1_0, k2_0, k6_0, k7_0, k9_0, i11_0, i10_0, decide_true, Bool.not_true, Bool.not_false, decide_false, hB4.cell, Value.cells]; rfl) rfl (by simp [Value.oneCell']) (by have h9 : (n.take i).length ≤ i := (by simp; omega); simp only [maxLen]; omega) (by have h9 : (n.take i).length ≤ i := (by simp; omega); omega) hX.size ?_
          intro h40 v40 B40 ho40 hg40 hp40 hn40
          have hX40 : Ext h31 h40 := hg40.ext hX (fun c hc => (ho.block c hc).1)
          refine WL.qq (by simp only [EN, Nat.reduceEqDiff, reduceIte, qv_assign, decide_true, Bool.not_true, Bool.not_false, decide_false, hB4.cell]; rfl) ?_
          refine WL.nil ?_
          refine bl_norm ?_
          refine th_norm ?_
          refine hx_region ?_
          refine WL.qq (by simp only [EN, Nat.reduceEqDiff, reduceIte, qv_move, i11_0, decide_true, Bool.not_true, Bool.not_false, decide_false, hB4.cell]; rfl) ?_
          refine WL.qq (by simp only [EN, Nat.reduceEqDiff, reduceIte, qv_binOp, binv_add, decide_true, Bool.not_true, Bool.not_false, decide_false, hB4.cell]; (try simp (disch := omega) only [w64, w8, wu64]); rfl) ?_
          refine WL.qq (by simp only [EN, Nat.reduceEqDiff, reduceIte, qv_assign, decide_true, Bool.not_true, Bool.not_false, decide_false, hB4.cell]; rfl) ?_
          refine WL.nil ?_
          refine th_norm ?_
          refine ⟨rfl, ?_, _, ?_, i + 1, v40, rfl, ?_, ?_, ?_, ?_, ?_⟩  -- again 0 of loop 0
          · (repeat (first | exact Fr.refl _ _ | refine Fr.set rfl ?_ | refine Fr.put rfl ?_ | refine Fr.put0 ?_))
          · omega
          · omega
          · exact hX40
          · rw [List.take_add_one, hxn, List.flatMap_append, List.length_append]; exact ho40
          · simp only [EN, Nat.reduceEqDiff, reduceIte, k1_0, k2_0, k6_0, k7_0, k9_0, i11_0, i10_0, decide_true, Bool.not_true, Bool.not_false, decide_false, hB4.cell] <;> first | rfl | (congr 1; omega)
          · simp only [EN, Nat.reduceEqDiff, reduceIte, k1_0, k2_0, k6_0, k7_0, k9_0, i11_0, i10_0, decide_true, Bool.not_true, Bool.not_false, decide_false, hB4.cell] <;> first | rfl | (congr 1; omega)
        ·
          try simp only [BD] at hct36
          have hil : i = n.length := (by omega); subst hil; rw [List.take_length] at ho
          obtain ⟨an, cn, rfl, _, hsn, _⟩ := Own.slG (f := entL) (sz := 3) (fun _ => rfl) ho rfl
          replace hbk := hbk.ext hX; replace hck' := hck'.ext hX; replace hE := hE.trans hX
          refine hx_exit ?_
          refine th_exit ?_
          refine th_exit ?_
          refine bl_hit ?_
          refine th_norm ?_
          refine hx_seq ?_
          refine hx_region ?_
          refine WL.qq (by simp only [EN, Nat.reduceEqDiff, reduceIte, qv_move, k7_0, decide_true, Bool.not_true, Bool.not_false, decide_false, hB4.cell]; rfl) ?_
          refine WL.qq (by simp only [EN, Nat.reduceEqDiff, reduceIte, qv_move, k1_0, decide_true, Bool.not_true, Bool.not_false, decide_false, hB4.cell]; rfl) ?_
          refine WL.ce Try.call19 (by simp only [EN, Nat.reduceEqDiff, reduceIte, AR, decide_true, Bool.not_true, Bool.not_false, decide_false, hB4.cell]; exact c_entries am m cm (by omega) hm) ?_
          rintro ve h32 ⟨hx32, hoe⟩
          simp only [put_some]
          obtain ⟨ae, ce, rfl, _, hse, _⟩ := Own.slG (f := entL) (sz := 3) (fun _ => rfl) hoe rfl
          replace hE := hE.ext hx32
          replace hbk := hbk.ext hx32
          replace hck' := hck'.ext hx32
          replace hsn := hsn.ext hx32
          have on32 := ho.ext hx32
          refine WL.ce Try.call18 (by simp only [EN, Nat.reduceEqDiff, reduceIte, AR, decide_true, Bool.not_true, Bool.not_false, decide_false, hB4.cell]; exact c_postF ae m ce (by omega) (by omega) (by omega) hg.val hum hbk (hoe.base (Nat.zero_le _)) hck hE hfr) ?_
          rintro _ h33 ⟨rfl, hE', hg33, vo2, hbk', hfr', hv2⟩
          simp only [put_some]
          have hc33 := hck'.below
          replace hck' := hck'.gsA hg33 (fun x hx hf => by have h1 := hclo x hx; have h2 := hblo x (foot_blks hf); omega)
          have on33 := on32.gs hg33 (on32.off hbk (by decide) (by decide))
          replace hE := hE'
          replace hbk := hbk'
          replace hfr := hfr'
          have hab : ∀ x ∈ blks p bm fm vo2, x ∉ foot p' bm' vo' := (fun x hx hf => by have h1 := hclo x (foot_blks hf); have h2 := hc33 x (foot_blks hf); rw [blks_mem] at hx; have h3 := hblo p (by simp [blks]); have h4 := hblo bm (by simp [blks]); have h5 := hblo fm (by simp [blks]); rcases hx with hx | hx | hx | hx; omega; omega; omega; rcases hv2 x hx with h6 | h6; (have h7 := hblo x (by rw [blks_mem]; exact .inr (.inr (.inr h6))); omega); omega)
          refine WL.qq (by simp only [EN, Nat.reduceEqDiff, reduceIte, qv_move, k9_0, decide_true, Bool.not_true, Bool.not_false, decide_false, hB4.cell]; rfl) ?_
          refine WL.qq (by simp only [EN, Nat.reduceEqDiff, reduceIte, qv_move, i10_0, decide_true, Bool.not_true, Bool.not_false, decide_false, hB4.cell]; rfl) ?_
          refine WL.ce Try.call19 (by simp only [EN, Nat.reduceEqDiff, reduceIte, AR, decide_true, Bool.not_true, Bool.not_false, decide_false, hB4.cell]; exact c_entries an n cn (by omega) (slG_of on33)) ?_
          rintro ve h34 ⟨hx34, hoe2⟩
          simp only [put_some]
          obtain ⟨ae2, ce2, rfl, _, hse2, _⟩ := Own.slG (f := entL) (sz := 3) (fun _ => rfl) hoe2 rfl
          replace hE := hE.ext hx34
          replace hbk := hbk.ext hx34
          replace hck' := hck'.ext hx34
          refine WL.ce Try.call18 (by simp only [EN, Nat.reduceEqDiff, reduceIte, AR, decide_true, Bool.not_true, Bool.not_false, decide_false, hB4.cell]; exact c_postF ae2 n ce2 (by omega) (by omega) (by omega) hg.val hun hck' (hoe2.base (Nat.zero_le _)) ((chk_perm hnp).trans hck) hE hfc) ?_
          rintro _ h35 ⟨rfl, hE', hg35, vo3, hck2, hfc', _⟩
          simp only [put_some]
          replace hbk := hbk.gsA hg35 hab
          replace hE := hE'
          replace hm := km.ext hE
          refine WL.qq (by simp only [EN, Nat.reduceEqDiff, reduceIte, qv_assign, decide_true, Bool.not_true, Bool.not_false, decide_false, hB4.cell]; rfl) ?_
          refine WL.qq (by simp only [EN, Nat.reduceEqDiff, reduceIte, qv_assign, decide_true, Bool.not_true, Bool.not_false, decide_false, hB4.cell]; rfl) ?_
          refine WL.nil ?_
          refine th_norm ?_
          refine hx_seq ?_
          refine hx_seq ?_
          refine hx_region ?_
          refine WL.qq (by simp only [EN, Nat.reduceEqDiff, reduceIte, qv_move, decide_true, Bool.not_true, Bool.not_false, decide_false, hB4.cell]; rfl) ?_
          refine WL.qq (by simp only [EN, Nat.reduceEqDiff, reduceIte, qv_move, decide_true, Bool.not_true, Bool.not_false, decide_false, hB4.cell]; rfl) ?_
          refine WL.qq (by simp only [EN, Nat.reduceEqDiff, reduceIte, qv_binOp, binv_neq, eq45, Option.map_some, decide_true, Bool.not_true, Bool.not_false, decide_false, hB4.cell]; rfl) ?_
          refine WL.qq (by simp only [EN, Nat.reduceEqDiff, reduceIte, qv_move, decide_true, Bool.not_true, Bool.not_false, decide_false, hB4.cell]; rfl) ?_
          refine WL.cq (gd_at (t := 67) rfl (by simp only [EN, Nat.reduceEqDiff, reduceIte, k7_0, decide_true, Bool.not_true, Bool.not_false, decide_false, hB4.cell] <;> rfl)) (fun hg13_4 => by simp only [EN, Nat.reduceEqDiff, reduceIte, qv_move, k7_0, decide_true, Bool.not_true, Bool.not_false, decide_false, hB4.cell, hg13_4, GR]; rfl) ?_
          refine WL.gy _ (gd_at (t := 67) rfl (by simp only [EN, Nat.reduceEqDiff, reduceIte, decide_true, Bool.not_true, Bool.not_false, decide_false, hB4.cell] <;> rfl)) (e_call Try.call20 (by simp only [EN, Nat.reduceEqDiff, reduceIte, AR, decide_true, Bool.not_true, Bool.not_false, decide_false, hB4.cell]; exact c_bkLen hbk)) ?_
          rintro _ h36 ⟨rfl, hq36⟩
          obtain rfl : h36 = _ := hq36
          simp only [put_some]
          refine WL.cq (gd_at (t := 67) rfl (by simp only [EN, Nat.reduceEqDiff, reduceIte, k9_0, decide_true, Bool.not_true, Bool.not_false, decide_false, hB4.cell] <;> rfl)) (fun hg13_6 => by simp only [EN, Nat.reduceEqDiff, reduceIte, qv_move, k9_0, decide_true, Bool.not_true, Bool.not_false, decide_false, hB4.cell, hg13_6, GR]; rfl) ?_
          refine WL.gy _ (gd_at (t := 67) rfl (by simp only [EN, Nat.reduceEqDiff, reduceIte, decide_true, Bool.not_true, Bool.not_false, decide_false, hB4.cell] <;> rfl)) (e_call Try.call20 (by simp only [EN, Nat.reduceEqDiff, reduceIte, AR, decide_true, Bool.not_true, Bool.not_false, decide_false, hB4.cell]; exact c_bkLen hck2)) ?_
          rintro _ h37 ⟨rfl, hq37⟩
          obtain rfl : h37 = _ := hq37
          simp only [put_some]
          refine WL.cq (gd_at (t := 67) rfl (by simp only [EN, Nat.reduceEqDiff, reduceIte, decide_true, Bool.not_true, Bool.not_false, decide_false, hB4.cell] <;> rfl)) (fun hg13_8 => by simp only [EN, Nat.reduceEqDiff, reduceIte, qv_binOp, binv_neq, eq3, Option.map_some, decide_true, Bool.not_true, Bool.not_false, decide_false, hB4.cell, hg13_8, GR]; rfl) ?_
          refine WL.qq (by simp only [EN, Nat.reduceEqDiff, reduceIte, qv_pick, pk_and, pk_or, GR, decide_true, Bool.not_true, Bool.not_false, decide_false, hB4.cell]; rfl) ?_
          refine WL.nil ?_
          refine th_norm ?_
          refine hx_cond (by simp only [EN, Nat.reduceEqDiff, reduceIte, k1_0, k2_0, k6_0, k7_0, k9_0, i11_0, i10_0, decide_true, Bool.not_true, Bool.not_false, decide_false, hB4.cell]; rfl) (fun hct73 => ?_) (fun hct73 => ?_)
          ·
            (have hll : (if r = 0 then putL s.ks m else s.ks).length = (if r = 0 then putL s.ks n else s.ks).length := (by split; exact (putL_lenP hg.nd hnp).symm; rfl); rw [hll] at hct73; simp at hct73)
          ·
            try simp only [BD] at hct73
            refine hx_skip ?_
            refine th_norm ?_
            refine hx_seq ?_
            refine hx_seq ?_
            refine hx_region ?_
            refine WL.qq (by simp only [EN, Nat.reduceEqDiff, reduceIte, qv_assign, decide_true, Bool.not_true, Bool.not_false, decide_false, hB4.cell]; rfl) ?_
            refine WL.nil ?_
            refine th_norm ?_
            refine hx_block ?_
            refine hx_loopX [6, 14, 74, 75, 76, 77, 78, 79, 80, 81, 82, 83, 84, 85, 86, 87, 88, 89, 90, 91, 92, 93, 94] (fun k e => ∃ (j : Nat), m.length - j = k ∧ (j ≤ m.length) ∧ e 14 = .int .i64 j) _ ⟨0, rfl, ?_, ?_⟩ ?_
            · omega
            · simp only [EN, Nat.reduceEqDiff, reduceIte, k1_0, k2_0, k6_0, k7_0, k9_0, i11_0, i10_0, decide_true, Bool.not_true, Bool.not_false, decide_false, hB4.cell] <;> rfl
            ·
              rintro k e1L hL1 hX1 hfr1 ⟨j, rfl, hj, i14_1⟩
              replace hbk := hbk.ext hX1
              replace hck2 := hck2.ext hX1
              replace hE := hE.ext hX1
              replace hm := hm.ext hX1
              have k1_1 := hfr1 1 rfl; simp only [EN, Nat.reduceEqDiff, reduceIte, k1_0, k2_0, k6_0, k7_0, k9_0, i11_0, i10_0, decide_true, Bool.not_true, Bool.not_false, decide_false, hB4.cell] at k1_1
              have k7_1 := hfr1 7 rfl; simp only [EN, Nat.reduceEqDiff, reduceIte, k1_0, k2_0, k6_0, k7_0, k9_0, i11_0, i10_0, decide_true, Bool.not_true, Bool.not_false, decide_false, hB4.cell] at k7_1
              have k9_1 := hfr1 9 rfl; simp only [EN, Nat.reduceEqDiff, reduceIte, k1_0, k2_0, k6_0, k7_0, k9_0, i11_0, i10_0, decide_true, Bool.not_true, Bool.not_false, decide_false, hB4.cell] at k9_1
              refine hx_seq ?_
              refine hx_seq ?_
              refine hx_region ?_
              refine WL.qq (by simp only [EN, Nat.reduceEqDiff, reduceIte, qv_move, i14_1, decide_true, Bool.not_true, Bool.not_false, decide_false, hB4.cell]; rfl) ?_
              refine WL.qq (by simp only [EN, Nat.reduceEqDiff, reduceIte, qv_move, k1_1, decide_true, Bool.not_true, Bool.not_false, decide_false, hB4.cell]; rfl) ?_
              refine WL.qq (by simp only [EN, Nat.reduceEqDiff, reduceIte, qv_len, ln26, AR, decide_true, Bool.not_true, Bool.not_false, decide_false, hB4.cell]; rfl) ?_
              refine WL.qq (by simp only [EN, Nat.reduceEqDiff, reduceIte, qv_binOp, binv_lss, decide_true, Bool.not_true, Bool.not_false, decide_false, hB4.cell]; rfl) ?_
              refine WL.nil ?_
              refine th_norm ?_
              refine hx_cond (by simp only [EN, Nat.reduceEqDiff, reduceIte, k1_1, k7_1, k9_1, i14_1, decide_true, Bool.not_true, Bool.not_false, decide_false, hB4.cell]; rfl) (fun hct77 => ?_) (fun hct77 => ?_)
              ·
                try simp only [BD] at hct77
                obtain ⟨x, hx⟩ := atG (l := m) (i := j) (by omega)
                obtain ⟨b, off, rfl, hr3, hr2, hc0, hc1, hc2⟩ := ent_rd hm hx
                refine hx_skip ?_
                refine th_norm ?_
                refine hx_seq ?_
                refine hx_block ?_
                refine hx_seq ?_
                apply hx_draw2 Rel.grows [] [6, 13] [(6, Spec.is _), (13, Spec.is _)] rfl (by decide +kernel) rfl
                refine LD.qq rfl rfl (by simp only [EN, Nat.reduceEqDiff, reduceIte, qv_move, k7_1, decide_true, Bool.not_true, Bool.not_false, decide_false, hB4.cell]; rfl) ?_
                refine LD.qq rfl rfl (by simp only [EN, Nat.reduceEqDiff, reduceIte, qv_move, k1_1, decide_true, Bool.not_true, Bool.not_false, decide_false, hB4.cell]; rfl) ?_
                refine LD.qq rfl rfl (by simp only [EN, Nat.reduceEqDiff, reduceIte, qv_move, i14_1, decide_true, Bool.not_true, Bool.not_false, decide_false, hB4.cell]; rfl) ?_
                refine LD.qq rfl rfl (by simp only [EN, Nat.reduceEqDiff, reduceIte, qv_indexAddr, decide_true, Bool.not_true, Bool.not_false, decide_false, hB4.cell]; (try simp (disch := omega) only [ix26, Int.toNat_natCast]); rfl) ?_
                refine LD.qq rfl rfl (by simp only [EN, Nat.reduceEqDiff, reduceIte, qv_fieldAddr, fa44_0, Nat.zero_add, Nat.reduceAdd, decide_true, Bool.not_true, Bool.not_false, decide_false, hB4.cell]; rfl) ?_
                refine LD.qq rfl rfl (by simp only [EN, Nat.reduceEqDiff, reduceIte, k1_1, k7_1, k9_1, i14_1, decide_true, Bool.not_true, Bool.not_false, decide_false, hB4.cell, qv_load, ld34, Int.toNat_natCast, Nat.add_zero, hr2]; rfl) ?_
                refine LD.ck rfl rfl Try.call21 (by intro hD hr; have hx : Ext _ _ := hr; have hbk := hbk.ext hx; have hck2 := hck2.ext hx; have hE := hE.ext hx; have hm := hm.ext hx; simp only [EN, Nat.reduceEqDiff, reduceIte, AR, decide_true, Bool.not_true, Bool.not_false, decide_false, hB4.cell]; exact c_bkBal x.1 hbk) ?_
                refine LD.qq rfl rfl (by simp only [EN, Nat.reduceEqDiff, reduceIte, qv_move, k9_1, decide_true, Bool.not_true, Bool.not_false, decide_false, hB4.cell]; rfl) ?_
                refine LD.qq rfl rfl (by simp only [EN, Nat.reduceEqDiff, reduceIte, qv_move, k1_1, decide_true, Bool.not_true, Bool.not_false, decide_false, hB4.cell]; rfl) ?_
                refine LD.qq rfl rfl (by simp only [EN, Nat.reduceEqDiff, reduceIte, qv_move, i14_1, decide_true, Bool.not_true, Bool.not_false, decide_false, hB4.cell]; rfl) ?_
                refine LD.qq rfl rfl (by simp only [EN, Nat.reduceEqDiff, reduceIte, qv_indexAddr, decide_true, Bool.not_true, Bool.not_false, decide_false, hB4.cell]; (try simp (disch := omega) only [ix26, Int.toNat_natCast]); rfl) ?_
                refine LD.qq rfl rfl (by simp only [EN, Nat.reduceEqDiff, reduceIte, qv_fieldAddr, fa44_0, Nat.zero_add, Nat.reduceAdd, decide_true, Bool.not_true, Bool.not_false, decide_false, hB4.cell]; rfl) ?_
                refine LD.qq rfl rfl (by simp only [EN, Nat.reduceEqDiff, reduceIte, k1_1, k7_1, k9_1, i14_1, decide_true, Bool.not_true, Bool.not_false, decide_false, hB4.cell, qv_load, ld34, Int.toNat_natCast, Nat.add_zero, hr2]; rfl) ?_
                refine LD.ck rfl rfl Try.call21 (by intro hD hr; have hx : Ext _ _ := hr; have hbk := hbk.ext hx; have hck2 := hck2.ext hx; have hE := hE.ext hx; have hm := hm.ext hx; simp only [EN, Nat.reduceEqDiff, reduceIte, AR, decide_true, Bool.not_true, Bool.not_false, decide_false, hB4.cell]; exact put_cmp hnp hg.val ((chk_perm hnp).trans hck) x.1 ▸ c_bkBal x.1 hck2) ?_
                refine LD.qq rfl rfl (by simp only [EN, Nat.reduceEqDiff, reduceIte, qv_binOp, binv_neq, eq2, Option.map_some, decide_true, Bool.not_true, Bool.not_false, decide_false, hB4.cell]; rfl) ?_
                refine LD.nil ?_
                rintro h5 hx5 hF18
                replace hx5 : Ext _ _ := hx5
                replace hbk := hbk.ext hx5
                replace hck2 := hck2.ext hx5
                replace hE := hE.ext hx5
                replace hm := hm.ext hx5
                refine WL.nil ?_
                refine th_norm ?_
                refine hx_cond (by simp only [EN, Nat.reduceEqDiff, reduceIte, k1_1, k7_1, k9_1, i14_1, decide_true, Bool.not_true, Bool.not_false, decide_false, hB4.cell]; rfl) (fun hct94 => ?_) (fun hct94 => ?_)
                ·
                  simp at hct94
                ·
                  try simp only [BD] at hct94
                  refine hx_skip ?_
                  refine bl_norm ?_
                  refine th_norm ?_
                  refine hx_region ?_
                  refine WL.qq (by simp only [EN, Nat.reduceEqDiff, reduceIte, qv_move, i14_1, decide_true, Bool.not_true, Bool.not_false, decide_false, hB4.cell]; rfl) ?_
                  refine WL.qq (by simp only [EN, Nat.reduceEqDiff, reduceIte, qv_binOp, binv_add, decide_true, Bool.not_true, Bool.not_false, decide_false, hB4.cell]; (try simp (disch := omega) only [w64, w8, wu64]); rfl) ?_
                  refine WL.qq (by simp only [EN, Nat.reduceEqDiff, reduceIte, qv_assign, decide_true, Bool.not_true, Bool.not_false, decide_false, hB4.cell]; rfl) ?_
                  refine WL.nil ?_
                  refine th_norm ?_
                  refine ⟨rfl, ?_, ?_, _, ?_, j + 1, rfl, ?_, ?_⟩  -- again 0 of loop 1
                  · exact hx5
                  · (repeat (first | exact Fr.refl _ _ | refine Fr.set rfl ?_ | refine Fr.put rfl ?_ | refine Fr.put0 ?_))
                  · omega
                  · omega
                  · simp only [EN, Nat.reduceEqDiff, reduceIte, k1_1, k7_1, k9_1, i14_1, decide_true, Bool.not_true, Bool.not_false, decide_false, hB4.cell] <;> first | rfl | (congr 1; omega)
              ·
                try simp only [BD] at hct77
                refine hx_exit ?_
                refine th_exit ?_
                refine th_exit ?_
                refine bl_hit ?_
                refine th_norm ?_
                refine hx_seq ?_
                refine hx_region ?_
                refine WL.cg Try.call12 (by simp only [EN, Nat.reduceEqDiff, reduceIte, AR, decide_true, Bool.not_true, Bool.not_false, decide_false, hB4.cell]; exact c_known13 _) ?_
                intro h6 hx6
                replace hbk := hbk.ext hx6
                replace hck2 := hck2.ext hx6
                replace hE := hE.ext hx6
                replace hm := hm.ext hx6
                refine WL.qq (by simp only [EN, Nat.reduceEqDiff, reduceIte, qv_assign, decide_true, Bool.not_true, Bool.not_false, decide_false, hB4.cell]; rfl) ?_
                refine WL.nil ?_
                refine th_norm ?_
                refine hx_ret ?_
                refine fin_ret [.tmp 6] rfl rfl (by simp only [EN, Nat.reduceEqDiff, reduceIte, resv, k1_1, k7_1, k9_1, i14_1, decide_true, Bool.not_true, Bool.not_false, decide_false, hB4.cell]; rfl) ?_  -- ret 1 r20
                exact ⟨rfl, hE⟩
end GL


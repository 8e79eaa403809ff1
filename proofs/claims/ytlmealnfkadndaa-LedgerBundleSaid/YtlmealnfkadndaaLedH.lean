/- Ledger: scripts, what they come to, and what holds of it. -/
import Derived.Test.YtlmealnfkadndaaLedG
set_option linter.unusedSimpArgs false
set_option linter.unusedVariables false
set_option linter.unnecessarySimpa false
namespace GL
open Go Go.Proofs
set_option maxRecDepth 8000
/-- An operation of a script, with the place of its list. -/
structure LOp where
  k : Int
  a : Option Addr
  L : List E2
  c : Nat
  q : K2
  fl : Int
abbrev opL (o : LOp) : List Value := [.int .u8 o.k, .slice o.a o.L.length o.c, .int .u8 o.q.o, .int .u8 o.q.a, iV o.fl]
structure SlO (h : Heap) (al : Option Addr) (l : List LOp) : Prop where
  ops : SlG 5 opL h al l
  ins : ∀ o ∈ l, SlG 3 entL h o.a o.L
theorem SlO.ext {h h' : Heap} {al : Option Addr} {l : List LOp} (hs : SlO h al l) (hx : Ext h h') : SlO h' al l := ⟨hs.ops.ext hx, fun o ho => (hs.ins o ho).ext hx⟩
/-- The state behind a script: balances, floors of the reference, floors of the book, sequence number. -/
structure BS where
  ks : List E2
  gs : List E2
  fs : List E2
  sq : Int
def stp (s : BS) (o : LOp) : BS :=
  if o.k.tmod 2 = 0 then (if chkE (lk s.ks) (lk s.fs) o.L = 0 then { s with ks := putL s.ks o.L, sq := s.sq + 1 } else s)
  else (if setE (lk s.ks o.q) o.fl = 0 then { s with gs := refF s.gs o.q o.fl, fs := mset s.fs o.q o.fl } else s)
def runB (l : List LOp) : BS := l.foldl stp ⟨[], [], [], 0⟩
theorem runB_step {l : List LOp} {i : Nat} {o : LOp} (h : l[i]? = some o) : runB (l.take (i + 1)) = stp (runB (l.take i)) o := by
  rw [List.take_add_one, h]
  simp only [runB, Option.toList_some, List.foldl_append, List.foldl_cons, List.foldl_nil]
def inA (a : Int) (x : E2) : Prop := x.1.a = a
instance (a : Int) : DecidablePred (inA a) := fun x => inferInstanceAs (Decidable (x.1.a = a))
structure GoodB (s : BS) (n : Nat) : Prop where
  nd : (s.ks.map Prod.fst).Nodup
  val : ∀ q, vld (lk s.ks q) = true
  same : ∀ q, lk s.fs q = lk s.gs q
  gnd : (s.gs.map Prod.fst).Nodup
  fnd : (s.fs.map Prod.fst).Nodup
  ge : ∀ q, lk s.fs q ≤ lk s.ks q
  sum : ∀ a, sumS (inA a) s.ks = 0
  rng : okE s.ks
  lk_ : s.ks.length ≤ 12 * n
  lg : s.gs.length ≤ n
  lf : s.fs.length ≤ n
  sq_ : 0 ≤ s.sq ∧ s.sq ≤ n
theorem lk_refF (fs : List E2) (q : K2) (fl : Int) (y : K2) : lk (refF fs q fl) y = if y = q then fl else lk fs y := by
  unfold lk refF
  have h1 := lookup_mdel fs q y
  by_cases h : y = q
  · subst h
    rw [if_pos rfl]
    rw [if_pos rfl] at h1
    by_cases h0 : fl = 0
    · rw [if_pos h0, List.append_nil, h1, h0]; rfl
    · rw [if_neg h0, List.lookup_append, h1]; simp
  · rw [if_neg h] at h1 ⊢
    have h2 : (y == q) = false := by simpa using h
    by_cases h0 : fl = 0
    · rw [if_pos h0, List.append_nil, h1]
    · rw [if_neg h0, List.lookup_append, h1]; simp [List.lookup, h2]
theorem mdel_nd {fs : List E2} {q : K2} (h : (fs.map Prod.fst).Nodup) : ((mdel fs q).map Prod.fst).Nodup := (List.filter_sublist.map _).nodup h
theorem refF_nd {fs : List E2} {q : K2} {fl : Int} (h : (fs.map Prod.fst).Nodup) : ((refF fs q fl).map Prod.fst).Nodup := by
  unfold refF
  by_cases h0 : fl = 0
  · rw [if_pos h0, List.append_nil]; exact mdel_nd h
  · rw [if_neg h0, List.map_append, List.nodup_append]
    refine ⟨mdel_nd h, by simp, ?_⟩
    intro a ha b hb hab
    simp only [List.map_cons, List.map_nil, List.mem_singleton] at hb
    obtain ⟨p, hp, h1⟩ := List.mem_map.1 ha
    have h2 := (List.mem_filter.1 hp).2
    simp only [decide_eq_true_eq] at h2
    exact h2 (h1.trans (hab.trans hb))
theorem refF_len (fs : List E2) (q : K2) (fl : Int) : (refF fs q fl).length ≤ fs.length + 1 := by
  unfold refF
  rw [List.length_append]
  have h1 : (mdel fs q).length ≤ fs.length := List.length_filter_le _ _
  split <;> simp <;> omega
theorem chkE_congr {b b' f f' : K2 → Int} (hb : ∀ q, b q = b' q) (hf : ∀ q, f q = f' q) (l : List E2) : chkE b f l = chkE b' f' l := by
  rw [funext hb, funext hf]
theorem sumS_app (p : E2 → Prop) [DecidablePred p] (l m : List E2) : sumS p (l ++ m) = sumS p l + sumS p m := by
  induction l with
  | nil => simp [sumS]
  | cons x l ih => simp only [List.cons_append, sumS, ih]; omega
theorem sumS_set (p : E2 → Prop) [DecidablePred p] (hp : ∀ (k : K2) (u v : Int), p (k, u) ↔ p (k, v)) (x : K2) (v : Int) : ∀ {m : List E2}, (m.map Prod.fst).Nodup →
    sumS p (mset m x v) = sumS p m + (if p (x, 0) then v - lk m x else 0)
  | [], _ => by
    simp only [mset, sumS, lk_nil]
    by_cases h : p (x, v)
    · rw [if_pos h, if_pos ((hp _ _ _).1 h)]; omega
    · rw [if_neg h, if_neg (fun hh => h ((hp _ _ _).1 hh))]
  | (a, u) :: m, hn => by
    rw [List.map_cons, List.nodup_cons] at hn
    simp only [mset]
    by_cases ha : a = x
    · rw [if_pos ha, lk_cons, if_pos ha]
      simp only [sumS]
      subst ha
      by_cases h : p (a, 0)
      · rw [if_pos h, if_pos ((hp _ _ _).1 h), if_pos ((hp _ _ _).1 h)]; omega
      · rw [if_neg h, if_neg (fun hh => h ((hp _ _ _).1 hh)), if_neg (fun hh => h ((hp _ _ _).1 hh))]; omega
    · rw [if_neg ha, lk_cons, if_neg ha]
      simp only [sumS, sumS_set p hp x v hn.2]
      omega
theorem put_sum (p : E2 → Prop) [DecidablePred p] (hp : ∀ (k : K2) (u v : Int), p (k, u) ↔ p (k, v)) : ∀ (l : List E2) {m : List E2} {B : Int}, (m.map Prod.fst).Nodup → (∀ q, -B ≤ lk m q ∧ lk m q ≤ B) →
    B + l.length * 1000000000000000 ≤ 9000000000000000000 → (∀ x ∈ l, vld x.2 = true) → sumS p (putL m l) = sumS p m + sumS p l
  | [], m, B, _, _, _, _ => by simp [putL, sumS]
  | x :: l, m, B, hn, hB, hb, hv => by
    have hx := vld_iff.1 (hv x (by simp))
    rw [List.length_cons] at hb
    have hB' := hB x.1
    have hw : IntKind.i64.wrap (lk m x.1 + x.2) = lk m x.1 + x.2 := w64 (by omega) (by omega)
    show sumS p (putL (mset m x.1 (IntKind.i64.wrap (lk m x.1 + x.2))) l) = _
    rw [put_sum p hp l (B := B + 1000000000000000) (mset_nodup hn) ?_ (by omega) (fun y hy => hv y (by simp [hy])), sumS_set p hp x.1 _ hn, hw]
    · simp only [sumS]
      by_cases h : p x
      · rw [if_pos ((hp x.1 x.2 0).1 h), if_pos h]; omega
      · rw [if_neg (fun hh => h ((hp x.1 x.2 0).2 hh)), if_neg h]; omega
    · intro q
      rw [lk_mset]
      have := hB q
      split <;> omega
theorem put_rng {l : List E2} (hl : okE l) : ∀ {m : List E2}, okE m → okE (putL m l) := by
  induction l with
  | nil => exact fun h => h
  | cons x l ih =>
    intro m hm
    refine ih (fun y hy => hl y (by simp [hy])) ?_
    intro y hy
    have h1 := (mset_keys m x.1 y.1 (IntKind.i64.wrap (lk m x.1 + x.2))).1 (List.mem_map.2 ⟨y, hy, rfl⟩)
    rcases h1 with h1 | h1
    · rw [h1]; exact hl x (by simp)
    · obtain ⟨z, hz, h2⟩ := List.mem_map.1 h1
      rw [← h2]; exact hm z hz
theorem sumS_no {p : E2 → Prop} [DecidablePred p] {l : List E2} (h : ∀ x ∈ l, ¬ p x) : sumS p l = 0 := by
  induction l with
  | nil => rfl
  | cons x l ih => simp only [sumS]; rw [if_neg (h x (by simp)), ih (fun y hy => h y (by simp [hy]))]; rfl
theorem good_nil : GoodB ⟨[], [], [], 0⟩ 0 := by
  refine ⟨by simp, fun q => by simp [lk_nil, vld], fun q => rfl, by simp, by simp, fun q => by simp [lk_nil], fun a => rfl, fun x hx => by simp at hx, by simp, by simp, by simp, by simp⟩
/-- What a posting keeps. -/
theorem good_post {s : BS} {n : Nat} (g : GoodB s n) {l : List E2} (hu : okE l) (hl : l.length ≤ 12) (hc : chkE (lk s.ks) (lk s.fs) l = 0) : GoodB { s with ks := putL s.ks l, sq := s.sq + 1 } (n + 1) := by
  obtain ⟨hlen, hv, hbv, hsum, hfl⟩ := chk_ok hc
  refine ⟨putL_nodup _ g.nd, put_vld hc g.val, g.same, g.gnd, g.fnd, ?_, ?_, put_rng hu g.rng, ?_, Nat.le_succ_of_le g.lg, Nat.le_succ_of_le g.lf, ?_⟩
  · intro q
    show lk s.fs q ≤ lk (putL s.ks l) q
    rw [putL_lk (by omega) hv (g.val q)]
    have h1 := g.ge q
    by_cases h0 : netM l q < 0
    · by_cases hx : ∃ x ∈ l, x.1 = q
      · obtain ⟨x, hx, rfl⟩ := hx
        exact hfl x hx h0
      · rw [netM_no (fun x hx' hh => hx ⟨x, hx', hh⟩)]; omega
    · omega
  · intro a
    show sumS (inA a) (putL s.ks l) = 0
    rw [put_sum (inA a) (fun k u v => Iff.rfl) l (B := 1000000000000000) g.nd (fun q => vld_iff.1 (g.val q)) (by omega) hv, g.sum a]
    by_cases hx : ∃ x ∈ l, x.1.a = a
    · obtain ⟨x, hx, rfl⟩ := hx
      have h1 := hsum x hx
      rw [(sumA_eq (by omega) hv _).1] at h1
      show 0 + sumS (fun y => y.1.a = x.1.a) l = 0
      omega
    · have h3 : sumS (inA a) l = 0 := sumS_no (fun x hx' hh => hx ⟨x, hx', hh⟩)
      omega
  · have h1 := putL_len l s.ks
    have h2 := g.lk_
    show (putL s.ks l).length ≤ _
    omega
  · have := g.sq_
    show 0 ≤ s.sq + 1 ∧ s.sq + 1 ≤ ((n + 1 : Nat) : Int)
    omega
theorem GoodB.up {s : BS} {n m : Nat} (g : GoodB s n) (h : n ≤ m) : GoodB s m := by
  obtain ⟨a, b, c, d, e, f, i, j, k1, k2, k3, k4⟩ := g
  exact ⟨a, b, c, d, e, f, i, j, by omega, by omega, by omega, by omega⟩
/-- What a setting of a floor keeps. -/
theorem good_set {s : BS} {n : Nat} (g : GoodB s n) {q : K2} {fl : Int} (hc : setE (lk s.ks q) fl = 0) : GoodB { s with gs := refF s.gs q fl, fs := mset s.fs q fl } (n + 1) := by
  have g' := g.up (Nat.le_succ n)
  have hle : fl ≤ lk s.ks q := by
    unfold setE at hc
    split at hc
    · cases hc
    · split at hc
      · cases hc
      · omega
  refine ⟨g'.nd, g'.val, ?_, refF_nd g'.gnd, mset_nodup g'.fnd, ?_, g'.sum, g'.rng, g'.lk_, ?_, ?_, g'.sq_⟩
  · intro y
    show lk (mset s.fs q fl) y = lk (refF s.gs q fl) y
    rw [lk_mset, lk_refF, ← g.same y]
    by_cases h : q = y
    · rw [if_pos h, if_pos h.symm]
    · rw [if_neg h, if_neg (fun hh => h hh.symm)]
  · intro y
    show lk (mset s.fs q fl) y ≤ lk s.ks y
    rw [lk_mset]
    split
    · rename_i h; rw [← h]; exact hle
    · exact g.ge y
  · have := refF_len s.gs q fl
    have := g.lg
    show (refF s.gs q fl).length ≤ _
    omega
  · have := mset_len s.fs q fl
    have := g.lf
    show (mset s.fs q fl).length ≤ _
    omega
/-- A script of the statements' size. -/
structure OkO (l : List LOp) : Prop where
  len : l.length ≤ 12
  few : ∀ o ∈ l, o.L.length ≤ 12
  rng : ∀ o ∈ l, okE o.L
theorem good_stp {s : BS} {n : Nat} (g : GoodB s n) {o : LOp} (h1 : o.L.length ≤ 12) (h2 : okE o.L) : GoodB (stp s o) (n + 1) := by
  unfold stp
  split
  · split
    · rename_i hc; exact good_post g h2 h1 hc
    · exact g.up (Nat.le_succ n)
  · split
    · rename_i hc; exact good_set g hc
    · exact g.up (Nat.le_succ n)
theorem good_run {l : List LOp} (hl : OkO l) (i : Nat) (hi : i ≤ l.length) : GoodB (runB (l.take i)) i := by
  induction i with
  | zero => exact good_nil
  | succ i ih =>
    obtain ⟨o, ho⟩ : ∃ o, l[i]? = some o := atG (by omega)
    rw [runB_step ho]
    exact good_stp (ih (by omega)) (hl.few o (List.mem_of_getElem? ho)) (hl.rng o (List.mem_of_getElem? ho))
end GL


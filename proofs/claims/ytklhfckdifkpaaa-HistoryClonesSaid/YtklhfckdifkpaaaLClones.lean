/- The law HistoryClones returns true: a clone is equal to the original and independent of it, results and arguments are copied, and Equal compares all bundles. No condition beyond the row's own. -/
import Derived.Test.YtklhfckdifkpaaaRows
import Derived.Test.YtklhfckdifkpaaaHisY
import Derived.Test.YtklhfckdifkpaaaHisV
set_option linter.unusedSimpArgs false
set_option linter.unusedVariables false
set_option linter.unnecessarySimpa false
namespace GL
open Go Go.Proofs
set_option maxRecDepth 8000
/-- Two lists are alike up to a place. -/
def smB (l m : List HB) (i : Nat) : Bool := decide (l.length = m.length ∧ l.take i = m.take i)
theorem smB_0 (l m : List HB) : smB l m 0 = decide ((l.length : Int) = (m.length : Int)) := by
  unfold smB; exact decide_eq_decide.2 ⟨fun h => by rw [h.1], fun h => ⟨by omega, by simp⟩⟩
theorem smB_step {l m : List HB} {i : Nat} {b c : HB} (hs : smB l m i = true) (hl : l[i]? = some b) (hm : m[i]? = some c) : smB l m (i + 1) = decide (b = c) := by
  have h1 := of_decide_eq_true hs
  unfold smB
  rw [List.take_add_one, List.take_add_one, hl, hm, h1.2]
  simp [h1.1]
theorem smB_end {l m : List HB} {i : Nat} (h : smB l m i = false ∨ l.length ≤ i) : smB l m i = decide (l = m) := by
  unfold smB at h ⊢
  by_cases he : l = m
  · subst he; simp
  · rw [decide_eq_false he]
    refine decide_eq_false fun hh => ?_
    rcases h with h | h
    · exact absurd hh (of_decide_eq_false h)
    · obtain ⟨h1, h2⟩ := hh
      rw [List.take_of_length_le h, List.take_of_length_le (by omega)] at h2
      exact he h2
/-- What At has handed out, while it is written over. -/
structure MW (N : Nat) (h : Heap) (a : Option Addr) (M : List PX) : Prop where
  sl : SlR tyPt 2 ptL h a M
  f : ∀ g off, a = some ⟨g, off, none⟩ → N ≤ g
  ps : ∀ p ∈ M, SlR tyPo 4 poL h p.a p.ps ∧ ∀ g off, p.a = some ⟨g, off, none⟩ → off = 0 ∧ N ≤ g
  lim : ∀ p ∈ M, p.ps.length ≤ 1000000
theorem BXr.mw {N : Nat} {h : Heap} {y : BX} (hy : BXr (fun g => N ≤ g) h y) (hl : FB y.bd) : MW N h y.a y.ps := ⟨hy.sl, hy.f, fun p hp => ⟨(hy.ps p hp).sl, fun g off ha => ⟨(hy.ps p hp).z g off ha, (hy.ps p hp).f g off ha⟩⟩, hl.lens.2⟩
theorem atB_fb {l : List HB} (h : ∀ b ∈ l, FB b) (i : Int) : FB (atB l i) := by
  unfold atB
  split
  · cases h9 : l[(i - 1).toNat]? with
    | none => exact zFB
    | some b => exact h b (List.mem_of_getElem? h9)
  · exact zFB
theorem splc_at {c : Array Value} {off : Nat} {vs : List Value} (h : off + vs.length ≤ c.size) (k : Nat) : (splc c off vs)[k]? = if off ≤ k ∧ k < off + vs.length then vs[k - off]? else c[k]? := by
  have h1 : (splc c off vs)[k]? = (c.toList.take off ++ vs ++ c.toList.drop (off + vs.length))[k]? := by simp [splc]
  have h2 : c[k]? = c.toList[k]? := by simp
  have h3 : (c.toList.take off).length = off := by rw [List.length_take]; simp; omega
  rw [h1, h2]
  by_cases ha : k < off
  · rw [if_neg (by omega), List.append_assoc, List.getElem?_append_left (by omega), List.getElem?_take, if_pos ha]
  · by_cases hb : k < off + vs.length
    · rw [if_pos ⟨by omega, hb⟩, List.getElem?_append_left (by rw [List.length_append]; omega), List.getElem?_append_right (by omega), h3]
    · rw [if_neg (by omega), List.getElem?_append_right (by rw [List.length_append]; omega), List.length_append, h3, List.getElem?_drop]
      congr 1; omega
theorem cell_wr {h h' : Heap} {g : Nat} {cur : Array Value} {T : TypeId} {off : Nat} {vs : List Value} (hw : Wr h h' g (.cells (splc cur off vs) T)) (hc : Has h g (.cells cur T)) (hle : off + vs.length ≤ cur.size) (b k : Nat) :
    GL.cell h' b k = if b = g ∧ off ≤ k ∧ k < off + vs.length then vs[k - off]? else GL.cell h b k := by
  by_cases hb : b = g
  · subst hb
    rw [Has.cell hw.at_ k, Has.cell hc k, splc_at hle k]
    simp
  · rw [if_neg (fun hh => hb hh.1)]
    unfold GL.cell
    rw [hw.same b hb]
/-- A row's element is written in part: one cell. -/
theorem readN_of {h : Heap} {b : Nat} : ∀ {n off : Nat} {l : List Value}, l.length = n → (∀ r u, l[r]? = some u → GL.cell h b (off + r) = some u) → GL.readN h b off n = some l
  | 0, off, [], _, _ => rfl
  | n + 1, off, u :: l, hl, hc => by
    have h0 := hc 0 u rfl
    rw [Nat.add_zero] at h0
    have h1 := readN_of (h := h) (b := b) (n := n) (off := off + 1) (l := l) (by simpa using hl) fun r w hr => by
      have := hc (r + 1) w (by simpa using hr)
      rwa [show off + 1 + r = off + (r + 1) by omega]
    simp only [GL.readN, h0, h1]
  | 0, _, _ :: _, hl, _ => by simp at hl
  | _ + 1, _, [], hl, _ => by simp at hl
theorem slR_put {α : Type} {el sz : Nat} {f : α → List Value} (hf : ∀ x, (f x).length = sz) {h h' : Heap} {a : Option Addr} {L : List α} {b off j k : Nat} {cur : Array Value} {x y : α} {v : Value} (hs : SlR el sz f h a L) (ha : a = some ⟨b, off, none⟩) (hj : L[j]? = some x) (hk : k < sz)
    (hc : Has h b (.cells cur el)) (hle : off + j * sz + k + 1 ≤ cur.size) (hy : f y = (f x).set k v) (hw : Wr h h' b (.cells (splc cur (off + j * sz + k) [v]) el)) : SlR el sz f h' a (L.set j y) := by
  have hcw := cell_wr hw hc (by simpa using hle)
  refine ⟨fun i z hi => ?_, fun g o hg => ?_⟩
  · have hil : i < L.length := by have := (List.getElem?_eq_some_iff.1 hi).1; simpa using this
    obtain ⟨w, hw0⟩ := atG hil
    obtain ⟨b', off', ha', hr⟩ := hs.rd i w hw0
    rw [ha] at ha'; cases ha'
    refine ⟨b, off, ha, readN_of (hf z) fun r u hu => ?_⟩
    have hrl : r < sz := by have := (List.getElem?_eq_some_iff.1 hu).1; rw [hf] at this; exact this
    rw [hcw]
    by_cases hij : i = j
    · subst hij
      rw [List.getElem?_set_self (by exact hil)] at hi
      cases hi
      rw [hj] at hw0; cases hw0
      rw [hy] at hu
      by_cases hrk : r = k
      · subst hrk
        rw [if_pos ⟨rfl, by simp⟩]
        rw [List.getElem?_set_self (by rw [hf]; exact hk)] at hu
        simpa using hu
      · rw [if_neg (fun hh => by simp at hh; omega)]
        rw [List.getElem?_set_ne (Ne.symm hrk)] at hu
        exact readN_cell hr r u hu
    · rw [List.getElem?_set_ne (Ne.symm hij)] at hi
      rw [hi] at hw0; cases hw0
      rw [if_neg (fun hh => ?_)]
      · exact readN_cell hr r u hu
      · have h2 := hh.2
        simp only [List.length_singleton] at h2
        rcases Nat.lt_or_gt_of_ne hij with h3 | h3
        · have h4 := Nat.mul_le_mul_right sz (show i + 1 ≤ j from h3)
          rw [Nat.succ_mul] at h4; omega
        · have h4 := Nat.mul_le_mul_right sz (show j + 1 ≤ i from h3)
          rw [Nat.succ_mul] at h4; omega
  · rw [ha] at hg; cases hg
    exact ⟨_, hw.at_⟩
theorem size_of_cell {h : Heap} {b k : Nat} {cur : Array Value} {T : TypeId} {u : Value} (hc : Has h b (.cells cur T)) (hu : GL.cell h b k = some u) : k < cur.size := by
  rw [Has.cell hc k] at hu
  exact (Array.getElem?_eq_some_iff.1 hu).1
theorem MW.setR {N : Nat} {h : Heap} {a : Option Addr} {M : List PX} {j : Nat} {p : PX} (hM : MW N h a M) (hj : M[j]? = some p) :
    ∃ b off cur, a = some ⟨b, off, none⟩ ∧ N ≤ b ∧ Has h b (.cells cur tyPt) ∧ off + j * 2 + 1 ≤ cur.size ∧ GL.cell h b (off + j * 2 + 1) = some (.slice p.a p.ps.length p.c) ∧ ∀ h' s, Wr h h' b (.cells (splc cur (off + j * 2) [.string s]) tyPt) → MW N h' a (M.set j ⟨s, p.a, p.ps, p.c⟩) := by
  obtain ⟨b, off, ha, hr⟩ := hM.sl.rd j p hj
  obtain ⟨cur, hc⟩ := hM.sl.ty b off ha
  have h0 := readN_cell hr 0 _ rfl
  have h1 := readN_cell hr 1 _ rfl
  have hz := size_of_cell hc h0
  refine ⟨b, off, cur, ha, hM.f b off ha, hc, by omega, h1, fun h' s hw => ⟨?_, hM.f, fun q hq => ?_, fun q hq => ?_⟩⟩
  · exact slR_put (f := ptL) (sz := 2) (k := 0) (fun _ => rfl) hM.sl ha hj (by decide) hc (by omega) (v := .string s) rfl (by simpa using hw)
  · have hq2 : ∃ r ∈ M, q.a = r.a ∧ q.ps = r.ps := by
      rcases List.mem_or_eq_of_mem_set hq with h9 | h9
      · exact ⟨q, h9, rfl, rfl⟩
      · subst h9; exact ⟨p, List.mem_of_getElem? hj, rfl, rfl⟩
    obtain ⟨r, hr2, e1, e2⟩ := hq2
    have := hM.ps r hr2
    rw [e1, e2]
    exact ⟨this.1.wr hw hc (by decide), this.2⟩
  · rcases List.mem_or_eq_of_mem_set hq with h9 | h9
    · exact hM.lim q h9
    · subst h9; exact hM.lim p (List.mem_of_getElem? hj)
theorem MW.setD {N : Nat} {h : Heap} {a : Option Addr} {M : List PX} {j k : Nat} {p : PX} (hM : MW N h a M) (hj : M[j]? = some p) (hk : k < p.ps.length) :
    ∃ b off g cur d, a = some ⟨b, off, none⟩ ∧ GL.cell h b (off + j * 2 + 1) = some (.slice p.a p.ps.length p.c) ∧ p.a = some ⟨g, 0, none⟩ ∧ N ≤ g ∧ Has h g (.cells cur tyPo) ∧ 0 + k * 4 + 3 + 1 ≤ cur.size ∧ GL.cell h g (0 + k * 4 + 3) = some (iV d) ∧
      ∀ h' d', Wr h h' g (.cells (splc cur (0 + k * 4 + 3) [iV d']) tyPo) → ∃ M' p', MW N h' a M' ∧ M'.length = M.length ∧ M'[j]? = some p' ∧ p'.a = p.a ∧ p'.ps.length = p.ps.length ∧ p'.c = p.c := by
  obtain ⟨b, off, ha, hr⟩ := hM.sl.rd j p hj
  obtain ⟨y, hy⟩ := atG hk
  obtain ⟨hps, hpz⟩ := hM.ps p (List.mem_of_getElem? hj)
  obtain ⟨g, o, hg, hr2⟩ := hps.rd k y hy
  obtain ⟨ho, hN⟩ := hpz g o hg
  subst ho
  obtain ⟨cur, hc⟩ := hps.ty g 0 hg
  have h3 := readN_cell hr2 3 _ rfl
  have hz := size_of_cell hc h3
  refine ⟨b, off, g, cur, y.d, ha, readN_cell hr 1 _ rfl, hg, hN, hc, by omega, h3, fun h' d' hw => ?_⟩
  let F : PX → PX := fun q => if q.a = p.a then ⟨q.r, q.a, q.ps.modify k (fun z => ⟨z.c, d'⟩), q.c⟩ else q
  have hF : ∀ q, (F q).r = q.r ∧ (F q).a = q.a ∧ (F q).ps.length = q.ps.length ∧ (F q).c = q.c := fun q => by
    show (if q.a = p.a then _ else q).r = _ ∧ (if q.a = p.a then _ else q).a = _ ∧ (if q.a = p.a then _ else q).ps.length = _ ∧ (if q.a = p.a then _ else q).c = _
    split <;> simp
  have hptL : ∀ q, ptL (F q) = ptL q := fun q => by
    obtain ⟨e1, e2, e3, e4⟩ := hF q
    simp only [ptL, e1, e2, e3, e4]
  refine ⟨M.map F, F p, ⟨?_, hM.f, fun q hq => ?_, fun q hq => by obtain ⟨q0, hq0, rfl⟩ := List.mem_map.1 hq; rw [(hF q0).2.2.1]; exact hM.lim q0 hq0⟩, by rw [List.length_map], by rw [List.getElem?_map, hj]; rfl, (hF p).2.1, (hF p).2.2.1, (hF p).2.2.2⟩
  · have hsl := hM.sl.wr hw hc (by decide)
    refine ⟨fun i x hi => ?_, hsl.ty⟩
    rw [List.getElem?_map] at hi
    cases hm : M[i]? with
    | none => rw [hm] at hi; cases hi
    | some q =>
      rw [hm] at hi; cases hi
      obtain ⟨b2, o2, q1, q2⟩ := hsl.rd i q hm
      exact ⟨b2, o2, q1, by rw [hptL]; exact q2⟩
  · obtain ⟨q0, hq0, rfl⟩ := List.mem_map.1 hq
    obtain ⟨h5, h6⟩ := hM.ps q0 hq0
    refine ⟨?_, fun g' o' hh => h6 g' o' (by rw [← (hF q0).2.1]; exact hh)⟩
    rw [(hF q0).2.1]
    by_cases he : q0.a = p.a
    · have e9 : (F q0).ps = q0.ps.modify k (fun z => ⟨z.c, d'⟩) := by show (if q0.a = p.a then _ else q0).ps = _; rw [if_pos he]
      rw [e9]
      by_cases hk2 : k < q0.ps.length
      · obtain ⟨w, hw2⟩ := atG hk2
        have e8 : q0.ps.modify k (fun z => ⟨z.c, d'⟩) = q0.ps.set k ⟨w.c, d'⟩ := by
          apply List.ext_getElem?
          intro i
          rw [List.getElem?_modify]
          by_cases hi : k = i
          · subst hi; rw [List.getElem?_set_self hk2, hw2]; simp
          · rw [List.getElem?_set_ne hi]; cases q0.ps[i]? <;> simp [hi]
        rw [e8]
        exact slR_put (f := poL) (sz := 4) (k := 3) (fun _ => rfl) h5 (he.trans hg) hw2 (by decide) hc (by omega) (v := iV d') rfl hw
      · have e8 : q0.ps.modify k (fun z => ⟨z.c, d'⟩) = q0.ps := by
          apply List.ext_getElem?
          intro i
          rw [List.getElem?_modify]
          by_cases hi : k = i
          · subst hi; rw [List.getElem?_eq_none (by omega)]; simp
          · cases q0.ps[i]? <;> simp [hi]
        rw [e8]
        refine ⟨fun i x hi => ?_, fun g' o' hh => ?_⟩
        · obtain ⟨b2, o2, q1, q2⟩ := h5.rd i x hi
          refine ⟨b2, o2, q1, readN_of rfl fun r u hu => ?_⟩
          have hil := (List.getElem?_eq_some_iff.1 hi).1
          have hrl : r < 4 := (List.getElem?_eq_some_iff.1 hu).1
          rw [cell_wr hw hc (by simp; omega), if_neg (fun hh => ?_)]
          · exact readN_cell q2 r u hu
          · have := hh.2; simp only [List.length_singleton] at this
            rw [he, hg] at q1; cases q1
            omega
        · rw [he, hg] at hh; cases hh; exact ⟨_, hw.at_⟩
    · have e9 : (F q0).ps = q0.ps := by show (if q0.a = p.a then _ else q0).ps = _; rw [if_neg he]
      rw [e9]
      refine h5.keep fun g' o' hh => hw.same g' fun e => ?_
      subst e
      obtain ⟨ho', _⟩ := h6 _ o' hh
      subst ho'
      exact he (hh.trans hg.symm)
/-! The next bundle. -/
abbrev sZ : ByteArray := ⟨#[90]⟩
abbrev nq : AC := ⟨⟨#[97]⟩, 0, ⟨#[]⟩⟩
abbrev nps : List PO := [⟨nq, 0⟩]
abbrev nB (n : Nat) : HB := ⟨(n : Int) + 1, 73048, 1439, [⟨sZ, nps⟩]⟩
abbrev nX (n : Nat) (B C : Nat) : BX := ⟨(n : Int) + 1, 73048, 1439, some ⟨C, 0, none⟩, [⟨sZ, some ⟨B, 0, none⟩, nps, 1⟩], 1⟩
theorem nX_bd (n B C : Nat) : (nX n B C).bd = nB n := rfl
theorem nB_fb (n : Nat) : FB (nB n) := ⟨by show 1 ≤ 8; decide, fun p hp => by simp at hp; subst hp; exact ⟨by decide, by decide⟩⟩
theorem nX_in {h : Heap} {n B C : Nat} {S T : TypeId} (h1 : Has h B (.cells (poL ⟨nq, 0⟩).toArray S)) (h2 : Has h C (.cells #[.string sZ, .slice (some ⟨B, 0, none⟩) 1 1] T)) : BXin h (nX n B C) := by
  refine ⟨slG_has (f := ptL) (sz := 2) (L := [⟨sZ, some ⟨B, 0, none⟩, nps, 1⟩]) (fun _ => rfl) h2 rfl, fun p hp => ?_⟩
  simp at hp; subst hp
  exact slG_has (f := poL) (sz := 4) (L := nps) (fun _ => rfl) h1 rfl
theorem GH.rng2 {l : List HB} (hl : GH l) (q : AC) : ∀ n, GL.inR (dS q (allP (l.take n)))
  | 0 => by show GL.inR (dS q (allP [])); simp [allP, dS_nil, GL.inR]
  | n + 1 => by
    by_cases hn : n < l.length
    · obtain ⟨b, hb⟩ := atG hn
      rw [allP_step hb]
      by_cases hx : ∃ x ∈ pos b, x.c = q
      · obtain ⟨x, hx, rfl⟩ := hx
        have h1 := (bdE_zero (hl n b hb)).2.2.2.2.2 x hx
        rw [allP_app, allP_one] at h1
        exact h1
      · rw [dS_app, dS_none hx, Int.add_zero]
        exact GH.rng2 hl q n
    · rw [List.take_of_length_le (by omega), ← List.take_of_length_le (i := n) (l := l) (by omega)]
      exact GH.rng2 hl q n
theorem nB_ok {l : List HB} (hl : GH l) : bdE l (nB l.length) = 0 := by
  refine bdE_ok rfl (by show ¬ ((73048 : Int) < 0 ∨ (73048 : Int) < 73048 ∨ (1439 : Int) < 0 ∨ (1439 : Int) < 1439); omega) ?_ (by simp) ?_ ?_
  · unfold lateB
    cases hg : l.getLast? with
    | none => simp
    | some y =>
      have hy : y ∈ l := List.mem_of_getLast? hg
      obtain ⟨k, hk⟩ := List.getElem?_of_mem hy
      have h1 := (bdE_zero (hl k y hk)).2.1
      show ¬ decide (ltr 73048 1439 y.day y.mn) = true
      rw [decide_eq_true_eq]
      rintro (h9 | ⟨h9, h10⟩) <;> omega
  · simp only [List.map_cons, List.map_nil, fstE]
    have : ptE ⟨sZ, nps⟩ = 0 := by decide +kernel
    rw [this]; rfl
  · unfold ovf
    rw [Decidable.not_not]
    intro x hx
    have hx1 : x = ⟨nq, 0⟩ := by simpa [pos] using hx
    subst hx1
    rw [allP_app, allP_one, dS_app]
    have h1 := GH.rng2 hl nq l.length
    rw [List.take_length] at h1
    have h2 : dS nq (pos (nB l.length)) = 0 := by show dS nq [⟨nq, 0⟩] = 0; decide +kernel
    rw [h2, Int.add_zero]; exact h1
theorem HI.lt {h0 h : Heap} {F : Nat → Prop} {p : Nat} {l : List HB} (hi : HI h0 h F p l) : HI h0 h (fun c => c < h.size) p l := by
  obtain ⟨v, ys, q1, q2, q3, q4⟩ := hi.ex
  refine ⟨⟨v, ys, q1, q2, q3, fun m hm => ?_⟩, hi.E, hi.hp⟩
  have h1 := q4 m hm
  have hlt : ∀ {α : Type} {el sz : Nat} {f : α → List Value} {a : Option Addr} {L : List α}, SlR el sz f h a L → ∀ g off, a = some ⟨g, off, none⟩ → g < h.size := fun hs g off ha => by
    obtain ⟨cu, hc⟩ := hs.ty g off ha
    exact (Array.getElem?_eq_some_iff.1 hc).1
  exact ⟨h1.sl, hlt h1.sl, fun q hq => ⟨(h1.ps q hq).sl, hlt (h1.ps q hq).sl, (h1.ps q hq).z⟩⟩
theorem HI.wrF {h0 h h' : Heap} {F : Nat → Prop} {p g : Nat} {l : List HB} {c c' : Array Value} (hi : HI h0 h F p l) (hw : Wr h h' g (.cells c' tyPo)) (hb : Has h g (.cells c tyPo)) (hF : ¬ F g) (hN : h0.size ≤ g) : HI h0 h' F p l := by
  obtain ⟨v, ys, q1, q2, q3, q4⟩ := hi.ex
  exact ⟨⟨v, ys, q1.wr hw (q1.ncell hb (by decide)), q2.keep (fun k hk => hw.same k fun e => by subst e; exact q2.ncell hb (by decide) hk), q3, q4.keep fun k hk => hw.same k fun e => by subst e; exact hF hk⟩, hw.ext hi.E hN, hi.hp⟩
theorem TyK.has {h h' : Heap} {b T : Nat} {c : Array Value} (hk : TyK h h') (hb : Has h b (.cells c T)) (h1 : T ≠ tyH) (h2 : T ≠ tyB) : Has h' b (.cells c T) := hk.2 b c T (0, 0) h1 h2 hb
theorem TyK.sl {α : Type} {el sz : Nat} {f : α → List Value} {h h' : Heap} {a : Option Addr} {l : List α} (hk : TyK h h') (hs : SlR el sz f h a l) (h1 : el ≠ tyH) (h2 : el ≠ tyB) : SlR el sz f h' a l := hs.keep fun g off ha => by
  obtain ⟨cu, hc⟩ := hs.ty g off ha
  exact (hk.has hc h1 h2).trans hc.symm
theorem eq_sym (l m : List HB) : decide (m = l) = decide (l = m) := decide_eq_decide.2 ⟨Eq.symm, Eq.symm⟩
theorem c_equalS {h : Heap} {p q : Nat} {l m : List HB} (hn : m.length ≤ 1000) (hf : ∀ b ∈ m, FB b) (hr : HR h q l) (hq : HR h p m) : HCalls Try.prog 33 #[ptr p, ptr q] h (Grow (.bool (decide (l = m))) h) := by
  have h1 := c_equalH hn hf hq hr
  rwa [eq_sym] at h1
theorem c_equalT {h : Heap} {p q : Nat} {l : List HB} (hn : l.length ≤ 1000) (hf : ∀ b ∈ l, FB b) (hr : HR h p l) (hq : HR h q l) : HCalls Try.prog 33 #[ptr p, ptr q] h (Grow (.bool true) h) := by
  have h1 := c_equalH hn hf hr hq
  rwa [decide_eq_true rfl] at h1
theorem c_equalF {h : Heap} {p q : Nat} {l : List HB} (b : HB) (hn : l.length ≤ 999) (hf : ∀ x ∈ l ++ [b], FB x) (hr : HR h p (l ++ [b])) (hq : HR h q l) : HCalls Try.prog 33 #[ptr p, ptr q] h (Grow (.bool false) h) := by
  have h1 := c_equalH (by rw [List.length_append, List.length_singleton]; omega) hf hr hq
  rwa [decide_eq_false (fun hh => by have h9 := congrArg List.length hh; simp at h9)] at h1
set_option maxHeartbeats 8000000 in
theorem l_clone (al : Option Addr) (L : List BX) (cl : Nat) (am : Option Addr) (M0 : List BX) (cm : Nat) {h : Heap} (hs : SlG 4 bdL h al L) (hb : BXs h L) (ll : L.length ≤ 9223372036854775807) (hs2 : SlG 4 bdL h am M0) (hb2 : BXs h M0) (ll2 : M0.length ≤ 9223372036854775807) :
    HCalls Try.prog 8 #[.slice al L.length cl, .slice am M0.length cm] h (Grow (.bool true) h) := by
  refine hcalls2 Try.func8 rfl (by decide +kernel) (by simp only [Try.ntmps8]; exact of_decide_eq_true rfl) ?_
  intro e hin
  have e0 := hin 0 _ rfl
  have e1 := hin 1 _ rfl
  refine hx_seq ?_
  refine hx_region ?_
  refine WL.qq (by simp only [EN, Nat.reduceEqDiff, reduceIte, qv_assign, decide_true, Bool.not_true, Bool.not_false, decide_false, eq_self, BEq.rfl]; rfl) ?_
  refine WL.nil ?_
  refine th_norm ?_
  refine hx_seq ?_
  refine hx_seq ?_
  refine hx_region ?_
  refine WL.qq (by simp only [EN, Nat.reduceEqDiff, reduceIte, qv_move, e0, decide_true, Bool.not_true, Bool.not_false, decide_false, eq_self, BEq.rfl]; rfl) ?_
  refine WL.ck Try.call12 (by simp only [EN, Nat.reduceEqDiff, reduceIte, AR, decide_true, Bool.not_true, Bool.not_false, decide_false, eq_self, BEq.rfl]; exact c_few al L cl ll hs hb) ?_
  refine WL.qq (by simp only [EN, Nat.reduceEqDiff, reduceIte, qv_unOp, unv_not, decide_true, Bool.not_true, Bool.not_false, decide_false, eq_self, BEq.rfl]; rfl) ?_
  refine WL.qq (by simp only [EN, Nat.reduceEqDiff, reduceIte, qv_move, decide_true, Bool.not_true, Bool.not_false, decide_false, eq_self, BEq.rfl]; rfl) ?_
  refine WL.cq (gd_at (t := 27) rfl (by simp only [EN, Nat.reduceEqDiff, reduceIte, e1, decide_true, Bool.not_true, Bool.not_false, decide_false, eq_self, BEq.rfl] <;> rfl)) (fun hg1_4 => by simp only [EN, Nat.reduceEqDiff, reduceIte, qv_move, e1, decide_true, Bool.not_true, Bool.not_false, decide_false, eq_self, BEq.rfl, hg1_4, GR]; rfl) ?_
  refine WL.cck (gd_at (t := 27) rfl (by simp only [EN, Nat.reduceEqDiff, reduceIte, decide_true, Bool.not_true, Bool.not_false, decide_false, eq_self, BEq.rfl] <;> rfl)) Try.call12 (fun hg1_5 => by simp only [EN, Nat.reduceEqDiff, reduceIte, AR, decide_true, Bool.not_true, Bool.not_false, decide_false, eq_self, BEq.rfl, hg1_5, GR]; exact c_few am M0 cm ll2 hs2 hb2) ?_
  refine WL.cq (gd_at (t := 27) rfl (by simp only [EN, Nat.reduceEqDiff, reduceIte, decide_true, Bool.not_true, Bool.not_false, decide_false, eq_self, BEq.rfl] <;> rfl)) (fun hg1_6 => by simp only [EN, Nat.reduceEqDiff, reduceIte, qv_unOp, unv_not, decide_true, Bool.not_true, Bool.not_false, decide_false, eq_self, BEq.rfl, hg1_6, GR]; rfl) ?_
  refine WL.qq (by simp only [EN, Nat.reduceEqDiff, reduceIte, qv_pick, pk_and, pk_or, GR, decide_true, Bool.not_true, Bool.not_false, decide_false, eq_self, BEq.rfl]; rfl) ?_
  refine WL.nil ?_
  refine th_norm ?_
  refine hx_cond (by simp only [EN, Nat.reduceEqDiff, reduceIte, decide_true, Bool.not_true, Bool.not_false, decide_false, eq_self, BEq.rfl]; rfl) (fun hct31 => ?_) (fun hct31 => ?_)
  ·
    try simp only [BD] at hct31
    refine hx_seq ?_
    refine hx_region ?_
    refine WL.cg Try.call13 (by simp only [EN, Nat.reduceEqDiff, reduceIte, AR, decide_true, Bool.not_true, Bool.not_false, decide_false, eq_self, BEq.rfl]; exact c_known14 _) ?_
    intro h1 hx1
    replace hs := hs.ext hx1
    replace hb := hb.ext hx1
    replace hs2 := hs2.ext hx1
    replace hb2 := hb2.ext hx1
    refine WL.qq (by simp only [EN, Nat.reduceEqDiff, reduceIte, qv_assign, decide_true, Bool.not_true, Bool.not_false, decide_false, eq_self, BEq.rfl]; rfl) ?_
    refine WL.nil ?_
    refine th_norm ?_
    refine hx_ret ?_
    refine th_ret ?_
    refine fin_ret [.tmp 4] rfl rfl (by simp only [EN, Nat.reduceEqDiff, reduceIte, resv, e0, e1, decide_true, Bool.not_true, Bool.not_false, decide_false, eq_self, BEq.rfl]; rfl) ?_  -- ret 0 r2
    exact ⟨rfl, (hx1)⟩
  ·
    try simp only [BD] at hct31
    have hFF : FW L ∧ FW M0 := (by simpa using hct31)
    refine hx_skip ?_
    refine th_norm ?_
    refine hx_seq ?_
    refine hx_region ?_
    refine WL.qq (by simp only [EN, Nat.reduceEqDiff, reduceIte, qv_move, e0, decide_true, Bool.not_true, Bool.not_false, decide_false, eq_self, BEq.rfl]; rfl) ?_
    refine WL.ce Try.call14 (by simp only [EN, Nat.reduceEqDiff, reduceIte, AR, decide_true, Bool.not_true, Bool.not_false, decide_false, eq_self, BEq.rfl]; exact c_build al L cl hFF.1 hs hb) ?_
    rintro _ h2 ⟨hx2, p, a, c, xs, rfl, hS⟩
    replace hs := hs.ext hx2
    replace hb := hb.ext hx2
    replace hs2 := hs2.ext hx2
    replace hb2 := hb2.ext hx2
    simp only [put_some]
    generalize runB (L.map BX.bd) = l at hS
    have hn12 := hS.n
    refine WL.qq (by simp only [EN, Nat.reduceEqDiff, reduceIte, qv_move, decide_true, Bool.not_true, Bool.not_false, decide_false, eq_self, BEq.rfl]; rfl) ?_
    refine WL.qq (by simp only [EN, Nat.reduceEqDiff, reduceIte, qv_extract, AR, decide_true, Bool.not_true, Bool.not_false, decide_false, eq_self, BEq.rfl]; rfl) ?_
    refine WL.qq (by simp only [EN, Nat.reduceEqDiff, reduceIte, qv_extract, AR, decide_true, Bool.not_true, Bool.not_false, decide_false, eq_self, BEq.rfl]; rfl) ?_
    refine WL.qq (by simp only [EN, Nat.reduceEqDiff, reduceIte, qv_assign, decide_true, Bool.not_true, Bool.not_false, decide_false, eq_self, BEq.rfl]; rfl) ?_
    refine WL.qq (by simp only [EN, Nat.reduceEqDiff, reduceIte, qv_assign, decide_true, Bool.not_true, Bool.not_false, decide_false, eq_self, BEq.rfl]; rfl) ?_
    refine WL.nil ?_
    refine th_norm ?_
    refine hx_seq ?_
    refine hx_region ?_
    refine WL.qq (by simp only [EN, Nat.reduceEqDiff, reduceIte, qv_move, e1, decide_true, Bool.not_true, Bool.not_false, decide_false, eq_self, BEq.rfl]; rfl) ?_
    refine WL.ce Try.call14 (by simp only [EN, Nat.reduceEqDiff, reduceIte, AR, decide_true, Bool.not_true, Bool.not_false, decide_false, eq_self, BEq.rfl]; exact c_build am M0 cm hFF.2 hs2 hb2) ?_
    rintro _ h3 ⟨hx3, p2, a2, c2, xs2, rfl, hS2⟩
    replace hs := hs.ext hx3
    replace hb := hb.ext hx3
    replace hs2 := hs2.ext hx3
    replace hb2 := hb2.ext hx3
    replace hS := hS.ext hx3
    simp only [put_some]
    generalize runB (M0.map BX.bd) = m at hS2
    have hn12b := hS2.n
    refine WL.qq (by simp only [EN, Nat.reduceEqDiff, reduceIte, qv_move, decide_true, Bool.not_true, Bool.not_false, decide_false, eq_self, BEq.rfl]; rfl) ?_
    refine WL.qq (by simp only [EN, Nat.reduceEqDiff, reduceIte, qv_extract, AR, decide_true, Bool.not_true, Bool.not_false, decide_false, eq_self, BEq.rfl]; rfl) ?_
    refine WL.qq (by simp only [EN, Nat.reduceEqDiff, reduceIte, qv_extract, AR, decide_true, Bool.not_true, Bool.not_false, decide_false, eq_self, BEq.rfl]; rfl) ?_
    refine WL.qq (by simp only [EN, Nat.reduceEqDiff, reduceIte, qv_assign, decide_true, Bool.not_true, Bool.not_false, decide_false, eq_self, BEq.rfl]; rfl) ?_
    refine WL.qq (by simp only [EN, Nat.reduceEqDiff, reduceIte, qv_assign, decide_true, Bool.not_true, Bool.not_false, decide_false, eq_self, BEq.rfl]; rfl) ?_
    refine WL.nil ?_
    refine th_norm ?_
    refine hx_seq ?_
    refine hx_seq ?_
    refine hx_region ?_
    refine WL.qq (by simp only [EN, Nat.reduceEqDiff, reduceIte, qv_move, decide_true, Bool.not_true, Bool.not_false, decide_false, eq_self, BEq.rfl]; rfl) ?_
    refine WL.qq (by simp only [EN, Nat.reduceEqDiff, reduceIte, qv_binOp, binv_eql, eqz27, eqn27, eqm27, Option.map_some, decide_true, Bool.not_true, Bool.not_false, decide_false, eq_self, BEq.rfl]; rfl) ?_
    refine WL.qq (by simp only [EN, Nat.reduceEqDiff, reduceIte, qv_move, decide_true, Bool.not_true, Bool.not_false, decide_false, eq_self, BEq.rfl]; rfl) ?_
    refine WL.cq (gd_at (t := 45) rfl (by simp only [EN, Nat.reduceEqDiff, reduceIte, decide_true, Bool.not_true, Bool.not_false, decide_false, eq_self, BEq.rfl] <;> rfl)) (fun hg5_3 => by simp only [EN, Nat.reduceEqDiff, reduceIte, qv_move, decide_true, Bool.not_true, Bool.not_false, decide_false, eq_self, BEq.rfl, hg5_3, GR]; rfl) ?_
    refine WL.cq (gd_at (t := 45) rfl (by simp only [EN, Nat.reduceEqDiff, reduceIte, decide_true, Bool.not_true, Bool.not_false, decide_false, eq_self, BEq.rfl] <;> rfl)) (fun hg5_4 => by simp only [EN, Nat.reduceEqDiff, reduceIte, qv_binOp, binv_eql, eqz27, eqn27, eqm27, Option.map_some, decide_true, Bool.not_true, Bool.not_false, decide_false, eq_self, BEq.rfl, hg5_4, GR]; rfl) ?_
    refine WL.qq (by simp only [EN, Nat.reduceEqDiff, reduceIte, qv_pick, pk_and, pk_or, GR, decide_true, Bool.not_true, Bool.not_false, decide_false, eq_self, BEq.rfl]; rfl) ?_
    refine WL.nil ?_
    refine th_norm ?_
    refine hx_cond (by simp only [EN, Nat.reduceEqDiff, reduceIte, decide_true, Bool.not_true, Bool.not_false, decide_false, eq_self, BEq.rfl]; rfl) (fun hct48 => ?_) (fun hct48 => ?_)
    ·
      simp at hct48
    ·
      try simp only [BD] at hct48
      refine hx_skip ?_
      refine th_norm ?_
      refine hx_seq ?_
      refine hx_region ?_
      refine WL.qq (by simp only [EN, Nat.reduceEqDiff, reduceIte, qv_move, decide_true, Bool.not_true, Bool.not_false, decide_false, eq_self, BEq.rfl]; rfl) ?_
      refine WL.qq (by simp only [EN, Nat.reduceEqDiff, reduceIte, qv_len, ln22, AR, decide_true, Bool.not_true, Bool.not_false, decide_false, eq_self, BEq.rfl]; rfl) ?_
      refine WL.qq (by simp only [EN, Nat.reduceEqDiff, reduceIte, qv_move, decide_true, Bool.not_true, Bool.not_false, decide_false, eq_self, BEq.rfl]; rfl) ?_
      refine WL.qq (by simp only [EN, Nat.reduceEqDiff, reduceIte, qv_len, ln22, AR, decide_true, Bool.not_true, Bool.not_false, decide_false, eq_self, BEq.rfl]; rfl) ?_
      refine WL.qq (by simp only [EN, Nat.reduceEqDiff, reduceIte, qv_binOp, binv_eql, eq3, Option.map_some, decide_true, Bool.not_true, Bool.not_false, decide_false, eq_self, BEq.rfl]; rfl) ?_
      have hd0 : decide ((xs.length : Int) = (xs2.length : Int)) = smB l m 0 := (by rw [smB_0, hn12.1, hn12b.1])
      refine WL.qq (by simp only [EN, Nat.reduceEqDiff, reduceIte, qv_assign, decide_true, Bool.not_true, Bool.not_false, decide_false, eq_self, BEq.rfl, hd0]; rfl) ?_
      refine WL.nil ?_
      refine th_norm ?_
      refine hx_seq ?_
      refine hx_seq ?_
      refine hx_region ?_
      refine WL.qq (by simp only [EN, Nat.reduceEqDiff, reduceIte, qv_assign, decide_true, Bool.not_true, Bool.not_false, decide_false, eq_self, BEq.rfl]; rfl) ?_
      refine WL.nil ?_
      refine th_norm ?_
      refine hx_block ?_
      refine hx_loopX [9, 10, 54, 55, 56, 57, 58, 59, 60, 61, 62, 63, 64, 65, 66, 67, 68, 69, 70, 71] (fun k e => ∃ (i : Nat), xs.length - i = k ∧ (i ≤ xs.length) ∧ e 10 = .int .i64 i ∧ e 9 = .bool (smB l m i)) _ ⟨0, rfl, ?_, ?_, ?_⟩ ?_
      · omega
      · simp only [EN, Nat.reduceEqDiff, reduceIte, e0, e1, decide_true, Bool.not_true, Bool.not_false, decide_false, eq_self, BEq.rfl] <;> rfl
      · simp only [EN, Nat.reduceEqDiff, reduceIte, e0, e1, decide_true, Bool.not_true, Bool.not_false, decide_false, eq_self, BEq.rfl] <;> rw [hd0]
      ·
        rintro k e0L hL0 hX0 hfr0 ⟨i, rfl, hi, i10_0, i9_0⟩
        replace hS := hS.ext hX0
        replace hS2 := hS2.ext hX0
        have k5_0 := hfr0 5 rfl; try simp only [EN, Nat.reduceEqDiff, reduceIte, decide_true, Bool.not_true, Bool.not_false, decide_false, eq_self, BEq.rfl] at k5_0
        have k6_0 := hfr0 6 rfl; try simp only [EN, Nat.reduceEqDiff, reduceIte, decide_true, Bool.not_true, Bool.not_false, decide_false, eq_self, BEq.rfl] at k6_0
        have k7_0 := hfr0 7 rfl; try simp only [EN, Nat.reduceEqDiff, reduceIte, decide_true, Bool.not_true, Bool.not_false, decide_false, eq_self, BEq.rfl] at k7_0
        have k8_0 := hfr0 8 rfl; try simp only [EN, Nat.reduceEqDiff, reduceIte, decide_true, Bool.not_true, Bool.not_false, decide_false, eq_self, BEq.rfl] at k8_0
        refine hx_seq ?_
        refine hx_seq ?_
        refine hx_region ?_
        refine WL.qq (by simp only [EN, Nat.reduceEqDiff, reduceIte, qv_move, i10_0, decide_true, Bool.not_true, Bool.not_false, decide_false, eq_self, BEq.rfl]; rfl) ?_
        refine WL.qq (by simp only [EN, Nat.reduceEqDiff, reduceIte, qv_move, k6_0, decide_true, Bool.not_true, Bool.not_false, decide_false, eq_self, BEq.rfl]; rfl) ?_
        refine WL.qq (by simp only [EN, Nat.reduceEqDiff, reduceIte, qv_len, ln22, AR, decide_true, Bool.not_true, Bool.not_false, decide_false, eq_self, BEq.rfl]; rfl) ?_
        refine WL.qq (by simp only [EN, Nat.reduceEqDiff, reduceIte, qv_binOp, binv_lss, decide_true, Bool.not_true, Bool.not_false, decide_false, eq_self, BEq.rfl]; rfl) ?_
        refine WL.qq (by simp only [EN, Nat.reduceEqDiff, reduceIte, qv_move, decide_true, Bool.not_true, Bool.not_false, decide_false, eq_self, BEq.rfl]; rfl) ?_
        refine WL.cq (gd_at (t := 58) rfl (by simp only [EN, Nat.reduceEqDiff, reduceIte, i9_0, decide_true, Bool.not_true, Bool.not_false, decide_false, eq_self, BEq.rfl] <;> rfl)) (fun hg9_5 => by simp only [EN, Nat.reduceEqDiff, reduceIte, qv_move, i9_0, decide_true, Bool.not_true, Bool.not_false, decide_false, eq_self, BEq.rfl, hg9_5, GR]; rfl) ?_
        refine WL.qq (by simp only [EN, Nat.reduceEqDiff, reduceIte, qv_pick, pk_and, pk_or, GR, decide_true, Bool.not_true, Bool.not_false, decide_false, eq_self, BEq.rfl]; rfl) ?_
        refine WL.nil ?_
        refine th_norm ?_
        refine hx_cond (by simp only [EN, Nat.reduceEqDiff, reduceIte, decide_true, Bool.not_true, Bool.not_false, decide_false, eq_self, BEq.rfl]; rfl) (fun hct60 => ?_) (fun hct60 => ?_)
        ·
          try simp only [BD] at hct60
          have hct60b : i < xs.length ∧ smB l m i = true := (by have h9 := hct60; simp at h9; exact ⟨by omega, h9.2⟩)
          have hleq : l.length = m.length := (of_decide_eq_true hct60b.2).1
          obtain ⟨x, hx⟩ := atG (l := xs) (i := i) hct60b.1
          obtain ⟨y, hy⟩ := atG (l := xs2) (i := i) (by omega)
          obtain ⟨b1, o1, ha1, hr1, _⟩ := bd_rd hS.sl hx
          obtain ⟨b2, o2, ha2, hr2, _⟩ := bd_rd hS2.sl hy
          have hlb : l[i]? = some x.bd := (by rw [← hS.m]; exact bd_at hx)
          have hmb : m[i]? = some y.bd := (by rw [← hS2.m]; exact bd_at hy)
          have hst := smB_step hct60b.2 hlb hmb
          have hbx := hS.bx x (List.mem_of_getElem? hx); have hby := hS2.bx y (List.mem_of_getElem? hy); have hfx := (hS.fb x (List.mem_of_getElem? hx)).lens
          refine hx_skip ?_
          refine th_norm ?_
          refine hx_seq ?_
          refine hx_block ?_
          apply hx_draw2 Rel.grows [] [8] [(8, Spec.is _)] rfl (by decide +kernel) rfl
          refine LD.qq rfl rfl (by simp only [EN, Nat.reduceEqDiff, reduceIte, qv_move, k6_0, decide_true, Bool.not_true, Bool.not_false, decide_false, eq_self, BEq.rfl]; rfl) ?_
          refine LD.qq rfl rfl (by simp only [EN, Nat.reduceEqDiff, reduceIte, qv_move, i10_0, decide_true, Bool.not_true, Bool.not_false, decide_false, eq_self, BEq.rfl]; rfl) ?_
          refine LD.qq rfl rfl (by simp only [EN, Nat.reduceEqDiff, reduceIte, qv_indexAddr, decide_true, Bool.not_true, Bool.not_false, decide_false, eq_self, BEq.rfl, ha1]; (try simp (disch := omega) only [ix22, Int.toNat_natCast]); rfl) ?_
          refine LD.qq rfl rfl (by simp only [EN, Nat.reduceEqDiff, reduceIte, k5_0, k6_0, k7_0, k8_0, i10_0, i9_0, decide_true, Bool.not_true, Bool.not_false, decide_false, eq_self, BEq.rfl, qv_load, ld45, Int.toNat_natCast, hr1]; rfl) ?_
          refine LD.qq rfl rfl (by simp only [EN, Nat.reduceEqDiff, reduceIte, qv_move, k8_0, decide_true, Bool.not_true, Bool.not_false, decide_false, eq_self, BEq.rfl]; rfl) ?_
          refine LD.qq rfl rfl (by simp only [EN, Nat.reduceEqDiff, reduceIte, qv_move, i10_0, decide_true, Bool.not_true, Bool.not_false, decide_false, eq_self, BEq.rfl]; rfl) ?_
          refine LD.qq rfl rfl (by simp only [EN, Nat.reduceEqDiff, reduceIte, qv_indexAddr, decide_true, Bool.not_true, Bool.not_false, decide_false, eq_self, BEq.rfl, ha2]; (try simp (disch := omega) only [ix22, Int.toNat_natCast]); rfl) ?_
          refine LD.qq rfl rfl (by simp only [EN, Nat.reduceEqDiff, reduceIte, k5_0, k6_0, k7_0, k8_0, i10_0, i9_0, decide_true, Bool.not_true, Bool.not_false, decide_false, eq_self, BEq.rfl, qv_load, ld45, Int.toNat_natCast, hr2]; rfl) ?_
          refine LD.ck rfl rfl Try.call25 (by intro hD hr; have hx : Ext _ _ := hr; have hS := hS.ext hx; have hS2 := hS2.ext hx; simp only [EN, Nat.reduceEqDiff, reduceIte, AR, decide_true, Bool.not_true, Bool.not_false, decide_false, eq_self, BEq.rfl]; exact c_same x y hfx (hbx.ext hx) (hby.ext hx)) ?_
          refine LD.qq rfl rfl (by simp only [EN, Nat.reduceEqDiff, reduceIte, qv_assign, decide_true, Bool.not_true, Bool.not_false, decide_false, eq_self, BEq.rfl]; rfl) ?_
          refine LD.nil ?_
          rintro h4 hx4 hF11
          replace hx4 : Ext _ _ := hx4
          replace hS := hS.ext hx4
          replace hS2 := hS2.ext hx4
          refine WL.nil ?_
          refine bl_norm ?_
          refine th_norm ?_
          refine hx_region ?_
          refine WL.qq (by simp only [EN, Nat.reduceEqDiff, reduceIte, qv_move, i10_0, decide_true, Bool.not_true, Bool.not_false, decide_false, eq_self, BEq.rfl]; rfl) ?_
          refine WL.qq (by simp only [EN, Nat.reduceEqDiff, reduceIte, qv_binOp, binv_add, decide_true, Bool.not_true, Bool.not_false, decide_false, eq_self, BEq.rfl]; (try simp (disch := omega) only [w64, w8, wu64]); rfl) ?_
          refine WL.qq (by simp only [EN, Nat.reduceEqDiff, reduceIte, qv_assign, decide_true, Bool.not_true, Bool.not_false, decide_false, eq_self, BEq.rfl]; rfl) ?_
          refine WL.nil ?_
          refine th_norm ?_
          refine ⟨rfl, ?_, ?_, _, ?_, i + 1, rfl, ?_, ?_, ?_⟩  -- again 0 of loop 0
          · exact hx4
          · (repeat (first | exact Fr.refl _ _ | refine Fr.set rfl ?_ | refine Fr.put rfl ?_ | with_reducible refine Fr.put0 ?_))
          · omega
          · omega
          · simp only [EN, Nat.reduceEqDiff, reduceIte, k5_0, k6_0, k7_0, k8_0, i10_0, i9_0, decide_true, Bool.not_true, Bool.not_false, decide_false, eq_self, BEq.rfl] <;> first | rfl | (congr 1; omega)
          · simp only [EN, Nat.reduceEqDiff, reduceIte, k5_0, k6_0, k7_0, k8_0, i10_0, i9_0, decide_true, Bool.not_true, Bool.not_false, decide_false, eq_self, BEq.rfl] <;> rw [hst]
        ·
          try simp only [BD] at hct60
          have hsm : smB l m i = decide (l = m) := smB_end (by have h9 := hct60; simp at h9; rcases h9 with h9 | h9; (exact .inr (by omega)); exact .inl h9)
          rw [hsm] at i9_0
          refine hx_exit ?_
          refine th_exit ?_
          refine th_exit ?_
          refine bl_hit ?_
          refine th_norm ?_
          refine hx_seq ?_
          refine hx_region ?_
          have hXC := ((hx2).trans ((hx3).trans (hX0)))
          refine WL.qq (by simp only [EN, Nat.reduceEqDiff, reduceIte, qv_move, k5_0, decide_true, Bool.not_true, Bool.not_false, decide_false, eq_self, BEq.rfl]; rfl) ?_
          have kS := hS
          refine WL.ce Try.call32 (by simp only [EN, Nat.reduceEqDiff, reduceIte, AR, decide_true, Bool.not_true, Bool.not_false, decide_false, eq_self, BEq.rfl]; exact c_cloneH hS.g hS.I.hr) ?_
          rintro _ h5 ⟨hx5, p3, rfl, hI3⟩
          replace hS := hS.ext hx5
          replace hS2 := hS2.ext hx5
          simp only [put_some]
          have hE1 : Ext hL0 _ := hx5
          refine WL.qq (by simp only [EN, Nat.reduceEqDiff, reduceIte, qv_assign, decide_true, Bool.not_true, Bool.not_false, decide_false, eq_self, BEq.rfl]; rfl) ?_
          refine WL.nil ?_
          refine th_norm ?_
          refine hx_seq ?_
          refine hx_seq ?_
          refine hx_region ?_
          refine WL.qq (by simp only [EN, Nat.reduceEqDiff, reduceIte, qv_move, k5_0, decide_true, Bool.not_true, Bool.not_false, decide_false, eq_self, BEq.rfl]; rfl) ?_
          refine WL.qq (by simp only [EN, Nat.reduceEqDiff, reduceIte, qv_move, k7_0, decide_true, Bool.not_true, Bool.not_false, decide_false, eq_self, BEq.rfl]; rfl) ?_
          refine WL.cg Try.call33 (by simp only [EN, Nat.reduceEqDiff, reduceIte, AR, decide_true, Bool.not_true, Bool.not_false, decide_false, eq_self, BEq.rfl]; exact c_equalH (by omega) hS.g.f hS.I.hr hS2.I.hr) ?_
          intro h6 hx6
          replace hS := hS.ext hx6
          replace hS2 := hS2.ext hx6
          replace hI3 := hI3.ext hx6
          replace hE1 := hE1.ext hx6
          refine WL.qq (by simp only [EN, Nat.reduceEqDiff, reduceIte, qv_move, i9_0, decide_true, Bool.not_true, Bool.not_false, decide_false, eq_self, BEq.rfl]; rfl) ?_
          refine WL.qq (by simp only [EN, Nat.reduceEqDiff, reduceIte, qv_binOp, binv_neq, eq4, Option.map_some, decide_true, Bool.not_true, Bool.not_false, decide_false, eq_self, BEq.rfl]; rfl) ?_
          refine WL.qq (by simp only [EN, Nat.reduceEqDiff, reduceIte, qv_move, decide_true, Bool.not_true, Bool.not_false, decide_false, eq_self, BEq.rfl]; rfl) ?_
          refine WL.on (by rw [gOk_s (gd_at (t := 79) rfl (by simp only [EN, Nat.reduceEqDiff, reduceIte, k7_0, decide_true, Bool.not_true, Bool.not_false, decide_false, eq_self, BEq.rfl] <;> rfl))]; rfl) ?_
          refine WL.qq (by simp only [EN, Nat.reduceEqDiff, reduceIte, qv_move, k7_0, decide_true, Bool.not_true, Bool.not_false, decide_false, eq_self, BEq.rfl]; rfl) ?_
          refine WL.on (by rw [gOk_s (gd_at (t := 79) rfl (by simp only [EN, Nat.reduceEqDiff, reduceIte, k5_0, decide_true, Bool.not_true, Bool.not_false, decide_false, eq_self, BEq.rfl] <;> rfl))]; rfl) ?_
          refine WL.qq (by simp only [EN, Nat.reduceEqDiff, reduceIte, qv_move, k5_0, decide_true, Bool.not_true, Bool.not_false, decide_false, eq_self, BEq.rfl]; rfl) ?_
          refine WL.on (by rw [gOk_s (gd_at (t := 79) rfl (by simp only [EN, Nat.reduceEqDiff, reduceIte, decide_true, Bool.not_true, Bool.not_false, decide_false, eq_self, BEq.rfl] <;> rfl))]; rfl) ?_
          refine WL.cg Try.call33 (by simp only [EN, Nat.reduceEqDiff, reduceIte, AR, decide_true, Bool.not_true, Bool.not_false, decide_false, eq_self, BEq.rfl]; exact c_equalS (by omega) hS2.g.f hS.I.hr hS2.I.hr) ?_
          intro h7 hx7
          replace hS := hS.ext hx7
          replace hS2 := hS2.ext hx7
          replace hI3 := hI3.ext hx7
          replace hE1 := hE1.ext hx7
          refine WL.on (by rw [gOk_s (gd_at (t := 79) rfl (by simp only [EN, Nat.reduceEqDiff, reduceIte, i9_0, decide_true, Bool.not_true, Bool.not_false, decide_false, eq_self, BEq.rfl] <;> rfl))]; rfl) ?_
          refine WL.qq (by simp only [EN, Nat.reduceEqDiff, reduceIte, qv_move, i9_0, decide_true, Bool.not_true, Bool.not_false, decide_false, eq_self, BEq.rfl]; rfl) ?_
          refine WL.on (by rw [gOk_s (gd_at (t := 79) rfl (by simp only [EN, Nat.reduceEqDiff, reduceIte, decide_true, Bool.not_true, Bool.not_false, decide_false, eq_self, BEq.rfl] <;> rfl))]; rfl) ?_
          refine WL.qq (by simp only [EN, Nat.reduceEqDiff, reduceIte, qv_binOp, binv_neq, eq4, Option.map_some, decide_true, Bool.not_true, Bool.not_false, decide_false, eq_self, BEq.rfl]; rfl) ?_
          refine WL.qq (by simp only [EN, Nat.reduceEqDiff, reduceIte, qv_pick, pk_and, pk_or, GR, decide_true, Bool.not_true, Bool.not_false, decide_false, eq_self, BEq.rfl]; rfl) ?_
          refine WL.qq (by simp only [EN, Nat.reduceEqDiff, reduceIte, qv_move, decide_true, Bool.not_true, Bool.not_false, decide_false, eq_self, BEq.rfl]; rfl) ?_
          refine WL.on (by rw [gOk_s (gd_at (t := 86) rfl (by simp only [EN, Nat.reduceEqDiff, reduceIte, decide_true, Bool.not_true, Bool.not_false, decide_false, eq_self, BEq.rfl] <;> rfl))]; rfl) ?_
          refine WL.qq (by simp only [EN, Nat.reduceEqDiff, reduceIte, qv_move, decide_true, Bool.not_true, Bool.not_false, decide_false, eq_self, BEq.rfl]; rfl) ?_
          refine WL.on (by rw [gOk_s (gd_at (t := 86) rfl (by simp only [EN, Nat.reduceEqDiff, reduceIte, decide_true, Bool.not_true, Bool.not_false, decide_false, eq_self, BEq.rfl] <;> rfl))]; rfl) ?_
          refine WL.qq (by simp only [EN, Nat.reduceEqDiff, reduceIte, qv_binOp, binv_eql, eqz27, eqn27, eqm27, Option.map_some, decide_true, Bool.not_true, Bool.not_false, decide_false, eq_self, BEq.rfl]; rfl) ?_
          refine WL.qq (by simp only [EN, Nat.reduceEqDiff, reduceIte, qv_pick, pk_and, pk_or, GR, decide_true, Bool.not_true, Bool.not_false, decide_false, eq_self, BEq.rfl]; rfl) ?_
          refine WL.qq (by simp only [EN, Nat.reduceEqDiff, reduceIte, qv_move, decide_true, Bool.not_true, Bool.not_false, decide_false, eq_self, BEq.rfl]; rfl) ?_
          refine WL.on (by rw [gOk_s (gd_at (t := 90) rfl (by simp only [EN, Nat.reduceEqDiff, reduceIte, decide_true, Bool.not_true, Bool.not_false, decide_false, eq_self, BEq.rfl] <;> rfl))]; rfl) ?_
          refine WL.qq (by simp only [EN, Nat.reduceEqDiff, reduceIte, qv_move, decide_true, Bool.not_true, Bool.not_false, decide_false, eq_self, BEq.rfl]; rfl) ?_
          refine WL.on (by rw [gOk_s (gd_at (t := 90) rfl (by simp only [EN, Nat.reduceEqDiff, reduceIte, k5_0, decide_true, Bool.not_true, Bool.not_false, decide_false, eq_self, BEq.rfl] <;> rfl))]; rfl) ?_
          refine WL.qq (by simp only [EN, Nat.reduceEqDiff, reduceIte, qv_move, k5_0, decide_true, Bool.not_true, Bool.not_false, decide_false, eq_self, BEq.rfl]; rfl) ?_
          refine WL.on (by rw [gOk_s (gd_at (t := 90) rfl (by simp only [EN, Nat.reduceEqDiff, reduceIte, decide_true, Bool.not_true, Bool.not_false, decide_false, eq_self, BEq.rfl] <;> rfl))]; rfl) ?_
          refine WL.cg Try.call33 (by simp only [EN, Nat.reduceEqDiff, reduceIte, AR, decide_true, Bool.not_true, Bool.not_false, decide_false, eq_self, BEq.rfl]; exact c_equalT (by omega) hS.g.f hI3.hr hS.I.hr) ?_
          intro h8 hx8
          replace hS := hS.ext hx8
          replace hS2 := hS2.ext hx8
          replace hI3 := hI3.ext hx8
          replace hE1 := hE1.ext hx8
          refine WL.on (by rw [gOk_s (gd_at (t := 90) rfl (by simp only [EN, Nat.reduceEqDiff, reduceIte, decide_true, Bool.not_true, Bool.not_false, decide_false, eq_self, BEq.rfl] <;> rfl))]; rfl) ?_
          refine WL.qq (by simp only [EN, Nat.reduceEqDiff, reduceIte, qv_unOp, unv_not, decide_true, Bool.not_true, Bool.not_false, decide_false, eq_self, BEq.rfl]; rfl) ?_
          refine WL.qq (by simp only [EN, Nat.reduceEqDiff, reduceIte, qv_pick, pk_and, pk_or, GR, decide_true, Bool.not_true, Bool.not_false, decide_false, eq_self, BEq.rfl]; rfl) ?_
          refine WL.qq (by simp only [EN, Nat.reduceEqDiff, reduceIte, qv_move, decide_true, Bool.not_true, Bool.not_false, decide_false, eq_self, BEq.rfl]; rfl) ?_
          refine WL.on (by rw [gOk_s (gd_at (t := 96) rfl (by simp only [EN, Nat.reduceEqDiff, reduceIte, k5_0, decide_true, Bool.not_true, Bool.not_false, decide_false, eq_self, BEq.rfl] <;> rfl))]; rfl) ?_
          refine WL.qq (by simp only [EN, Nat.reduceEqDiff, reduceIte, qv_move, k5_0, decide_true, Bool.not_true, Bool.not_false, decide_false, eq_self, BEq.rfl]; rfl) ?_
          refine WL.on (by rw [gOk_s (gd_at (t := 96) rfl (by simp only [EN, Nat.reduceEqDiff, reduceIte, decide_true, Bool.not_true, Bool.not_false, decide_false, eq_self, BEq.rfl] <;> rfl))]; rfl) ?_
          refine WL.cg Try.call33 (by simp only [EN, Nat.reduceEqDiff, reduceIte, AR, decide_true, Bool.not_true, Bool.not_false, decide_false, eq_self, BEq.rfl]; exact c_eqPN p) ?_
          intro h9 hx9
          replace hS := hS.ext hx9
          replace hS2 := hS2.ext hx9
          replace hI3 := hI3.ext hx9
          replace hE1 := hE1.ext hx9
          refine WL.qq (by simp only [EN, Nat.reduceEqDiff, reduceIte, qv_pick, pk_and, pk_or, GR, decide_true, Bool.not_true, Bool.not_false, decide_false, eq_self, BEq.rfl]; rfl) ?_
          refine WL.nil ?_
          refine th_norm ?_
          refine hx_cond (by simp only [EN, Nat.reduceEqDiff, reduceIte, decide_true, Bool.not_true, Bool.not_false, decide_false, eq_self, BEq.rfl]; rfl) (fun hct99 => ?_) (fun hct99 => ?_)
          ·
            simp at hct99
          ·
            try simp only [BD] at hct99
            refine hx_skip ?_
            refine th_norm ?_
            refine hx_seq ?_
            refine hx_seq ?_
            refine hx_region ?_
            refine WL.qq (by simp only [EN, Nat.reduceEqDiff, reduceIte, qv_assign, decide_true, Bool.not_true, Bool.not_false, decide_false, eq_self, BEq.rfl]; rfl) ?_
            refine WL.nil ?_
            refine th_norm ?_
            refine hx_block ?_
            refine hx_loopG [12, 13, 14, 15, 16, 100, 101, 102, 103, 104, 105, 106, 107, 108, 109, 110, 111, 112, 113, 114, 115, 116, 117, 118, 119, 120, 121, 122, 123, 124, 125, 126, 127, 128, 129, 130, 131, 132, 133, 134, 135, 136, 137, 138, 139, 140, 141, 142, 143, 144, 145, 146, 147] (fun k e hL1 => ∃ (i : Nat), xs.length + 1 - i = k ∧ (1 ≤ i ∧ i ≤ xs.length + 1) ∧ (Ext hL0 hL1) ∧ (HI hL0 hL1 (fun g => Array.size hL0 ≤ g) p3 l) ∧ e 12 = .int .i64 i) _ ⟨1, rfl, ?_, ?_, ?_, ?_⟩ ?_
            · omega
            · exact hE1
            · exact hI3
            · simp only [EN, Nat.reduceEqDiff, reduceIte, k5_0, k6_0, k7_0, k8_0, i10_0, i9_0, decide_true, Bool.not_true, Bool.not_false, decide_false, eq_self, BEq.rfl] <;> rfl
            ·
              rintro k e1L hL1 hfr1 ⟨i, rfl, hi, hE1, hI3, i12_1⟩
              have k5_1 := hfr1 5 rfl; try simp only [EN, Nat.reduceEqDiff, reduceIte, k5_0, decide_true, Bool.not_true, Bool.not_false, decide_false, eq_self, BEq.rfl] at k5_1
              have k6_1 := hfr1 6 rfl; try simp only [EN, Nat.reduceEqDiff, reduceIte, k6_0, decide_true, Bool.not_true, Bool.not_false, decide_false, eq_self, BEq.rfl] at k6_1
              have k11_1 := hfr1 11 rfl; try simp only [EN, Nat.reduceEqDiff, reduceIte, decide_true, Bool.not_true, Bool.not_false, decide_false, eq_self, BEq.rfl] at k11_1
              have hS := kS.ext hE1; have kE1 := hE1; have kI3 := hI3
              refine hx_seq ?_
              refine hx_seq ?_
              refine hx_region ?_
              refine WL.qq (by simp only [EN, Nat.reduceEqDiff, reduceIte, qv_move, i12_1, decide_true, Bool.not_true, Bool.not_false, decide_false, eq_self, BEq.rfl]; rfl) ?_
              refine WL.qq (by simp only [EN, Nat.reduceEqDiff, reduceIte, qv_move, k6_1, decide_true, Bool.not_true, Bool.not_false, decide_false, eq_self, BEq.rfl]; rfl) ?_
              refine WL.qq (by simp only [EN, Nat.reduceEqDiff, reduceIte, qv_len, ln22, AR, decide_true, Bool.not_true, Bool.not_false, decide_false, eq_self, BEq.rfl]; rfl) ?_
              refine WL.qq (by simp only [EN, Nat.reduceEqDiff, reduceIte, qv_binOp, binv_leq, decide_true, Bool.not_true, Bool.not_false, decide_false, eq_self, BEq.rfl]; rfl) ?_
              refine WL.nil ?_
              refine th_norm ?_
              refine hx_cond (by simp only [EN, Nat.reduceEqDiff, reduceIte, decide_true, Bool.not_true, Bool.not_false, decide_false, eq_self, BEq.rfl]; rfl) (fun hct103 => ?_) (fun hct103 => ?_)
              ·
                try simp only [BD] at hct103
                refine hx_skip ?_
                refine th_norm ?_
                refine hx_seq ?_
                refine hx_block ?_
                refine hx_seq ?_
                refine hx_region ?_
                refine WL.qq (by simp only [EN, Nat.reduceEqDiff, reduceIte, qv_move, k5_1, decide_true, Bool.not_true, Bool.not_false, decide_false, eq_self, BEq.rfl]; rfl) ?_
                refine WL.qq (by simp only [EN, Nat.reduceEqDiff, reduceIte, qv_move, i12_1, decide_true, Bool.not_true, Bool.not_false, decide_false, eq_self, BEq.rfl]; rfl) ?_
                refine WL.ce Try.call24 (by simp only [EN, Nat.reduceEqDiff, reduceIte, AR, decide_true, Bool.not_true, Bool.not_false, decide_false, eq_self, BEq.rfl]; exact c_at (i : Int) (by omega) (by omega) hS.g.f hS.I.hr) ?_
                rintro _ h10 ⟨hx10, y, rfl, hyb, hyr⟩
                replace hE1 := hE1.ext hx10
                replace hI3 := hI3.ext hx10
                replace hS := hS.ext hx10
                simp only [put_some]
                have hfy : FB y.bd := (by rw [hyb]; exact atB_fb hS.g.f _)
                have hyl1 := hfy.lens.1
                refine WL.qq (by simp only [EN, Nat.reduceEqDiff, reduceIte, qv_move, decide_true, Bool.not_true, Bool.not_false, decide_false, eq_self, BEq.rfl]; rfl) ?_
                refine WL.qq (by simp only [EN, Nat.reduceEqDiff, reduceIte, qv_extract, AR, decide_true, Bool.not_true, Bool.not_false, decide_false, eq_self, BEq.rfl]; rfl) ?_
                refine WL.qq (by simp only [EN, Nat.reduceEqDiff, reduceIte, qv_extract, AR, decide_true, Bool.not_true, Bool.not_false, decide_false, eq_self, BEq.rfl]; rfl) ?_
                refine WL.allocSt zr55 sz55 (fun u => by simp only [EN, Nat.reduceEqDiff, reduceIte, Value.cells, decide_true, Bool.not_true, Bool.not_false, decide_false, eq_self, BEq.rfl]; rfl) ⟨rfl, rfl⟩ (by simp [Value.oneCell']) ?_
                intro h11 B11 hx11 hlt11 hB11
                replace hE1 := hE1.ext hx11
                replace hI3 := hI3.ext hx11
                replace hS := hS.ext hx11
                replace hyr := hyr.ext hx11
                refine WL.qq (by simp only [EN, Nat.reduceEqDiff, reduceIte, qv_assign, decide_true, Bool.not_true, Bool.not_false, decide_false, eq_self, BEq.rfl, hB11.cell]; rfl) ?_
                refine WL.nil ?_
                refine th_norm ?_
                refine hx_seq ?_
                refine hx_region ?_
                refine WL.qq (by simp only [EN, Nat.reduceEqDiff, reduceIte, qv_assign, decide_true, Bool.not_true, Bool.not_false, decide_false, eq_self, BEq.rfl, hB11.cell]; rfl) ?_
                refine WL.nil ?_
                refine th_norm ?_
                refine hx_block ?_
                refine hx_loopG [15, 16, 112, 113, 114, 115, 116, 117, 118, 119, 120, 121, 122, 123, 124, 125, 126, 127, 128, 129, 130, 131, 132, 133, 134, 135, 136, 137, 138, 139, 140, 141, 142, 143, 144, 145, 146, 147] (fun k e hL2 => ∃ (j : Nat), y.ps.length - j = k ∧ (j ≤ y.ps.length) ∧ (Ext hL1 hL2) ∧ (Has hL2 B11 (.cells (bdL y).toArray tyB)) ∧ ((∃ M, MW (Array.size hL1) hL2 y.a M ∧ M.length = y.ps.length)) ∧ e 15 = .int .i64 j) _ ⟨0, rfl, ?_, ?_, ?_, ?_, ?_⟩ ?_
                · omega
                · exact ((hx10).trans (hx11))
                · exact hB11
                · exact ⟨_, hyr.mw hfy, rfl⟩
                · simp only [EN, Nat.reduceEqDiff, reduceIte, k5_1, k6_1, k11_1, i12_1, decide_true, Bool.not_true, Bool.not_false, decide_false, eq_self, BEq.rfl, hB11.cell] <;> rfl
                ·
                  rintro k e2L hL2 hfr2 ⟨j, rfl, hj, hE2, hB, hM, i15_2⟩
                  have k5_2 := hfr2 5 rfl; try simp only [EN, Nat.reduceEqDiff, reduceIte, k5_1, decide_true, Bool.not_true, Bool.not_false, decide_false, eq_self, BEq.rfl, hB11.cell] at k5_2
                  have k6_2 := hfr2 6 rfl; try simp only [EN, Nat.reduceEqDiff, reduceIte, k6_1, decide_true, Bool.not_true, Bool.not_false, decide_false, eq_self, BEq.rfl, hB11.cell] at k6_2
                  have k11_2 := hfr2 11 rfl; try simp only [EN, Nat.reduceEqDiff, reduceIte, k11_1, decide_true, Bool.not_true, Bool.not_false, decide_false, eq_self, BEq.rfl, hB11.cell] at k11_2
                  have k12_2 := hfr2 12 rfl; try simp only [EN, Nat.reduceEqDiff, reduceIte, i12_1, decide_true, Bool.not_true, Bool.not_false, decide_false, eq_self, BEq.rfl, hB11.cell] at k12_2
                  have k13_2 := hfr2 13 rfl; try simp only [EN, Nat.reduceEqDiff, reduceIte, decide_true, Bool.not_true, Bool.not_false, decide_false, eq_self, BEq.rfl, hB11.cell] at k13_2
                  refine hx_seq ?_
                  refine hx_seq ?_
                  refine hx_region ?_
                  refine WL.qq (by simp only [EN, Nat.reduceEqDiff, reduceIte, qv_move, i15_2, decide_true, Bool.not_true, Bool.not_false, decide_false, eq_self, BEq.rfl, hB11.cell, hB.cell]; rfl) ?_
                  refine WL.qq (by simp only [EN, Nat.reduceEqDiff, reduceIte, qv_fieldAddr, fa55_2, Nat.zero_add, Nat.reduceAdd, k13_2, decide_true, Bool.not_true, Bool.not_false, decide_false, eq_self, BEq.rfl, hB11.cell, hB.cell]; rfl) ?_
                  refine WL.qq (by simp only [EN, Nat.reduceEqDiff, reduceIte, qv_load, ld53, readN, AR, Nat.zero_add, Nat.reduceAdd, decide_true, Bool.not_true, Bool.not_false, decide_false, eq_self, BEq.rfl, hB11.cell, hB.cell]; rfl) ?_
                  refine WL.qq (by simp only [EN, Nat.reduceEqDiff, reduceIte, qv_len, ln53, AR, decide_true, Bool.not_true, Bool.not_false, decide_false, eq_self, BEq.rfl, hB11.cell, hB.cell]; rfl) ?_
                  refine WL.qq (by simp only [EN, Nat.reduceEqDiff, reduceIte, qv_binOp, binv_lss, decide_true, Bool.not_true, Bool.not_false, decide_false, eq_self, BEq.rfl, hB11.cell, hB.cell]; rfl) ?_
                  refine WL.nil ?_
                  refine th_norm ?_
                  refine hx_cond (by simp only [EN, Nat.reduceEqDiff, reduceIte, decide_true, Bool.not_true, Bool.not_false, decide_false, eq_self, BEq.rfl, hB11.cell, hB.cell]; rfl) (fun hct116 => ?_) (fun hct116 => ?_)
                  ·
                    try simp only [BD] at hct116
                    obtain ⟨M, hMw, hMl⟩ := hM
                    obtain ⟨q, hq⟩ := atG (l := M) (i := j) (by omega)
                    obtain ⟨b1, o1, cur, ha1, hN1, hc1, hz1, hh1, hput⟩ := hMw.setR hq; have hql1 := hMw.lim q (List.mem_of_getElem? hq)
                    refine hx_skip ?_
                    refine th_norm ?_
                    refine hx_seq ?_
                    refine hx_block ?_
                    refine hx_seq ?_
                    refine hx_region ?_
                    refine WL.qq (by simp only [EN, Nat.reduceEqDiff, reduceIte, qv_fieldAddr, fa55_2, Nat.zero_add, Nat.reduceAdd, k13_2, decide_true, Bool.not_true, Bool.not_false, decide_false, eq_self, BEq.rfl, hB11.cell, hB.cell]; rfl) ?_
                    refine WL.qq (by simp only [EN, Nat.reduceEqDiff, reduceIte, qv_load, ld53, readN, AR, Nat.zero_add, Nat.reduceAdd, decide_true, Bool.not_true, Bool.not_false, decide_false, eq_self, BEq.rfl, hB11.cell, hB.cell]; rfl) ?_
                    refine WL.qq (by simp only [EN, Nat.reduceEqDiff, reduceIte, qv_move, i15_2, decide_true, Bool.not_true, Bool.not_false, decide_false, eq_self, BEq.rfl, hB11.cell, hB.cell]; rfl) ?_
                    refine WL.qq (by simp only [EN, Nat.reduceEqDiff, reduceIte, qv_indexAddr, decide_true, Bool.not_true, Bool.not_false, decide_false, eq_self, BEq.rfl, hB11.cell, hB.cell, ha1]; (try simp (disch := omega) only [ix53, Int.toNat_natCast]); rfl) ?_
                    refine WL.qq (by simp only [EN, Nat.reduceEqDiff, reduceIte, qv_fieldAddr, fa72_0, Nat.zero_add, Nat.reduceAdd, decide_true, Bool.not_true, Bool.not_false, decide_false, eq_self, BEq.rfl, hB11.cell, hB.cell]; rfl) ?_
                    refine WL.store (off := o1 + j * 2) (by simp only [EN, Nat.reduceEqDiff, reduceIte, k5_2, k6_2, k11_2, k12_2, k13_2, i15_2, decide_true, Bool.not_true, Bool.not_false, decide_false, eq_self, BEq.rfl, hB11.cell, hB.cell, Int.toNat_natCast] <;> rfl) sz9 (by simp only [EN, Nat.reduceEqDiff, reduceIte, k5_2, k6_2, k11_2, k12_2, k13_2, i15_2, decide_true, Bool.not_true, Bool.not_false, decide_false, eq_self, BEq.rfl, hB11.cell, hB.cell, Value.cells] <;> rfl) rfl hc1 hz1 (by simp [Value.oneCell']) ?_
                    intro h60 hw60
                    have hM2 := hput _ _ hw60
                    have hE3 := hw60.ext hE2 hN1
                    have hB2 := hB.wr hw60 (hB.ncell hc1 (by decide))
                    refine WL.nil ?_
                    refine th_norm ?_
                    refine hx_seq ?_
                    refine hx_region ?_
                    refine WL.qq (by simp only [EN, Nat.reduceEqDiff, reduceIte, qv_assign, decide_true, Bool.not_true, Bool.not_false, decide_false, eq_self, BEq.rfl, hB11.cell, hB.cell]; rfl) ?_
                    refine WL.nil ?_
                    refine th_norm ?_
                    refine hx_block ?_
                    refine hx_loopG [16, 124, 125, 126, 127, 128, 129, 130, 131, 132, 133, 134, 135, 136, 137, 138, 139, 140, 141, 142, 143, 144, 145, 146, 147] (fun k e hL3 => ∃ (k2 : Nat), q.ps.length - k2 = k ∧ (k2 ≤ q.ps.length) ∧ (Ext hL1 hL3) ∧ (Has hL3 B11 (.cells (bdL y).toArray tyB)) ∧ ((∃ M p', MW (Array.size hL1) hL3 y.a M ∧ M.length = y.ps.length ∧ M[j]? = some p' ∧ p'.a = q.a ∧ p'.ps.length = q.ps.length ∧ p'.c = q.c)) ∧ e 16 = .int .i64 k2) _ ⟨0, rfl, ?_, ?_, ?_, ?_, ?_⟩ ?_
                    · omega
                    · exact hE3
                    · exact hB2
                    · exact ⟨_, ⟨⟨#[99, 104, 97, 110, 103, 101, 100]⟩, q.a, q.ps, q.c⟩, hM2, by rw [List.length_set]; exact hMl, by rw [List.getElem?_set_self (by omega)], rfl, rfl, rfl⟩
                    · simp only [EN, Nat.reduceEqDiff, reduceIte, k5_2, k6_2, k11_2, k12_2, k13_2, i15_2, decide_true, Bool.not_true, Bool.not_false, decide_false, eq_self, BEq.rfl, hB11.cell, hB.cell] <;> rfl
                    ·
                      rintro k e3L hL3 hfr3 ⟨k2, rfl, hk2, hE2, hB, hM, i16_3⟩
                      have k5_3 := hfr3 5 rfl; try simp only [EN, Nat.reduceEqDiff, reduceIte, k5_2, decide_true, Bool.not_true, Bool.not_false, decide_false, eq_self, BEq.rfl, hB11.cell, hB.cell] at k5_3
                      have k6_3 := hfr3 6 rfl; try simp only [EN, Nat.reduceEqDiff, reduceIte, k6_2, decide_true, Bool.not_true, Bool.not_false, decide_false, eq_self, BEq.rfl, hB11.cell, hB.cell] at k6_3
                      have k11_3 := hfr3 11 rfl; try simp only [EN, Nat.reduceEqDiff, reduceIte, k11_2, decide_true, Bool.not_true, Bool.not_false, decide_false, eq_self, BEq.rfl, hB11.cell, hB.cell] at k11_3
                      have k12_3 := hfr3 12 rfl; try simp only [EN, Nat.reduceEqDiff, reduceIte, k12_2, decide_true, Bool.not_true, Bool.not_false, decide_false, eq_self, BEq.rfl, hB11.cell, hB.cell] at k12_3
                      have k13_3 := hfr3 13 rfl; try simp only [EN, Nat.reduceEqDiff, reduceIte, k13_2, decide_true, Bool.not_true, Bool.not_false, decide_false, eq_self, BEq.rfl, hB11.cell, hB.cell] at k13_3
                      have k15_3 := hfr3 15 rfl; try simp only [EN, Nat.reduceEqDiff, reduceIte, i15_2, decide_true, Bool.not_true, Bool.not_false, decide_false, eq_self, BEq.rfl, hB11.cell, hB.cell] at k15_3
                      obtain ⟨M3, q3, hM3, hl3, hq3, e1, e2, e3⟩ := hM
                      obtain ⟨b3, o3, cu3, ha3, _, _, _, hh3, _⟩ := hM3.setR hq3
                      rw [e1, e2, e3] at hh3
                      refine hx_seq ?_
                      refine hx_seq ?_
                      refine hx_region ?_
                      refine WL.qq (by simp only [EN, Nat.reduceEqDiff, reduceIte, qv_move, i16_3, decide_true, Bool.not_true, Bool.not_false, decide_false, eq_self, BEq.rfl, hB11.cell, hB.cell, hB.cell]; rfl) ?_
                      refine WL.qq (by simp only [EN, Nat.reduceEqDiff, reduceIte, qv_fieldAddr, fa55_2, Nat.zero_add, Nat.reduceAdd, k13_3, decide_true, Bool.not_true, Bool.not_false, decide_false, eq_self, BEq.rfl, hB11.cell, hB.cell, hB.cell]; rfl) ?_
                      refine WL.qq (by simp only [EN, Nat.reduceEqDiff, reduceIte, qv_load, ld53, readN, AR, Nat.zero_add, Nat.reduceAdd, decide_true, Bool.not_true, Bool.not_false, decide_false, eq_self, BEq.rfl, hB11.cell, hB.cell, hB.cell]; rfl) ?_
                      refine WL.qq (by simp only [EN, Nat.reduceEqDiff, reduceIte, qv_move, k15_3, decide_true, Bool.not_true, Bool.not_false, decide_false, eq_self, BEq.rfl, hB11.cell, hB.cell, hB.cell]; rfl) ?_
                      refine WL.qq (by simp only [EN, Nat.reduceEqDiff, reduceIte, qv_indexAddr, decide_true, Bool.not_true, Bool.not_false, decide_false, eq_self, BEq.rfl, hB11.cell, hB.cell, hB.cell, ha3]; (try simp (disch := omega) only [ix53, Int.toNat_natCast]); rfl) ?_
                      refine WL.qq (by simp only [EN, Nat.reduceEqDiff, reduceIte, qv_fieldAddr, fa72_1, Nat.zero_add, Nat.reduceAdd, decide_true, Bool.not_true, Bool.not_false, decide_false, eq_self, BEq.rfl, hB11.cell, hB.cell, hB.cell]; rfl) ?_
                      refine WL.qq (by simp only [EN, Nat.reduceEqDiff, reduceIte, k5_3, k6_3, k11_3, k12_3, k13_3, k15_3, i16_3, decide_true, Bool.not_true, Bool.not_false, decide_false, eq_self, BEq.rfl, hB11.cell, hB.cell, hB.cell, qv_load, ld70, Int.toNat_natCast, hh3]; rfl) ?_
                      refine WL.qq (by simp only [EN, Nat.reduceEqDiff, reduceIte, qv_len, ln70, AR, decide_true, Bool.not_true, Bool.not_false, decide_false, eq_self, BEq.rfl, hB11.cell, hB.cell, hB.cell]; rfl) ?_
                      refine WL.qq (by simp only [EN, Nat.reduceEqDiff, reduceIte, qv_binOp, binv_lss, decide_true, Bool.not_true, Bool.not_false, decide_false, eq_self, BEq.rfl, hB11.cell, hB.cell, hB.cell]; rfl) ?_
                      refine WL.nil ?_
                      refine th_norm ?_
                      refine hx_cond (by simp only [EN, Nat.reduceEqDiff, reduceIte, decide_true, Bool.not_true, Bool.not_false, decide_false, eq_self, BEq.rfl, hB11.cell, hB.cell, hB.cell]; rfl) (fun hct132 => ?_) (fun hct132 => ?_)
                      ·
                        try simp only [BD] at hct132
                        obtain ⟨b4, o4, g4, cu4, d4, ha4, hh4, hg4, hN4, hc4, hz4, hd4, hput4⟩ := hM3.setD hq3 (k := k2) (by omega)
                        rw [e1] at hg4; rw [Nat.zero_add] at hd4 hz4
                        refine hx_skip ?_
                        refine th_norm ?_
                        refine hx_seq ?_
                        refine hx_block ?_
                        refine hx_region ?_
                        refine WL.qq (by simp only [EN, Nat.reduceEqDiff, reduceIte, qv_fieldAddr, fa55_2, Nat.zero_add, Nat.reduceAdd, k13_3, decide_true, Bool.not_true, Bool.not_false, decide_false, eq_self, BEq.rfl, hB11.cell, hB.cell, hB.cell]; rfl) ?_
                        refine WL.qq (by simp only [EN, Nat.reduceEqDiff, reduceIte, qv_load, ld53, readN, AR, Nat.zero_add, Nat.reduceAdd, decide_true, Bool.not_true, Bool.not_false, decide_false, eq_self, BEq.rfl, hB11.cell, hB.cell, hB.cell]; rfl) ?_
                        refine WL.qq (by simp only [EN, Nat.reduceEqDiff, reduceIte, qv_move, k15_3, decide_true, Bool.not_true, Bool.not_false, decide_false, eq_self, BEq.rfl, hB11.cell, hB.cell, hB.cell]; rfl) ?_
                        refine WL.qq (by simp only [EN, Nat.reduceEqDiff, reduceIte, qv_indexAddr, decide_true, Bool.not_true, Bool.not_false, decide_false, eq_self, BEq.rfl, hB11.cell, hB.cell, hB.cell, ha3]; (try simp (disch := omega) only [ix53, Int.toNat_natCast]); rfl) ?_
                        refine WL.qq (by simp only [EN, Nat.reduceEqDiff, reduceIte, qv_fieldAddr, fa72_1, Nat.zero_add, Nat.reduceAdd, decide_true, Bool.not_true, Bool.not_false, decide_false, eq_self, BEq.rfl, hB11.cell, hB.cell, hB.cell]; rfl) ?_
                        refine WL.qq (by simp only [EN, Nat.reduceEqDiff, reduceIte, k5_3, k6_3, k11_3, k12_3, k13_3, k15_3, i16_3, decide_true, Bool.not_true, Bool.not_false, decide_false, eq_self, BEq.rfl, hB11.cell, hB.cell, hB.cell, qv_load, ld70, Int.toNat_natCast, hh3]; rfl) ?_
                        refine WL.qq (by simp only [EN, Nat.reduceEqDiff, reduceIte, qv_move, i16_3, decide_true, Bool.not_true, Bool.not_false, decide_false, eq_self, BEq.rfl, hB11.cell, hB.cell, hB.cell]; rfl) ?_
                        refine WL.qq (by simp only [EN, Nat.reduceEqDiff, reduceIte, qv_indexAddr, decide_true, Bool.not_true, Bool.not_false, decide_false, eq_self, BEq.rfl, hB11.cell, hB.cell, hB.cell, hg4]; (try simp (disch := omega) only [ix70, Int.toNat_natCast]); rfl) ?_
                        refine WL.qq (by simp only [EN, Nat.reduceEqDiff, reduceIte, qv_fieldAddr, fa74_1, Nat.zero_add, Nat.reduceAdd, decide_true, Bool.not_true, Bool.not_false, decide_false, eq_self, BEq.rfl, hB11.cell, hB.cell, hB.cell]; rfl) ?_
                        refine WL.qq (by simp only [EN, Nat.reduceEqDiff, reduceIte, k5_3, k6_3, k11_3, k12_3, k13_3, k15_3, i16_3, decide_true, Bool.not_true, Bool.not_false, decide_false, eq_self, BEq.rfl, hB11.cell, hB.cell, hB.cell, qv_load, ld2, Int.toNat_natCast, Nat.zero_add, hd4]; rfl) ?_
                        refine WL.qq (by simp only [EN, Nat.reduceEqDiff, reduceIte, qv_binOp, binv_add, decide_true, Bool.not_true, Bool.not_false, decide_false, eq_self, BEq.rfl, hB11.cell, hB.cell, hB.cell]; (try simp (disch := omega) only [w64, w8, wu64]); rfl) ?_
                        refine WL.qq (by simp only [EN, Nat.reduceEqDiff, reduceIte, qv_indexAddr, decide_true, Bool.not_true, Bool.not_false, decide_false, eq_self, BEq.rfl, hB11.cell, hB.cell, hB.cell, hg4]; (try simp (disch := omega) only [ix70, Int.toNat_natCast]); rfl) ?_
                        refine WL.qq (by simp only [EN, Nat.reduceEqDiff, reduceIte, qv_fieldAddr, fa74_1, Nat.zero_add, Nat.reduceAdd, decide_true, Bool.not_true, Bool.not_false, decide_false, eq_self, BEq.rfl, hB11.cell, hB.cell, hB.cell]; rfl) ?_
                        refine WL.store (off := k2 * 4 + 3) (by simp only [EN, Nat.reduceEqDiff, reduceIte, k5_3, k6_3, k11_3, k12_3, k13_3, k15_3, i16_3, decide_true, Bool.not_true, Bool.not_false, decide_false, eq_self, BEq.rfl, hB11.cell, hB.cell, hB.cell, Int.toNat_natCast, Nat.zero_add] <;> rfl) sz2 (by simp only [EN, Nat.reduceEqDiff, reduceIte, k5_3, k6_3, k11_3, k12_3, k13_3, k15_3, i16_3, decide_true, Bool.not_true, Bool.not_false, decide_false, eq_self, BEq.rfl, hB11.cell, hB.cell, hB.cell, Value.cells] <;> rfl) rfl hc4 hz4 (by simp [Value.oneCell']) ?_
                        intro h61 hw61
                        obtain ⟨M5, p5, hM5, hl5, hp5, e5, e6, e7⟩ := hput4 h61 _ (by rw [Nat.zero_add]; exact hw61)
                        have hE4 := hw61.ext hE2 hN4
                        have hB3 := hB.wr hw61 (hB.ncell hc4 (by decide))
                        refine WL.nil ?_
                        refine bl_norm ?_
                        refine th_norm ?_
                        refine hx_region ?_
                        refine WL.qq (by simp only [EN, Nat.reduceEqDiff, reduceIte, qv_move, i16_3, decide_true, Bool.not_true, Bool.not_false, decide_false, eq_self, BEq.rfl, hB11.cell, hB.cell, hB.cell]; rfl) ?_
                        refine WL.qq (by simp only [EN, Nat.reduceEqDiff, reduceIte, qv_binOp, binv_add, decide_true, Bool.not_true, Bool.not_false, decide_false, eq_self, BEq.rfl, hB11.cell, hB.cell, hB.cell]; (try simp (disch := omega) only [w64, w8, wu64]); rfl) ?_
                        refine WL.qq (by simp only [EN, Nat.reduceEqDiff, reduceIte, qv_assign, decide_true, Bool.not_true, Bool.not_false, decide_false, eq_self, BEq.rfl, hB11.cell, hB.cell, hB.cell]; rfl) ?_
                        refine WL.nil ?_
                        refine th_norm ?_
                        refine ⟨rfl, ?_, _, ?_, k2 + 1, rfl, ?_, ?_, ?_, ?_, ?_⟩  -- again 0 of loop 3
                        · (repeat (first | exact Fr.refl _ _ | refine Fr.set rfl ?_ | refine Fr.put rfl ?_ | with_reducible refine Fr.put0 ?_))
                        · omega
                        · omega
                        · exact hE4
                        · exact hB3
                        · exact ⟨M5, p5, hM5, by omega, hp5, e5.trans e1, e6.trans e2, e7.trans e3⟩
                        · simp only [EN, Nat.reduceEqDiff, reduceIte, k5_3, k6_3, k11_3, k12_3, k13_3, k15_3, i16_3, decide_true, Bool.not_true, Bool.not_false, decide_false, eq_self, BEq.rfl, hB11.cell, hB.cell, hB.cell] <;> first | rfl | (congr 1; omega)
                      ·
                        try simp only [BD] at hct132
                        refine hx_exit ?_
                        refine th_exit ?_
                        refine th_exit ?_
                        refine bl_hit ?_
                        refine bl_norm ?_
                        refine th_norm ?_
                        refine hx_region ?_
                        refine WL.qq (by simp only [EN, Nat.reduceEqDiff, reduceIte, qv_move, k15_3, decide_true, Bool.not_true, Bool.not_false, decide_false, eq_self, BEq.rfl, hB11.cell, hB.cell, hB.cell]; rfl) ?_
                        refine WL.qq (by simp only [EN, Nat.reduceEqDiff, reduceIte, qv_binOp, binv_add, decide_true, Bool.not_true, Bool.not_false, decide_false, eq_self, BEq.rfl, hB11.cell, hB.cell, hB.cell]; (try simp (disch := omega) only [w64, w8, wu64]); rfl) ?_
                        refine WL.qq (by simp only [EN, Nat.reduceEqDiff, reduceIte, qv_assign, decide_true, Bool.not_true, Bool.not_false, decide_false, eq_self, BEq.rfl, hB11.cell, hB.cell, hB.cell]; rfl) ?_
                        refine WL.nil ?_
                        refine th_norm ?_
                        refine ⟨rfl, ?_, _, ?_, j + 1, rfl, ?_, ?_, ?_, ?_, ?_⟩  -- again 0 of loop 2
                        · (repeat (first | exact Fr.refl _ _ | refine Fr.set rfl ?_ | refine Fr.put rfl ?_ | with_reducible refine Fr.put0 ?_ | refine Fr.trans ?_ (Fr.of hfr3 rfl)))
                        · omega
                        · omega
                        · exact hE2
                        · exact hB
                        · exact ⟨M3, hM3, hl3⟩
                        · simp only [EN, Nat.reduceEqDiff, reduceIte, k5_3, k6_3, k11_3, k12_3, k13_3, k15_3, i16_3, decide_true, Bool.not_true, Bool.not_false, decide_false, eq_self, BEq.rfl, hB11.cell, hB.cell, hB.cell] <;> first | rfl | (congr 1; omega)
                  ·
                    try simp only [BD] at hct116
                    refine hx_exit ?_
                    refine th_exit ?_
                    refine th_exit ?_
                    refine bl_hit ?_
                    refine bl_norm ?_
                    refine th_norm ?_
                    refine hx_region ?_
                    refine WL.qq (by simp only [EN, Nat.reduceEqDiff, reduceIte, qv_move, k12_2, decide_true, Bool.not_true, Bool.not_false, decide_false, eq_self, BEq.rfl, hB11.cell, hB.cell]; rfl) ?_
                    refine WL.qq (by simp only [EN, Nat.reduceEqDiff, reduceIte, qv_binOp, binv_add, decide_true, Bool.not_true, Bool.not_false, decide_false, eq_self, BEq.rfl, hB11.cell, hB.cell]; (try simp (disch := omega) only [w64, w8, wu64]); rfl) ?_
                    refine WL.qq (by simp only [EN, Nat.reduceEqDiff, reduceIte, qv_assign, decide_true, Bool.not_true, Bool.not_false, decide_false, eq_self, BEq.rfl, hB11.cell, hB.cell]; rfl) ?_
                    refine WL.nil ?_
                    refine th_norm ?_
                    refine ⟨rfl, ?_, _, ?_, i + 1, rfl, ?_, ?_, ?_, ?_⟩  -- again 0 of loop 1
                    · (repeat (first | exact Fr.refl _ _ | refine Fr.set rfl ?_ | refine Fr.put rfl ?_ | with_reducible refine Fr.put0 ?_ | refine Fr.trans ?_ (Fr.of hfr2 rfl)))
                    · omega
                    · omega
                    · exact kE1.trans hE2
                    · exact kI3.ext hE2
                    · simp only [EN, Nat.reduceEqDiff, reduceIte, k5_2, k6_2, k11_2, k12_2, k13_2, i15_2, decide_true, Bool.not_true, Bool.not_false, decide_false, eq_self, BEq.rfl, hB11.cell, hB.cell] <;> first | rfl | (congr 1; omega)
              ·
                try simp only [BD] at hct103
                refine hx_exit ?_
                refine th_exit ?_
                refine th_exit ?_
                refine bl_hit ?_
                refine th_norm ?_
                refine hx_seq ?_
                refine hx_region ?_
                refine WL.qq (by simp only [EN, Nat.reduceEqDiff, reduceIte, qv_move, k6_1, decide_true, Bool.not_true, Bool.not_false, decide_false, eq_self, BEq.rfl]; rfl) ?_
                refine WL.qq (by simp only [EN, Nat.reduceEqDiff, reduceIte, qv_len, ln22, AR, decide_true, Bool.not_true, Bool.not_false, decide_false, eq_self, BEq.rfl]; rfl) ?_
                refine WL.qq (by simp only [EN, Nat.reduceEqDiff, reduceIte, qv_binOp, binv_add, decide_true, Bool.not_true, Bool.not_false, decide_false, eq_self, BEq.rfl]; (try simp (disch := omega) only [w64, w8, wu64]); rfl) ?_
                refine WL.qq (by refine qv_bld (by simp only [EN, Nat.reduceEqDiff, reduceIte, AR, decide_true, Bool.not_true, Bool.not_false, decide_false, eq_self, BEq.rfl] <;> rfl) (by rw [bl24]; simp [Instr.fill, Value.cells]; rfl)) ?_
                refine WL.qq (by refine qv_bld (by simp only [EN, Nat.reduceEqDiff, reduceIte, AR, decide_true, Bool.not_true, Bool.not_false, decide_false, eq_self, BEq.rfl] <;> rfl) (by rw [bl76]; simp [Instr.fill, Value.cells]; rfl)) ?_
                refine WL.lit2 #[(.string ⟨#[]⟩), (.int .i64 0), (.string ⟨#[]⟩), (.int .i64 0)] Try.underlying77 sz76 zr76 (by decide) (by kernel_rfl) ⟨_, (by simp only [EN, Nat.reduceEqDiff, reduceIte, AR, decide_true, Bool.not_true, Bool.not_false, decide_false, eq_self, BEq.rfl]; simp [Instr.fill, Value.cells]; rfl), rfl⟩ ?_
                intro h12 B12 hx12 hlt12 hB12
                replace hE1 := hE1.ext hx12
                replace hI3 := hI3.ext hx12
                replace hS := hS.ext hx12
                refine WL.qq (by refine qv_bld (by simp only [EN, Nat.reduceEqDiff, reduceIte, AR, decide_true, Bool.not_true, Bool.not_false, decide_false, eq_self, BEq.rfl, hB12.cell] <;> rfl) (by rw [bl79]; simp [Instr.fill, Value.cells]; rfl)) ?_
                refine WL.lit2 #[(.string ⟨#[]⟩), (.slice none 0 0)] Try.underlying43 sz79 zr79 (by decide) (by kernel_rfl) ⟨_, (by simp only [EN, Nat.reduceEqDiff, reduceIte, AR, decide_true, Bool.not_true, Bool.not_false, decide_false, eq_self, BEq.rfl, hB12.cell]; simp [Instr.fill, Value.cells]; rfl), rfl⟩ ?_
                intro h13 B13 hx13 hlt13 hB13
                replace hE1 := hE1.ext hx13
                replace hI3 := hI3.ext hx13
                replace hS := hS.ext hx13
                replace hB12 := hB12.ext hx13
                refine WL.qq (by refine qv_bld (by simp only [EN, Nat.reduceEqDiff, reduceIte, AR, decide_true, Bool.not_true, Bool.not_false, decide_false, eq_self, BEq.rfl, hB12.cell, hB13.cell] <;> rfl) (by rw [bl45]; simp [Instr.fill, Value.cells]; rfl)) ?_
                refine WL.allocSt zr45 sz45 (fun u => by simp only [EN, Nat.reduceEqDiff, reduceIte, Value.cells, decide_true, Bool.not_true, Bool.not_false, decide_false, eq_self, BEq.rfl, hB12.cell, hB13.cell]; rfl) ⟨rfl, rfl⟩ (by simp [Value.oneCell']) ?_
                intro h14 B14 hx14 hlt14 hB14
                replace hE1 := hE1.ext hx14
                replace hI3 := hI3.ext hx14
                replace hS := hS.ext hx14
                replace hB12 := hB12.ext hx14
                replace hB13 := hB13.ext hx14
                refine WL.nil ?_
                refine th_norm ?_
                refine hx_seq ?_
                refine hx_region ?_
                refine WL.qq (by simp only [EN, Nat.reduceEqDiff, reduceIte, qv_load, ld45, readN, AR, Nat.zero_add, Nat.reduceAdd, decide_true, Bool.not_true, Bool.not_false, decide_false, eq_self, BEq.rfl, hB12.cell, hB13.cell, hB14.cell]; rfl) ?_
                have hI3b := hI3.lt; have kz28 := hI3.E.size
                refine WL.ce Try.call34 (by simp only [EN, Nat.reduceEqDiff, reduceIte, AR, decide_true, Bool.not_true, Bool.not_false, decide_false, eq_self, BEq.rfl, hB12.cell, hB13.cell, hB14.cell]; exact c_own (nX xs.length B12 B13) (FB.lens (x := nX xs.length B12 B13) (nB_fb _)) (nX_in hB12 hB13)) ?_
                rintro _ h15 ⟨hx15, y2, rfl, hyb2, hyr2⟩
                replace hE1 := hE1.ext hx15
                replace hI3 := hI3.ext hx15
                replace hS := hS.ext hx15
                replace hB12 := hB12.ext hx15
                replace hB13 := hB13.ext hx15
                replace hB14 := hB14.ext hx15
                simp only [put_some]
                replace hI3b := hI3b.ext hx15
                obtain ⟨v3, ys3, hp3c, ho3, _, _⟩ := hI3b.ex
                have hbl3 := ho3.block
                refine WL.allocSt zr55 sz55 (fun u => by simp only [EN, Nat.reduceEqDiff, reduceIte, Value.cells, decide_true, Bool.not_true, Bool.not_false, decide_false, eq_self, BEq.rfl, hB12.cell, hB13.cell, hB14.cell]; rfl) ⟨rfl, rfl⟩ (by simp [Value.oneCell']) ?_
                intro h16 B16 hx16 hlt16 hB16
                replace hE1 := hE1.ext hx16
                replace hS := hS.ext hx16
                replace hB12 := hB12.ext hx16
                replace hB13 := hB13.ext hx16
                replace hB14 := hB14.ext hx16
                replace hyr2 := hyr2.ext hx16
                replace hI3b := hI3b.ext hx16
                replace hp3c := hp3c.ext hx16
                refine WL.nil ?_
                refine th_norm ?_
                refine hx_seq ?_
                refine hx_seq ?_
                refine hx_region ?_
                refine WL.qq (by simp only [EN, Nat.reduceEqDiff, reduceIte, qv_move, k11_1, decide_true, Bool.not_true, Bool.not_false, decide_false, eq_self, BEq.rfl, hB12.cell, hB13.cell, hB14.cell, hB16.cell]; rfl) ?_
                refine WL.qq (by simp only [EN, Nat.reduceEqDiff, reduceIte, qv_load, ld55, readN, AR, Nat.zero_add, Nat.reduceAdd, decide_true, Bool.not_true, Bool.not_false, decide_false, eq_self, BEq.rfl, hB12.cell, hB13.cell, hB14.cell, hB16.cell]; rfl) ?_
                have hS29 := kS.ext hE1; have hyl2 : ∃ q2, y2.ps = [q2] ∧ q2.ps = nps := (by rw [nX_bd] at hyb2; have h9 : y2.ps.map PX.pt = [⟨sZ, nps⟩] := (congrArg HB.pts hyb2); obtain ⟨q2, hq2⟩ : ∃ q2, y2.ps = [q2] := List.length_eq_one_iff.1 (by have := congrArg List.length h9; simpa using this); rw [hq2] at h9; simp only [List.map_cons, List.map_nil, List.cons.injEq, and_true] at h9; exact ⟨q2, hq2, congrArg PT.ps h9⟩)
                have hyr29 := hyr2; have hB18a := hB16
                refine WL.ce Try.call35 (by simp only [EN, Nat.reduceEqDiff, reduceIte, k5_1, k6_1, k11_1, i12_1, decide_true, Bool.not_true, Bool.not_false, decide_false, eq_self, BEq.rfl, hB12.cell, hB13.cell, hB14.cell, hB16.cell, AR]; exact c_append y2 hS.g hI3b hyr2.in_ (by rw [hyb2, nX_bd]; exact nB_fb _)) ?_
                rintro v9 h70 ⟨hv9, hI4, hty, hfr⟩
                have e0 : bdE l (nB xs.length) = 0 := (by rw [hn12.1]; exact nB_ok hS.g.g)
                rw [hyb2, nX_bd] at hv9 hI4
                rw [e0] at hv9
                subst hv9
                rw [show stp l (nB xs.length) = l ++ [nB xs.length] from if_pos e0] at hI4
                simp only [put_some]
                have hE1 : Ext hL0 h70 := hI4.E
                have hB17 := hty.has hB14 (by decide) (by decide)
                have hBq := hty.has hB12 (by decide) (by decide)
                have hBp := hty.has hB13 (by decide) (by decide)
                have hyr2 : BXr _ h70 y2 := ⟨hty.sl hyr2.sl (by decide) (by decide), hyr2.f, fun q hq => ⟨hty.sl (hyr2.ps q hq).sl (by decide) (by decide), (hyr2.ps q hq).f, (hyr2.ps q hq).z⟩⟩
                have hB18 : Has h70 B16 _ := hfr _ _ hB16 (hB16.ncell hp3c (by decide)) (fun v hv hb9 => by have e8 := hv.un hp3c; cases e8; have := (hbl3 _ hb9).2; omega)
                refine WL.qq (by simp only [EN, Nat.reduceEqDiff, reduceIte, qv_binOp, binv_neq, eq32, Option.map_some, decide_true, Bool.not_true, Bool.not_false, decide_false, eq_self, BEq.rfl, hB12.cell, hB13.cell, hB14.cell, hB16.cell]; rfl) ?_
                refine WL.nil ?_
                refine th_norm ?_
                refine hx_cond (by simp only [EN, Nat.reduceEqDiff, reduceIte, decide_true, Bool.not_true, Bool.not_false, decide_false, eq_self, BEq.rfl, hB12.cell, hB13.cell, hB14.cell, hB16.cell]; rfl) (fun hct162 => ?_) (fun hct162 => ?_)
                ·
                  simp at hct162
                ·
                  try simp only [BD] at hct162
                  refine hx_skip ?_
                  refine th_norm ?_
                  refine hx_seq ?_
                  refine hx_region ?_
                  obtain ⟨q2, hq2, hq2n⟩ := hyl2
                  obtain ⟨b1, o1, g1, cu1, d1, ha1, hh1, hg1, hN1, hc1, hz1, hd1, hput1⟩ := (hyr2.mw (by rw [hyb2, nX_bd]; exact nB_fb _)).setD (j := 0) (k := 0) (p := q2) (by rw [hq2]; rfl) (by rw [hq2n]; decide)
                  have hl2 : y2.ps.length = 1 := (by rw [hq2]; rfl); have hl3 : q2.ps.length = 1 := (by rw [hq2n]; rfl)
                  refine WL.qq (by simp only [EN, Nat.reduceEqDiff, reduceIte, qv_fieldAddr, fa55_2, Nat.zero_add, Nat.reduceAdd, decide_true, Bool.not_true, Bool.not_false, decide_false, eq_self, BEq.rfl, hB12.cell, hB13.cell, hB14.cell, hB16.cell]; rfl) ?_
                  refine WL.qq (by simp only [EN, Nat.reduceEqDiff, reduceIte, qv_load, ld53, readN, AR, Nat.zero_add, Nat.reduceAdd, decide_true, Bool.not_true, Bool.not_false, decide_false, eq_self, BEq.rfl, hB12.cell, hB13.cell, hB14.cell, hB16.cell, hB18.cell]; rfl) ?_
                  refine WL.qq (by simp only [EN, Nat.reduceEqDiff, reduceIte, qv_indexAddr, decide_true, Bool.not_true, Bool.not_false, decide_false, eq_self, BEq.rfl, hB12.cell, hB13.cell, hB14.cell, hB16.cell, ha1, hl2]; (try simp (disch := omega) only [ix53, Int.toNat_natCast]); rfl) ?_
                  refine WL.qq (by simp only [EN, Nat.reduceEqDiff, reduceIte, qv_fieldAddr, fa72_1, Nat.zero_add, Nat.reduceAdd, decide_true, Bool.not_true, Bool.not_false, decide_false, eq_self, BEq.rfl, hB12.cell, hB13.cell, hB14.cell, hB16.cell]; rfl) ?_
                  refine WL.qq (by simp only [EN, Nat.reduceEqDiff, reduceIte, k5_1, k6_1, k11_1, i12_1, decide_true, Bool.not_true, Bool.not_false, decide_false, eq_self, BEq.rfl, hB12.cell, hB13.cell, hB14.cell, hB16.cell, qv_load, ld70, Int.toNat_zero, hh1]; rfl) ?_
                  refine WL.qq (by simp only [EN, Nat.reduceEqDiff, reduceIte, qv_indexAddr, decide_true, Bool.not_true, Bool.not_false, decide_false, eq_self, BEq.rfl, hB12.cell, hB13.cell, hB14.cell, hB16.cell, hg1, hl3]; (try simp (disch := omega) only [ix70, Int.toNat_natCast]); rfl) ?_
                  refine WL.qq (by simp only [EN, Nat.reduceEqDiff, reduceIte, qv_fieldAddr, fa74_1, Nat.zero_add, Nat.reduceAdd, decide_true, Bool.not_true, Bool.not_false, decide_false, eq_self, BEq.rfl, hB12.cell, hB13.cell, hB14.cell, hB16.cell]; rfl) ?_
                  refine WL.store (off := 3) (by simp only [EN, Nat.reduceEqDiff, reduceIte, k5_1, k6_1, k11_1, i12_1, decide_true, Bool.not_true, Bool.not_false, decide_false, eq_self, BEq.rfl, hB12.cell, hB13.cell, hB14.cell, hB16.cell, Int.toNat_natCast, Nat.zero_add] <;> rfl) sz2 (by simp only [EN, Nat.reduceEqDiff, reduceIte, k5_1, k6_1, k11_1, i12_1, decide_true, Bool.not_true, Bool.not_false, decide_false, eq_self, BEq.rfl, hB12.cell, hB13.cell, hB14.cell, hB16.cell, Value.cells] <;> rfl) rfl hc1 (by simpa using hz1) (by simp [Value.oneCell']) ?_
                  intro h71 hw71
                  have hg29 : g1 < Array.size h16 := (by obtain ⟨cu9, hcu9⟩ := (hyr29.ps q2 (by rw [hq2]; simp)).sl.ty g1 0 hg1; exact (Array.getElem?_eq_some_iff.1 hcu9).1)
                  have hI5 := hI4.wrF hw71 hc1 (by rintro (h9 | h9); (omega); omega) (by omega)
                  have hE1 : Ext hL0 h71 := hI5.E
                  replace hB17 := hB17.wr hw71 (hB17.ncell hc1 (by decide))
                  replace hBq := hBq.wr hw71 (hBq.ncell hc1 (by decide))
                  replace hBp := hBp.wr hw71 (hBp.ncell hc1 (by decide))
                  have hS := kS.ext hE1
                  have hnb := nX_in (n := xs.length) hBq hBp
                  refine WL.nil ?_
                  refine th_norm ?_
                  refine hx_seq ?_
                  refine hx_region ?_
                  have hfa : ∀ b ∈ l ++ [nB xs.length], FB b := (by intro b hb9; rcases List.mem_append.1 hb9 with h9 | h9; (exact hS.g.f b h9); (simp at h9; subst h9; exact nB_fb _))
                  have hat : atI (l ++ [nB xs.length]) ((xs.length : Int) + 1) = true := decide_eq_true (by rw [List.length_append, List.length_singleton]; omega)
                  have hatb : atB (l ++ [nB xs.length]) ((xs.length : Int) + 1) = nB xs.length := (by unfold atB; rw [if_pos (by rw [List.length_append, List.length_singleton]; omega), show ((xs.length : Int) + 1 - 1).toNat = l.length by omega, List.getElem?_append_right (Nat.le_refl _), Nat.sub_self]; rfl)
                  refine WL.qq (by simp only [EN, Nat.reduceEqDiff, reduceIte, qv_move, k11_1, decide_true, Bool.not_true, Bool.not_false, decide_false, eq_self, BEq.rfl, hB12.cell, hB13.cell, hB14.cell, hB16.cell]; rfl) ?_
                  refine WL.qq (by simp only [EN, Nat.reduceEqDiff, reduceIte, qv_move, k6_1, decide_true, Bool.not_true, Bool.not_false, decide_false, eq_self, BEq.rfl, hB12.cell, hB13.cell, hB14.cell, hB16.cell]; rfl) ?_
                  refine WL.qq (by simp only [EN, Nat.reduceEqDiff, reduceIte, qv_len, ln22, AR, decide_true, Bool.not_true, Bool.not_false, decide_false, eq_self, BEq.rfl, hB12.cell, hB13.cell, hB14.cell, hB16.cell]; rfl) ?_
                  refine WL.qq (by simp only [EN, Nat.reduceEqDiff, reduceIte, qv_binOp, binv_add, decide_true, Bool.not_true, Bool.not_false, decide_false, eq_self, BEq.rfl, hB12.cell, hB13.cell, hB14.cell, hB16.cell]; (try simp (disch := omega) only [w64, w8, wu64]); rfl) ?_
                  refine WL.ce Try.call24 (by simp only [EN, Nat.reduceEqDiff, reduceIte, AR, decide_true, Bool.not_true, Bool.not_false, decide_false, eq_self, BEq.rfl, hB12.cell, hB13.cell, hB14.cell, hB16.cell]; exact c_at ((xs.length : Int) + 1) (by omega) (by rw [List.length_append, List.length_singleton]; omega) hfa hI5.hr) ?_
                  rintro _ h17 ⟨hx17, y3, rfl, hyb3, hyr3⟩
                  replace hE1 := hE1.ext hx17
                  replace hB17 := hB17.ext hx17
                  replace hI5 := hI5.ext hx17
                  replace hS := hS.ext hx17
                  replace hnb := hnb.ext hx17
                  simp only [put_some]
                  rw [hat]
                  rw [hatb] at hyb3
                  refine WL.qq (by simp only [EN, Nat.reduceEqDiff, reduceIte, qv_move, decide_true, Bool.not_true, Bool.not_false, decide_false, eq_self, BEq.rfl, hB12.cell, hB13.cell, hB14.cell, hB16.cell]; rfl) ?_
                  refine WL.qq (by simp only [EN, Nat.reduceEqDiff, reduceIte, qv_extract, AR, decide_true, Bool.not_true, Bool.not_false, decide_false, eq_self, BEq.rfl, hB12.cell, hB13.cell, hB14.cell, hB16.cell]; rfl) ?_
                  refine WL.qq (by simp only [EN, Nat.reduceEqDiff, reduceIte, qv_extract, AR, decide_true, Bool.not_true, Bool.not_false, decide_false, eq_self, BEq.rfl, hB12.cell, hB13.cell, hB14.cell, hB16.cell]; rfl) ?_
                  refine WL.allocSt zr55 sz55 (fun u => by simp only [EN, Nat.reduceEqDiff, reduceIte, Value.cells, decide_true, Bool.not_true, Bool.not_false, decide_false, eq_self, BEq.rfl, hB12.cell, hB13.cell, hB14.cell, hB16.cell]; rfl) ⟨rfl, rfl⟩ (by simp [Value.oneCell']) ?_
                  intro h18 B18 hx18 hlt18 hB18
                  replace hE1 := hE1.ext hx18
                  replace hB17 := hB17.ext hx18
                  replace hI5 := hI5.ext hx18
                  replace hS := hS.ext hx18
                  replace hnb := hnb.ext hx18
                  replace hyr3 := hyr3.ext hx18
                  refine WL.qq (by simp only [EN, Nat.reduceEqDiff, reduceIte, qv_assign, decide_true, Bool.not_true, Bool.not_false, decide_false, eq_self, BEq.rfl, hB12.cell, hB13.cell, hB14.cell, hB16.cell, hB18.cell]; rfl) ?_
                  refine WL.nil ?_
                  refine th_norm ?_
                  refine hx_seq ?_
                  refine hx_seq ?_
                  apply hx_draw2 Rel.grows [] [4, 6, 11, 19] [(4, (Spec.bk y3.bd)), (6, (Spec.is (.bool true))), (11, Spec.is _), (19, Spec.is _)] rfl (by decide +kernel) rfl
                  have hfy3 : FB y3.bd := (by rw [hyb3]; exact nB_fb _); have hd14 : decide ((l.length : Int) = (xs.length : Int)) = true := decide_eq_true (by omega)
                  refine LD.qq rfl rfl (by simp only [EN, Nat.reduceEqDiff, reduceIte, qv_move, decide_true, Bool.not_true, Bool.not_false, decide_false, eq_self, BEq.rfl, hB12.cell, hB13.cell, hB14.cell, hB16.cell, hB18.cell]; rfl) ?_
                  refine LD.qq rfl rfl (by simp only [EN, Nat.reduceEqDiff, reduceIte, qv_unOp, unv_not, decide_true, Bool.not_true, Bool.not_false, decide_false, eq_self, BEq.rfl, hB12.cell, hB13.cell, hB14.cell, hB16.cell, hB18.cell]; rfl) ?_
                  refine LD.qq rfl rfl (by simp only [EN, Nat.reduceEqDiff, reduceIte, qv_move, decide_true, Bool.not_true, Bool.not_false, decide_false, eq_self, BEq.rfl, hB12.cell, hB13.cell, hB14.cell, hB16.cell, hB18.cell]; rfl) ?_
                  refine LD.on (by rw [gOk_s (gd_at (t := 180) rfl (by simp only [EN, Nat.reduceEqDiff, reduceIte, decide_true, Bool.not_true, Bool.not_false, decide_false, eq_self, BEq.rfl, hB12.cell, hB13.cell, hB14.cell, hB16.cell, hB18.cell] <;> rfl))]; rfl) ?_
                  refine LD.qq rfl rfl (by simp only [EN, Nat.reduceEqDiff, reduceIte, qv_load, ld55, readN, AR, Nat.zero_add, Nat.reduceAdd, decide_true, Bool.not_true, Bool.not_false, decide_false, eq_self, BEq.rfl, hB12.cell, hB13.cell, hB14.cell, hB16.cell, hB18.cell]; rfl) ?_
                  refine LD.on (by rw [gOk_s (gd_at (t := 180) rfl (by simp only [EN, Nat.reduceEqDiff, reduceIte, decide_true, Bool.not_true, Bool.not_false, decide_false, eq_self, BEq.rfl, hB12.cell, hB13.cell, hB14.cell, hB16.cell, hB18.cell] <;> rfl))]; rfl) ?_
                  refine LD.es rfl rfl (by intro hD hr hf; have hx : Ext _ _ := hr; have hE1 := hE1.ext hx; have hB17 := hB17.ext hx; have hI5 := hI5.ext hx; have hS := hS.ext hx; have hnb := hnb.ext hx; have hyr3 := hyr3.ext hx; have hB18 := hB18.ext hx; exact EOp.mono (e_call Try.call26 (by simp only [EN, Nat.reduceEqDiff, reduceIte, k5_1, k6_1, k11_1, i12_1, decide_true, Bool.not_true, Bool.not_false, decide_false, eq_self, BEq.rfl, hB12.cell, hB13.cell, hB14.cell, hB16.cell, hB18.cell, List.map_toArray, List.map_cons, List.map_nil]; exact c_back y3 hfy3.lens hyr3.in_)) (fun _ _ hh => bk_of hh)) ?_
                  intro u33_4 w33_4
                  refine LD.on (by rw [gOk_s (gd_at (t := 180) rfl (by simp only [EN, Nat.reduceEqDiff, reduceIte, decide_true, Bool.not_true, Bool.not_false, decide_false, eq_self, BEq.rfl, hB12.cell, hB13.cell, hB14.cell, hB16.cell, hB18.cell] <;> rfl))]; rfl) ?_
                  refine LD.qq rfl rfl (by simp only [EN, Nat.reduceEqDiff, reduceIte, qv_load, ld45, readN, AR, Nat.zero_add, Nat.reduceAdd, decide_true, Bool.not_true, Bool.not_false, decide_false, eq_self, BEq.rfl, hB12.cell, hB13.cell, hB14.cell, hB16.cell, hB18.cell, hB17.cell]; rfl) ?_
                  refine LD.on (by rw [gOk_s (gd_at (t := 180) rfl (by simp only [EN, Nat.reduceEqDiff, reduceIte, decide_true, Bool.not_true, Bool.not_false, decide_false, eq_self, BEq.rfl, hB12.cell, hB13.cell, hB14.cell, hB16.cell, hB18.cell] <;> rfl))]; rfl) ?_
                  refine LD.es rfl rfl (by intro hD hr hf; have hx : Ext _ _ := hr; have hE1 := hE1.ext hx; have hB17 := hB17.ext hx; have hI5 := hI5.ext hx; have hS := hS.ext hx; have hnb := hnb.ext hx; have hyr3 := hyr3.ext hx; have hB18 := hB18.ext hx; have m3 := hf (4, u33_4) (by simp) (by show tb _ _ 4 = true; decide +kernel) _ rfl; exact EOp.mono (e_call Try.call25 (by simp only [EN, Nat.reduceEqDiff, reduceIte, k5_1, k6_1, k11_1, i12_1, decide_true, Bool.not_true, Bool.not_false, decide_false, eq_self, BEq.rfl, hB12.cell, hB13.cell, hB14.cell, hB16.cell, hB18.cell, List.map_toArray, List.map_cons, List.map_nil]; exact c_sameB hfy3 m3 (nX xs.length B12 B13) hnb (r := true) (by rw [hyb3, nX_bd]; simp))) (fun _ _ hh => grow_is hh)) ?_
                  intro u33_6 w33_6
                  have hu11 : u33_6 = _ := w33_6
                  subst hu11
                  refine LD.on (by rw [gOk_s (gd_at (t := 180) rfl (by simp only [EN, Nat.reduceEqDiff, reduceIte, decide_true, Bool.not_true, Bool.not_false, decide_false, eq_self, BEq.rfl, hB12.cell, hB13.cell, hB14.cell, hB16.cell, hB18.cell] <;> rfl))]; rfl) ?_
                  refine LD.qq rfl rfl (by simp only [EN, Nat.reduceEqDiff, reduceIte, qv_unOp, unv_not, decide_true, Bool.not_true, Bool.not_false, decide_false, eq_self, BEq.rfl, hB12.cell, hB13.cell, hB14.cell, hB16.cell, hB18.cell]; rfl) ?_
                  refine LD.qq rfl rfl (by simp only [EN, Nat.reduceEqDiff, reduceIte, qv_pick, pk_and, pk_or, GR, decide_true, Bool.not_true, Bool.not_false, decide_false, eq_self, BEq.rfl, hB12.cell, hB13.cell, hB14.cell, hB16.cell, hB18.cell]; rfl) ?_
                  refine LD.qq rfl rfl (by simp only [EN, Nat.reduceEqDiff, reduceIte, qv_move, decide_true, Bool.not_true, Bool.not_false, decide_false, eq_self, BEq.rfl, hB12.cell, hB13.cell, hB14.cell, hB16.cell, hB18.cell]; rfl) ?_
                  refine LD.on (by rw [gOk_s (gd_at (t := 187) rfl (by simp only [EN, Nat.reduceEqDiff, reduceIte, k5_1, decide_true, Bool.not_true, Bool.not_false, decide_false, eq_self, BEq.rfl, hB12.cell, hB13.cell, hB14.cell, hB16.cell, hB18.cell] <;> rfl))]; rfl) ?_
                  refine LD.qq rfl rfl (by simp only [EN, Nat.reduceEqDiff, reduceIte, qv_move, k5_1, decide_true, Bool.not_true, Bool.not_false, decide_false, eq_self, BEq.rfl, hB12.cell, hB13.cell, hB14.cell, hB16.cell, hB18.cell]; rfl) ?_
                  refine LD.on (by rw [gOk_s (gd_at (t := 187) rfl (by simp only [EN, Nat.reduceEqDiff, reduceIte, decide_true, Bool.not_true, Bool.not_false, decide_false, eq_self, BEq.rfl, hB12.cell, hB13.cell, hB14.cell, hB16.cell, hB18.cell] <;> rfl))]; rfl) ?_
                  refine LD.ck rfl rfl Try.call23 (by intro hD hr; have hx : Ext _ _ := hr; have hE1 := hE1.ext hx; have hB17 := hB17.ext hx; have hI5 := hI5.ext hx; have hS := hS.ext hx; have hnb := hnb.ext hx; have hyr3 := hyr3.ext hx; have hB18 := hB18.ext hx; simp only [EN, Nat.reduceEqDiff, reduceIte, AR, decide_true, Bool.not_true, Bool.not_false, decide_false, eq_self, BEq.rfl, hB12.cell, hB13.cell, hB14.cell, hB16.cell, hB18.cell]; exact (c_len hS.I.hr).grow) ?_
                  refine LD.on (by rw [gOk_s (gd_at (t := 187) rfl (by simp only [EN, Nat.reduceEqDiff, reduceIte, k6_1, decide_true, Bool.not_true, Bool.not_false, decide_false, eq_self, BEq.rfl, hB12.cell, hB13.cell, hB14.cell, hB16.cell, hB18.cell] <;> rfl))]; rfl) ?_
                  refine LD.qq rfl rfl (by simp only [EN, Nat.reduceEqDiff, reduceIte, qv_move, k6_1, decide_true, Bool.not_true, Bool.not_false, decide_false, eq_self, BEq.rfl, hB12.cell, hB13.cell, hB14.cell, hB16.cell, hB18.cell]; rfl) ?_
                  refine LD.on (by rw [gOk_s (gd_at (t := 187) rfl (by simp only [EN, Nat.reduceEqDiff, reduceIte, decide_true, Bool.not_true, Bool.not_false, decide_false, eq_self, BEq.rfl, hB12.cell, hB13.cell, hB14.cell, hB16.cell, hB18.cell] <;> rfl))]; rfl) ?_
                  refine LD.qq rfl rfl (by simp only [EN, Nat.reduceEqDiff, reduceIte, qv_len, ln22, AR, decide_true, Bool.not_true, Bool.not_false, decide_false, eq_self, BEq.rfl, hB12.cell, hB13.cell, hB14.cell, hB16.cell, hB18.cell]; rfl) ?_
                  refine LD.on (by rw [gOk_s (gd_at (t := 187) rfl (by simp only [EN, Nat.reduceEqDiff, reduceIte, decide_true, Bool.not_true, Bool.not_false, decide_false, eq_self, BEq.rfl, hB12.cell, hB13.cell, hB14.cell, hB16.cell, hB18.cell] <;> rfl))]; rfl) ?_
                  refine LD.qq rfl rfl (by simp only [EN, Nat.reduceEqDiff, reduceIte, qv_binOp, binv_neq, eq3, Option.map_some, decide_true, Bool.not_true, Bool.not_false, decide_false, eq_self, BEq.rfl, hB12.cell, hB13.cell, hB14.cell, hB16.cell, hB18.cell, hd14]; rfl) ?_
                  refine LD.qq rfl rfl (by simp only [EN, Nat.reduceEqDiff, reduceIte, qv_pick, pk_and, pk_or, GR, decide_true, Bool.not_true, Bool.not_false, decide_false, eq_self, BEq.rfl, hB12.cell, hB13.cell, hB14.cell, hB16.cell, hB18.cell]; rfl) ?_
                  refine LD.qq rfl rfl (by simp only [EN, Nat.reduceEqDiff, reduceIte, qv_move, decide_true, Bool.not_true, Bool.not_false, decide_false, eq_self, BEq.rfl, hB12.cell, hB13.cell, hB14.cell, hB16.cell, hB18.cell]; rfl) ?_
                  refine LD.on (by rw [gOk_s (gd_at (t := 194) rfl (by simp only [EN, Nat.reduceEqDiff, reduceIte, k11_1, decide_true, Bool.not_true, Bool.not_false, decide_false, eq_self, BEq.rfl, hB12.cell, hB13.cell, hB14.cell, hB16.cell, hB18.cell] <;> rfl))]; rfl) ?_
                  refine LD.qq rfl rfl (by simp only [EN, Nat.reduceEqDiff, reduceIte, qv_move, k11_1, decide_true, Bool.not_true, Bool.not_false, decide_false, eq_self, BEq.rfl, hB12.cell, hB13.cell, hB14.cell, hB16.cell, hB18.cell]; rfl) ?_
                  refine LD.on (by rw [gOk_s (gd_at (t := 194) rfl (by simp only [EN, Nat.reduceEqDiff, reduceIte, k5_1, decide_true, Bool.not_true, Bool.not_false, decide_false, eq_self, BEq.rfl, hB12.cell, hB13.cell, hB14.cell, hB16.cell, hB18.cell] <;> rfl))]; rfl) ?_
                  refine LD.qq rfl rfl (by simp only [EN, Nat.reduceEqDiff, reduceIte, qv_move, k5_1, decide_true, Bool.not_true, Bool.not_false, decide_false, eq_self, BEq.rfl, hB12.cell, hB13.cell, hB14.cell, hB16.cell, hB18.cell]; rfl) ?_
                  refine LD.on (by rw [gOk_s (gd_at (t := 194) rfl (by simp only [EN, Nat.reduceEqDiff, reduceIte, decide_true, Bool.not_true, Bool.not_false, decide_false, eq_self, BEq.rfl, hB12.cell, hB13.cell, hB14.cell, hB16.cell, hB18.cell] <;> rfl))]; rfl) ?_
                  refine LD.ck rfl rfl Try.call33 (by intro hD hr; have hx : Ext _ _ := hr; have hE1 := hE1.ext hx; have hB17 := hB17.ext hx; have hI5 := hI5.ext hx; have hS := hS.ext hx; have hnb := hnb.ext hx; have hyr3 := hyr3.ext hx; have hB18 := hB18.ext hx; simp only [EN, Nat.reduceEqDiff, reduceIte, AR, decide_true, Bool.not_true, Bool.not_false, decide_false, eq_self, BEq.rfl, hB12.cell, hB13.cell, hB14.cell, hB16.cell, hB18.cell]; exact c_equalF (nB xs.length) (by omega) hfa hI5.hr hS.I.hr) ?_
                  refine LD.qq rfl rfl (by simp only [EN, Nat.reduceEqDiff, reduceIte, qv_pick, pk_and, pk_or, GR, decide_true, Bool.not_true, Bool.not_false, decide_false, eq_self, BEq.rfl, hB12.cell, hB13.cell, hB14.cell, hB16.cell, hB18.cell]; rfl) ?_
                  refine LD.nil ?_
                  rintro h19 hx19 hF33
                  replace hx19 : Ext _ _ := hx19
                  replace hE1 := hE1.ext hx19
                  replace hB17 := hB17.ext hx19
                  replace hI5 := hI5.ext hx19
                  replace hS := hS.ext hx19
                  replace hnb := hnb.ext hx19
                  replace hyr3 := hyr3.ext hx19
                  replace hB18 := hB18.ext hx19
                  refine WL.nil ?_
                  refine th_norm ?_
                  refine hx_cond (by simp only [EN, Nat.reduceEqDiff, reduceIte, decide_true, Bool.not_true, Bool.not_false, decide_false, eq_self, BEq.rfl, hB12.cell, hB13.cell, hB14.cell, hB16.cell, hB18.cell]; rfl) (fun hct198 => ?_) (fun hct198 => ?_)
                  ·
                    simp at hct198
                  ·
                    try simp only [BD] at hct198
                    refine hx_skip ?_
                    refine th_norm ?_
                    refine hx_seq ?_
                    refine hx_seq ?_
                    refine hx_region ?_
                    refine WL.qq (by simp only [EN, Nat.reduceEqDiff, reduceIte, qv_assign, decide_true, Bool.not_true, Bool.not_false, decide_false, eq_self, BEq.rfl, hB12.cell, hB13.cell, hB14.cell, hB16.cell, hB18.cell]; rfl) ?_
                    refine WL.nil ?_
                    refine th_norm ?_
                    refine hx_block ?_
                    refine hx_loopX [4, 21, 22, 23, 199, 200, 201, 202, 203, 204, 205, 206, 207, 208, 209, 210, 211, 212, 213, 214, 215, 216, 217, 218, 219] (fun k e => ∃ (i : Nat), xs.length - i = k ∧ (i ≤ xs.length) ∧ e 21 = .int .i64 i) _ ⟨0, rfl, ?_, ?_⟩ ?_
                    · omega
                    · simp only [EN, Nat.reduceEqDiff, reduceIte, k5_1, k6_1, k11_1, i12_1, decide_true, Bool.not_true, Bool.not_false, decide_false, eq_self, BEq.rfl, hB12.cell, hB13.cell, hB14.cell, hB16.cell, hB18.cell] <;> rfl
                    ·
                      rintro k e4L hL4 hX4 hfr4 ⟨i, rfl, hi, i21_4⟩
                      replace hE1 := hE1.ext hX4
                      replace hB17 := hB17.ext hX4
                      replace hI5 := hI5.ext hX4
                      replace hS := hS.ext hX4
                      replace hnb := hnb.ext hX4
                      replace hyr3 := hyr3.ext hX4
                      replace hB18 := hB18.ext hX4
                      have k5_4 := hfr4 5 rfl; try simp only [EN, Nat.reduceEqDiff, reduceIte, k5_1, decide_true, Bool.not_true, Bool.not_false, decide_false, eq_self, BEq.rfl, hB12.cell, hB13.cell, hB14.cell, hB16.cell, hB18.cell] at k5_4
                      have k6_4 := hfr4 6 rfl; try simp only [EN, Nat.reduceEqDiff, reduceIte, k6_1, decide_true, Bool.not_true, Bool.not_false, decide_false, eq_self, BEq.rfl, hB12.cell, hB13.cell, hB14.cell, hB16.cell, hB18.cell] at k6_4
                      refine hx_seq ?_
                      refine hx_seq ?_
                      refine hx_region ?_
                      refine WL.qq (by simp only [EN, Nat.reduceEqDiff, reduceIte, qv_move, i21_4, decide_true, Bool.not_true, Bool.not_false, decide_false, eq_self, BEq.rfl, hB12.cell, hB13.cell, hB14.cell, hB16.cell, hB18.cell]; rfl) ?_
                      refine WL.qq (by simp only [EN, Nat.reduceEqDiff, reduceIte, qv_move, k6_4, decide_true, Bool.not_true, Bool.not_false, decide_false, eq_self, BEq.rfl, hB12.cell, hB13.cell, hB14.cell, hB16.cell, hB18.cell]; rfl) ?_
                      refine WL.qq (by simp only [EN, Nat.reduceEqDiff, reduceIte, qv_len, ln22, AR, decide_true, Bool.not_true, Bool.not_false, decide_false, eq_self, BEq.rfl, hB12.cell, hB13.cell, hB14.cell, hB16.cell, hB18.cell]; rfl) ?_
                      refine WL.qq (by simp only [EN, Nat.reduceEqDiff, reduceIte, qv_binOp, binv_lss, decide_true, Bool.not_true, Bool.not_false, decide_false, eq_self, BEq.rfl, hB12.cell, hB13.cell, hB14.cell, hB16.cell, hB18.cell]; rfl) ?_
                      refine WL.nil ?_
                      refine th_norm ?_
                      refine hx_cond (by simp only [EN, Nat.reduceEqDiff, reduceIte, decide_true, Bool.not_true, Bool.not_false, decide_false, eq_self, BEq.rfl, hB12.cell, hB13.cell, hB14.cell, hB16.cell, hB18.cell]; rfl) (fun hct202 => ?_) (fun hct202 => ?_)
                      ·
                        try simp only [BD] at hct202
                        obtain ⟨x, hx⟩ := atG (l := xs) (i := i) (by omega)
                        have hlb : l[i]? = some x.bd := (by rw [← hS.m]; exact bd_at hx)
                        have hab : atB l ((i : Int) + 1) = x.bd := (by unfold atB; rw [if_pos (by omega), show ((i : Int) + 1 - 1).toNat = i by omega, hlb]; rfl)
                        refine hx_skip ?_
                        refine th_norm ?_
                        refine hx_seq ?_
                        refine hx_block ?_
                        refine hx_seq ?_
                        refine hx_region ?_
                        refine WL.qq (by simp only [EN, Nat.reduceEqDiff, reduceIte, qv_move, k5_4, decide_true, Bool.not_true, Bool.not_false, decide_false, eq_self, BEq.rfl, hB12.cell, hB13.cell, hB14.cell, hB16.cell, hB18.cell]; rfl) ?_
                        refine WL.qq (by simp only [EN, Nat.reduceEqDiff, reduceIte, qv_move, i21_4, decide_true, Bool.not_true, Bool.not_false, decide_false, eq_self, BEq.rfl, hB12.cell, hB13.cell, hB14.cell, hB16.cell, hB18.cell]; rfl) ?_
                        refine WL.qq (by simp only [EN, Nat.reduceEqDiff, reduceIte, qv_binOp, binv_add, decide_true, Bool.not_true, Bool.not_false, decide_false, eq_self, BEq.rfl, hB12.cell, hB13.cell, hB14.cell, hB16.cell, hB18.cell]; (try simp (disch := omega) only [w64, w8, wu64]); rfl) ?_
                        refine WL.ce Try.call24 (by simp only [EN, Nat.reduceEqDiff, reduceIte, AR, decide_true, Bool.not_true, Bool.not_false, decide_false, eq_self, BEq.rfl, hB12.cell, hB13.cell, hB14.cell, hB16.cell, hB18.cell]; exact c_at ((i : Int) + 1) (by omega) (by omega) hS.g.f hS.I.hr) ?_
                        rintro _ h20 ⟨hx20, y4, rfl, hyb4, hyr4⟩
                        replace hE1 := hE1.ext hx20
                        replace hB17 := hB17.ext hx20
                        replace hI5 := hI5.ext hx20
                        replace hS := hS.ext hx20
                        replace hnb := hnb.ext hx20
                        replace hyr3 := hyr3.ext hx20
                        replace hB18 := hB18.ext hx20
                        simp only [put_some]
                        rw [hab] at hyb4
                        refine WL.qq (by simp only [EN, Nat.reduceEqDiff, reduceIte, qv_move, decide_true, Bool.not_true, Bool.not_false, decide_false, eq_self, BEq.rfl, hB12.cell, hB13.cell, hB14.cell, hB16.cell, hB18.cell]; rfl) ?_
                        refine WL.qq (by simp only [EN, Nat.reduceEqDiff, reduceIte, qv_extract, AR, decide_true, Bool.not_true, Bool.not_false, decide_false, eq_self, BEq.rfl, hB12.cell, hB13.cell, hB14.cell, hB16.cell, hB18.cell]; rfl) ?_
                        refine WL.qq (by simp only [EN, Nat.reduceEqDiff, reduceIte, qv_extract, AR, decide_true, Bool.not_true, Bool.not_false, decide_false, eq_self, BEq.rfl, hB12.cell, hB13.cell, hB14.cell, hB16.cell, hB18.cell]; rfl) ?_
                        refine WL.allocSt zr55 sz55 (fun u => by simp only [EN, Nat.reduceEqDiff, reduceIte, Value.cells, decide_true, Bool.not_true, Bool.not_false, decide_false, eq_self, BEq.rfl, hB12.cell, hB13.cell, hB14.cell, hB16.cell, hB18.cell]; rfl) ⟨rfl, rfl⟩ (by simp [Value.oneCell']) ?_
                        intro h21 B21 hx21 hlt21 hB21
                        replace hE1 := hE1.ext hx21
                        replace hB17 := hB17.ext hx21
                        replace hI5 := hI5.ext hx21
                        replace hS := hS.ext hx21
                        replace hnb := hnb.ext hx21
                        replace hyr3 := hyr3.ext hx21
                        replace hB18 := hB18.ext hx21
                        replace hyr4 := hyr4.ext hx21
                        refine WL.qq (by simp only [EN, Nat.reduceEqDiff, reduceIte, qv_assign, decide_true, Bool.not_true, Bool.not_false, decide_false, eq_self, BEq.rfl, hB12.cell, hB13.cell, hB14.cell, hB16.cell, hB18.cell, hB21.cell]; rfl) ?_
                        refine WL.nil ?_
                        refine th_norm ?_
                        refine hx_seq ?_
                        apply hx_draw2 Rel.grows [] [1, 6] [(1, (Spec.bk y4.bd)), (6, (Spec.is (.bool true)))] rfl (by decide +kernel) rfl
                        have hfy4 : FB y4.bd := (by rw [hyb4]; exact hS.fb x (List.mem_of_getElem? hx)); obtain ⟨b1, o1, ha1, hr1, _⟩ := bd_rd hS.sl hx; have hxi := hS.bx x (List.mem_of_getElem? hx)
                        refine LD.qq rfl rfl (by simp only [EN, Nat.reduceEqDiff, reduceIte, qv_load, ld55, readN, AR, Nat.zero_add, Nat.reduceAdd, decide_true, Bool.not_true, Bool.not_false, decide_false, eq_self, BEq.rfl, hB12.cell, hB13.cell, hB14.cell, hB16.cell, hB18.cell, hB21.cell]; rfl) ?_
                        refine LD.es rfl rfl (by intro hD hr hf; have hx : Ext _ _ := hr; have hE1 := hE1.ext hx; have hB17 := hB17.ext hx; have hI5 := hI5.ext hx; have hS := hS.ext hx; have hnb := hnb.ext hx; have hyr3 := hyr3.ext hx; have hB18 := hB18.ext hx; have hyr4 := hyr4.ext hx; have hB21 := hB21.ext hx; exact EOp.mono (e_call Try.call26 (by simp only [EN, Nat.reduceEqDiff, reduceIte, k5_4, k6_4, i21_4, decide_true, Bool.not_true, Bool.not_false, decide_false, eq_self, BEq.rfl, hB12.cell, hB13.cell, hB14.cell, hB16.cell, hB18.cell, hB21.cell, List.map_toArray, List.map_cons, List.map_nil]; exact c_back y4 hfy4.lens hyr4.in_)) (fun _ _ hh => bk_of hh)) ?_
                        intro u39_1 w39_1
                        refine LD.qq rfl rfl (by simp only [EN, Nat.reduceEqDiff, reduceIte, qv_move, k6_4, decide_true, Bool.not_true, Bool.not_false, decide_false, eq_self, BEq.rfl, hB12.cell, hB13.cell, hB14.cell, hB16.cell, hB18.cell, hB21.cell]; rfl) ?_
                        refine LD.qq rfl rfl (by simp only [EN, Nat.reduceEqDiff, reduceIte, qv_move, i21_4, decide_true, Bool.not_true, Bool.not_false, decide_false, eq_self, BEq.rfl, hB12.cell, hB13.cell, hB14.cell, hB16.cell, hB18.cell, hB21.cell]; rfl) ?_
                        refine LD.qq rfl rfl (by simp only [EN, Nat.reduceEqDiff, reduceIte, qv_indexAddr, decide_true, Bool.not_true, Bool.not_false, decide_false, eq_self, BEq.rfl, hB12.cell, hB13.cell, hB14.cell, hB16.cell, hB18.cell, hB21.cell, ha1]; (try simp (disch := omega) only [ix22, Int.toNat_natCast]); rfl) ?_
                        refine LD.qq rfl rfl (by simp only [EN, Nat.reduceEqDiff, reduceIte, k5_4, k6_4, i21_4, decide_true, Bool.not_true, Bool.not_false, decide_false, eq_self, BEq.rfl, hB12.cell, hB13.cell, hB14.cell, hB16.cell, hB18.cell, hB21.cell, qv_load, ld45, Int.toNat_natCast, hr1]; rfl) ?_
                        refine LD.es rfl rfl (by intro hD hr hf; have hx : Ext _ _ := hr; have hE1 := hE1.ext hx; have hB17 := hB17.ext hx; have hI5 := hI5.ext hx; have hS := hS.ext hx; have hnb := hnb.ext hx; have hyr3 := hyr3.ext hx; have hB18 := hB18.ext hx; have hyr4 := hyr4.ext hx; have hB21 := hB21.ext hx; have m3 := hf (1, u39_1) (by simp) (by show tb _ _ 1 = true; decide +kernel) _ rfl; have hxi := hxi.ext hx; exact EOp.mono (e_call Try.call25 (by simp only [EN, Nat.reduceEqDiff, reduceIte, k5_4, k6_4, i21_4, decide_true, Bool.not_true, Bool.not_false, decide_false, eq_self, BEq.rfl, hB12.cell, hB13.cell, hB14.cell, hB16.cell, hB18.cell, hB21.cell, List.map_toArray, List.map_cons, List.map_nil]; exact c_sameB hfy4 m3 x hxi (r := true) (by simp [hyb4]))) (fun _ _ hh => grow_is hh)) ?_
                        intro u39_6 w39_6
                        have hu11 : u39_6 = _ := w39_6
                        subst hu11
                        refine LD.qq rfl rfl (by simp only [EN, Nat.reduceEqDiff, reduceIte, qv_unOp, unv_not, decide_true, Bool.not_true, Bool.not_false, decide_false, eq_self, BEq.rfl, hB12.cell, hB13.cell, hB14.cell, hB16.cell, hB18.cell, hB21.cell]; rfl) ?_
                        refine LD.nil ?_
                        rintro h22 hx22 hF39
                        replace hx22 : Ext _ _ := hx22
                        replace hE1 := hE1.ext hx22
                        replace hB17 := hB17.ext hx22
                        replace hI5 := hI5.ext hx22
                        replace hS := hS.ext hx22
                        replace hnb := hnb.ext hx22
                        replace hyr3 := hyr3.ext hx22
                        replace hB18 := hB18.ext hx22
                        replace hyr4 := hyr4.ext hx22
                        replace hB21 := hB21.ext hx22
                        refine WL.nil ?_
                        refine th_norm ?_
                        refine hx_cond (by simp only [EN, Nat.reduceEqDiff, reduceIte, decide_true, Bool.not_true, Bool.not_false, decide_false, eq_self, BEq.rfl, hB12.cell, hB13.cell, hB14.cell, hB16.cell, hB18.cell, hB21.cell]; rfl) (fun hct219 => ?_) (fun hct219 => ?_)
                        ·
                          simp at hct219
                        ·
                          try simp only [BD] at hct219
                          refine hx_skip ?_
                          refine bl_norm ?_
                          refine th_norm ?_
                          refine hx_region ?_
                          refine WL.qq (by simp only [EN, Nat.reduceEqDiff, reduceIte, qv_move, i21_4, decide_true, Bool.not_true, Bool.not_false, decide_false, eq_self, BEq.rfl, hB12.cell, hB13.cell, hB14.cell, hB16.cell, hB18.cell, hB21.cell]; rfl) ?_
                          refine WL.qq (by simp only [EN, Nat.reduceEqDiff, reduceIte, qv_binOp, binv_add, decide_true, Bool.not_true, Bool.not_false, decide_false, eq_self, BEq.rfl, hB12.cell, hB13.cell, hB14.cell, hB16.cell, hB18.cell, hB21.cell]; (try simp (disch := omega) only [w64, w8, wu64]); rfl) ?_
                          refine WL.qq (by simp only [EN, Nat.reduceEqDiff, reduceIte, qv_assign, decide_true, Bool.not_true, Bool.not_false, decide_false, eq_self, BEq.rfl, hB12.cell, hB13.cell, hB14.cell, hB16.cell, hB18.cell, hB21.cell]; rfl) ?_
                          refine WL.nil ?_
                          refine th_norm ?_
                          refine ⟨rfl, ?_, ?_, _, ?_, i + 1, rfl, ?_, ?_⟩  -- again 0 of loop 4
                          · exact (hx20).trans ((hx21).trans (hx22))
                          · (repeat (first | exact Fr.refl _ _ | refine Fr.set rfl ?_ | refine Fr.put rfl ?_ | with_reducible refine Fr.put0 ?_))
                          · omega
                          · omega
                          · simp only [EN, Nat.reduceEqDiff, reduceIte, k5_4, k6_4, i21_4, decide_true, Bool.not_true, Bool.not_false, decide_false, eq_self, BEq.rfl, hB12.cell, hB13.cell, hB14.cell, hB16.cell, hB18.cell, hB21.cell] <;> first | rfl | (congr 1; omega)
                      ·
                        try simp only [BD] at hct202
                        refine hx_exit ?_
                        refine th_exit ?_
                        refine th_exit ?_
                        refine bl_hit ?_
                        refine th_norm ?_
                        refine hx_seq ?_
                        refine hx_region ?_
                        refine WL.cg Try.call13 (by simp only [EN, Nat.reduceEqDiff, reduceIte, AR, decide_true, Bool.not_true, Bool.not_false, decide_false, eq_self, BEq.rfl, hB12.cell, hB13.cell, hB14.cell, hB16.cell, hB18.cell]; exact c_known14 _) ?_
                        intro h23 hx23
                        replace hE1 := hE1.ext hx23
                        replace hB17 := hB17.ext hx23
                        replace hI5 := hI5.ext hx23
                        replace hS := hS.ext hx23
                        replace hnb := hnb.ext hx23
                        replace hyr3 := hyr3.ext hx23
                        replace hB18 := hB18.ext hx23
                        refine WL.qq (by simp only [EN, Nat.reduceEqDiff, reduceIte, qv_assign, decide_true, Bool.not_true, Bool.not_false, decide_false, eq_self, BEq.rfl, hB12.cell, hB13.cell, hB14.cell, hB16.cell, hB18.cell]; rfl) ?_
                        refine WL.nil ?_
                        refine th_norm ?_
                        refine hx_ret ?_
                        refine fin_ret [.tmp 4] rfl rfl (by simp only [EN, Nat.reduceEqDiff, reduceIte, resv, k5_4, k6_4, i21_4, decide_true, Bool.not_true, Bool.not_false, decide_false, eq_self, BEq.rfl, hB12.cell, hB13.cell, hB14.cell, hB16.cell, hB18.cell]; rfl) ?_  -- ret 1 r41
                        exact ⟨rfl, hXC.trans hE1⟩
end GL
namespace Go.Proofs.Ytklhfckdifkpaaa.historyClones
open Go.ChangeShapes Go.WideShapes Go.ChangeAt Go.RowKit
theorem own : ownKnob Try.prog.godebug = none := by kernel_rfl
theorem laid : laidOutB Try.prog = true := by kernel_rfl
set_option maxRecDepth 100000 in
theorem lifted (os : Os) (started : os.Started) (H : Type) (enc : TypeId × Value → H) :
    ReturnsInHanded {} Try.checked os 8 .any (Rows.historyClonesSpec.pre6 enc Try.prog Try.f8 Rows.historyClonesRow.domain false) (Rows.historyClonesSpec.post enc Try.prog Try.f8 false true false false) := by
  refine returnsInHanded_of_change (C := Try.checked) own started (by kernel_rfl) Try.func8
    (ChangeSpec.witness6 (enc := enc) (C := Try.checked) false ⟨#[], #[(.slice none 0 0), (.slice none 0 0)], []⟩ 8 (by kernel_rfl) (by kernel_rfl) (by kernel_rfl) (by kernel_rfl)) ?_
  intro W base args ds gs before hval0 hW hcnd _
  have hval : ∀ (j : Nat) t v, Try.f8.params[j]? = some t → args[j]? = some v → Value.okWide Try.prog W .any base t v := hval0
  have hW' := hW
  obtain ⟨p, q, hA0, hV, rfl, hfz, hnd⟩ := hW
  have hA : DataW.TrodAll enc Try.prog W 0 (fun _ => true) true Try.f8.params.toList args.toList ds p := hA0
  rw [Try.params8] at hA hval
  obtain ⟨v0, vs0, d0, ds0, p0, q0, hargs, rfl, rfl, h0, r0⟩ := trodAll_cons hA
  obtain ⟨v1, vs1, d1, ds1, p1, q1, rfl, rfl, rfl, h1, r1⟩ := trodAll_cons r0
  obtain ⟨rfl, rfl, rfl⟩ := trodAll_nil r1
  obtain rfl : args = #[v0, v1] := by cases args; simp_all
  obtain ⟨rfl, rfl⟩ := trodVars_none hV
  obtain ⟨al, l, cl, rfl, hl, hb, hll⟩ := GL.view_bs (hval 0 22 v0 rfl rfl) h0
  obtain ⟨am, m, cm, rfl, hm, hbm, hmm⟩ := GL.view_bs (hval 1 22 v1 rfl rfl) h1
  exact GL.law_done (tb := 4) laid (by kernel_rfl) rfl (by kernel_rfl) Try.underlying4 hW' rfl (GL.l_clone al l cl am m cm hl hb hll hm hbm hmm)
theorem over : Rows.historyClonesRow.holds Try.pinned (OpenSpec.ofChange Rows.historyClonesSpec) :=
  OpenClaim.holds_of_wide 8 Try.f8 rfl rfl rfl rfl rfl rfl rfl ⟨rfl, rfl, rfl, rfl, rfl⟩ rfl rfl rfl rfl rfl (by kernel_rfl) Try.func8 (by kernel_rfl)
    (of_decide_eq_true (by kernel_rfl)) (by unfold Func.isWrapper; first | (rw [if_pos (by decide +kernel)]; kernel_rfl) | (rw [if_neg (by decide +kernel)]; exact ⟨rfl, rfl⟩))
    (fun os started H enc _ => lifted os started H enc)
theorem proved : Rows.HistoryClonesSaid := over
end Go.Proofs.Ytklhfckdifkpaaa.historyClones


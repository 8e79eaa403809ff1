/- History: postings, parts, bundles; sums; the check of a bundle. No program in sight. -/
import Derived.Test.YtklhfckdifkpaaaGl31
set_option linter.unusedSimpArgs false
set_option linter.unusedVariables false
set_option linter.unnecessarySimpa false
namespace GL
open Go Go.Proofs
set_option maxRecDepth 8000
structure AC where
  o : ByteArray
  k : Int
  a : ByteArray
deriving DecidableEq
structure PO where
  c : AC
  d : Int
deriving DecidableEq
structure PT where
  r : ByteArray
  ps : List PO
deriving DecidableEq
structure HB where
  s : Int
  day : Int
  mn : Int
  pts : List PT
deriving DecidableEq
/-- Parts and bundles with the places of their rows. -/
structure PX where
  r : ByteArray
  a : Option Addr
  ps : List PO
  c : Nat
structure BX where
  s : Int
  day : Int
  mn : Int
  a : Option Addr
  ps : List PX
  c : Nat
abbrev iV (n : Int) : Value := .int .i64 n
abbrev acL (x : AC) : List Value := [.string x.o, iV x.k, .string x.a]
abbrev acV (x : AC) : Value := .agg #[.string x.o, iV x.k, .string x.a]
abbrev poL (x : PO) : List Value := [.string x.c.o, iV x.c.k, .string x.c.a, iV x.d]
abbrev ptL (x : PX) : List Value := [.string x.r, .slice x.a x.ps.length x.c]
abbrev bdL (x : BX) : List Value := [iV x.s, iV x.day, iV x.mn, .slice x.a x.ps.length x.c]
def PX.pt (x : PX) : PT := ⟨x.r, x.ps⟩
def BX.bd (x : BX) : HB := ⟨x.s, x.day, x.mn, x.ps.map PX.pt⟩
def PXin (h : Heap) (x : PX) : Prop := SlG 4 poL h x.a x.ps
def BXin (h : Heap) (x : BX) : Prop := SlG 2 ptL h x.a x.ps ∧ ∀ p ∈ x.ps, PXin h p
theorem PXin.ext {h h' : Heap} {x : PX} (hp : PXin h x) (hx : Ext h h') : PXin h' x := SlG.ext hp hx
theorem BXin.ext {h h' : Heap} {x : BX} (hp : BXin h x) (hx : Ext h h') : BXin h' x := ⟨hp.1.ext hx, fun p hq => (hp.2 p hq).ext hx⟩
theorem ac_eq {a b : AC} : a = b ↔ a.o = b.o ∧ a.k = b.k ∧ a.a = b.a := by
  cases a; cases b; simp
theorem po_rd {h : Heap} {a : Option Addr} {L : List PO} {i : Nat} {x : PO} (hs : SlG 4 poL h a L) (hx : L[i]? = some x) :
    ∃ b off, a = some ⟨b, off, none⟩ ∧ GL.readN h b (off + i * 4) 4 = some (poL x) ∧ GL.readN h b (off + i * 4) 3 = some (acL x.c) ∧
      GL.cell h b (off + i * 4) = some (.string x.c.o) ∧ GL.cell h b (off + i * 4 + 1) = some (iV x.c.k) ∧ GL.cell h b (off + i * 4 + 2) = some (.string x.c.a) ∧ GL.cell h b (off + i * 4 + 3) = some (iV x.d) := by
  obtain ⟨b, off, ha, hr⟩ := hs i x hx
  have h0 := readN_cell hr 0 _ rfl
  have h1 := readN_cell hr 1 _ rfl
  have h2 := readN_cell hr 2 _ rfl
  have h3 := readN_cell hr 3 _ rfl
  rw [Nat.add_zero] at h0
  refine ⟨b, off, ha, hr, ?_, h0, h1, h2, h3⟩
  have h1' : GL.cell h b (off + i * 4 + 1) = some (iV x.c.k) := h1
  have h2' : GL.cell h b (off + i * 4 + 1 + 1) = some (.string x.c.a) := h2
  simp only [GL.readN, h0, h1', h2']
theorem pt_rd {h : Heap} {a : Option Addr} {L : List PX} {i : Nat} {x : PX} (hs : SlG 2 ptL h a L) (hx : L[i]? = some x) :
    ∃ b off, a = some ⟨b, off, none⟩ ∧ GL.readN h b (off + i * 2) 2 = some (ptL x) ∧ GL.cell h b (off + i * 2) = some (.string x.r) ∧ GL.cell h b (off + i * 2 + 1) = some (.slice x.a x.ps.length x.c) := by
  obtain ⟨b, off, ha, hr⟩ := hs i x hx
  have h0 := readN_cell hr 0 _ rfl
  have h1 := readN_cell hr 1 _ rfl
  rw [Nat.add_zero] at h0
  exact ⟨b, off, ha, hr, h0, h1⟩
theorem bd_rd {h : Heap} {a : Option Addr} {L : List BX} {i : Nat} {x : BX} (hs : SlG 4 bdL h a L) (hx : L[i]? = some x) :
    ∃ b off, a = some ⟨b, off, none⟩ ∧ GL.readN h b (off + i * 4) 4 = some (bdL x) ∧ GL.cell h b (off + i * 4) = some (iV x.s) ∧ GL.cell h b (off + i * 4 + 1) = some (iV x.day) ∧ GL.cell h b (off + i * 4 + 2) = some (iV x.mn) ∧
      GL.cell h b (off + i * 4 + 3) = some (.slice x.a x.ps.length x.c) ∧ GL.readN h b (off + i * 4 + 1) 2 = some [iV x.day, iV x.mn] := by
  obtain ⟨b, off, ha, hr⟩ := hs i x hx
  have h0 := readN_cell hr 0 _ rfl
  have h1 := readN_cell hr 1 _ rfl
  have h2 := readN_cell hr 2 _ rfl
  have h3 := readN_cell hr 3 _ rfl
  rw [Nat.add_zero] at h0
  refine ⟨b, off, ha, hr, h0, h1, h2, h3, ?_⟩
  have h1' : GL.cell h b (off + i * 4 + 1) = some (iV x.day) := h1
  have h2' : GL.cell h b (off + i * 4 + 1 + 1) = some (iV x.mn) := h2
  simp only [GL.readN, h1', h2']
/-! Sums. -/
def pos (b : HB) : List PO := b.pts.flatMap PT.ps
def allP (l : List HB) : List PO := l.flatMap pos
def dS (q : AC) (l : List PO) : Int := sumF (fun x => if x.c = q then x.d else 0) l
def aS (q : ByteArray) (l : List PO) : Int := sumF (fun x => if x.c.a = q then x.d else 0) l
abbrev MA : Int := 1000000000000000
def inR (n : Int) : Prop := -MA ≤ n ∧ n ≤ MA
instance (n : Int) : Decidable (inR n) := inferInstanceAs (Decidable (_ ∧ _))
theorem allP_app (l m : List HB) : allP (l ++ m) = allP l ++ allP m := List.flatMap_append
theorem allP_one (b : HB) : allP [b] = pos b := by simp [allP]
theorem dS_app (q : AC) (l m : List PO) : dS q (l ++ m) = dS q l + dS q m := sumF_app l m
theorem aS_app (q : ByteArray) (l m : List PO) : aS q (l ++ m) = aS q l + aS q m := sumF_app l m
theorem dS_nil (q : AC) : dS q [] = 0 := rfl
theorem aS_nil (q : ByteArray) : aS q [] = 0 := rfl
theorem dS_one (q : AC) (x : PO) : dS q [x] = if x.c = q then x.d else 0 := by simp [dS, sumF]
theorem aS_one (q : ByteArray) (x : PO) : aS q [x] = if x.c.a = q then x.d else 0 := by simp [aS, sumF]
theorem dS_bd (q : AC) {l : List PO} (h : ∀ x ∈ l, inR x.d) : -(l.length * MA) ≤ dS q l ∧ dS q l ≤ l.length * MA := by
  refine sumF_bound fun x hx => ?_
  have := h x hx
  simp only [inR, MA] at this ⊢
  split <;> omega
theorem aS_bd (q : ByteArray) {l : List PO} (h : ∀ x ∈ l, inR x.d) : -(l.length * MA) ≤ aS q l ∧ aS q l ≤ l.length * MA := by
  refine sumF_bound fun x hx => ?_
  have := h x hx
  simp only [inR, MA] at this ⊢
  split <;> omega
/-! The check of a bundle. -/
def bal (l : List PO) : Prop := ∀ x ∈ l, aS x.c.a l = 0
instance (l : List PO) : Decidable (bal l) := inferInstanceAs (Decidable (∀ x ∈ l, _))
def ptE (p : PT) : Int := if 64 < p.r.size then 5 else if p.ps = [] then 1 else if ¬ (∀ x ∈ p.ps, inR x.d) then 2 else if ¬ bal p.ps then 14 else 0
def fstE : List Int → Int
  | [] => 0
  | e :: l => if e = 0 then fstE l else e
def ltr (d m d2 m2 : Int) : Prop := d < d2 ∨ d = d2 ∧ m < m2
instance (d m d2 m2 : Int) : Decidable (ltr d m d2 m2) := inferInstanceAs (Decidable (_ ∨ _))
def lateB (l : List HB) (b : HB) : Bool := match l.getLast? with
  | some y => decide (ltr b.day b.mn y.day y.mn)
  | none => false
def ovf (l : List HB) (b : HB) : Prop := ¬ ∀ x ∈ pos b, inR (dS x.c (allP (l ++ [b])))
instance (l : List HB) (b : HB) : Decidable (ovf l b) := inferInstanceAs (Decidable (¬ _))
def bdE (l : List HB) (b : HB) : Int :=
  if b.s ≠ l.length + 1 then 23 else if b.day < 0 ∨ 73048 < b.day ∨ b.mn < 0 ∨ 1439 < b.mn then 2 else if lateB l b = true then 20 else
  if b.pts = [] then 1 else if fstE (b.pts.map ptE) ≠ 0 then fstE (b.pts.map ptE) else if ovf l b then 12 else 0
def stp (l : List HB) (b : HB) : List HB := if bdE l b = 0 then l ++ [b] else l
def runB (L : List HB) : List HB := L.foldl stp []
theorem fstE_app (l m : List Int) : fstE (l ++ m) = if fstE l = 0 then fstE m else fstE l := by
  induction l with
  | nil => simp [fstE]
  | cons e l ih =>
    simp only [List.cons_append, fstE]
    by_cases h : e = 0
    · simp only [if_pos h, ih]
    · simp only [if_neg h]
theorem fstE_zero {l : List Int} : fstE l = 0 ↔ ∀ e ∈ l, e = 0 := by
  induction l with
  | nil => simp [fstE]
  | cons e l ih =>
    simp only [fstE]
    by_cases h : e = 0
    · rw [if_pos h, ih]; simp [h]
    · rw [if_neg h]; simp [h]
theorem ptE_zero {p : PT} (h : ptE p = 0) : p.r.size ≤ 64 ∧ p.ps ≠ [] ∧ (∀ x ∈ p.ps, inR x.d) ∧ bal p.ps := by
  unfold ptE at h
  split at h
  · cases h
  split at h
  · cases h
  split at h
  · cases h
  rename_i h1 h2 h3
  split at h
  · cases h
  rename_i h4
  exact ⟨by omega, h2, Decidable.not_not.1 h3, Decidable.not_not.1 h4⟩
/-- A history: each bundle was accepted behind those before it. -/
def GH (l : List HB) : Prop := ∀ i b, l[i]? = some b → bdE (l.take i) b = 0
theorem GH.nil : GH [] := fun i b h => by simp at h
theorem GH.step {l : List HB} {b : HB} (hl : GH l) (hb : bdE l b = 0) : GH (l ++ [b]) := by
  intro i x hi
  by_cases h : i < l.length
  · rw [List.getElem?_append_left h] at hi
    rw [List.take_append_of_le_length (by omega)]
    exact hl i x hi
  · rw [List.getElem?_append_right (by omega)] at hi
    have h0 : i - l.length = 0 := by
      have := (List.getElem?_eq_some_iff.1 hi).1
      simp at this; omega
    rw [h0] at hi
    simp at hi
    subst hi
    rw [show i = l.length by omega, List.take_append_of_le_length (Nat.le_refl _), List.take_length]
    exact hb
theorem GH.stp {l : List HB} (b : HB) (hl : GH l) : GH (stp l b) := by
  unfold GL.stp
  split
  · rename_i h; exact hl.step h
  · exact hl
theorem GH.take {l : List HB} (hl : GH l) (n : Nat) : GH (l.take n) := by
  intro i b hi
  rw [List.getElem?_take] at hi
  split at hi
  · rename_i h
    rw [List.take_take, Nat.min_eq_left (by omega)]
    exact hl i b hi
  · cases hi
theorem bdE_zero {l : List HB} {b : HB} (h : bdE l b = 0) : b.s = l.length + 1 ∧ (0 ≤ b.day ∧ b.day ≤ 73048 ∧ 0 ≤ b.mn ∧ b.mn ≤ 1439) ∧ lateB l b = false ∧ b.pts ≠ [] ∧ (∀ p ∈ b.pts, ptE p = 0) ∧ ∀ x ∈ pos b, inR (dS x.c (allP (l ++ [b]))) := by
  unfold bdE at h
  split at h
  · cases h
  split at h
  · cases h
  split at h
  · cases h
  split at h
  · cases h
  rename_i h1 h2 h3 h4
  split at h
  · rename_i h5; exact absurd h h5
  rename_i h5
  split at h
  · cases h
  rename_i h6
  refine ⟨Decidable.not_not.1 h1, by omega, by simpa using h3, h4, fun p hp => ?_, Decidable.not_not.1 h6⟩
  exact fstE_zero.1 (Decidable.not_not.1 h5) _ (List.mem_map.2 ⟨p, hp, rfl⟩)
/-- Few bundles, parts, postings. -/
def FB (b : HB) : Prop := b.pts.length ≤ 8 ∧ ∀ p ∈ b.pts, p.ps.length ≤ 12 ∧ p.r.size ≤ 200
theorem flat_le {α β : Type} {f : α → List β} {n : Nat} : ∀ {l : List α}, (∀ x ∈ l, (f x).length ≤ n) → (l.flatMap f).length ≤ l.length * n
  | [], _ => by simp
  | x :: l, h => by
    rw [List.flatMap_cons, List.length_append, List.length_cons, Nat.succ_mul]
    have := flat_le (l := l) fun y hy => h y (by simp [hy])
    have := h x (by simp)
    omega
theorem FB.pos {b : HB} (h : FB b) : (pos b).length ≤ 96 := by
  have := flat_le (f := PT.ps) (n := 12) (l := b.pts) fun p hp => (h.2 p hp).1
  have h1 := h.1
  unfold GL.pos
  omega
theorem pos_in {b : HB} (h : ∀ p ∈ b.pts, ptE p = 0) : ∀ x ∈ pos b, inR x.d := fun x hx => by
  obtain ⟨p, hp, hq⟩ := List.mem_flatMap.1 hx
  exact (ptE_zero (h p hp)).2.2.1 x hq
theorem GH.mem {l : List HB} (hl : GH l) {b : HB} (hb : b ∈ l) : ∀ p ∈ b.pts, ptE p = 0 := by
  obtain ⟨i, hi⟩ := List.getElem?_of_mem hb
  exact (bdE_zero (hl i b hi)).2.2.2.2.1
theorem GH.inR {l : List HB} (hl : GH l) : ∀ x ∈ allP l, inR x.d := fun x hx => by
  obtain ⟨b, hb, hq⟩ := List.mem_flatMap.1 hx
  exact pos_in (hl.mem hb) x hq
theorem all_len {l : List HB} (hf : ∀ b ∈ l, FB b) (h12 : l.length ≤ 12) : (allP l).length ≤ 1152 := by
  have := flat_le (f := pos) (n := 96) (l := l) fun b hb => (hf b hb).pos
  unfold allP
  omega
end GL


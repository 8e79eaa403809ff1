/- Common: lists by their index, maps as lists, what lies where, sorted slices. -/
import Derived.Test.YtklhfckdifkpaaaGlU
import Derived.Test.YtklhfckdifkpaaaGl28
import Derived.Test.YtklhfckdifkpaaaGl25
import Derived.Test.YtklhfckdifkpaaaGl22
set_option linter.unusedSimpArgs false
set_option linter.unusedVariables false
set_option linter.unnecessarySimpa false
namespace GL
open Go Go.Proofs Go.MapKept
set_option maxRecDepth 8000
theorem drop_atG {α : Type} {b : List α} {i : Nat} {m : α} (h : b[i]? = some m) : b.drop i = m :: b.drop (i + 1) := by
  obtain ⟨hi, rfl⟩ := List.getElem?_eq_some_iff.1 h
  exact List.drop_eq_getElem_cons hi
theorem atG {α : Type} {l : List α} {i : Nat} (hi : i < l.length) : ∃ x, l[i]? = some x := ⟨l[i], by simp⟩
def lk {κ : Type} [DecidableEq κ] (l : List (κ × Int)) (q : κ) : Int := (l.lookup q).getD 0
theorem lk_nil {κ : Type} [DecidableEq κ] (q : κ) : lk ([] : List (κ × Int)) q = 0 := rfl
theorem lk_cons {κ : Type} [DecidableEq κ] (p : κ × Int) (l : List (κ × Int)) (q : κ) : lk (p :: l) q = if p.1 = q then p.2 else lk l q := by
  obtain ⟨a, v⟩ := p
  simp only [lk, List.lookup]
  by_cases h : a = q
  · subst h; simp
  · have h2 : (q == a) = false := by simpa using fun hh => h hh.symm
    simp [h2, h]
theorem lk_mset {κ : Type} [DecidableEq κ] (l : List (κ × Int)) (x q : κ) (v : Int) : lk (mset l x v) q = if x = q then v else lk l q := by
  unfold lk
  rw [lookup_mset]
  by_cases h : q = x
  · subst h; simp
  · rw [if_neg h, if_neg (fun hh => h hh.symm)]
theorem lk_mem {κ : Type} [DecidableEq κ] {l : List (κ × Int)} (hn : (l.map Prod.fst).Nodup) {q : κ} {v : Int} (h : (q, v) ∈ l) : lk l q = v := by
  unfold lk; rw [lookup_mem hn h]; rfl
theorem mset_keys {κ : Type} [DecidableEq κ] (l : List (κ × Int)) (x q : κ) (v : Int) : q ∈ (mset l x v).map Prod.fst ↔ q = x ∨ q ∈ l.map Prod.fst := by
  induction l with
  | nil => simp [mset]
  | cons p l ih =>
    simp only [mset]
    by_cases h : p.1 = x
    · rw [if_pos h]; simp [h]
    · rw [if_neg h, List.map_cons, List.mem_cons, ih, List.map_cons, List.mem_cons]
      constructor
      · rintro (h1 | h1 | h1)
        · exact .inr (.inl h1)
        · exact .inl h1
        · exact .inr (.inr h1)
      · rintro (h1 | h1 | h1)
        · exact .inr (.inl h1)
        · exact .inl h1
        · exact .inr (.inr h1)
theorem all_take {α : Type} {p : α → Prop} {l : List α} {i : Nat} {x : α} (h : ∀ y ∈ l.take i, p y) (hx : l[i]? = some x) (hp : p x) : ∀ y ∈ l.take (i + 1), p y := by
  intro y hy
  rw [List.take_add_one, hx, List.mem_append] at hy
  rcases hy with hy | hy
  · exact h y hy
  · simp at hy; rw [hy]; exact hp
theorem all_end {α : Type} {p : α → Prop} {l : List α} {i : Nat} (h : ∀ y ∈ l.take i, p y) (hi : l.length ≤ i) : ∀ y ∈ l, p y := by
  rwa [List.take_of_length_le hi] at h
theorem perm_sub {α : Type} {left left' : List α} {p : α} {P : α → Prop} {N : List α} (hp : left.Perm (p :: left')) (h : ∀ y ∈ N, y ∈ left ∨ P y) (hP : P p) : ∀ y ∈ N, y ∈ left' ∨ P y := by
  intro y hy
  rcases h y hy with h | h
  · rcases List.mem_cons.1 (hp.mem_iff.1 h) with rfl | h
    · exact .inr hP
    · exact .inl h
  · exact .inr h
theorem ne_tk {α : Type} {a b : List α} {i : Nat} {x y : α} (hx : a[i]? = some x) (hy : b[i]? = some y) (hne : x ≠ y) : a ≠ b := by
  rintro rfl
  rw [hx] at hy
  cases hy
  exact hne rfl
theorem eq_tk {α : Type} {a b : List α} (hl : a.length = b.length) (ht : a.take a.length = b.take a.length) : a = b := by
  rw [List.take_length, hl, List.take_length] at ht
  exact ht
theorem tk_step {α : Type} {a b : List α} {i : Nat} {x : α} (hx : a[i]? = some x) (hy : b[i]? = some x) (ht : a.take i = b.take i) : a.take (i + 1) = b.take (i + 1) := by
  rw [List.take_add_one, List.take_add_one, hx, hy, ht]
theorem mset_fst {κ β : Type} [DecidableEq κ] (m : List (κ × β)) (x : κ) (v : β) : (mset m x v).map Prod.fst = if x ∈ m.map Prod.fst then m.map Prod.fst else m.map Prod.fst ++ [x] := by
  induction m with
  | nil => simp [mset]
  | cons p m ih =>
    simp only [mset]
    by_cases h : p.1 = x
    · rw [if_pos h, if_pos (by simp [h])]; simp [h]
    · rw [if_neg h, List.map_cons, ih, List.map_cons]
      by_cases h2 : x ∈ m.map Prod.fst
      · rw [if_pos h2, if_pos (List.mem_cons_of_mem _ h2)]
      · rw [if_neg h2, if_neg (fun hh => by rcases List.mem_cons.1 hh with h3 | h3; exact h h3.symm; exact h2 h3)]; rfl
theorem mset_nodup {κ β : Type} [DecidableEq κ] {m : List (κ × β)} {x : κ} {v : β} (h : (m.map Prod.fst).Nodup) : ((mset m x v).map Prod.fst).Nodup := by
  rw [mset_fst]
  split
  · exact h
  · rename_i hn
    rw [List.nodup_append]
    exact ⟨h, by simp, by intro a ha b hb hab; simp at hb; subst hb; subst hab; exact hn ha⟩
theorem mdel_nd {κ β : Type} [DecidableEq κ] {fs : List (κ × β)} {q : κ} (h : (fs.map Prod.fst).Nodup) : ((mdel fs q).map Prod.fst).Nodup := (List.filter_sublist.map _).nodup h
theorem lk_none {κ : Type} [DecidableEq κ] {m : List (κ × Int)} {q : κ} (h : ∀ y ∈ m, y.1 ≠ q) : lk m q = 0 := by
  unfold lk; rw [lookup_no h]; rfl
theorem keys_ext {κ : Type} [DecidableEq κ] : ∀ {m m' : List (κ × Int)}, m.map Prod.fst = m'.map Prod.fst → (m.map Prod.fst).Nodup → (∀ q, lk m q = lk m' q) → m = m'
  | [], [], _, _, _ => rfl
  | [], _ :: _, h, _, _ => by simp at h
  | _ :: _, [], h, _, _ => by simp at h
  | (a, v) :: m, (a', v') :: m', h, hn, hl => by
    simp only [List.map_cons, List.cons.injEq] at h
    obtain ⟨rfl, h⟩ := h
    simp only [List.map_cons, List.nodup_cons] at hn
    have h1 := hl a
    rw [lk_cons, lk_cons, if_pos rfl, if_pos rfl] at h1
    simp only at h1
    subst h1
    congr 1
    refine keys_ext h hn.2 fun q => ?_
    have h2 := hl q
    rw [lk_cons, lk_cons] at h2
    by_cases hq : a = q
    · subst hq
      have g1 : lk m a = 0 := by unfold lk; rw [lookup_no (fun p hp hh => hn.1 (List.mem_map.2 ⟨p, hp, hh⟩))]; rfl
      have g2 : lk m' a = 0 := by unfold lk; rw [lookup_no (fun p hp hh => hn.1 (by rw [h]; exact List.mem_map.2 ⟨p, hp, hh⟩))]; rfl
      rw [g1, g2]
    · rw [if_neg hq, if_neg hq] at h2; exact h2
theorem isSome_iff {κ β : Type} [DecidableEq κ] {m : List (κ × β)} {q : κ} : (m.lookup q).isSome = true ↔ q ∈ m.map Prod.fst := by
  cases hq : m.lookup q with
  | none =>
    have := lookup_none_iff.1 hq
    simp only [Option.isSome_none, Bool.false_eq_true, false_iff]
    intro hh
    obtain ⟨p, hp, h1⟩ := List.mem_map.1 hh
    exact this p hp h1
  | some v =>
    simp only [Option.isSome_some, true_iff]
    exact List.mem_map.2 ⟨(q, v), mem_lookup hq, rfl⟩
theorem Has.un {h : Heap} {b : Nat} {o o' : Obj} (h1 : Has h b o) (h2 : Has h b o') : o = o' := by
  have : some o = some o' := h1.symm.trans h2
  cases this; rfl
theorem MapT.has {κ β : Type} {ek : κ → Value} {ev' : β → Value} {h : Heap} {b : Nat} {l : List (κ × β)} (hm : MapT ek ev' h b l) : ∃ es c, Has h b (.map es c) := by
  obtain ⟨es, c, h1, _⟩ := hm; exact ⟨es, c, h1⟩
theorem Has.ncell {h : Heap} {b b' : Nat} {c c' : Array Value} {t t' : TypeId} (h1 : Has h b (.cells c t)) (h2 : Has h b' (.cells c' t')) (ht : t ≠ t') : b ≠ b' := by
  rintro rfl
  have := h1.un h2; simp only [Obj.cells.injEq] at this; exact ht this.2.1
theorem Has.nmap {κ β : Type} {ek : κ → Value} {ev' : β → Value} {h : Heap} {b b' : Nat} {c : Array Value} {t : TypeId} {l : List (κ × β)} (h1 : Has h b (.cells c t)) (h2 : MapT ek ev' h b' l) : b ≠ b' := by
  rintro rfl
  obtain ⟨es, cl, h3⟩ := h2.has
  cases h1.un h3
theorem Has.noty {h : Heap} {b : Nat} {c cur : Array Value} {t t' : TypeId} (hb : Has h b (.cells c t)) (ht : t ≠ t') : ¬ Has h b (.cells cur t') := fun hc => hb.ncell hc ht rfl
theorem Own.ncell {h : Heap} {base : Nat} {el t : TypeId} {sz : Nat} {v : Value} {n b : Nat} {xs : List Value} {c : Array Value} (ho : Own h base el sz v n xs) (h2 : Has h b (.cells c t)) (ht : t ≠ el) : v.ownBlock ≠ some b := by
  intro hh
  obtain ⟨cur, h1⟩ := ho.typ b hh
  exact h2.ncell h1 ht rfl
theorem Own.nmap {κ β : Type} {ek : κ → Value} {ev' : β → Value} {l : List (κ × β)} {h : Heap} {base : Nat} {el : TypeId} {sz : Nat} {v : Value} {n b : Nat} {xs : List Value} (ho : Own h base el sz v n xs) (h2 : MapT ek ev' h b l) : v.ownBlock ≠ some b := by
  intro hh
  obtain ⟨cur, h1⟩ := ho.typ b hh
  exact h1.nmap h2 rfl
theorem readN_same {h h' : Heap} {b : Nat} (hs : h'[b]? = h[b]?) : ∀ n off, GL.readN h' b off n = GL.readN h b off n
  | 0, off => rfl
  | n + 1, off => by
    have hc : GL.cell h' b off = GL.cell h b off := by simp only [GL.cell, hs]
    simp only [GL.readN, hc, readN_same hs n]
theorem hcalls_of {P : Program} {f : FuncId} {args : Array Value} {h : Heap} {R : Value → Heap → Prop}
    (hc : ∀ w : World, w.heap = h → Calls P f args w fun x w' => ∃ v, x = .returned v ∧ Same w w' ∧ R v w'.heap) : HCalls P f args h R := fun w hw => callsIn_wide.2 (hc w hw)
theorem Gr.of {w w' : World} {b : Option Nat} (hg : w.grownBy w' b) : Gr w.heap w'.heap b := ⟨hg.size, fun c hc hne => hg.block c hc (fun hh => hne hh.symm)⟩
theorem Own.cut {h : Heap} {base : Nat} {el : TypeId} {sz n cap : Nat} {a : Option Addr} {xs : List Value} (ho : Own h base el sz (.slice a n cap) n xs) (k : Nat) (hk : k ≤ n) : Own h base el sz (.slice a k cap) k (xs.take (k * sz)) := by
  have hkn : k * sz ≤ n * sz := Nat.mul_le_mul_right _ hk
  refine ⟨by rw [List.length_take, ho.1]; omega, ?_⟩
  rcases ho.2 with ⟨hv, hn⟩ | ⟨g, cap', cur, hv, hb, hg, hc, hm, hs, ht⟩
  · cases hv
    obtain rfl : k = 0 := by omega
    exact .inl ⟨rfl, rfl⟩
  · cases hv
    exact .inr ⟨g, cap, cur, rfl, hb, hg, Nat.le_trans hk hc, hm, hs, by rw [← ht, List.take_take, Nat.min_eq_left hkn]⟩
theorem slicev_h {P : Program} {t el : TypeId} {sz : Nat} (hu : P.underlying t = some (.slice el)) (hs : sizeB P el = some sz) (a : Option Addr) (ha : ∀ x, a = some x → x.spot = none) (len cap : Nat) (k : IntKind) (i : Int) (h0 : 0 ≤ i) (h1 : i ≤ cap) :
    slicev P t (.slice a len cap) none (some (.int k i)) none = some (.slice a i.toNat cap) := by
  have e1 : a.map (fun x => x.add (0 * sz)) = a := by
    cases a with
    | none => rfl
    | some x =>
      obtain ⟨b, off, spot⟩ := x
      have := ha _ rfl
      simp only at this
      subst this
      simp [addr_add]
  simp only [slicev, hu, hs, bnd, h0, h1, true_and, and_self, if_true, e1, Nat.sub_zero, ite_self]
  try simp [h0, h1, e1]
theorem flat_take {α : Type} {f : α → List Value} {sz : Nat} (hf : ∀ x, (f x).length = sz) : ∀ (L : List α) (k : Nat), k ≤ L.length → (L.flatMap f).take (k * sz) = (L.take k).flatMap f
  | L, 0, _ => by simp
  | [], k + 1, h => by simp at h
  | a :: L, k + 1, h => by
    have e1 : (k + 1) * sz = (f a).length + k * sz := by rw [hf a, Nat.succ_mul]; omega
    rw [List.flatMap_cons, e1, List.take_length_add_append, flat_take hf L k (by simpa using h)]
    simp
/-- A slice that is read, with its elements' type. -/
structure SlR {α : Type} (el : TypeId) (sz : Nat) (f : α → List Value) (h : Heap) (a : Option Addr) (l : List α) : Prop where
  rd : SlG sz f h a l
  ty : ∀ g off, a = some ⟨g, off, none⟩ → ∃ cur, Has h g (.cells cur el)
section
variable {α : Type} {el : TypeId} {sz : Nat} {f : α → List Value} {h h' : Heap} {a : Option Addr} {l : List α}
theorem SlR.ext (hs : SlR el sz f h a l) (hx : Ext h h') : SlR el sz f h' a l := ⟨hs.rd.ext hx, fun g off ha => (hs.ty g off ha).imp fun _ hc => hc.ext hx⟩
theorem SlR.gs {S : List Nat} (hs : SlR el sz f h a l) (hg : Gs h h' S) (hn : ∀ g off, a = some ⟨g, off, none⟩ → g ∉ S) : SlR el sz f h' a l :=
  ⟨fun i x hi => by
    obtain ⟨b, off, ha, hr⟩ := hs.rd i x hi
    obtain ⟨cur, hc⟩ := hs.ty b off ha
    exact ⟨b, off, ha, by rw [readN_same (hg.same b (Array.getElem?_eq_some_iff.1 hc).1 (hn b off ha))]; exact hr⟩,
   fun g off ha => (hs.ty g off ha).imp fun _ hc => hc.gs hg (hn g off ha)⟩
theorem SlR.own (hf : ∀ x, (f x).length = sz) {base n cap : Nat} (ho : Own h base el sz (.slice a n cap) n (l.flatMap f)) (hn : n = l.length) : SlR el sz f h a l := by
  obtain ⟨a', c', h1, _, h2, _⟩ := Own.slG hf ho hn
  cases h1
  refine ⟨h2, fun g off ha => ?_⟩
  subst ha
  rcases ho.2 with ⟨h3, _⟩ | ⟨g', cap', cur, h3, _, hg, _⟩
  · cases h3
  · cases h3; exact ⟨cur, hg⟩
theorem slG_own (hf : ∀ x, (f x).length = sz) {base n cap : Nat} (ho : Own h base el sz (.slice a n cap) n (l.flatMap f)) (hn : n = l.length) : SlG sz f h a l := (SlR.own hf ho hn).rd
/-- The shape of an own slice. -/
theorem Own.shape {base n : Nat} {v : Value} {xs : List Value} (ho : Own h base el sz v n xs) : ∃ a cap, v = .slice a n cap ∧ n ≤ cap ∧ (a = none → cap = 0) ∧ ∀ x, a = some x → ∃ g, x = ⟨g, 0, none⟩ ∧ base ≤ g ∧ g < h.size := by
  rcases ho.2 with ⟨hv, hn⟩ | ⟨g, cap, cur, hv, hb, hg, hc, _⟩
  · subst hn; exact ⟨none, 0, hv, Nat.le_refl _, fun _ => rfl, (fun x hx => by cases hx)⟩
  · exact ⟨some ⟨g, 0, none⟩, cap, hv, hc, (fun hh => by cases hh), (fun x hx => by cases hx; exact ⟨g, rfl, hb, (Array.getElem?_eq_some_iff.1 hg).1⟩)⟩
end
/-! Sums. -/
def sumF {α : Type} (f : α → Int) : List α → Int
  | [] => 0
  | x :: l => f x + sumF f l
section
variable {α : Type} {f g : α → Int}
theorem sumF_perm {l m : List α} (h : l.Perm m) : sumF f l = sumF f m := by
  induction h with
  | nil => rfl
  | cons x _ ih => simp only [sumF, ih]
  | swap x y l => simp only [sumF]; omega
  | trans _ _ h1 h2 => exact h1.trans h2
theorem sumF_app (l m : List α) : sumF f (l ++ m) = sumF f l + sumF f m := by
  induction l with
  | nil => simp [sumF]
  | cons x l ih => simp only [List.cons_append, sumF, ih]; omega
theorem sumF_step {l : List α} {i : Nat} {x : α} (hx : l[i]? = some x) : sumF f (l.take (i + 1)) = sumF f (l.take i) + f x := by
  rw [List.take_add_one, hx, sumF_app]; simp [sumF]
theorem sumF_congr {l : List α} (h : ∀ x ∈ l, f x = g x) : sumF f l = sumF g l := by
  induction l with
  | nil => rfl
  | cons x l ih => simp only [sumF, h x (by simp), ih fun y hy => h y (by simp [hy])]
theorem sumF_zero {l : List α} (h : ∀ x ∈ l, f x = 0) : sumF f l = 0 := by
  induction l with
  | nil => rfl
  | cons x l ih => simp only [sumF, h x (by simp), ih fun y hy => h y (by simp [hy])]; rfl
theorem sumF_add {l : List α} : sumF (fun x => f x + g x) l = sumF f l + sumF g l := by
  induction l with
  | nil => rfl
  | cons x l ih => simp only [sumF, ih]; omega
theorem sumF_neg {l : List α} : sumF (fun x => - f x) l = - sumF f l := by
  induction l with
  | nil => rfl
  | cons x l ih => simp only [sumF, ih]; omega
theorem sumF_bound {l : List α} {B : Int} (h : ∀ x ∈ l, -B ≤ f x ∧ f x ≤ B) : -(l.length * B) ≤ sumF f l ∧ sumF f l ≤ l.length * B := by
  induction l with
  | nil => simp [sumF]
  | cons x l ih =>
    have h1 := ih fun y hy => h y (by simp [hy])
    have h2 := h x (by simp)
    simp only [sumF, List.length_cons, Int.natCast_add, Int.add_mul]
    omega
theorem sumF_filter {l : List α} {p : α → Bool} (h : ∀ x ∈ l, p x = false → f x = 0) : sumF f (l.filter p) = sumF f l := by
  induction l with
  | nil => rfl
  | cons x l ih =>
    have h1 := ih fun y hy => h y (by simp [hy])
    by_cases hp : p x = true
    · rw [List.filter_cons_of_pos hp, sumF, sumF, h1]
    · rw [List.filter_cons_of_neg hp, sumF, h x (by simp) (by simpa using hp), h1]; omega
end
/-- The machine's sums: what is cut off at a step may be cut off at the end. -/
theorem wrap_add_l (a b : Int) : IntKind.i64.wrap (IntKind.i64.wrap a + b) = IntKind.i64.wrap (a + b) := by
  have hb : IntKind.i64.bits = 64 := rfl
  have hs : IntKind.i64.signed = true := rfl
  unfold IntKind.wrap
  rw [hb, hs]
  simp only [Bool.true_and, decide_eq_true_eq]
  have e1 : (2 : Int) ^ 64 = 18446744073709551616 := by decide
  have e2 : (2 : Int) ^ (64 - 1) = 9223372036854775808 := by decide
  rw [e1, e2]
  split <;> split <;> split <;> omega
theorem wrap_wrap64 (a : Int) : IntKind.i64.wrap (IntKind.i64.wrap a) = IntKind.i64.wrap a := by
  have := wrap_add_l a 0
  simpa using this
theorem wrap_sub_l (a b : Int) : IntKind.i64.wrap (IntKind.i64.wrap a - b) = IntKind.i64.wrap (a - b) := by
  rw [Int.sub_eq_add_neg, wrap_add_l, Int.sub_eq_add_neg]
/-! Strings by their bytes. -/
def sLt (a b : ByteArray) : Bool := Op.bytesLess a.toList b.toList
theorem bl_irrefl : ∀ x : List UInt8, Op.bytesLess x x = false
  | [] => rfl
  | a :: x => by simp [Op.bytesLess, bl_irrefl x]
theorem bl_trans : ∀ x y z : List UInt8, Op.bytesLess x y = true → Op.bytesLess y z = true → Op.bytesLess x z = true
  | _, _, [], _, h => by simp [Op.bytesLess] at h
  | _, [], _ :: _, h, _ => by simp [Op.bytesLess] at h
  | [], _ :: _, _ :: _, _, _ => rfl
  | a :: x, b :: y, c :: z, h1, h2 => by
    simp only [Op.bytesLess, Bool.or_eq_true, Bool.and_eq_true, decide_eq_true_eq, beq_iff_eq] at h1 h2 ⊢
    rcases h1 with h1 | ⟨rfl, h1⟩
    · rcases h2 with h2 | ⟨rfl, h2⟩
      · exact .inl (UInt8.lt_trans h1 h2)
      · exact .inl h1
    · rcases h2 with h2 | ⟨rfl, h2⟩
      · exact .inl h2
      · exact .inr ⟨rfl, bl_trans x y z h1 h2⟩
theorem bl_tri : ∀ x y : List UInt8, Op.bytesLess x y = false → Op.bytesLess y x = false → x = y
  | [], [], _, _ => rfl
  | [], _ :: _, h, _ => by simp [Op.bytesLess] at h
  | _ :: _, [], _, h => by simp [Op.bytesLess] at h
  | a :: x, b :: y, h1, h2 => by
    simp only [Op.bytesLess, Bool.or_eq_false_iff, Bool.and_eq_false_iff, decide_eq_false_iff_not, beq_eq_false_iff_ne] at h1 h2
    have hab : a = b := UInt8.le_antisymm (UInt8.not_lt.1 h2.1) (UInt8.not_lt.1 h1.1)
    subst hab
    rw [bl_tri x y (h1.2.resolve_left (fun h => h rfl)) (h2.2.resolve_left (fun h => h rfl))]
theorem toList_inj {a b : ByteArray} (h : a.toList = b.toList) : a = b := by
  rw [ByteArray.toList_eq, ByteArray.toList_eq] at h
  obtain ⟨x⟩ := a
  obtain ⟨y⟩ := b
  exact congrArg ByteArray.mk (Array.toList_inj.1 h)
theorem strEq (a b : ByteArray) : (a == b) = decide (a = b) := by
  rw [← toList_beq, Bool.eq_iff_iff, beq_iff_eq, decide_eq_true_eq]
  exact ⟨toList_inj, fun h => by rw [h]⟩
instance : LawfulBEq ByteArray where
  rfl := by intro a; rw [strEq]; exact decide_eq_true rfl
  eq_of_beq := by intro a b h; rw [strEq] at h; exact of_decide_eq_true h
theorem sLt_irrefl (a : ByteArray) : sLt a a = false := bl_irrefl _
theorem sLt_trans {a b c : ByteArray} (h1 : sLt a b = true) (h2 : sLt b c = true) : sLt a c = true := bl_trans _ _ _ h1 h2
theorem sLt_tri {a b : ByteArray} (h1 : sLt a b = false) (h2 : sLt b a = false) : a = b := toList_inj (bl_tri _ _ h1 h2)
theorem sLt_asymm {a b : ByteArray} (h1 : sLt a b = true) : sLt b a = false := by
  cases h : sLt b a with
  | false => rfl
  | true => have := sLt_trans h1 h; rw [sLt_irrefl] at this; cases this
theorem binv_lssS {P : Program} {t : TypeId} {a b : ByteArray} : binv P .lss t (.string a) (.string b) = some (.bool (sLt a b)) := rfl
theorem binv_gtrS {P : Program} {t : TypeId} {a b : ByteArray} : binv P .gtr t (.string a) (.string b) = some (.bool (sLt b a)) := by
  show some (Value.bool (!(Op.bytesLess a.toList b.toList || a.toList == b.toList))) = some (.bool (Op.bytesLess b.toList a.toList))
  congr 2
  by_cases h : Op.bytesLess b.toList a.toList = true
  · have h1 : Op.bytesLess a.toList b.toList = false := by
      cases h2 : Op.bytesLess a.toList b.toList with
      | false => rfl
      | true => have := bl_trans _ _ _ h h2; rw [bl_irrefl] at this; cases this
    have h3 : (a.toList == b.toList) = false := by
      cases h4 : a.toList == b.toList with
      | false => rfl
      | true => rw [eq_of_beq h4, bl_irrefl] at h; cases h
    rw [h, h1, h3]; rfl
  · rw [Bool.not_eq_true] at h
    rw [h]
    cases h2 : Op.bytesLess a.toList b.toList with
    | true => rfl
    | false => rw [bl_tri _ _ h2 h]; simp
/-! A literal of several elements, where the order is open; deleting while ranging. -/
theorem e_litN {P : Program} {e : Env} {h : Heap} {N len sz : Nat} {t ty el : TypeId} {parts : Array (Nat × Operand)} {z : Value} {c : Array Value} (hN : N ≤ h.size) (zs : Array Value)
    (hu : P.underlying t = some (.slice el)) (hs : sizeB P el = some sz) (hz : zeroB P el = some z) (hl : len * sz ≤ 2 ^ 24 ∧ len * sz ≠ 0)
    (hzs : (Array.range (len * sz)).map (fun j => z.cells[j % z.cells.size]!) = zs) (hf : ∃ c', Instr.fill (fun i => some (i * sz, sz)) zs (parts.map fun (i, x) => (i, ev e x)).toList = some c' ∧ c' = c) :
    EOp P (.buildSlice t len parts) ty e h fun v h' => Rel.grows.r h h' ∧ (Spec.ls N c el len).val v ∧ (Spec.ls N c el len).mem v h' := by
  obtain ⟨c', hf, rfl⟩ := hf
  subst hzs
  refine ⟨rfl, rfl, fun w hw => ?_⟩
  subst hw
  have hr : (execOp (ev e) { (default : Oper) with op := .buildSlice t len parts, type := ty }).run P w = .ok (.value (.slice (some ⟨w.heap.size, 0, none⟩) len len)) { w with heap := w.heap.push (.cells c' el) } := by
    have h1 : ¬ (len * sz > 2 ^ 24) := by omega
    simp only [execOp, Instr.buildSlice, Sem.run_bind, run_underlying hu, Result.andThen_ok, run_sizeOf_of hs, if_neg h1, Sem.run_pure, if_neg hl.2, run_zero_of hz, hf]
    simp [newRow, newObj, Sem.run]
  rw [hr]
  refine ⟨⟨rfl, rfl, rfl, Nat.le_refl _⟩, Ext.push _ _, ⟨_, hN, rfl⟩, ?_⟩
  intro B hB
  cases hB
  simp [Has]
theorem filter_erase {γ : Type} {p : γ → Bool} : ∀ {l : List γ} {j : Nat} {x : γ}, l[j]? = some x → p x = false → (l.eraseIdx j).filter p = l.filter p
  | [], _, _, h, _ => by simp at h
  | a :: l, 0, x, h, hp => by
    simp only [List.getElem?_cons_zero, Option.some.injEq] at h
    subst h
    simp [hp]
  | a :: l, j + 1, x, h, hp => by
    have h1 : l[j]? = some x := by simpa using h
    simp only [List.eraseIdx_cons_succ, List.filter_cons, filter_erase h1 hp]
theorem nodup_idx {γ : Type} {l : List γ} (hn : l.Nodup) {i j : Nat} {x : γ} (hi : l[i]? = some x) (hj : l[j]? = some x) : i = j :=
  (List.getElem?_inj (List.getElem?_eq_some_iff.1 hi).1 hn).1 (hi.trans hj.symm)
/-- delete(m, x) in a range over m, x the key that was just handed out. -/
theorem e_deleteIt {P : Program} {κ β : Type} [DecidableEq κ] {k t e ty : TypeId} {ek : κ → Value} {ev' : β → Value} {ts : Array TypeId} {en : Env} {h : Heap} {b it : Nat} {l left : List (κ × β)} {p : κ × β} {om ox : Operand} (K : KT P k ek) (hu : P.underlying t = some (.map k e)) (hts : ts[0]? = some t)
    (hS : StepT ek ev' h it b l left p) (h1 : ev en om = .map (some b)) (h2 : ev en ox = ek p.1) :
    EOp P (.call ⟨.builtin .delete, #[om, ox], ts⟩) ty en h fun _ h' => (∃ o, Wr h h' b o) ∧ IterT ek ev' h' it b (mdel l p.1) left := by
  have hn := hS.iter.map.nodup
  have hib : b ≠ it := by
    obtain ⟨es, c, since, seen, e0, hb, _, _, hit, _⟩ := hS
    intro hh
    subst hh
    have := hb.symm.trans hit
    cases this
  obtain ⟨es, c, since, seen, e0, hb, he, hs, hit, hlt0, hsc, hmem, hk0, hv0, hleft⟩ := hS
  refine ⟨rfl, rfl, fun w hw => ?_⟩
  subst hw
  have hlt := (Array.getElem?_eq_some_iff.1 hb).1
  have hex : (execOp (ev en) { (default : Oper) with op := .call ⟨.builtin .delete, #[om, ox], ts⟩, type := ty }).run P w = ((Builtin.delete_ ts ty #[.map (some b), ek p.1]).run P w).andThen fun v w' => .ok (.value v) w' := by
    simp [execOp, resolve, invoke, builtin, h1, h2]
  rw [hex]
  obtain ⟨j0, hj0⟩ := List.getElem?_of_mem hmem
  obtain ⟨p0, hp0, hp1, _⟩ := entries_at he hj0
  have hkp : p0.1 = p.1 := K.inj (hp1.symm.trans hk0)
  rcases MapT.find (h := w.heap) (b := b) K he p.1 w with ⟨q1, q2⟩ | ⟨j, e1, v0, q1, q2, q3, q4, q5⟩
  · exact absurd hkp (q2 p0 (List.mem_of_getElem? hp0))
  · have hjj : j = j0 := nodup_idx hn (x := p.1) (by rw [List.getElem?_map, q5]; rfl) (by rw [List.getElem?_map, hp0, ← hkp]; rfl)
    subst hjj
    have hee : e1 = e0 := by rw [q2] at hj0; cases hj0; rfl
    subst hee
    have hr : (Builtin.delete_ ts ty #[.map (some b), ek p.1]).run P w = .ok (.tuple #[]) { w with heap := w.heap.setIfInBounds b (.map (es.eraseIdxIfInBounds j) c) } := by
      simp [Builtin.delete_, hts, run_underlying hu, run_getObj_map hb, K.check, q1, run_setObj_map _ hb]
    rw [hr]
    have hlist : (es.eraseIdxIfInBounds j).toList = es.toList.eraseIdx j := by
      have hj : j < es.size := by
        have := (List.getElem?_eq_some_iff.1 q2).1
        simpa using this
      rw [Array.eraseIdxIfInBounds, dif_pos hj, Array.toList_eraseIdx]
    refine ⟨⟨rfl, rfl, rfl, Nat.le_refl _⟩, ⟨_, Wr.set hlt⟩, es.eraseIdxIfInBounds j, c, since, _, c, (Wr.set hlt).at_, ?_, stamped_erase hs _, hit.wr (Wr.set hlt) (Ne.symm hib), ?_, hsc, hsc, ?_⟩
    · rw [mdel_at hn q5]; exact map_erase he j
    · intro x hx
      rw [hlist] at hx
      exact hlt0 x (List.mem_of_mem_eraseIdx hx)
    · rw [← hleft]
      congr 1
      unfold leftOf
      rw [Array.toList_filter, Array.toList_filter, hlist]
      exact filter_erase q2 (by simp)
theorem IterT.notCells {κ β : Type} {ek : κ → Value} {ev' : β → Value} {h : Heap} {it b : Nat} {l left : List (κ × β)} {c : Array Value} {t : TypeId} (hI : IterT ek ev' h it b l left) (hc : Has h it (.cells c t)) : False := by
  obtain ⟨es, cl, s, seen, e, h1, h2, h3, h4, h5⟩ := hI
  cases h4.un hc
end GL

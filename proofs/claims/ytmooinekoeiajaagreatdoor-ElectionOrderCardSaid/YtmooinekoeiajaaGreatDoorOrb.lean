/- Part 2 of the texts of one law: what it needs of the logic of heaps, of the walks, of the plain facts. -/
import Derived.Test.YtmooinekoeiajaaGreatDoorOra
import Derived.Maps.RangeRun
import Derived.Maps.Keyed
import Derived.DeepKeys4
import Derived.Laws.Externs
import Derived.MapKept
import Derived.ArgAppend
import Derived.Shelf.SlSortCmp.NoneTotal
import Derived.Shelf.Small.Bits
import Derived.Shelf.Bits.Mul64
import Derived.Shelf.Strings.SlTrimAscii
import Derived.Sort.OwnSorted
import Derived.JoinedCond
import Derived.ProofKit
import Derived.OpenShut
import Derived.Carry
import Derived.Lib.SmallJoins
set_option linter.unusedSimpArgs false
set_option linter.unusedVariables false
set_option linter.unnecessarySimpa false
namespace GL
open Go Go.MapKept
open Go.ChangeMaps (setBlock)
structure KT (P : Program) (k : TypeId) {κ : Type} (ek : κ → Value) : Prop where
  inj : ∀ {a b : κ}, ek a = ek b → a = b
  check : ∀ (w : World) (em : Bool) (a : κ), (Instr.checkKey em 10000 k (ek a)).run P w = .ok () w
  find : ∀ (w : World) (x : κ) (es : List MapEntry), (∀ e ∈ es, ∃ a, e.key = ek a) →
    ((Instr.findKey k (ek x) es).run P w = .ok none w ∧ ∀ e ∈ es, e.key ≠ ek x) ∨ ∃ j e, (Instr.findKey k (ek x) es).run P w = .ok (some (j, e.val)) w ∧ es[j]? = some e ∧ e.key = ek x
  stays : ∀ (w : World) (a : κ), (Instr.keyThatStays (ek a) (ek a)).run P w = .ok (ek a) w
theorem kt_plain {P : Program} {k : TypeId} {d : TypeDesc} {κ : Type} {ek : κ → Value} (hu : P.underlying k = some d) (hk : ∀ a, IsKey d (ek a)) (hi : ∀ {a b : κ}, ek a = ek b → a = b) : KT P k ek := by
  refine ⟨hi, fun w em a => run_checkKey hu (hk a) em 9999, ?_, fun w a => run_keyThatStays (hk a)⟩
  intro w x es hes
  have hks : ∀ y ∈ es, IsKey d y.key := fun y hy => by
    obtain ⟨a, ha⟩ := hes y hy
    rw [ha]; exact hk a
  rcases findNow_spec (hk x) es 0 hks with ⟨h1, h2⟩ | ⟨j, e0, h1, h2, h3⟩
  · exact Or.inl ⟨run_findKey hu h1, h2⟩
  · exact Or.inr ⟨j, e0, by simpa using run_findKey hu h1, h2, h3⟩
theorem run_findAsking_of {P : Program} {k : TypeId} {κ : Type} [DecidableEq κ] {ek : κ → Value} (hi : ∀ {a b : κ}, ek a = ek b → a = b) (heq : ∀ a b, eqv P 10000 k (ek a) (ek b) = some (decide (a = b))) (x : κ) (w : World) :
    ∀ (es : List MapEntry) (i : Nat), (∀ e ∈ es, ∃ a, e.key = ek a) →
    ((Instr.findAsking k (ek x) es i).run P w = .ok none w ∧ ∀ e ∈ es, e.key ≠ ek x) ∨ ∃ j e, (Instr.findAsking k (ek x) es i).run P w = .ok (some (i + j, e.val)) w ∧ es[j]? = some e ∧ e.key = ek x
  | [], i, _ => .inl ⟨rfl, by simp⟩
  | e :: es, i, h => by
    obtain ⟨a, ha⟩ := h e (by simp)
    have hrun : (Op.equal k (ek x) e.key).run P w = .ok (decide (x = a)) w := by
      rw [ha]
      exact run_equalIn_of 10000 k (ek x) (ek a) _ (heq x a) w
    by_cases hxa : x = a
    · refine .inr ⟨0, e, ?_, rfl, by rw [ha, hxa]⟩
      rw [hxa] at hrun ⊢
      simp only [Instr.findAsking, Sem.run_bind, hrun, Result.andThen_ok, decide_true, if_true, Sem.run_pure, Nat.add_zero]
    · have hne : e.key ≠ ek x := fun q => hxa (hi (by rw [← q, ha]))
      rcases run_findAsking_of hi heq x w es (i + 1) (fun y hy => h y (by simp [hy])) with ⟨h1, h2⟩ | ⟨j, e', h1, h2, h3⟩
      · refine .inl ⟨?_, fun y hy => ?_⟩
        · simp only [Instr.findAsking, Sem.run_bind, hrun, Result.andThen_ok, hxa, decide_false, Bool.false_eq_true, if_false, h1]
        · rcases List.mem_cons.1 hy with rfl | hy
          · exact hne
          · exact h2 y hy
      · refine .inr ⟨j + 1, e', ?_, by simpa using h2, h3⟩
        simp only [Instr.findAsking, Sem.run_bind, hrun, Result.andThen_ok, hxa, decide_false, Bool.false_eq_true, if_false, h1]
        congr 3
        omega
theorem findNow_agg {fs : Array Field} {k : Value} : ∀ (es : List MapEntry) (i : Nat), es ≠ [] → Instr.findNow (.struct fs) k es i = none
  | [], _, h => absurd rfl h
  | e :: es, i, _ => by simp [Instr.findNow, Instr.sameNow]
theorem run_checkFs {P : Program} {w : World} {em : Bool} {n : Nat} {cs : Array Value} : ∀ (fs : List Field), (∀ f ∈ fs, f.name ≠ "_" → ∃ v d, partB P f.type cs f.offset = some v ∧ P.underlying f.type = some d ∧ IsKey d v) →
    (forIn fs PUnit.unit (fun (f : Field) (_ : PUnit) => (if f.name ≠ "_" then (do
      let v ← part f.type cs f.offset
      Instr.checkKey em (n + 1) f.type v
      pure (ForInStep.yield PUnit.unit)) else pure (ForInStep.yield PUnit.unit) : Sem (ForInStep PUnit)))).run P w = .ok PUnit.unit w
  | [], _ => by simp
  | f :: fs, h => by
    simp only [List.forIn_cons]
    have ih := run_checkFs (em := em) (n := n) (w := w) fs (fun g hg => h g (by simp [hg]))
    by_cases hn : f.name ≠ "_"
    · obtain ⟨v, d, h1, h2, h3⟩ := h f (by simp) hn
      simp only [if_pos hn, Sem.run_bind, run_part_of h1, Result.andThen_ok, run_checkKey h2 h3 em n, Sem.run_pure]
      exact ih
    · simp only [if_neg hn, Sem.run_bind, Sem.run_pure, Result.andThen_ok]
      exact ih
theorem run_checkKey_struct {P : Program} {w : World} {em : Bool} {n : Nat} {k : TypeId} {fs : Array Field} {cs : Array Value} (hu : P.underlying k = some (.struct fs))
    (h : ∀ f ∈ fs.toList, f.name ≠ "_" → ∃ v d, partB P f.type cs f.offset = some v ∧ P.underlying f.type = some d ∧ IsKey d v) : (Instr.checkKey em (n + 2) k (.agg cs)).run P w = .ok () w := by
  unfold Instr.checkKey
  simp only [Sem.run_bind, run_underlying hu, Result.andThen_ok]
  rw [← Array.forIn_toList]
  have := run_checkFs (P := P) (w := w) (em := em) (n := n) (cs := cs) fs.toList h
  rw [this]
  rfl
theorem kt_struct {P : Program} {k : TypeId} {κ : Type} [DecidableEq κ] {ek : κ → Value} {fs : Array Field} (hu : P.underlying k = some (.struct fs)) (hi : ∀ {a b : κ}, ek a = ek b → a = b)
    (hag : ∀ a, ∃ cs, ek a = .agg cs ∧ ∀ f ∈ fs.toList, f.name ≠ "_" → ∃ v d, partB P f.type cs f.offset = some v ∧ P.underlying f.type = some d ∧ IsKey d v)
    (heq : ∀ a b, eqv P 10000 k (ek a) (ek b) = some (decide (a = b))) (hst : ∀ a, Instr.sameBits 10000 (ek a) (ek a) = true) : KT P k ek := by
  refine ⟨hi, fun w em a => ?_, ?_, fun w a => by simp [Instr.keyThatStays, hst a]⟩
  · obtain ⟨cs, hc, hf⟩ := hag a
    rw [hc]
    exact run_checkKey_struct hu hf
  · intro w x es hes
    cases es with
    | nil => exact .inl ⟨by simp [Instr.findKey, run_underlying hu, Instr.findNow], by simp⟩
    | cons e es =>
      have h1 : (Instr.findKey k (ek x) (e :: es)).run P w = (Instr.findAsking k (ek x) (e :: es) 0).run P w := by
        simp only [Instr.findKey, Sem.run_bind, run_underlying hu, Result.andThen_ok, findNow_agg (e :: es) 0 (by simp)]
      rw [h1]
      rcases run_findAsking_of hi heq x w (e :: es) 0 hes with hh | ⟨j, e', h2, h3, h4⟩
      · exact .inl hh
      · exact .inr ⟨j, e', by simpa using h2, h3, h4⟩
section
variable {κ β : Type} {ek : κ → Value} {ev' : β → Value}
def MapT (ek : κ → Value) (ev' : β → Value) (h : Heap) (b : Nat) (l : List (κ × β)) : Prop :=
  ∃ es clock, Has h b (.map es clock) ∧ es.toList.map (fun e => (e.key, e.val)) = l.map (fun p => (ek p.1, ev' p.2)) ∧ Stamped es clock
theorem MapT.ext {h h' : Heap} {b : Nat} {l : List (κ × β)} (hm : MapT ek ev' h b l) (hx : Ext h h') : MapT ek ev' h' b l := by
  obtain ⟨es, c, h1, h2, h3⟩ := hm
  exact ⟨es, c, h1.ext hx, h2, h3⟩
theorem MapT.wr {h h' : Heap} {b c : Nat} {o : Obj} {l : List (κ × β)} (hm : MapT ek ev' h b l) (hw : Wr h h' c o) (hne : b ≠ c) : MapT ek ev' h' b l := by
  obtain ⟨es, cl, h1, h2, h3⟩ := hm
  exact ⟨es, cl, h1.wr hw hne, h2, h3⟩
theorem MapT.gr {h h' : Heap} {b : Nat} {c : Option Nat} {l : List (κ × β)} (hm : MapT ek ev' h b l) (hg : Gr h h' c) (hne : c ≠ some b) : MapT ek ev' h' b l := by
  obtain ⟨es, cl, h1, h2, h3⟩ := hm
  exact ⟨es, cl, h1.gr hg hne, h2, h3⟩
theorem MapT.lt {h : Heap} {b : Nat} {l : List (κ × β)} (hm : MapT ek ev' h b l) : b < h.size := by
  obtain ⟨es, c, h1, _⟩ := hm
  exact (Array.getElem?_eq_some_iff.1 h1).1
theorem MapT.new {h : Heap} {b : Nat} (hb : Has h b (.map #[] 0)) : MapT ek ev' h b [] := ⟨_, _, hb, rfl, stamped_empty _⟩
theorem entries_at {es : Array MapEntry} {l : List (κ × β)} (he : es.toList.map (fun e => (e.key, e.val)) = l.map (fun p => (ek p.1, ev' p.2))) {j : Nat} {e : MapEntry} (hj : es.toList[j]? = some e) :
    ∃ p, l[j]? = some p ∧ e.key = ek p.1 ∧ e.val = ev' p.2 := by
  have h1 : (es.toList.map (fun e => (e.key, e.val)))[j]? = some (e.key, e.val) := by rw [List.getElem?_map, hj]; rfl
  rw [he, List.getElem?_map] at h1
  cases hp : l[j]? with
  | none => rw [hp] at h1; cases h1
  | some p =>
    rw [hp] at h1
    simp only [Option.map_some, Option.some.injEq, Prod.mk.injEq] at h1
    exact ⟨p, rfl, h1.1.symm, h1.2.symm⟩
theorem entries_len {es : Array MapEntry} {l : List (κ × β)} (he : es.toList.map (fun e => (e.key, e.val)) = l.map (fun p => (ek p.1, ev' p.2))) : es.size = l.length := by
  have := congrArg List.length he
  simpa using this
theorem entries_key {es : Array MapEntry} {l : List (κ × β)} (he : es.toList.map (fun e => (e.key, e.val)) = l.map (fun p => (ek p.1, ev' p.2))) : ∀ e ∈ es.toList, ∃ a, e.key = ek a := by
  intro e hm
  obtain ⟨j, hj⟩ := List.getElem?_of_mem hm
  obtain ⟨p, _, h, _⟩ := entries_at he hj
  exact ⟨p.1, h⟩
theorem entries_mem {es : Array MapEntry} {l : List (κ × β)} (he : es.toList.map (fun e => (e.key, e.val)) = l.map (fun p => (ek p.1, ev' p.2))) {p : κ × β} (hp : p ∈ l) : ∃ e ∈ es.toList, e.key = ek p.1 ∧ e.val = ev' p.2 := by
  have : (ek p.1, ev' p.2) ∈ es.toList.map (fun e => (e.key, e.val)) := by rw [he]; exact List.mem_map.2 ⟨p, hp, rfl⟩
  obtain ⟨e, h1, h2⟩ := List.mem_map.1 this
  simp only [Prod.mk.injEq] at h2
  exact ⟨e, h1, h2.1, h2.2⟩
theorem MapT.nodup {h : Heap} {b : Nat} {l : List (κ × β)} (hm : MapT ek ev' h b l) : (l.map Prod.fst).Nodup := by
  obtain ⟨es, c, _, he, hs⟩ := hm
  have h1 := ((stamped_iff es c).1 hs).2.2
  have h2 : (es.toList.map (fun e => (e.key, e.val))).Pairwise (fun p q => p.1 ≠ q.1) := List.pairwise_map.2 h1
  rw [he] at h2
  have h3 := List.pairwise_map.1 h2
  refine List.pairwise_map.2 (h3.imp fun {a b} hne heq => hne ?_)
  simp only [heq]
section lists
variable [DecidableEq κ]
def mset : List (κ × β) → κ → β → List (κ × β)
  | [], x, v => [(x, v)]
  | p :: l, x, v => if p.1 = x then (x, v) :: l else p :: mset l x v
def mdel (l : List (κ × β)) (x : κ) : List (κ × β) := l.filter fun p => decide (p.1 ≠ x)
theorem lookup_no {l : List (κ × β)} {x : κ} (h : ∀ p ∈ l, p.1 ≠ x) : l.lookup x = none := by
  induction l with
  | nil => rfl
  | cons p l ih =>
    obtain ⟨a, v⟩ := p
    have h1 : a ≠ x := h (a, v) (by simp)
    have h2 : (x == a) = false := by simpa using fun hh => h1 hh.symm
    simp only [List.lookup, h2]
    exact ih fun q hq => h q (by simp [hq])
theorem lookup_mem {l : List (κ × β)} (hn : (l.map Prod.fst).Nodup) {x : κ} {v : β} (h : (x, v) ∈ l) : l.lookup x = some v := by
  induction l with
  | nil => cases h
  | cons p l ih =>
    obtain ⟨a, u⟩ := p
    simp only [List.map_cons, List.nodup_cons] at hn
    rcases List.mem_cons.1 h with h | h
    · cases h; simp [List.lookup]
    · have hne : x ≠ a := fun hh => hn.1 (hh ▸ List.mem_map.2 ⟨(x, v), h, rfl⟩)
      have h2 : (x == a) = false := by simpa using hne
      simp only [List.lookup, h2]
      exact ih hn.2 h
theorem mem_lookup {l : List (κ × β)} {x : κ} {v : β} (h : l.lookup x = some v) : (x, v) ∈ l := by
  induction l with
  | nil => cases h
  | cons p l ih =>
    obtain ⟨a, u⟩ := p
    simp only [List.lookup] at h
    split at h
    · rename_i hb
      have : x = a := by simpa using hb
      cases h; subst this; simp
    · exact List.mem_cons_of_mem _ (ih h)
theorem lookup_mset (l : List (κ × β)) (x y : κ) (v : β) : (mset l x v).lookup y = if y = x then some v else l.lookup y := by
  induction l with
  | nil =>
    by_cases h : y = x
    · subst h; simp [mset, List.lookup]
    · have h2 : (y == x) = false := by simpa using h
      simp [mset, List.lookup, h2, h]
  | cons p l ih =>
    obtain ⟨a, u⟩ := p
    simp only [mset]
    by_cases ha : a = x
    · subst ha
      simp only [if_true, List.lookup]
      by_cases h : y = a
      · subst h; simp
      · have h2 : (y == a) = false := by simpa using h
        simp [h2, h]
    · simp only [ha, if_false, List.lookup]
      by_cases h : y = a
      · subst h; simp [ha]
      · have h2 : (y == a) = false := by simpa using h
        simp only [h2, ih]
theorem mset_no {l : List (κ × β)} {x : κ} {v : β} (h : ∀ p ∈ l, p.1 ≠ x) : mset l x v = l ++ [(x, v)] := by
  induction l with
  | nil => rfl
  | cons p l ih =>
    simp only [mset, if_neg (h p (by simp)), ih fun q hq => h q (by simp [hq]), List.cons_append]
theorem mset_at {l : List (κ × β)} (hn : (l.map Prod.fst).Nodup) {x : κ} {v u : β} : ∀ {j : Nat}, l[j]? = some (x, u) → mset l x v = l.set j (x, v) := by
  induction l with
  | nil => intro j h; simp at h
  | cons p l ih =>
    intro j h
    simp only [List.map_cons, List.nodup_cons] at hn
    cases j with
    | zero =>
      simp only [List.getElem?_cons_zero, Option.some.injEq] at h
      subst h
      simp [mset]
    | succ j =>
      simp only [List.getElem?_cons_succ] at h
      have hne : p.1 ≠ x := fun hh => hn.1 (hh ▸ List.mem_map.2 ⟨(x, u), List.mem_of_getElem? h, rfl⟩)
      simp only [mset, if_neg hne, List.set_cons_succ, ih hn.2 h]
theorem lookup_mdel (l : List (κ × β)) (x y : κ) : (mdel l x).lookup y = if y = x then none else l.lookup y := by
  induction l with
  | nil => simp [mdel]
  | cons p l ih =>
    obtain ⟨a, u⟩ := p
    simp only [mdel, List.filter_cons] at ih ⊢
    by_cases ha : a = x
    · subst ha
      simp only [ne_eq, not_true_eq_false, decide_false, Bool.false_eq_true, if_false, ih, List.lookup]
      by_cases h : y = a
      · simp [h]
      · have h2 : (y == a) = false := by simpa using h
        simp [h, h2]
    · simp only [ne_eq, ha, not_false_eq_true, decide_true, if_true, List.lookup]
      by_cases h : y = a
      · subst h; simp [ha]
      · have h2 : (y == a) = false := by simpa using h
        simp only [h2, ih]
theorem mdel_no {l : List (κ × β)} {x : κ} (h : ∀ p ∈ l, p.1 ≠ x) : mdel l x = l := List.filter_eq_self.2 fun p hp => by simpa using h p hp
theorem mdel_at {l : List (κ × β)} (hn : (l.map Prod.fst).Nodup) {x : κ} {u : β} : ∀ {j : Nat}, l[j]? = some (x, u) → mdel l x = l.eraseIdx j := by
  induction l with
  | nil => intro j h; simp at h
  | cons p l ih =>
    intro j h
    simp only [List.map_cons, List.nodup_cons] at hn
    cases j with
    | zero =>
      simp only [List.getElem?_cons_zero, Option.some.injEq] at h
      subst h
      have : mdel l x = l := mdel_no fun q hq hh => hn.1 (hh ▸ List.mem_map.2 ⟨q, hq, rfl⟩)
      simp only [mdel, List.filter_cons, ne_eq, not_true_eq_false, decide_false, Bool.false_eq_true, if_false, List.eraseIdx_zero, List.tail_cons]
      exact this
    | succ j =>
      simp only [List.getElem?_cons_succ] at h
      have hne : p.1 ≠ x := fun hh => hn.1 (hh ▸ List.mem_map.2 ⟨(x, u), List.mem_of_getElem? h, rfl⟩)
      have := ih hn.2 h
      simp only [mdel] at this
      simp only [mdel, List.filter_cons, hne, ne_eq, not_false_eq_true, decide_true, if_true, List.eraseIdx_cons_succ, this]
end lists
section ops
variable {P : Program} {k : TypeId}
theorem MapT.find {h : Heap} {b : Nat} {l : List (κ × β)} (K : KT P k ek) {es : Array MapEntry} (he : es.toList.map (fun e => (e.key, e.val)) = l.map (fun p => (ek p.1, ev' p.2))) (x : κ) (w : World) :
    ((Instr.findKey k (ek x) es.toList).run P w = .ok none w ∧ ∀ p ∈ l, p.1 ≠ x) ∨
    ∃ j e v, (Instr.findKey k (ek x) es.toList).run P w = .ok (some (j, ev' v)) w ∧ es.toList[j]? = some e ∧ e.key = ek x ∧ e.val = ev' v ∧ l[j]? = some (x, v) := by
  rcases K.find w x es.toList (entries_key he) with ⟨h1, h2⟩ | ⟨j, e, h1, h2, h3⟩
  · refine .inl ⟨h1, fun p hp hx => ?_⟩
    obtain ⟨e, hm, h3, _⟩ := entries_mem he hp
    exact h2 e hm (by rw [h3, hx])
  · obtain ⟨p, hp, h4, h5⟩ := entries_at he h2
    obtain ⟨a, v⟩ := p
    have : a = x := K.inj (by rw [← h4, h3])
    subst this
    exact .inr ⟨j, e, v, by rw [h1]; simp only at h5; rw [h5], h2, h3, h5, hp⟩
theorem MapT.lookv [DecidableEq κ] {h : Heap} {b : Nat} {l : List (κ × β)} (hm : MapT ek ev' h b l) {t e : TypeId} {z : β} (K : KT P k ek) (hu : P.underlying t = some (.map k e)) (hz : zeroB P e = some (ev' z)) (x : κ) (ok : Bool) :
    GL.lookv P t (.map (some b)) (ek x) ok h = some (if ok then .tuple #[ev' ((l.lookup x).getD z), .bool (l.lookup x).isSome] else ev' ((l.lookup x).getD z)) := by
  have hn := hm.nodup
  obtain ⟨es, c, hb, he, hs⟩ := hm
  refine lookv_eq hb fun w hw => ?_
  rcases MapT.find (h := h) (b := b) K he x w with ⟨h1, h2⟩ | ⟨j, en, v, h1, h2, h3, h4, h5⟩
  · simp [Instr.lookup, run_underlying hu, run_getObj_map hw, K.check, h1, run_zero_of hz, lookup_no h2]
  · simp [Instr.lookup, run_underlying hu, run_getObj_map hw, K.check, h1, lookup_mem hn (List.mem_of_getElem? h5)]
theorem map_push {es : Array MapEntry} {l : List (κ × β)} (he : es.toList.map (fun e => (e.key, e.val)) = l.map (fun p => (ek p.1, ev' p.2))) (x : κ) (v : β) (c : Nat) :
    (es.push { key := ek x, val := ev' v, born := c }).toList.map (fun e => (e.key, e.val)) = (l ++ [(x, v)]).map (fun p => (ek p.1, ev' p.2)) := by simp [he]
theorem map_modify {es : Array MapEntry} {l : List (κ × β)} (he : es.toList.map (fun e => (e.key, e.val)) = l.map (fun p => (ek p.1, ev' p.2))) (x : κ) (v : β) (j : Nat) (f : MapEntry → MapEntry) (hf : ∀ e, es.toList[j]? = some e → (f e).key = ek x ∧ (f e).val = ev' v) :
    (es.modify j f).toList.map (fun e => (e.key, e.val)) = (l.set j (x, v)).map (fun p => (ek p.1, ev' p.2)) := by
  have hlen := entries_len he
  apply List.ext_getElem?
  intro i
  have h1 : (es.toList.map (fun e => (e.key, e.val)))[i]? = (l.map (fun p => (ek p.1, ev' p.2)))[i]? := by rw [he]
  simp only [List.getElem?_map, Array.getElem?_toList, Array.getElem?_modify, List.getElem?_set] at h1 ⊢
  by_cases hij : j = i
  · subst hij
    simp only [if_true]
    cases hj : es[j]? with
    | none =>
      have : ¬ j < l.length := by rw [← hlen]; simpa using hj
      simp [this]
    | some e =>
      have : j < l.length := by rw [← hlen]; exact (Array.getElem?_eq_some_iff.1 hj).1
      obtain ⟨h2, h3⟩ := hf e (by simpa using hj)
      simp [this, h2, h3]
  · simp only [hij, if_false]
    exact h1
theorem map_erase {es : Array MapEntry} {l : List (κ × β)} (he : es.toList.map (fun e => (e.key, e.val)) = l.map (fun p => (ek p.1, ev' p.2))) (j : Nat) :
    (es.eraseIdxIfInBounds j).toList.map (fun e => (e.key, e.val)) = (l.eraseIdx j).map (fun p => (ek p.1, ev' p.2)) := by
  have hlen := entries_len he
  unfold Array.eraseIdxIfInBounds
  split
  · rw [Array.toList_eraseIdx]
    have e1 : ∀ {α γ : Type} (f : α → γ) (l : List α) (i : Nat), (l.eraseIdx i).map f = (l.map f).eraseIdx i := by
      intro α γ f l
      induction l with
      | nil => intro i; simp
      | cons a l ih =>
        intro i
        cases i with
        | zero => simp
        | succ i => simp [ih]
    rw [e1, e1, he]
  · rename_i hj
    rw [he, List.eraseIdx_of_length_le (by omega)]
theorem e_mapUpdate [DecidableEq κ] {t e ty : TypeId} {en : Env} {h : Heap} {b : Nat} {l : List (κ × β)} {om ox ov : Operand} {x : κ} {v : β} (K : KT P k ek) (hu : P.underlying t = some (.map k e)) (hm : MapT ek ev' h b l)
    (h1 : ev en om = .map (some b)) (h2 : ev en ox = ek x) (h3 : ev en ov = ev' v) :
    EOp P (.mapUpdate t om ox ov) ty en h fun _ h' => (∃ o, Wr h h' b o) ∧ MapT ek ev' h' b (mset l x v) := by
  have hn := hm.nodup
  obtain ⟨es, c, hb, he, hs⟩ := hm
  refine ⟨rfl, rfl, fun w hw => ?_⟩
  subst hw
  have hlt := (Array.getElem?_eq_some_iff.1 hb).1
  rcases MapT.find (h := w.heap) (b := b) K he x w with ⟨q1, q2⟩ | ⟨j, e0, v0, q1, q2, q3, q4, q5⟩
  · have hr : (execOp (ev en) { (default : Oper) with op := .mapUpdate t om ox ov, type := ty }).run P w = .ok .skip { w with heap := w.heap.setIfInBounds b (.map (es.push { key := ek x, val := ev' v, born := c }) (c + 1)) } := by
      simp [execOp, h1, h2, h3, Instr.mapUpdate, run_underlying hu, run_getObj_map hb, K.check, q1, run_setObj_map _ hb]
    rw [hr]
    refine ⟨⟨rfl, rfl, rfl, Nat.le_refl _⟩, ⟨_, Wr.set hlt⟩, _, _, (Wr.set hlt).at_, ?_, stamped_push hs fun y hy hk => ?_⟩
    · rw [mset_no q2]; exact map_push he x v c
    · obtain ⟨i, hi⟩ := List.getElem?_of_mem hy
      obtain ⟨p, hp, h4, _⟩ := entries_at he hi
      exact q2 p (List.mem_of_getElem? hp) (K.inj (by rw [← h4, hk]))
  · have hj : es[j]? = some e0 := by simpa using q2
    have hr : (execOp (ev en) { (default : Oper) with op := .mapUpdate t om ox ov, type := ty }).run P w = .ok .skip { w with heap := w.heap.setIfInBounds b (.map (es.modify j fun e => { e with key := ek x, val := ev' v }) c) } := by
      simp [execOp, h1, h2, h3, Instr.mapUpdate, run_underlying hu, run_getObj_map hb, K.check, q1, run_setObj_map _ hb, hj, q3, K.stays]
    rw [hr]
    have hkey : ∀ e', es[j]? = some e' → ({ e' with key := ek x, val := ev' v } : MapEntry).key = e'.key := fun e' he' => by rw [hj] at he'; cases he'; exact q3.symm
    refine ⟨⟨rfl, rfl, rfl, Nat.le_refl _⟩, ⟨_, Wr.set hlt⟩, _, _, (Wr.set hlt).at_, ?_, stamped_modify hs _ _ (fun _ _ => rfl) fun e' _ he' => hkey e' he'⟩
    rw [mset_at hn q5]
    exact map_modify he x v j (fun e => { e with key := ek x, val := ev' v }) fun e' _ => ⟨rfl, rfl⟩
def EntT (ek : κ → Value) (ev' : β → Value) (h : Heap) (b : Nat) (l : List (κ × β)) (x : κ) (st : Int) : Prop :=
  ∃ (es : Array MapEntry) (clock j : Nat) (e : MapEntry), Has h b (.map es clock) ∧ es.toList.map (fun e => (e.key, e.val)) = l.map (fun p => (ek p.1, ev' p.2)) ∧ Stamped es clock ∧ es.toList[j]? = some e ∧ e.key = ek x ∧ (e.born : Int) = st ∧ ∃ v, l[j]? = some (x, v)
theorem EntT.map {h : Heap} {b : Nat} {l : List (κ × β)} {x : κ} {st : Int} (hm : EntT ek ev' h b l x st) : MapT ek ev' h b l := by
  obtain ⟨es, c, j, e, h1, h2, h3, _⟩ := hm
  exact ⟨es, c, h1, h2, h3⟩
theorem EntT.ext {h h' : Heap} {b : Nat} {l : List (κ × β)} {x : κ} {st : Int} (hm : EntT ek ev' h b l x st) (hx : Ext h h') : EntT ek ev' h' b l x st := by
  obtain ⟨es, c, j, e, h1, h2⟩ := hm
  exact ⟨es, c, j, e, h1.ext hx, h2⟩
theorem e_delete [DecidableEq κ] {t e ty : TypeId} {ts : Array TypeId} {en : Env} {h : Heap} {b : Nat} {l : List (κ × β)} {om ox : Operand} {x : κ} (K : KT P k ek) (hu : P.underlying t = some (.map k e)) (hts : ts[0]? = some t) (hm : MapT ek ev' h b l)
    (h1 : ev en om = .map (some b)) (h2 : ev en ox = ek x) :
    EOp P (.call ⟨.builtin .delete, #[om, ox], ts⟩) ty en h fun _ h' => (∃ o, Wr h h' b o) ∧ MapT ek ev' h' b (mdel l x) := by
  have hn := hm.nodup
  obtain ⟨es, c, hb, he, hs⟩ := hm
  refine ⟨rfl, rfl, fun w hw => ?_⟩
  subst hw
  have hlt := (Array.getElem?_eq_some_iff.1 hb).1
  have hex : (execOp (ev en) { (default : Oper) with op := .call ⟨.builtin .delete, #[om, ox], ts⟩, type := ty }).run P w = ((Builtin.delete_ ts ty #[.map (some b), ek x]).run P w).andThen fun v w' => .ok (.value v) w' := by
    simp [execOp, resolve, invoke, builtin, h1, h2]
  rw [hex]
  rcases MapT.find (h := w.heap) (b := b) K he x w with ⟨q1, q2⟩ | ⟨j, e0, v0, q1, q2, q3, q4, q5⟩
  · have hr : (Builtin.delete_ ts ty #[.map (some b), ek x]).run P w = .ok (.tuple #[]) { w with heap := w.heap.setIfInBounds b (.map es c) } := by
      simp [Builtin.delete_, hts, run_underlying hu, run_getObj_map hb, K.check, q1, run_setObj_map _ hb]
    rw [hr]
    refine ⟨⟨rfl, rfl, rfl, Nat.le_refl _⟩, ⟨_, Wr.set hlt⟩, _, _, (Wr.set hlt).at_, ?_, hs⟩
    rw [mdel_no q2]; exact he
  · have hr : (Builtin.delete_ ts ty #[.map (some b), ek x]).run P w = .ok (.tuple #[]) { w with heap := w.heap.setIfInBounds b (.map (es.eraseIdxIfInBounds j) c) } := by
      simp [Builtin.delete_, hts, run_underlying hu, run_getObj_map hb, K.check, q1, run_setObj_map _ hb]
    rw [hr]
    refine ⟨⟨rfl, rfl, rfl, Nat.le_refl _⟩, ⟨_, Wr.set hlt⟩, _, _, (Wr.set hlt).at_, ?_, stamped_erase hs _⟩
    rw [mdel_at hn q5]; exact map_erase he j
theorem MapT.len {h : Heap} {b : Nat} {l : List (κ × β)} (hm : MapT ek ev' h b l) {t e : TypeId} (hu : P.underlying t = some (.map k e)) : lenv P t (.map (some b)) h = some (.int .i64 l.length) := by
  obtain ⟨es, c, hb, he, hs⟩ := hm
  have hb' : h[b]? = some (.map es c) := hb
  simp only [lenv, hu, hb', entries_len he]
def IterT (ek : κ → Value) (ev' : β → Value) (h : Heap) (it b : Nat) (l left : List (κ × β)) : Prop :=
  ∃ (es : Array MapEntry) (clock since : Nat) (seen : Array Nat) (c0 : Nat), Has h b (.map es clock) ∧ es.toList.map (fun e => (e.key, e.val)) = l.map (fun p => (ek p.1, ev' p.2)) ∧ Stamped es clock ∧
    Has h it (.mapIter (some b) since seen c0) ∧ (∀ x ∈ es.toList, x.born < since) ∧ since ≤ c0 ∧ since ≤ clock ∧ (leftOf es seen).toList.map (fun e => (e.key, e.val)) = left.map (fun p => (ek p.1, ev' p.2))
def StepT (ek : κ → Value) (ev' : β → Value) (h : Heap) (it b : Nat) (l left : List (κ × β)) (p : κ × β) : Prop :=
  ∃ (es : Array MapEntry) (clock since : Nat) (seen : Array Nat) (e : MapEntry), Has h b (.map es clock) ∧ es.toList.map (fun e => (e.key, e.val)) = l.map (fun p => (ek p.1, ev' p.2)) ∧ Stamped es clock ∧
    Has h it (.mapIter (some b) since (seen.push e.born) clock) ∧ (∀ x ∈ es.toList, x.born < since) ∧ since ≤ clock ∧ e ∈ es.toList ∧ e.key = ek p.1 ∧ e.val = ev' p.2 ∧ (leftOf es (seen.push e.born)).toList.map (fun e => (e.key, e.val)) = left.map (fun p => (ek p.1, ev' p.2))
theorem IterT.map {h : Heap} {it b : Nat} {l left : List (κ × β)} (hs : IterT ek ev' h it b l left) : MapT ek ev' h b l := by
  obtain ⟨es, c, s, seen, e, h1, h2, h3, _⟩ := hs
  exact ⟨es, c, h1, h2, h3⟩
theorem IterT.ext {h h' : Heap} {it b : Nat} {l left : List (κ × β)} (hs : IterT ek ev' h it b l left) (hx : Ext h h') : IterT ek ev' h' it b l left := by
  obtain ⟨es, c, s, seen, e, h1, h2, h3, h4, h5⟩ := hs
  exact ⟨es, c, s, seen, e, h1.ext hx, h2, h3, h4.ext hx, h5⟩
theorem IterT.wr {h h' : Heap} {it b d : Nat} {o : Obj} {l left : List (κ × β)} (hs : IterT ek ev' h it b l left) (hw : Wr h h' d o) (h1 : b ≠ d) (h2 : it ≠ d) : IterT ek ev' h' it b l left := by
  obtain ⟨es, c, s, seen, e, q1, q2, q3, q4, q5⟩ := hs
  exact ⟨es, c, s, seen, e, q1.wr hw h1, q2, q3, q4.wr hw h2, q5⟩
theorem IterT.gr {h h' : Heap} {it b : Nat} {d : Option Nat} {l left : List (κ × β)} (hs : IterT ek ev' h it b l left) (hw : Gr h h' d) (h1 : d ≠ some b) (h2 : d ≠ some it) : IterT ek ev' h' it b l left := by
  obtain ⟨es, c, s, seen, e, q1, q2, q3, q4, q5⟩ := hs
  exact ⟨es, c, s, seen, e, q1.gr hw h1, q2, q3, q4.gr hw h2, q5⟩
end ops
end
structure KJ (J : Nat → Heap → Prop) (hx : ∀ i h h', J i h → Ext h h' → J i h') (i : Nat) (h : Heap) : Prop where
  j : J i h
theorem KJ.ext {J : Nat → Heap → Prop} {hx : ∀ i h h', J i h → Ext h h' → J i h'} {i : Nat} {h h' : Heap} (hj : KJ J hx i h) (he : Ext h h') : KJ J hx i h' := ⟨hx i h h' hj.j he⟩
theorem Gr.refl (h : Heap) (x : Option Nat) : Gr h h x := ⟨Nat.le_refl _, fun _ _ _ => rfl⟩
theorem Gr.ex {a b c : Heap} {x : Option Nat} (hg : Gr a b x) (hx : Ext b c) : Gr a c x := ⟨Nat.le_trans hg.size hx.size, fun k hk hn => by
  have hb : k < b.size := Nat.lt_of_lt_of_le hk hg.size
  have e1 : b[k]? = some b[k] := by simp [hb]
  rw [← hg.same k hk hn, e1]
  exact hx k _ e1⟩
theorem Gr.wr {a b c : Heap} {x : Option Nat} {d : Nat} {o : Obj} (hg : Gr a b x) (hw : Wr b c d o) (hd : x = some d ∨ a.size ≤ d) : Gr a c x := ⟨by rw [hw.size]; exact hg.size, fun k hk hn => by
  have hkd : k ≠ d := fun hh => by
    subst hh
    rcases hd with h1 | h1
    · exact hn h1
    · omega
  rw [hw.same k hkd]
  exact hg.same k hk hn⟩
theorem Gr.gr {a b c : Heap} {x y : Option Nat} (hg : Gr a b x) (hg2 : Gr b c y) (hd : ∀ d, y = some d → x = some d ∨ a.size ≤ d) : Gr a c x := ⟨Nat.le_trans hg.size hg2.size, fun k hk hn => by
  have hb : k < b.size := Nat.lt_of_lt_of_le hk hg.size
  rw [hg2.same k hb (fun hh => by
    rcases hd k hh with h1 | h1
    · exact hn h1
    · omega)]
  exact hg.same k hk hn⟩
theorem Wr.gr {a b : Heap} {d : Nat} {o : Obj} (hw : Wr a b d o) : Gr a b (some d) := ⟨by rw [hw.size]; exact Nat.le_refl _, fun k _ hn => hw.same k (fun hh => hn (by rw [hh]))⟩
theorem after_any {P : Program} {n : Nat} {r : Option Nat} {l : Nat} {Q : Post} {e : Env} {ds : List Deferred} {v : Value} {h3 : Heap} {r3 : Loop} (hr : Rec h3 l r3) (hst : (r3.state == .busy) = false)
    (hk : r3.pending = none ∧ (∀ h4 o, Wr h3 h4 l o → Q .normal e ds h4) ∨ (r3.pending = some .ret ∧ ∀ h4 o, Wr h3 h4 l o → Q .ret e ds h4)) : after P n r l Q e ds v h3 := by
  refine ⟨r3, hr, hst, ?_⟩
  rcases hk with ⟨hp, hk⟩ | ⟨hp, hk⟩
  · rw [hp]; exact fun h4 hw => hk h4 _ hw
  · rw [hp]; exact ⟨rfl, fun h4 hw => hx_ret (hk h4 _ hw)⟩
theorem Own.rd {h : Heap} {base : Nat} {el : TypeId} {sz : Nat} {v : Value} {n : Nat} {xs : List Value} (ho : Own h base el sz v n xs) {i : Nat} (hi : i < n) :
    ∃ b cap, v = .slice (some ⟨b, 0, none⟩) n cap ∧ n ≤ cap ∧ readN h b (i * sz) sz = some ((xs.drop (i * sz)).take sz) := by
  rcases ho.2 with ⟨rfl, hn⟩ | ⟨g, cap, cur, rfl, hb, hg, hc, hm, hs, ht⟩
  · omega
  · refine ⟨g, cap, rfl, hc, ?_⟩
    have h1 : (i + 1) * sz ≤ n * sz := Nat.mul_le_mul_right _ hi
    have h2 : n * sz ≤ cap * sz := Nat.mul_le_mul_right _ hc
    have h3 : (i + 1) * sz = i * sz + sz := Nat.succ_mul i sz
    have h4 := readN_block (h := h) (b := g) (cur := cur) (el := el) (f := (0, 0)) hg sz (i * sz) (by omega)
    rw [h4, ← ht, List.drop_take, List.take_take, Nat.min_eq_left (by omega)]
theorem flat_at {α : Type} {f : α → List Value} {sz : Nat} (hf : ∀ x, (f x).length = sz) : ∀ {L : List α} {i : Nat} {x : α}, L[i]? = some x → ((L.flatMap f).drop (i * sz)).take sz = f x
  | [], i, x, h => by simp at h
  | a :: L, 0, x, h => by
    simp at h
    subst h
    simp [List.flatMap_cons, hf a ▸ List.take_left]
  | a :: L, i + 1, x, h => by
    simp only [List.getElem?_cons_succ] at h
    have e1 : (i + 1) * sz = (f a).length + i * sz := by rw [hf a, Nat.succ_mul]; omega
    rw [List.flatMap_cons, e1, List.drop_append, List.drop_eq_nil_of_le (by omega)]
    simp only [List.nil_append, Nat.add_sub_cancel_left]
    exact flat_at hf h
theorem flat_len {α : Type} {f : α → List Value} {sz : Nat} (hf : ∀ x, (f x).length = sz) : ∀ L : List α, (L.flatMap f).length = L.length * sz
  | [] => by simp
  | a :: L => by rw [List.flatMap_cons, List.length_append, hf a, flat_len hf L, List.length_cons, Nat.succ_mul]; omega
def SlG {α : Type} (sz : Nat) (f : α → List Value) (h : Heap) (a : Option Addr) (L : List α) : Prop := ∀ i x, L[i]? = some x → ∃ b off, a = some ⟨b, off, none⟩ ∧ readN h b (off + i * sz) sz = some (f x)
theorem SlG.ext {α : Type} {sz : Nat} {f : α → List Value} {h h' : Heap} {a : Option Addr} {L : List α} (hs : SlG sz f h a L) (hx : Ext h h') : SlG sz f h' a L := fun i x hi => by
  obtain ⟨b, off, ha, hr⟩ := hs i x hi
  exact ⟨b, off, ha, hx.readN hr⟩
theorem SlG.nil {α : Type} {sz : Nat} {f : α → List Value} {h : Heap} {a : Option Addr} : SlG sz f h a ([] : List α) := fun i x hi => by simp at hi
theorem Own.slG {α : Type} {sz : Nat} {f : α → List Value} (hf : ∀ x, (f x).length = sz) {h : Heap} {base : Nat} {el : TypeId} {v : Value} {n : Nat} {L : List α} (ho : Own h base el sz v n (L.flatMap f)) (hn : n = L.length) :
    ∃ a cap, v = .slice a L.length cap ∧ L.length ≤ cap ∧ SlG sz f h a L ∧ (a = none → cap = 0) ∧ (∀ x, a = some x → ∃ g, x = ⟨g, 0, none⟩ ∧ base ≤ g ∧ g < h.size) := by
  subst hn
  rcases ho.2 with ⟨rfl, hn⟩ | ⟨g, cap, cur, rfl, hb, hg, hc, hm, hs, ht⟩
  · have : L = [] := List.length_eq_zero_iff.1 (by omega)
    subst this
    exact ⟨none, 0, rfl, by simp, SlG.nil, fun _ => rfl, by simp⟩
  · refine ⟨some ⟨g, 0, none⟩, cap, rfl, hc, fun i x hi => ⟨g, 0, rfl, ?_⟩, by simp, ?_⟩
    · obtain ⟨b', cap', hv, _, hr⟩ := ho.rd (List.getElem?_eq_some_iff.1 hi).1
      cases hv
      rw [Nat.zero_add, hr, flat_at hf hi]
    · rintro x ⟨⟩
      exact ⟨g, rfl, hb, (Array.getElem?_eq_some_iff.1 hg).1⟩
theorem Ext.ext {a b c : Heap} (h : Ext a b) (hx : Ext b c) : Ext a c := h.trans hx
structure RC (h0 h7 : Heap) (B : Nat) (t el : TypeId) (sz : Nat) (rec : Loop) (v : Value) (n : Nat) (xs : List Value) (hx : Heap) : Prop where
  own : Own hx (h7.size + 2) el sz v n xs
  out : Has hx B (.cells #[v] t)
  rc : Rec hx (h7.size + 1) rec
  df : hx[h7.size]? = some (.deferred (some []))
  gr : Gr h7 hx (some B)
  ex : Ext h0 hx
  size : h7.size + 2 ≤ hx.size
  lo : h0.size ≤ B
  hi : B < h7.size
section
variable {h0 h7 hx hy : Heap} {B : Nat} {t el : TypeId} {sz : Nat} {rec : Loop} {v : Value} {n : Nat} {xs : List Value}
theorem RC.ext (hC : RC h0 h7 B t el sz rec v n xs hx) (he : Ext hx hy) : RC h0 h7 B t el sz rec v n xs hy :=
  ⟨hC.own.ext he, hC.out.ext he, he _ _ hC.rc, he _ _ hC.df, hC.gr.ex he, hC.ex.trans he, Nat.le_trans hC.size he.size, hC.lo, hC.hi⟩
theorem RC.base (hC : RC h0 h7 B t el sz rec v n xs hx) : h0.size ≤ h7.size := by have := hC.lo; have := hC.hi; omega
theorem RC.turn {rec' : Loop} (hC : RC h0 h7 B t el sz rec v n xs hx) (hw : Wr hx hy (h7.size + 1) (.loop rec')) : RC h0 h7 B t el sz rec' v n xs hy := by
  have hb := hC.base
  have hB := hC.hi
  exact ⟨hC.own.keep (fun c hc => hw.same c (by have := (hC.own.block c hc).1; omega)), hC.out.wr hw (by omega), hw.at_, by rw [hw.same _ (by omega)]; exact hC.df, hC.gr.wr hw (.inr (by omega)), hw.ext hC.ex (by omega), by rw [hw.size]; exact hC.size, hC.lo, hC.hi⟩
theorem RC.app {h4 h5 : Heap} {v4 : Value} {n4 : Nat} {xs4 : List Value} {c : Array Value} (hC : RC h0 h7 B t el sz rec v n xs hx) (ho : Own h4 (h7.size + 2) el sz v4 n4 xs4) (hg : Gr hx h4 v.ownBlock) (hw : Wr h4 h5 B (.cells c t)) (hc : c = #[v4]) :
    RC h0 h7 B t el sz rec v4 n4 xs4 h5 := by
  subst hc
  have hb := hC.base
  have hB := hC.hi
  have hl := hC.lo
  have hob : ∀ c, v.ownBlock = some c → h7.size + 2 ≤ c := fun c hc => (hC.own.block c hc).1
  have hob4 : ∀ c, v4.ownBlock = some c → h7.size + 2 ≤ c := fun c hc => (ho.block c hc).1
  have hs := hC.size
  refine ⟨ho.keep (fun c hc => hw.same c (by have := hob4 c hc; omega)), hw.at_, ?_, ?_, ?_, ?_, ?_, hl, hB⟩
  · have h1 : h5[h7.size + 1]? = hx[h7.size + 1]? := by rw [hw.same _ (by omega), hg.same _ (by omega) (fun hh => by have := hob _ hh; omega)]
    exact h1.trans hC.rc
  · have h1 : h5[h7.size]? = hx[h7.size]? := by rw [hw.same _ (by omega), hg.same _ (by omega) (fun hh => by have := hob _ hh; omega)]
    exact h1.trans hC.df
  · exact (hC.gr.gr hg (fun d hd => .inr (by have := hob d hd; omega))).wr hw (.inl rfl)
  · exact hw.ext (hg.ext hC.ex (fun c hc => by have := hob c hc; omega)) hl
  · rw [hw.size]; exact Nat.le_trans hs hg.size
theorem RC.start {h8 : Heap} (hB : Has h7 B (.cells #[.slice none 0 0] t)) (hx8 : Ext h7 h8) (hs : h8.size = h7.size + 2) (hd : h8[h7.size]? = some (.deferred (some []))) (hr : Rec h8 (h7.size + 1) rec) (h0x : Ext h0 h7) (hl : h0.size ≤ B) : RC h0 h7 B t el sz rec (.slice none 0 0) 0 [] h8 :=
  ⟨Own.nil, hB.ext hx8, hr, hd, (Gr.refl _ _).ex hx8, h0x.trans hx8, by omega, hl, (Array.getElem?_eq_some_iff.1 hB).1⟩
end
def Spec.blk (N : Nat) (c : Array Value) (t : TypeId) : Spec := ⟨fun v => ∃ B, N ≤ B ∧ v = .pointer (some ⟨B, 0, none⟩), fun v h => ∀ B, v = .pointer (some ⟨B, 0, none⟩) → Has h B (.cells c t),
  ⟨.pointer (some ⟨N, 0, none⟩), N, Nat.le_refl _, rfl⟩, fun v h h' hx hm B hv => (hm B hv).ext hx⟩
theorem LD.al {P : Program} {ops : Array Oper} {ds : List Deferred} {K : Kont} {e : Env} {late : Nat → Bool} {Φ : Nat → Option Spec} {h0 : Heap} {k : Nat} {rest : List Oper} {F : List (Nat × Value)} {d : Nat} {t ty : TypeId} {pos : String} {aft : Array Edge} {z : Value} {N : Nat}
    (hl : late k = false) (hΦ : Φ k = some (Spec.blk N z.cells t)) (hz : zeroB P t = some z) (hN : N ≤ h0.size)
    (hk : ∀ B, N ≤ B → LD Rel.grows P ops late Φ h0 ds K (k + 1) rest (Env.set e d (.pointer (some ⟨B, 0, none⟩))) (F ++ [(k, .pointer (some ⟨B, 0, none⟩))])) :
    LD Rel.grows P ops late Φ h0 ds K k (⟨some d, .alloc t, ty, pos, aft, none⟩ :: rest) e F := by
  unfold LD
  rw [hl, if_neg (by simp)]
  refine ⟨fun hg => (by rw [gOk_n] at hg; cases hg), fun _ => ?_⟩
  rw [hΦ]
  refine ⟨fun h hx _ _ => ?_, fun v hv => ?_⟩
  · have hE : Ext h0 h := hx
    refine (e_alloc (e := e) (h := h) (ty := ty) hz).mono ?_
    rintro u h' ⟨B, rfl, hn⟩
    refine ⟨hn.ext, ⟨B, by have := hn.fresh; have := hE.size; omega, rfl⟩, ?_, NF.all⟩
    intro B' hB'
    cases hB'
    exact hn.at_
  · obtain ⟨B, hB, rfl⟩ := hv
    exact hk B hB
theorem readN_cell {h : Heap} {b : Nat} : ∀ {n off : Nat} {l : List Value}, readN h b off n = some l → ∀ (r : Nat) (u : Value), l[r]? = some u → GL.cell h b (off + r) = some u
  | 0, off, l, hr, r, u, hu => by
    simp only [readN, Option.some.injEq] at hr
    subst hr
    simp at hu
  | n + 1, off, l, hr, r, u, hu => by
    simp only [readN] at hr
    split at hr
    · rename_i v hv
      split at hr
      · rename_i l' hl'
        simp only [Option.some.injEq] at hr
        subst hr
        cases r with
        | zero => simp only [List.getElem?_cons_zero, Option.some.injEq] at hu; subst hu; exact hv
        | succ r =>
          simp only [List.getElem?_cons_succ] at hu
          have := readN_cell hl' r u hu
          rw [show off + (r + 1) = off + 1 + r by omega]
          exact this
      · cases hr
    · cases hr
theorem SlG.news {α : Type} {sz : Nat} {f : α → List Value} (hf : ∀ x, (f x).length = sz) (h0 : 0 < sz) {h : Heap} {a : Option Addr} {L : List α} (hs : SlG sz f h a L) :
    ∀ b, a = some b → ∀ j u, (L.flatMap f)[j]? = some u → ({ (default : World) with heap := h } : World).cell? (b.add j) = some u := by
  rintro b rfl j u hj
  have hjl := (List.getElem?_eq_some_iff.1 hj).1
  rw [flat_len hf] at hjl
  have hi : j / sz < L.length := (Nat.div_lt_iff_lt_mul h0).2 hjl
  obtain ⟨x, hx⟩ : ∃ x, L[j / sz]? = some x := ⟨L[j / sz], by simp [hi]⟩
  obtain ⟨b', off, ha, hr⟩ := hs _ _ hx
  cases ha
  have hd := Nat.div_add_mod j sz
  have hr2 : (f x)[j % sz]? = some u := by
    rw [← flat_at hf hx, List.getElem?_take_of_lt (Nat.mod_lt _ h0), List.getElem?_drop, Nat.mul_comm, hd]
    exact hj
  have := readN_cell hr _ _ hr2
  rw [addr_add, cell_eq]
  rw [show off + j / sz * sz + j % sz = off + j by rw [Nat.mul_comm (j / sz) sz, Nat.add_assoc, hd]] at this
  exact this
theorem SlG.emp {α : Type} {sz : Nat} {f : α → List Value} {h : Heap} {L : List α} (hs : SlG sz f h none L) : L = [] := by
  cases L with
  | nil => rfl
  | cons x l =>
    obtain ⟨b, off, ha, _⟩ := hs 0 x rfl
    cases ha
theorem WL.appG {α : Type} {f : α → List Value} {P : Program} {e : Env} {ds : List Deferred} {h : Heap} {ops : Array Oper} {K : Kont} {base n m c' : Nat} {d : Nat} {t ty el : TypeId} {sz bytes : Nat} {s x : Operand} {pos : String} {aft : Array Edge} {rest : List Oper} {i : TypeInfo} {z v : Value} {xs : List Value} {L : List α} {a : Option Addr}
    (hu : P.underlying t = some (.slice el)) (hi : P.info? el = some i) (hz : i.zero = some z) (hsz : i.size = sz) (hby : i.bytes = bytes) (hzs : z.cells.size = sz) (h0 : 0 < sz) (hf : ∀ x, (f x).length = sz) (h1 : ∀ x, ∀ u ∈ f x, u.oneCell' = true)
    (hv : ev e s = v) (hown : Own h base el sz v n xs) (hx : ev e x = .slice a m c') (hm : m = L.length) (hnil : a = none → c' = 0) (hs : SlG sz f h a L)
    (h63 : n + L.length ≤ maxLen) (hbytes : (n + L.length) * bytes ≤ 140737488355328) (hbase : base ≤ h.size)
    (hk : ∀ h' v', Own h' base el sz v' (n + L.length) (xs ++ L.flatMap f) → Gr h h' v.ownBlock → Place v v' h → (v' = .slice none 0 0 ↔ v = .slice none 0 0 ∧ L = []) → WL P ops rest (Env.set e d v') ds h' K) :
    WL P ops (⟨some d, .call ⟨.builtin .append, #[s, x], #[t, t]⟩, ty, pos, aft, none⟩ :: rest) e ds h K := by
  subst hm
  refine WL.app (news := L.flatMap f) hu hi hz hsz hby hzs h0 hv hown hx hnil (flat_len hf L) (hs.news hf h0) ?_ ?_ h63 hbytes hbase ?_
  · rintro rfl
    rw [hs.emp]; rfl
  · intro u hu
    obtain ⟨x, _, hx⟩ := List.mem_flatMap.1 hu
    exact h1 x u hx
  · intro h' v' ho hg hp hn
    exact hk h' v' ho hg hp (hn.trans ⟨fun q => ⟨q.1, List.length_eq_zero_iff.1 q.2⟩, fun q => ⟨q.1, by rw [q.2]; rfl⟩⟩)
theorem LD.es {P : Program} {ops : Array Oper} {ds : List Deferred} {K : Kont} {e : Env} {ρ : Rel} [RelN ρ] [RelF ρ] {late : Nat → Bool} {Φ : Nat → Option Spec} {h0 : Heap} {k : Nat} {rest : List Oper} {F : List (Nat × Value)} {d : Nat} {o : Op} {ty : TypeId} {pos : String} {aft : Array Edge} {s : Spec}
    (hl : late k = false) (hΦ : Φ k = some s) (hE : ∀ h, ρ.r h0 h → FactsAnc ops Φ k F h → EOp P o ty e h fun v' h' => ρ.r h h' ∧ s.val v' ∧ s.mem v' h')
    (hk : ∀ v, s.val v → LD ρ P ops late Φ h0 ds K (k + 1) rest (Env.set e d v) (F ++ [(k, v)])) :
    LD ρ P ops late Φ h0 ds K k (⟨some d, o, ty, pos, aft, none⟩ :: rest) e F := by
  unfold LD
  rw [hl, if_neg (by simp)]
  refine ⟨fun hg => (by rw [gOk_n] at hg; cases hg), fun _ => ?_⟩
  rw [hΦ]
  exact ⟨fun h hx _ hf => (hE h hx hf).mono (fun v' h' hh => ⟨hh.1, hh.2.1, hh.2.2, NF.all⟩), hk⟩
theorem LD.en {P : Program} {ops : Array Oper} {ds : List Deferred} {K : Kont} {e : Env} {ρ : Rel} [RelF ρ] {late : Nat → Bool} {Φ : Nat → Option Spec} {h0 : Heap} {k : Nat} {rest : List Oper} {F : List (Nat × Value)} {d : Nat} {o : Op} {ty : TypeId} {pos : String} {aft : Array Edge} {s : Spec}
    (hl : late k = false) (hΦ : Φ k = some s) (hE : ∀ h, ρ.r h0 h → ρ.neg k h → FactsAnc ops Φ k F h → EOp P o ty e h fun v' h' => ρ.r h h' ∧ s.val v' ∧ s.mem v' h' ∧ ∀ k', k' ≠ k → tb ops k k' = false → ρ.neg k' h → ρ.neg k' h')
    (hk : ∀ v, s.val v → LD ρ P ops late Φ h0 ds K (k + 1) rest (Env.set e d v) (F ++ [(k, v)])) :
    LD ρ P ops late Φ h0 ds K k (⟨some d, o, ty, pos, aft, none⟩ :: rest) e F := by
  unfold LD
  rw [hl, if_neg (by simp)]
  refine ⟨fun hg => (by rw [gOk_n] at hg; cases hg), fun _ => ?_⟩
  rw [hΦ]
  exact ⟨fun h hx hn hf => (hE h hx hn hf).mono (fun v' h' hh => ⟨hh.1, hh.2.1, hh.2.2.1, hh.2.2.2, fun q => by rw [RelF.no] at q; cases q⟩), hk⟩
def Spec.own (N : Nat) (el : TypeId) (sz n : Nat) (xs : List Value) : Spec := ⟨fun v => ∃ a cap, v = .slice a n cap, fun v h => Own h N el sz v n xs, ⟨.slice none n 0, none, 0, rfl⟩, fun v h h' hx hm => hm.ext hx⟩
def Spec.ls (N : Nat) (c : Array Value) (el : TypeId) (n : Nat) : Spec := ⟨fun v => ∃ B, N ≤ B ∧ v = .slice (some ⟨B, 0, none⟩) n n, fun v h => ∀ B, v = .slice (some ⟨B, 0, none⟩) n n → Has h B (.cells c el),
  ⟨.slice (some ⟨N, 0, none⟩) n n, N, Nat.le_refl _, rfl⟩, fun v h h' hx hm B hv => (hm B hv).ext hx⟩
section
variable {P : Program} {e : Env} {h : Heap} {t ty el : TypeId} {sz : Nat}
theorem e_lit0 {N : Nat} (hN : N ≤ h.size) (hu : P.underlying t = some (.slice el)) (hs : sizeB P el = some sz) :
    EOp P (.buildSlice t 0 #[]) ty e h fun v h' => Rel.grows.r h h' ∧ (Spec.ls N #[] el 0).val v ∧ (Spec.ls N #[] el 0).mem v h' := by
  refine ⟨rfl, rfl, fun w hw => ?_⟩
  subst hw
  have hr : (execOp (ev e) { (default : Oper) with op := .buildSlice t 0 #[], type := ty }).run P w = .ok (.value (.slice (some ⟨w.heap.size, 0, none⟩) 0 0)) { w with heap := w.heap.push (.cells #[] el) } := by
    simp [execOp, Instr.buildSlice, run_underlying hu, run_sizeOf_of hs, Instr.fill, newRow, newObj, Sem.run]
    have hz : (Array.map (fun _ => default) (Array.range 0) : Array Value) = #[] := by apply Array.ext'; simp
    rw [hz]
  rw [hr]
  refine ⟨⟨rfl, rfl, rfl, Nat.le_refl _⟩, Ext.push _ _, ⟨_, hN, rfl⟩, ?_⟩
  intro B hB
  cases hB
  simp [Has]
theorem e_lit1 {N : Nat} (hN : N ≤ h.size) {x : Operand} {z : Value} {c : Array Value} (hu : P.underlying t = some (.slice el)) (hs : sizeB P el = some sz) (hz : zeroB P el = some z)
    (hl : sz ≤ 2 ^ 24 ∧ sz ≠ 0) (hc : (ev e x).cells = c) (hcs : c.size = sz) :
    EOp P (.buildSlice t 1 #[(0, x)]) ty e h fun v h' => Rel.grows.r h h' ∧ (Spec.ls N c el 1).val v ∧ (Spec.ls N c el 1).mem v h' := by
  subst hc
  refine ⟨rfl, rfl, fun w hw => ?_⟩
  subst hw
  have hr : (execOp (ev e) { (default : Oper) with op := .buildSlice t 1 #[(0, x)], type := ty }).run P w = .ok (.value (.slice (some ⟨w.heap.size, 0, none⟩) 1 1)) { w with heap := w.heap.push (.cells (ev e x).cells el) } := by
    have h1 : ¬ (sz > 2 ^ 24) := by omega
    have hf : Instr.fill (fun i => some (i * sz, sz)) ((Array.range sz).map (z.cells[· % z.cells.size]!)) [(0, ev e x)] = some (ev e x).cells :=
      fill_one (by simp) (by simp [hcs])
    simp only [execOp, Instr.buildSlice, Sem.run_bind, run_underlying hu, Result.andThen_ok, run_sizeOf_of hs, Nat.one_mul, if_neg h1, Sem.run_pure, if_neg hl.2, run_zero_of hz, List.map_toArray, List.map_cons, List.map_nil, hf]
    simp [newRow, newObj, Sem.run]
  rw [hr]
  refine ⟨⟨rfl, rfl, rfl, Nat.le_refl _⟩, Ext.push _ _, ⟨_, hN, rfl⟩, ?_⟩
  intro B hB
  cases hB
  simp [Has]
theorem e_appFull {bytes base n m c' : Nat} {s x : Operand} {i : TypeInfo} {z : Value} {xs news : List Value} {a0 a : Addr}
    (hu : P.underlying t = some (.slice el)) (hi : P.info? el = some i) (hz : i.zero = some z) (hsz : i.size = sz) (hby : i.bytes = bytes) (hzs : z.cells.size = sz) (h0 : 0 < sz)
    (hv : ev e s = .slice (some a0) n n) (hxl : xs.length = n * sz) (hold : ∀ j u, xs[j]? = some u → ({ (default : World) with heap := h } : World).cell? (a0.add j) = some u)
    (hx : ev e x = .slice (some a) m c') (hl : news.length = m * sz) (hnews : ∀ j u, news[j]? = some u → ({ (default : World) with heap := h } : World).cell? (a.add j) = some u)
    (hm : 0 < m) (h63 : n + m ≤ maxLen) (hbytes : (n + m) * bytes ≤ 140737488355328) (hbase : base ≤ h.size) :
    EOp P (.call ⟨.builtin .append, #[s, x], #[t, t]⟩) ty e h fun v' h' => Ext h h' ∧ Own h' base el sz v' (n + m) (xs ++ news) := by
  subst hsz
  subst hby
  refine ⟨rfl, rfl, fun w hw => ?_⟩
  subst hw
  have hsmall : n + m ≤ 9223372036854775807 := by simp only [maxLen] at h63; omega
  have hr := run_append_grow (P := P) w t ty el i z hu hi hz a0 n n xs hxl (fun j u hj => by have := hold j u hj; exact this) a m c' news hl (fun j u hj => by have := hnews j u hj; exact this) (by omega) (by omega) (growslice_fits (by omega) hbytes)
  have hge := grownCap_ge w (n + m) n el
  have hcm : grownCap w (n + m) n el ≤ maxLen := grownCap_le_maxLen w (n + m) n el h63
  have hlen : (xs ++ news).length = (n + m) * i.size := by rw [List.length_append, hxl, hl, Nat.add_mul]
  have h2 : (execOp (ev e) { (default : Oper) with op := .call ⟨.builtin .append, #[s, x], #[t, t]⟩, type := ty }).run P w = .ok (.value (.slice (some ⟨w.heap.size, 0, none⟩) (n + m) (grownCap w (n + m) n el)))
      (w.drew.alloc (.cells (xs.toArray ++ news.toArray ++ Builtin.zeroCells z.cells (grownCap w (n + m) n el - (n + m))) el)) := by
    simp [execOp, resolve, invoke, builtin, hv, hx, hr]
  rw [h2]
  refine ⟨⟨rfl, rfl, rfl, Nat.le_succ _⟩, Ext.push _ _, hlen, .inr ⟨w.heap.size, _, _, rfl, hbase, heap_alloc_new w.drew _, hge, hcm, ?_, ?_⟩⟩
  · simp only [Array.size_append, List.size_toArray, size_zeroCells, hzs, hxl, hl, ← Nat.add_mul]
    congr 1
    omega
  · simp only [Array.toList_append, List.append_assoc]
    rw [← List.append_assoc, ← hlen]
    exact List.take_left
theorem e_appNone {s x : Operand} {i : TypeInfo} {a0 : Option Addr} {n cap c' : Nat} {a : Option Addr} (hu : P.underlying t = some (.slice el)) (hi : P.info? el = some i) (hv : ev e s = .slice a0 n cap) (hx : ev e x = .slice a 0 c') (hnc : n ≤ cap) (hz : i.size = sz) :
    EOp P (.call ⟨.builtin .append, #[s, x], #[t, t]⟩) ty e h fun v' h' => v' = .slice a0 n cap ∧ h' = h := by
  refine ⟨rfl, rfl, fun w hw => ?_⟩
  subst hw
  have hr : (Builtin.append_ #[t, t] ty #[.slice a0 n cap, .slice a 0 c']).run P w = .ok (.slice a0 n cap) w := by
    cases a0 <;> cases a <;> simp [Builtin.append_, run_underlying hu, Go.sizeOf, typeInfo, program, Sem.run, hi, Builtin.lenOf, Builtin.firstCells, loadCells, loadCellsFrom, hnc, storeCells]
  have h2 : (execOp (ev e) { (default : Oper) with op := .call ⟨.builtin .append, #[s, x], #[t, t]⟩, type := ty }).run P w = .ok (.value (.slice a0 n cap)) w := by
    simp [execOp, resolve, invoke, builtin, hv, hx, hr]
  rw [h2]
  exact ⟨.refl _, rfl, rfl⟩
theorem e_copyG {α : Type} {f : α → List Value} {bytes base m c' B : Nat} {s x : Operand} {i : TypeInfo} {z : Value} {L : List α} {a : Option Addr}
    (hu : P.underlying t = some (.slice el)) (hi : P.info? el = some i) (hz : i.zero = some z) (hsz : i.size = sz) (hby : i.bytes = bytes) (hzs : z.cells.size = sz) (h0 : 0 < sz) (hf : ∀ x, (f x).length = sz)
    (hv : ev e s = .slice (some ⟨B, 0, none⟩) 0 0) (hB : Has h B (.cells #[] el)) (hbB : base ≤ B) (hx : ev e x = .slice a m c') (hm : m = L.length) (hs : SlG sz f h a L)
    (h63 : L.length ≤ maxLen) (hbytes : L.length * bytes ≤ 140737488355328) (hbase : base ≤ h.size) :
    EOp P (.call ⟨.builtin .append, #[s, x], #[t, t]⟩) ty e h fun v' h' => Rel.grows.r h h' ∧ (Spec.own base el sz L.length (L.flatMap f)).val v' ∧ (Spec.own base el sz L.length (L.flatMap f)).mem v' h' := by
  subst hm
  by_cases hL : L.length = 0
  · have hL2 : L = [] := List.length_eq_zero_iff.1 hL
    subst hL2
    refine (e_appNone (sz := sz) hu hi hv hx (Nat.le_refl _) hsz).mono ?_
    rintro v' h' ⟨rfl, rfl⟩
    exact ⟨Ext.refl _, ⟨_, _, rfl⟩, Own.lit0 hB hbB⟩
  · cases a with
    | none => have := hs.emp; subst this; simp at hL
    | some a =>
      refine (e_appFull (n := 0) (xs := []) (base := base) (news := L.flatMap f) hu hi hz hsz hby hzs h0 hv (by simp) (by simp) hx (flat_len hf L) (hs.news hf h0 a rfl) (by omega) (by omega) (by simpa using hbytes) hbase).mono ?_
      rintro v' h' ⟨hx', ho⟩
      have ho' : Own h' base el sz v' L.length (L.flatMap f) := by simpa using ho
      exact ⟨hx', ho'.slice, ho'⟩
theorem WL.makeMap2 {ops : Array Oper} {K : Kont} {ds : List Deferred} {d : Nat} {pos : String} {aft : Array Edge} {rest : List Oper}
    (hk : ∀ h' B, Ext h h' → h.size ≤ B → Has h' B (.map #[] 0) → WL P ops rest (Env.set e d (.map (some B))) ds h' K) : WL P ops (⟨some d, .makeMap t none, ty, pos, aft, none⟩ :: rest) e ds h K :=
  WL.makeMap (hk _ _ (Ext.push _ _) (Nat.le_refl _) (by simp [Has]))
theorem WL.app1 {ops : Array Oper} {K : Kont} {ds : List Deferred} {base n B : Nat} {d2 : Nat} {ty2 : TypeId} {bytes : Nat} {s x : Operand} {pos2 : String} {aft2 : Array Edge} {rest : List Oper} {i : TypeInfo} {z v : Value} {xs : List Value} {c : Array Value}
    (hu : P.underlying t = some (.slice el)) (hi : P.info? el = some i) (hz : i.zero = some z) (hsz : i.size = sz) (hby : i.bytes = bytes) (hzs : z.cells.size = sz) (h0 : 0 < sz)
    (hv : ev e s = v) (hown : Own h base el sz v n xs) (hx : ev e x = .slice (some ⟨B, 0, none⟩) 1 1) (hHas : Has h B (.cells c el)) (hcs : c.size = sz) (h1 : ∀ u ∈ c.toList, u.oneCell' = true)
    (h63 : n + 1 ≤ maxLen) (hbytes : (n + 1) * bytes ≤ 140737488355328) (hbase : base ≤ h.size)
    (hk : ∀ h' v', Own h' base el sz v' (n + 1) (xs ++ c.toList) → Gr h h' v.ownBlock → (v'.ownBlock = v.ownBlock ∨ v'.ownBlock = some h.size) → v' ≠ .slice none 0 0 → WL P ops rest (Env.set e d2 v') ds h' K) :
    WL P ops (⟨some d2, .call ⟨.builtin .append, #[s, x], #[t, t]⟩, ty2, pos2, aft2, none⟩ :: rest) e ds h K := by
  refine WL.ef _ (e_append (h := h) (base := base) (n := n) (xs := xs) (m := 1) (c' := 1) (a := ⟨B, 0, none⟩) (news := c.toList) hu hi hz hsz hby hzs h0 hv hown hx (by simp [hcs]) ?_ h1 h63 hbytes hbase) ?_
  · intro j u hj
    rw [addr_add, cell_eq]
    have h2 : GL.cell h B (0 + j) = c[0 + j]? := hHas.cell _
    rw [h2, Nat.zero_add]
    simpa using hj
  · rintro v' h' ⟨ho, hg, hn, hp⟩
    exact hk h' v' ho hg hp (fun hh => by have := (hn.1 hh).2; omega)
end
structure Gs (h h' : Heap) (S : List Nat) : Prop where
  size : h.size ≤ h'.size
  same : ∀ c, c < h.size → c ∉ S → h'[c]? = h[c]?
theorem Gs.refl (h : Heap) (S : List Nat) : Gs h h S := ⟨Nat.le_refl _, fun _ _ _ => rfl⟩
theorem Gs.ofExt {h h' : Heap} {S : List Nat} (hx : Ext h h') : Gs h h' S := ⟨hx.size, fun c hc _ => by
  have e1 : h[c]? = some h[c] := by simp [hc]
  rw [e1]; exact hx c _ e1⟩
theorem Gs.ofWr {h h' : Heap} {b : Nat} {o : Obj} {S : List Nat} (hw : Wr h h' b o) (hb : b ∈ S) : Gs h h' S := ⟨by rw [hw.size]; exact Nat.le_refl _, fun c hc hn => hw.same c (fun hh => hn (hh ▸ hb))⟩
theorem Gs.ofGr {h h' : Heap} {b : Option Nat} {S : List Nat} (hg : Gr h h' b) (hb : ∀ c, b = some c → c ∈ S) : Gs h h' S := ⟨hg.size, fun c hc hn => hg.same c hc (fun hh => hn (hb c hh))⟩
theorem Gs.step {a b c : Heap} {S T : List Nat} (h1 : Gs a b S) (h2 : Gs b c T) (hT : ∀ x ∈ T, x ∈ S ∨ a.size ≤ x) : Gs a c S := ⟨Nat.le_trans h1.size h2.size, fun x hx hn => by
  rw [h2.same x (Nat.lt_of_lt_of_le hx h1.size) (fun hh => by
    rcases hT x hh with h3 | h3
    · exact hn h3
    · omega)]
  exact h1.same x hx hn⟩
theorem Gs.trans {a b c : Heap} {S : List Nat} (h1 : Gs a b S) (h2 : Gs b c S) : Gs a c S := h1.step h2 fun x hx => .inl hx
theorem Gs.toExt {a b c : Heap} {S : List Nat} (hx : Ext a b) (hg : Gs b c S) (hS : ∀ x ∈ S, a.size ≤ x) : Ext a c := fun k o hk => by
  have h1 : k < a.size := (Array.getElem?_eq_some_iff.1 hk).1
  rw [hg.same k (Nat.lt_of_lt_of_le h1 hx.size) (fun hh => by have := hS k hh; omega)]
  exact hx k o hk
theorem Gs.ext {a b c : Heap} {S : List Nat} (hg : Gs a b S) (hx : Ext b c) : Gs a c S := hg.trans (Gs.ofExt hx)
theorem Has.gs {h h' : Heap} {S : List Nat} {b : Nat} {o : Obj} (hb : Has h b o) (hg : Gs h h' S) (hn : b ∉ S) : Has h' b o := by
  rw [Has, hg.same b (Array.getElem?_eq_some_iff.1 hb).1 hn]; exact hb
theorem Own.gs {h h' : Heap} {S : List Nat} {base : Nat} {el : TypeId} {sz : Nat} {v : Value} {n : Nat} {xs : List Value} (ho : Own h base el sz v n xs) (hg : Gs h h' S) (hn : ∀ c, v.ownBlock = some c → c ∉ S) : Own h' base el sz v n xs :=
  ho.keep fun c hc => hg.same c (ho.block c hc).2 (hn c hc)
theorem MapT.gs {κ β : Type} {ek : κ → Value} {ev' : β → Value} {h h' : Heap} {S : List Nat} {b : Nat} {l : List (κ × β)} (hm : MapT ek ev' h b l) (hg : Gs h h' S) (hn : b ∉ S) : MapT ek ev' h' b l := by
  obtain ⟨es, cl, h1, h2, h3⟩ := hm
  exact ⟨es, cl, h1.gs hg hn, h2, h3⟩
end GL
namespace GL
open Go Go.MapKept
section
variable {P : Program} {k : TypeId} {κ β : Type} {ek : κ → Value} {ev' : β → Value}
theorem StepT.ext {h h' : Heap} {it b : Nat} {l left : List (κ × β)} {p : κ × β} (hs : StepT ek ev' h it b l left p) (hx : Ext h h') : StepT ek ev' h' it b l left p := by
  obtain ⟨es, c, s, seen, e, h1, h2, h3, h4, h5⟩ := hs
  exact ⟨es, c, s, seen, e, h1.ext hx, h2, h3, h4.ext hx, h5⟩
theorem MapT.step {h h' : Heap} {it b : Nat} {l : List (κ × β)} (hm : MapT ek ev' h b l) (hs : h' = h ∨ ∃ o, Wr h h' it o) (hi : b ≠ it) : MapT ek ev' h' b l := by
  rcases hs with rfl | ⟨o, hw⟩
  · exact hm
  · exact hm.wr hw hi
theorem Wr.trans {a b c : Heap} {n : Nat} {o o' : Obj} (h1 : Wr a b n o) (h2 : Wr b c n o') : Wr a c n o' := ⟨h2.at_, fun m hm => by rw [h2.same m hm, h1.same m hm], by rw [h2.size, h1.size]⟩
theorem Has.st {h h' : Heap} {it b : Nat} {o : Obj} (hb : Has h b o) (hs : h' = h ∨ ∃ o, Wr h h' it o) (hi : b ≠ it) : Has h' b o := by
  rcases hs with rfl | ⟨o, hw⟩
  · exact hb
  · exact hb.wr hw hi
theorem StepT.step {h h' : Heap} {it b d : Nat} {l left : List (κ × β)} {p : κ × β} (hs : StepT ek ev' h it b l left p) (hw : h' = h ∨ ∃ o, Wr h h' d o) (h1 : b ≠ d) (h2 : it ≠ d) : StepT ek ev' h' it b l left p := by
  rcases hw with rfl | ⟨o, hw⟩
  · exact hs
  · obtain ⟨es, c, s, seen, e, q1, q2, q3, q4, q5⟩ := hs
    exact ⟨es, c, s, seen, e, q1.wr hw h1, q2, q3, q4.wr hw h2, q5⟩
end
theorem Gs.stp {a b c : Heap} {S : List Nat} {d : Nat} (hg : Gs a b S) (hw : c = b ∨ ∃ o, Wr b c d o) (hd : d ∈ S ∨ a.size ≤ d) : Gs a c S := by
  rcases hw with rfl | ⟨o, hw⟩
  · exact hg
  · exact hg.step (T := [d]) (Gs.ofWr hw (by simp)) (by simpa using hd)
theorem Gs.grb {a b c : Heap} {S : List Nat} {d : Option Nat} (hg : Gs a b S) (hw : Gr b c d) (hd : ∀ x, d = some x → x ∈ S ∨ a.size ≤ x) : Gs a c S :=
  hg.step (T := d.toList) (Gs.ofGr hw (fun x hx => by rw [hx]; simp)) (fun x hx => hd x (by simpa using hx))
theorem Gs.gx {a b c : Heap} {S : List Nat} (hg : Gs a b S) (hx : Ext b c) : Gs a c S := hg.trans (Gs.ofExt hx)
theorem Gs.ext' {a b c : Heap} {S : List Nat} (hg : Gs a b S) (hx : Ext b c) : Gs a c S := hg.gx hx
theorem Own.typ {h : Heap} {base : Nat} {el : TypeId} {sz : Nat} {v : Value} {n : Nat} {xs : List Value} (ho : Own h base el sz v n xs) : ∀ c, v.ownBlock = some c → ∃ cur, Has h c (.cells cur el) := by
  intro c hc
  rcases ho.2 with ⟨rfl, _⟩ | ⟨g, cap, cur, rfl, hb, hg, _⟩
  · cases hc
  · cases hc
    exact ⟨cur, hg⟩
theorem Own.put {h : Heap} {base : Nat} {el : TypeId} {sz : Nat} {v : Value} {n g cap : Nat} {xs : List Value} (ho : Own h base el sz v n xs) (hv : v = .slice (some ⟨g, 0, none⟩) n cap) :
    ∃ cur, Has h g (.cells cur el) ∧ n * sz ≤ cur.size ∧ ∀ (off : Nat) (vs : List Value) (h' : Heap), off + vs.length ≤ n * sz → Wr h h' g (.cells (splc cur off vs) el) → Own h' base el sz v n (splc xs.toArray off vs).toList := by
  have hl := ho.1
  rcases ho.2 with ⟨rfl, hn⟩ | ⟨g', cap', cur, rfl, hb, hg, hc, hm, hs, ht⟩
  · cases hv
  · cases hv
    have h2 : n * sz ≤ cap * sz := Nat.mul_le_mul_right _ hc
    refine ⟨cur, hg, by omega, fun off vs h' hoff hw => ⟨?_, .inr ⟨g, cap, _, rfl, hb, hw.at_, hc, hm, ?_, ?_⟩⟩⟩
    · simp only [splc, List.length_append, List.length_take, List.length_drop]; omega
    · simp only [splc, List.size_toArray, List.length_append, List.length_take, List.length_drop, Array.length_toList]; omega
    · simp only [splc]
      have hcl : cur.toList.length = cap * sz := by simpa using hs
      have hA : (cur.toList.take off).length = off := by rw [List.length_take]; omega
      have hAV : (cur.toList.take off ++ vs).length = off + vs.length := by rw [List.length_append, hA]
      show (cur.toList.take off ++ vs ++ cur.toList.drop (off + vs.length)).take (n * sz) = xs.take off ++ vs ++ xs.drop (off + vs.length)
      rw [List.take_append, List.take_of_length_le (by omega), hAV, ← ht, List.take_take, Nat.min_eq_left (by omega), List.drop_take]
theorem flatMap_len {α : Type} {sz : Nat} {f : α → List Value} (hf : ∀ x, (f x).length = sz) : ∀ L : List α, (L.flatMap f).length = L.length * sz
  | [] => by simp
  | x :: L => by rw [List.flatMap_cons, List.length_append, hf, flatMap_len hf L, List.length_cons, Nat.succ_mul, Nat.add_comm]
theorem splc_mid {A F B vs : List Value} {k : Nat} (hk : k + vs.length ≤ F.length) : (splc (A ++ F ++ B).toArray (A.length + k) vs).toList = A ++ (splc F.toArray k vs).toList ++ B := by
  simp only [splc]
  have h1 : (A ++ F ++ B).take (A.length + k) = A ++ F.take k := by
    rw [List.append_assoc, List.take_length_add_append, List.take_append_of_le_length (by omega)]
  have h2 : (A ++ F ++ B).drop (A.length + k + vs.length) = F.drop (k + vs.length) ++ B := by
    rw [List.append_assoc, Nat.add_assoc, List.drop_length_add_append, List.drop_append_of_le_length (by omega)]
  rw [h1, h2]
  simp [List.append_assoc]
theorem Own.putAt {α : Type} {f : α → List Value} {h : Heap} {base : Nat} {el : TypeId} {sz : Nat} {v : Value} {n g cap : Nat} {L : List α} (hf : ∀ x, (f x).length = sz) (ho : Own h base el sz v n (L.flatMap f)) (hn : n = L.length)
    (hv : v = .slice (some ⟨g, 0, none⟩) n cap) {j k : Nat} {y y' : α} {vs : List Value} (hj : L[j]? = some y) (hk : k + vs.length ≤ sz) (hy : (splc (f y).toArray k vs).toList = f y') :
    ∃ cur, Has h g (.cells cur el) ∧ j * sz + k + vs.length ≤ cur.size ∧ ∀ h' : Heap, Wr h h' g (.cells (splc cur (j * sz + k) vs) el) → Own h' base el sz v n ((L.set j y').flatMap f) := by
  obtain ⟨cur, hb, hs, hw⟩ := ho.put hv
  obtain ⟨hlt, rfl⟩ := List.getElem?_eq_some_iff.1 hj
  have hle : j * sz + sz ≤ n * sz := by rw [hn, ← Nat.succ_mul]; exact Nat.mul_le_mul_right _ hlt
  refine ⟨cur, hb, by omega, fun h' hwr => ?_⟩
  have h1 := hw (j * sz + k) vs h' (by omega) hwr
  have hL : L.take j ++ L[j] :: L.drop (j + 1) = L := by rw [← List.drop_eq_getElem_cons hlt, List.take_append_drop]
  have hA : ((L.take j).flatMap f).length = j * sz := by rw [flatMap_len hf, List.length_take, Nat.min_eq_left (by omega)]
  have h2 : L.flatMap f = (L.take j).flatMap f ++ f L[j] ++ (L.drop (j + 1)).flatMap f := by
    have h9 := congrArg (fun l => l.flatMap f) hL.symm
    simp only [List.flatMap_append, List.flatMap_cons] at h9
    rw [List.append_assoc]
    exact h9
  have h3 : (L.set j y').flatMap f = (L.take j).flatMap f ++ f y' ++ (L.drop (j + 1)).flatMap f := by
    rw [List.set_eq_take_append_cons_drop, if_pos hlt]
    simp [List.flatMap_append, List.append_assoc]
  have h4 : (splc ((L.take j).flatMap f ++ f L[j] ++ (L.drop (j + 1)).flatMap f).toArray (j * sz + k) vs).toList = (L.take j).flatMap f ++ f y' ++ (L.drop (j + 1)).flatMap f := by
    rw [← hA, splc_mid (by rw [hf]; exact hk), hy]
  rw [h2, h4, ← h3] at h1
  exact h1
end GL
namespace GL
open Go Go.MapKept
def Rel.first (j : Nat) (h0 : Heap) : Rel := { r := Ext, refl := Ext.refl, trans := Ext.trans, neg := fun k h => k = j → h = h0 }
instance (j : Nat) (h0 : Heap) : RelX (Rel.first j h0) := ⟨fun h => h⟩
instance (j : Nat) (h0 : Heap) : RelL (Rel.first j h0) := ⟨fun _ _ _ => trivial⟩
instance (j : Nat) (h0 : Heap) : RelF (Rel.first j h0) := ⟨fun _ => rfl⟩
def Spec.m1 {κ β : Type} (ek : κ → Value) (ev' : β → Value) (N : Nat) (l : List (κ × β)) : Spec := ⟨fun v => v = .map (some N), fun _ h => MapT ek ev' h N l, ⟨_, rfl⟩, fun _ _ _ hx hm => hm.ext hx⟩
def mapEq {κ β : Type} [BEq κ] (l l' : List (κ × β)) : Prop := l.length = l'.length ∧ ∀ p ∈ l, l'.lookup p.1 = some p.2
instance {κ β : Type} [BEq κ] [DecidableEq β] (l l' : List (κ × β)) : Decidable (mapEq l l') := inferInstanceAs (Decidable (_ ∧ _))
structure RX (h0 h7 : Heap) (S : List Nat) (rec : Loop) (hx : Heap) : Prop where
  rc : Rec hx (h7.size + 1) rec
  df : hx[h7.size]? = some (.deferred (some []))
  gs : Gs h7 hx S
  size : h7.size + 2 ≤ hx.size
  e0 : Ext h0 h7
  lo : ∀ x ∈ S, h0.size ≤ x
  hi : ∀ x ∈ S, x < h7.size
section
variable {h0 h7 hx hy : Heap} {S : List Nat} {rec : Loop}
theorem RX.ex (hC : RX h0 h7 S rec hx) : Ext h0 hx := hC.gs.toExt hC.e0 hC.lo
theorem RX.ext (hC : RX h0 h7 S rec hx) (he : Ext hx hy) : RX h0 h7 S rec hy := ⟨he _ _ hC.rc, he _ _ hC.df, hC.gs.gx he, Nat.le_trans hC.size he.size, hC.e0, hC.lo, hC.hi⟩
theorem RX.turn {rec' : Loop} (hC : RX h0 h7 S rec hx) (hw : Wr hx hy (h7.size + 1) (.loop rec')) : RX h0 h7 S rec' hy :=
  ⟨hw.at_, by rw [hw.same _ (by omega)]; exact hC.df, hC.gs.stp (.inr ⟨_, hw⟩) (.inr (by omega)), by rw [hw.size]; exact hC.size, hC.e0, hC.lo, hC.hi⟩
theorem RX.put {b : Nat} {o : Obj} (hC : RX h0 h7 S rec hx) (hw : Wr hx hy b o) (hb : b ∈ S ∨ h7.size + 2 ≤ b) : RX h0 h7 S rec hy := by
  have hne : b ≠ h7.size ∧ b ≠ h7.size + 1 := by
    rcases hb with hb | hb
    · have := hC.hi b hb; omega
    · omega
  exact ⟨by have h1 := hC.rc; rw [Rec, hw.same _ hne.2.symm]; exact h1, by rw [hw.same _ hne.1.symm]; exact hC.df, hC.gs.stp (.inr ⟨_, hw⟩) (hb.imp id (by omega)), by rw [hw.size]; exact hC.size, hC.e0, hC.lo, hC.hi⟩
theorem RX.stp {b : Nat} (hC : RX h0 h7 S rec hx) (hw : hy = hx ∨ ∃ o, Wr hx hy b o) (hb : b ∈ S ∨ h7.size + 2 ≤ b) : RX h0 h7 S rec hy := by
  rcases hw with rfl | ⟨o, hw⟩
  · exact hC
  · exact hC.put hw hb
theorem RX.grb {b : Option Nat} (hC : RX h0 h7 S rec hx) (hg : Gr hx hy b) (hb : ∀ c, b = some c → c ∈ S ∨ h7.size + 2 ≤ c) : RX h0 h7 S rec hy := by
  have hne : ∀ c, b = some c → c ≠ h7.size ∧ c ≠ h7.size + 1 := by
    intro c hc
    rcases hb c hc with hb | hb
    · have := hC.hi c hb; omega
    · omega
  have hs := hC.size
  refine ⟨?_, ?_, hC.gs.grb hg (fun c hc => (hb c hc).imp id (by omega)), Nat.le_trans hs hg.size, hC.e0, hC.lo, hC.hi⟩
  · have h1 := hC.rc
    rw [Rec, hg.same _ (by omega) (fun hh => (hne _ hh).2 rfl)]; exact h1
  · rw [hg.same _ (by omega) (fun hh => (hne _ hh).1 rfl)]; exact hC.df
theorem RX.start (hx8 : Ext h7 hx) (hs : hx.size = h7.size + 2) (hd : hx[h7.size]? = some (.deferred (some []))) (hr : Rec hx (h7.size + 1) rec) (h0x : Ext h0 h7) (hlo : ∀ x ∈ S, h0.size ≤ x) (hhi : ∀ x ∈ S, x < h7.size) : RX h0 h7 S rec hx :=
  ⟨hr, hd, Gs.ofExt hx8, by omega, h0x, hlo, hhi⟩
end
theorem SlG.pre {α : Type} {sz : Nat} {f : α → List Value} {h : Heap} {a : Option Addr} {L : List α} (hs : SlG sz f h a L) (k : Nat) : SlG sz f h a (L.take k) := fun i x hi => by
  have h1 := (List.getElem?_eq_some_iff.1 hi).1
  rw [List.length_take] at h1
  exact hs i x (by rwa [List.getElem?_take_of_lt (by omega)] at hi)
theorem HDef.mono {P : Program} {f : FuncId} {args : Array Value} {h : Heap} {R R' : Heap → Prop} (hc : HDef P f args h R) (hr : ∀ h', R h' → R' h') : HDef P f args h R' := fun w hw u => by
  have := hc w hw u
  refine ⟨this.1, fun c cs hu hroom => ?_⟩
  obtain ⟨e', u', w', fr, ⟨v, rfl, rfl, hs', hR⟩, hrest⟩ := this.2 c cs hu hroom
  exact ⟨_, _, w', fr, ⟨v, rfl, rfl, hs', hr _ hR⟩, hrest⟩
end GL
namespace GL
open Go Go.Proofs Go.MapKept
set_option maxRecDepth 8000
theorem drop_atG {α : Type} {b : List α} {i : Nat} {m : α} (h : b[i]? = some m) : b.drop i = m :: b.drop (i + 1) := by
  obtain ⟨hi, rfl⟩ := List.getElem?_eq_some_iff.1 h
  exact List.drop_eq_getElem_cons hi
theorem atG {α : Type} {l : List α} {i : Nat} (hi : i < l.length) : ∃ x, l[i]? = some x := ⟨l[i], by simp⟩
def lk {κ : Type} [DecidableEq κ] (l : List (κ × Int)) (q : κ) : Int := (l.lookup q).getD 0
theorem lk_mset {κ : Type} [DecidableEq κ] (l : List (κ × Int)) (x q : κ) (v : Int) : lk (mset l x v) q = if x = q then v else lk l q := by
  unfold lk
  rw [lookup_mset]
  by_cases h : q = x
  · subst h; simp
  · rw [if_neg h, if_neg (fun hh => h hh.symm)]
theorem all_take {α : Type} {p : α → Prop} {l : List α} {i : Nat} {x : α} (h : ∀ y ∈ l.take i, p y) (hx : l[i]? = some x) (hp : p x) : ∀ y ∈ l.take (i + 1), p y := by
  intro y hy
  rw [List.take_add_one, hx, List.mem_append] at hy
  rcases hy with hy | hy
  · exact h y hy
  · simp at hy; rw [hy]; exact hp
theorem all_end {α : Type} {p : α → Prop} {l : List α} {i : Nat} (h : ∀ y ∈ l.take i, p y) (hi : l.length ≤ i) : ∀ y ∈ l, p y := by
  rwa [List.take_of_length_le hi] at h
theorem mset_fst {κ β : Type} [DecidableEq κ] (m : List (κ × β)) (x : κ) (v : β) : (mset m x v).map Prod.fst = if x ∈ m.map Prod.fst then m.map Prod.fst else m.map Prod.fst ++ [x] := by
  induction m with
  | nil => simp [mset]
  | cons p m ih =>
    simp only [mset]
    by_cases h : p.1 = x
    · rw [if_pos h, if_pos (by simp [h])]; simp [h]
    · rw [if_neg h, List.map_cons, ih, List.map_cons]
      by_cases h2 : x ∈ m.map Prod.fst
      · rw [if_pos h2, if_pos (List.mem_cons_of_mem _ h2)]
      · rw [if_neg h2, if_neg (fun hh => by rcases List.mem_cons.1 hh with h3 | h3; exact h h3.symm; exact h2 h3)]; rfl
theorem mset_nodup {κ β : Type} [DecidableEq κ] {m : List (κ × β)} {x : κ} {v : β} (h : (m.map Prod.fst).Nodup) : ((mset m x v).map Prod.fst).Nodup := by
  rw [mset_fst]
  split
  · exact h
  · rename_i hn
    rw [List.nodup_append]
    exact ⟨h, by simp, by intro a ha b hb hab; simp at hb; subst hb; subst hab; exact hn ha⟩
theorem mdel_nd {κ β : Type} [DecidableEq κ] {fs : List (κ × β)} {q : κ} (h : (fs.map Prod.fst).Nodup) : ((mdel fs q).map Prod.fst).Nodup := (List.filter_sublist.map _).nodup h
theorem Has.un {h : Heap} {b : Nat} {o o' : Obj} (h1 : Has h b o) (h2 : Has h b o') : o = o' := by
  have : some o = some o' := h1.symm.trans h2
  cases this; rfl
theorem MapT.has {κ β : Type} {ek : κ → Value} {ev' : β → Value} {h : Heap} {b : Nat} {l : List (κ × β)} (hm : MapT ek ev' h b l) : ∃ es c, Has h b (.map es c) := by
  obtain ⟨es, c, h1, _⟩ := hm; exact ⟨es, c, h1⟩
theorem Has.ncell {h : Heap} {b b' : Nat} {c c' : Array Value} {t t' : TypeId} (h1 : Has h b (.cells c t)) (h2 : Has h b' (.cells c' t')) (ht : t ≠ t') : b ≠ b' := by
  rintro rfl
  have := h1.un h2; simp only [Obj.cells.injEq] at this; exact ht this.2.1
theorem Has.nmap {κ β : Type} {ek : κ → Value} {ev' : β → Value} {h : Heap} {b b' : Nat} {c : Array Value} {t : TypeId} {l : List (κ × β)} (h1 : Has h b (.cells c t)) (h2 : MapT ek ev' h b' l) : b ≠ b' := by
  rintro rfl
  obtain ⟨es, cl, h3⟩ := h2.has
  cases h1.un h3
theorem Own.ncell {h : Heap} {base : Nat} {el t : TypeId} {sz : Nat} {v : Value} {n b : Nat} {xs : List Value} {c : Array Value} (ho : Own h base el sz v n xs) (h2 : Has h b (.cells c t)) (ht : t ≠ el) : v.ownBlock ≠ some b := by
  intro hh
  obtain ⟨cur, h1⟩ := ho.typ b hh
  exact h2.ncell h1 ht rfl
theorem Own.nmap {κ β : Type} {ek : κ → Value} {ev' : β → Value} {l : List (κ × β)} {h : Heap} {base : Nat} {el : TypeId} {sz : Nat} {v : Value} {n b : Nat} {xs : List Value} (ho : Own h base el sz v n xs) (h2 : MapT ek ev' h b l) : v.ownBlock ≠ some b := by
  intro hh
  obtain ⟨cur, h1⟩ := ho.typ b hh
  exact h1.nmap h2 rfl
theorem readN_same {h h' : Heap} {b : Nat} (hs : h'[b]? = h[b]?) : ∀ n off, GL.readN h' b off n = GL.readN h b off n
  | 0, off => rfl
  | n + 1, off => by
    have hc : GL.cell h' b off = GL.cell h b off := by simp only [GL.cell, hs]
    simp only [GL.readN, hc, readN_same hs n]
theorem hcalls_of {P : Program} {f : FuncId} {args : Array Value} {h : Heap} {R : Value → Heap → Prop}
    (hc : ∀ w : World, w.heap = h → Calls P f args w fun x w' => ∃ v, x = .returned v ∧ Same w w' ∧ R v w'.heap) : HCalls P f args h R := fun w hw => callsIn_wide.2 (hc w hw)
theorem Gr.of {w w' : World} {b : Option Nat} (hg : w.grownBy w' b) : Gr w.heap w'.heap b := ⟨hg.size, fun c hc hne => hg.block c hc (fun hh => hne hh.symm)⟩
theorem slicev_h {P : Program} {t el : TypeId} {sz : Nat} (hu : P.underlying t = some (.slice el)) (hs : sizeB P el = some sz) (a : Option Addr) (ha : ∀ x, a = some x → x.spot = none) (len cap : Nat) (k : IntKind) (i : Int) (h0 : 0 ≤ i) (h1 : i ≤ cap) :
    slicev P t (.slice a len cap) none (some (.int k i)) none = some (.slice a i.toNat cap) := by
  have e1 : a.map (fun x => x.add (0 * sz)) = a := by
    cases a with
    | none => rfl
    | some x =>
      obtain ⟨b, off, spot⟩ := x
      have := ha _ rfl
      simp only at this
      subst this
      simp [addr_add]
  simp only [slicev, hu, hs, bnd, h0, h1, true_and, and_self, if_true, e1, Nat.sub_zero, ite_self]
  try simp [h0, h1, e1]
structure SlR {α : Type} (el : TypeId) (sz : Nat) (f : α → List Value) (h : Heap) (a : Option Addr) (l : List α) : Prop where
  rd : SlG sz f h a l
  ty : ∀ g off, a = some ⟨g, off, none⟩ → ∃ cur, Has h g (.cells cur el)
section
variable {α : Type} {el : TypeId} {sz : Nat} {f : α → List Value} {h h' : Heap} {a : Option Addr} {l : List α}
theorem SlR.ext (hs : SlR el sz f h a l) (hx : Ext h h') : SlR el sz f h' a l := ⟨hs.rd.ext hx, fun g off ha => (hs.ty g off ha).imp fun _ hc => hc.ext hx⟩
theorem SlR.gs {S : List Nat} (hs : SlR el sz f h a l) (hg : Gs h h' S) (hn : ∀ g off, a = some ⟨g, off, none⟩ → g ∉ S) : SlR el sz f h' a l :=
  ⟨fun i x hi => by
    obtain ⟨b, off, ha, hr⟩ := hs.rd i x hi
    obtain ⟨cur, hc⟩ := hs.ty b off ha
    exact ⟨b, off, ha, by rw [readN_same (hg.same b (Array.getElem?_eq_some_iff.1 hc).1 (hn b off ha))]; exact hr⟩,
   fun g off ha => (hs.ty g off ha).imp fun _ hc => hc.gs hg (hn g off ha)⟩
theorem SlR.own (hf : ∀ x, (f x).length = sz) {base n cap : Nat} (ho : Own h base el sz (.slice a n cap) n (l.flatMap f)) (hn : n = l.length) : SlR el sz f h a l := by
  obtain ⟨a', c', h1, _, h2, _⟩ := Own.slG hf ho hn
  cases h1
  refine ⟨h2, fun g off ha => ?_⟩
  subst ha
  rcases ho.2 with ⟨h3, _⟩ | ⟨g', cap', cur, h3, _, hg, _⟩
  · cases h3
  · cases h3; exact ⟨cur, hg⟩
theorem slG_own (hf : ∀ x, (f x).length = sz) {base n cap : Nat} (ho : Own h base el sz (.slice a n cap) n (l.flatMap f)) (hn : n = l.length) : SlG sz f h a l := (SlR.own hf ho hn).rd
theorem Own.shape {base n : Nat} {v : Value} {xs : List Value} (ho : Own h base el sz v n xs) : ∃ a cap, v = .slice a n cap ∧ n ≤ cap ∧ (a = none → cap = 0) ∧ ∀ x, a = some x → ∃ g, x = ⟨g, 0, none⟩ ∧ base ≤ g ∧ g < h.size := by
  rcases ho.2 with ⟨hv, hn⟩ | ⟨g, cap, cur, hv, hb, hg, hc, _⟩
  · subst hn; exact ⟨none, 0, hv, Nat.le_refl _, fun _ => rfl, (fun x hx => by cases hx)⟩
  · exact ⟨some ⟨g, 0, none⟩, cap, hv, hc, (fun hh => by cases hh), (fun x hx => by cases hx; exact ⟨g, rfl, hb, (Array.getElem?_eq_some_iff.1 hg).1⟩)⟩
end
def sumF {α : Type} (f : α → Int) : List α → Int
  | [] => 0
  | x :: l => f x + sumF f l
section
variable {α : Type} {f g : α → Int}
theorem sumF_perm {l m : List α} (h : l.Perm m) : sumF f l = sumF f m := by
  induction h with
  | nil => rfl
  | cons x _ ih => simp only [sumF, ih]
  | swap x y l => simp only [sumF]; omega
  | trans _ _ h1 h2 => exact h1.trans h2
theorem sumF_app (l m : List α) : sumF f (l ++ m) = sumF f l + sumF f m := by
  induction l with
  | nil => simp [sumF]
  | cons x l ih => simp only [List.cons_append, sumF, ih]; omega
theorem sumF_step {l : List α} {i : Nat} {x : α} (hx : l[i]? = some x) : sumF f (l.take (i + 1)) = sumF f (l.take i) + f x := by
  rw [List.take_add_one, hx, sumF_app]; simp [sumF]
theorem sumF_congr {l : List α} (h : ∀ x ∈ l, f x = g x) : sumF f l = sumF g l := by
  induction l with
  | nil => rfl
  | cons x l ih => simp only [sumF, h x (by simp), ih fun y hy => h y (by simp [hy])]
theorem sumF_zero {l : List α} (h : ∀ x ∈ l, f x = 0) : sumF f l = 0 := by
  induction l with
  | nil => rfl
  | cons x l ih => simp only [sumF, h x (by simp), ih fun y hy => h y (by simp [hy])]; rfl
end
def sLt (a b : ByteArray) : Bool := Op.bytesLess a.toList b.toList
theorem bl_irrefl : ∀ x : List UInt8, Op.bytesLess x x = false
  | [] => rfl
  | a :: x => by simp [Op.bytesLess, bl_irrefl x]
theorem bl_trans : ∀ x y z : List UInt8, Op.bytesLess x y = true → Op.bytesLess y z = true → Op.bytesLess x z = true
  | _, _, [], _, h => by simp [Op.bytesLess] at h
  | _, [], _ :: _, h, _ => by simp [Op.bytesLess] at h
  | [], _ :: _, _ :: _, _, _ => rfl
  | a :: x, b :: y, c :: z, h1, h2 => by
    simp only [Op.bytesLess, Bool.or_eq_true, Bool.and_eq_true, decide_eq_true_eq, beq_iff_eq] at h1 h2 ⊢
    rcases h1 with h1 | ⟨rfl, h1⟩
    · rcases h2 with h2 | ⟨rfl, h2⟩
      · exact .inl (UInt8.lt_trans h1 h2)
      · exact .inl h1
    · rcases h2 with h2 | ⟨rfl, h2⟩
      · exact .inl h2
      · exact .inr ⟨rfl, bl_trans x y z h1 h2⟩
theorem bl_tri : ∀ x y : List UInt8, Op.bytesLess x y = false → Op.bytesLess y x = false → x = y
  | [], [], _, _ => rfl
  | [], _ :: _, h, _ => by simp [Op.bytesLess] at h
  | _ :: _, [], _, h => by simp [Op.bytesLess] at h
  | a :: x, b :: y, h1, h2 => by
    simp only [Op.bytesLess, Bool.or_eq_false_iff, Bool.and_eq_false_iff, decide_eq_false_iff_not, beq_eq_false_iff_ne] at h1 h2
    have hab : a = b := UInt8.le_antisymm (UInt8.not_lt.1 h2.1) (UInt8.not_lt.1 h1.1)
    subst hab
    rw [bl_tri x y (h1.2.resolve_left (fun h => h rfl)) (h2.2.resolve_left (fun h => h rfl))]
theorem toList_inj {a b : ByteArray} (h : a.toList = b.toList) : a = b := by
  rw [ByteArray.toList_eq, ByteArray.toList_eq] at h
  obtain ⟨x⟩ := a
  obtain ⟨y⟩ := b
  exact congrArg ByteArray.mk (Array.toList_inj.1 h)
theorem strEq (a b : ByteArray) : (a == b) = decide (a = b) := by
  rw [← toList_beq, Bool.eq_iff_iff, beq_iff_eq, decide_eq_true_eq]
  exact ⟨toList_inj, fun h => by rw [h]⟩
instance : LawfulBEq ByteArray where
  rfl := by intro a; rw [strEq]; exact decide_eq_true rfl
  eq_of_beq := by intro a b h; rw [strEq] at h; exact of_decide_eq_true h
theorem sLt_irrefl (a : ByteArray) : sLt a a = false := bl_irrefl _
theorem sLt_trans {a b c : ByteArray} (h1 : sLt a b = true) (h2 : sLt b c = true) : sLt a c = true := bl_trans _ _ _ h1 h2
theorem sLt_tri {a b : ByteArray} (h1 : sLt a b = false) (h2 : sLt b a = false) : a = b := toList_inj (bl_tri _ _ h1 h2)
theorem binv_lssS {P : Program} {t : TypeId} {a b : ByteArray} : binv P .lss t (.string a) (.string b) = some (.bool (sLt a b)) := rfl
theorem binv_gtrS {P : Program} {t : TypeId} {a b : ByteArray} : binv P .gtr t (.string a) (.string b) = some (.bool (sLt b a)) := by
  show some (Value.bool (!(Op.bytesLess a.toList b.toList || a.toList == b.toList))) = some (.bool (Op.bytesLess b.toList a.toList))
  congr 2
  by_cases h : Op.bytesLess b.toList a.toList = true
  · have h1 : Op.bytesLess a.toList b.toList = false := by
      cases h2 : Op.bytesLess a.toList b.toList with
      | false => rfl
      | true => have := bl_trans _ _ _ h h2; rw [bl_irrefl] at this; cases this
    have h3 : (a.toList == b.toList) = false := by
      cases h4 : a.toList == b.toList with
      | false => rfl
      | true => rw [eq_of_beq h4, bl_irrefl] at h; cases h
    rw [h, h1, h3]; rfl
  · rw [Bool.not_eq_true] at h
    rw [h]
    cases h2 : Op.bytesLess a.toList b.toList with
    | true => rfl
    | false => rw [bl_tri _ _ h2 h]; simp
theorem e_litN {P : Program} {e : Env} {h : Heap} {N len sz : Nat} {t ty el : TypeId} {parts : Array (Nat × Operand)} {z : Value} {c : Array Value} (hN : N ≤ h.size) (zs : Array Value)
    (hu : P.underlying t = some (.slice el)) (hs : sizeB P el = some sz) (hz : zeroB P el = some z) (hl : len * sz ≤ 2 ^ 24 ∧ len * sz ≠ 0)
    (hzs : (Array.range (len * sz)).map (fun j => z.cells[j % z.cells.size]!) = zs) (hf : ∃ c', Instr.fill (fun i => some (i * sz, sz)) zs (parts.map fun (i, x) => (i, ev e x)).toList = some c' ∧ c' = c) :
    EOp P (.buildSlice t len parts) ty e h fun v h' => Rel.grows.r h h' ∧ (Spec.ls N c el len).val v ∧ (Spec.ls N c el len).mem v h' := by
  obtain ⟨c', hf, rfl⟩ := hf
  subst hzs
  refine ⟨rfl, rfl, fun w hw => ?_⟩
  subst hw
  have hr : (execOp (ev e) { (default : Oper) with op := .buildSlice t len parts, type := ty }).run P w = .ok (.value (.slice (some ⟨w.heap.size, 0, none⟩) len len)) { w with heap := w.heap.push (.cells c' el) } := by
    have h1 : ¬ (len * sz > 2 ^ 24) := by omega
    simp only [execOp, Instr.buildSlice, Sem.run_bind, run_underlying hu, Result.andThen_ok, run_sizeOf_of hs, if_neg h1, Sem.run_pure, if_neg hl.2, run_zero_of hz, hf]
    simp [newRow, newObj, Sem.run]
  rw [hr]
  refine ⟨⟨rfl, rfl, rfl, Nat.le_refl _⟩, Ext.push _ _, ⟨_, hN, rfl⟩, ?_⟩
  intro B hB
  cases hB
  simp [Has]
theorem nodup_idx {γ : Type} {l : List γ} (hn : l.Nodup) {i j : Nat} {x : γ} (hi : l[i]? = some x) (hj : l[j]? = some x) : i = j :=
  (List.getElem?_inj (List.getElem?_eq_some_iff.1 hi).1 hn).1 (hi.trans hj.symm)
end GL
namespace Go.Proofs
open Go.Shelf
def Tryz.lays134_ren : Go.Shelf.Ren := ⟨fun | 134 => 91 | 129 => 111 | n => n, fun | 53 => 136 | 3 => 3 | 4 => 4 | 46 => 168 | 5 => 5 | 9 => 9 | n => n, fun | n => n⟩
theorem Tryz.lays134 : Go.Proofs.Lays.n134 Tryz.prog Tryz.lays134_ren := {
  mixed := by kernel_rfl
  f129 := Tryz.func111.trans (congrArg some (by kernel_rfl))
  f134 := Tryz.func91.trans (congrArg some (by kernel_rfl))
  t3 := Tryz.underlying3
  a3 := Tryz.isAgg3
  z3 := Tryz.sizeOf3
  v3 := Tryz.zeroValue3
  t4 := Tryz.underlying4
  a4 := Tryz.isAgg4
  z4 := Tryz.sizeOf4
  v4 := Tryz.zeroValue4
  t5 := Tryz.underlying5
  a5 := Tryz.isAgg5
  z5 := Tryz.sizeOf5
  v5 := Tryz.zeroValue5
  t9 := Tryz.underlying9
  a9 := Tryz.isAgg9
  z9 := Tryz.sizeOf9
  v9 := Tryz.zeroValue9
  t46 := Tryz.underlying168
  a46 := Tryz.isAgg168
  z46 := Tryz.sizeOf168
  v46 := Tryz.zeroValue168
  t53 := Tryz.underlying136
  a53 := Tryz.isAgg136
  z53 := Tryz.sizeOf136
  v53 := Tryz.zeroValue136 }
theorem Tryz.bits_LeadingZeros64 (x : Int) (w : World) (h0 : 0 ≤ x) (h1 : x ≤ 18446744073709551615) :
    Calls Tryz.prog 91 #[.int .u64 x] w fun e w' => e = .returned (.int .i64 (64 - (Lib.bitLen x.toNat : Int))) ∧ w' = w := Any.bits_LeadingZeros64 Tryz.lays134 x w h0 h1
def Tryz.lays264_ren : Go.Shelf.Ren := ⟨fun | 264 => 73 | n => n, fun | 53 => 136 | 46 => 168 | n => n, fun | n => n⟩
theorem Tryz.lays264 : Go.Proofs.Lays.n264 Tryz.prog Tryz.lays264_ren := {
  mixed := by kernel_rfl
  f264 := Tryz.func73.trans (congrArg some (by kernel_rfl))
  t46 := Tryz.underlying168
  a46 := Tryz.isAgg168
  z46 := Tryz.sizeOf168
  v46 := Tryz.zeroValue168
  t53 := Tryz.underlying136
  a53 := Tryz.isAgg136
  z53 := Tryz.sizeOf136
  v53 := Tryz.zeroValue136 }
theorem Tryz.bits_Mul64 (x y : Nat) (hx : x < 18446744073709551616) (hy : y < 18446744073709551616) (w : World) :
    Calls Tryz.prog 73 #[.int .u64 x, .int .u64 y] w fun e w' => e = .returned (.tuple #[.int .u64 ((x * y / 18446744073709551616 : Nat) : Int), .int .u64 ((x * y % 18446744073709551616 : Nat) : Int)]) ∧ w' = w := Any.bits_Mul64 Tryz.lays264 x y hx hy w
def Tryz.sortH_ren : Go.Shelf.Ren := ⟨fun | 6 => 66 | 15 => 90 | 14 => 89 | 28 => 110 | 29 => 111 | 20 => 102 | 21 => 103 | 22 => 104 | 23 => 105 | 24 => 106 | 25 => 107 | 26 => 108 | 27 => 109 | 46 => 124 | 47 => 125 | 48 => 126 | 49 => 127 | 50 => 128 | 57 => 136 | n => n, fun | 22 => 79 | 24 => 78 | 25 => 116 | 3 => 3 | 39 => 168 | 0 => 0 | 53 => 190 | 55 => 136 | 4 => 4 | 46 => 183 | 45 => 182 | 50 => 187 | 5 => 5 | 9 => 9 | 66 => 198 | 70 => 202 | 76 => 212 | 77 => 70 | n => n, fun | n => n⟩
theorem Tryz.sortH : Go.Proofs.SlLaysF0.n6 Tryz.prog Tryz.sortH_ren := {
  mixed := by kernel_rfl
  f6 := ⟨Tryz.f66.name, by decide, Tryz.func66.trans (congrArg some (by kernel_rfl))⟩
  f14 := ⟨Tryz.f89.name, by decide, Tryz.func89.trans (congrArg some (by kernel_rfl))⟩
  f15 := Tryz.func90.trans (congrArg some (by kernel_rfl))
  f20 := ⟨Tryz.f102.name, by decide, Tryz.func102.trans (congrArg some (by kernel_rfl))⟩
  f21 := ⟨Tryz.f103.name, by decide, Tryz.func103.trans (congrArg some (by kernel_rfl))⟩
  f22 := ⟨Tryz.f104.name, by decide, Tryz.func104.trans (congrArg some (by kernel_rfl))⟩
  f23 := ⟨Tryz.f105.name, by decide, Tryz.func105.trans (congrArg some (by kernel_rfl))⟩
  f24 := ⟨Tryz.f106.name, by decide, Tryz.func106.trans (congrArg some (by kernel_rfl))⟩
  f25 := ⟨Tryz.f107.name, by decide, Tryz.func107.trans (congrArg some (by kernel_rfl))⟩
  f26 := ⟨Tryz.f108.name, by decide, Tryz.func108.trans (congrArg some (by kernel_rfl))⟩
  f27 := ⟨Tryz.f109.name, by decide, Tryz.func109.trans (congrArg some (by kernel_rfl))⟩
  f28 := Tryz.func110.trans (congrArg some (by kernel_rfl))
  f29 := Tryz.func111.trans (congrArg some (by kernel_rfl))
  f46 := ⟨Tryz.f124.name, by decide, Tryz.func124.trans (congrArg some (by kernel_rfl))⟩
  f47 := Tryz.func125.trans (congrArg some (by kernel_rfl))
  f48 := Tryz.func126.trans (congrArg some (by kernel_rfl))
  f49 := ⟨Tryz.f127.name, by decide, Tryz.func127.trans (congrArg some (by kernel_rfl))⟩
  f50 := ⟨Tryz.f128.name, by decide, Tryz.func128.trans (congrArg some (by kernel_rfl))⟩
  f57 := ⟨Tryz.f136.name, by decide, Tryz.func136.trans (congrArg some (by kernel_rfl))⟩
  t0 := Tryz.underlying0
  a0 := Tryz.isAgg0
  z0 := Tryz.sizeOf0
  v0 := Tryz.zeroValue0
  t3 := Tryz.underlying3
  a3 := Tryz.isAgg3
  z3 := Tryz.sizeOf3
  v3 := Tryz.zeroValue3
  t4 := Tryz.underlying4
  a4 := Tryz.isAgg4
  z4 := Tryz.sizeOf4
  v4 := Tryz.zeroValue4
  t5 := Tryz.underlying5
  a5 := Tryz.isAgg5
  z5 := Tryz.sizeOf5
  v5 := Tryz.zeroValue5
  t9 := Tryz.underlying9
  a9 := Tryz.isAgg9
  z9 := Tryz.sizeOf9
  v9 := Tryz.zeroValue9
  t22 := Tryz.underlying79
  a22 := Tryz.isAgg79
  z22 := Tryz.sizeOf79
  v22 := Tryz.zeroValue79
  t25 := Tryz.underlying116
  a25 := Tryz.isAgg116
  z25 := Tryz.sizeOf116
  v25 := Tryz.zeroValue116
  t39 := Tryz.underlying168
  a39 := Tryz.isAgg168
  z39 := Tryz.sizeOf168
  v39 := Tryz.zeroValue168
  t45 := Tryz.underlying182
  a45 := Tryz.isAgg182
  z45 := Tryz.sizeOf182
  v45 := Tryz.zeroValue182
  t46 := Tryz.underlying183
  a46 := Tryz.isAgg183
  z46 := Tryz.sizeOf183
  v46 := Tryz.zeroValue183
  t50 := Tryz.underlying187
  a50 := Tryz.isAgg187
  z50 := Tryz.sizeOf187
  v50 := Tryz.zeroValue187
  t53 := Tryz.underlying190
  a53 := Tryz.isAgg190
  z53 := Tryz.sizeOf190
  v53 := Tryz.zeroValue190
  t55 := Tryz.underlying136
  a55 := Tryz.isAgg136
  z55 := Tryz.sizeOf136
  v55 := Tryz.zeroValue136
  t66 := Tryz.underlying198
  a66 := Tryz.isAgg198
  z66 := Tryz.sizeOf198
  v66 := Tryz.zeroValue198
  t70 := Tryz.underlying202
  a70 := Tryz.isAgg202
  z70 := Tryz.sizeOf202
  v70 := Tryz.zeroValue202
  t76 := Tryz.underlying212
  a76 := Tryz.isAgg212
  z76 := Tryz.sizeOf212
  v76 := Tryz.zeroValue212
  t77 := Tryz.underlying70
  a77 := Tryz.isAgg70
  z77 := Tryz.sizeOf70
  v77 := Tryz.zeroValue70 }
def Tryz.sortP_ren : Go.Shelf.Ren := ⟨fun | 6 => 75 | 15 => 90 | 14 => 92 | 28 => 110 | 29 => 111 | 20 => 112 | 21 => 113 | 22 => 114 | 23 => 115 | 24 => 116 | 25 => 117 | 26 => 118 | 27 => 119 | 46 => 129 | 47 => 125 | 48 => 126 | 49 => 130 | 50 => 131 | 57 => 137 | n => n, fun | 22 => 145 | 24 => 148 | 25 => 153 | 3 => 3 | 39 => 168 | 0 => 0 | 53 => 190 | 55 => 136 | 4 => 4 | 46 => 183 | 45 => 182 | 50 => 187 | 5 => 5 | 9 => 9 | 66 => 198 | 70 => 202 | 76 => 212 | 77 => 70 | n => n, fun | n => n⟩
theorem Tryz.sortP : Go.Proofs.SlLaysF0.n6 Tryz.prog Tryz.sortP_ren := {
  mixed := by kernel_rfl
  f6 := ⟨Tryz.f75.name, by decide, Tryz.func75.trans (congrArg some (by kernel_rfl))⟩
  f14 := ⟨Tryz.f92.name, by decide, Tryz.func92.trans (congrArg some (by kernel_rfl))⟩
  f15 := Tryz.func90.trans (congrArg some (by kernel_rfl))
  f20 := ⟨Tryz.f112.name, by decide, Tryz.func112.trans (congrArg some (by kernel_rfl))⟩
  f21 := ⟨Tryz.f113.name, by decide, Tryz.func113.trans (congrArg some (by kernel_rfl))⟩
  f22 := ⟨Tryz.f114.name, by decide, Tryz.func114.trans (congrArg some (by kernel_rfl))⟩
  f23 := ⟨Tryz.f115.name, by decide, Tryz.func115.trans (congrArg some (by kernel_rfl))⟩
  f24 := ⟨Tryz.f116.name, by decide, Tryz.func116.trans (congrArg some (by kernel_rfl))⟩
  f25 := ⟨Tryz.f117.name, by decide, Tryz.func117.trans (congrArg some (by kernel_rfl))⟩
  f26 := ⟨Tryz.f118.name, by decide, Tryz.func118.trans (congrArg some (by kernel_rfl))⟩
  f27 := ⟨Tryz.f119.name, by decide, Tryz.func119.trans (congrArg some (by kernel_rfl))⟩
  f28 := Tryz.func110.trans (congrArg some (by kernel_rfl))
  f29 := Tryz.func111.trans (congrArg some (by kernel_rfl))
  f46 := ⟨Tryz.f129.name, by decide, Tryz.func129.trans (congrArg some (by kernel_rfl))⟩
  f47 := Tryz.func125.trans (congrArg some (by kernel_rfl))
  f48 := Tryz.func126.trans (congrArg some (by kernel_rfl))
  f49 := ⟨Tryz.f130.name, by decide, Tryz.func130.trans (congrArg some (by kernel_rfl))⟩
  f50 := ⟨Tryz.f131.name, by decide, Tryz.func131.trans (congrArg some (by kernel_rfl))⟩
  f57 := ⟨Tryz.f137.name, by decide, Tryz.func137.trans (congrArg some (by kernel_rfl))⟩
  t0 := Tryz.underlying0
  a0 := Tryz.isAgg0
  z0 := Tryz.sizeOf0
  v0 := Tryz.zeroValue0
  t3 := Tryz.underlying3
  a3 := Tryz.isAgg3
  z3 := Tryz.sizeOf3
  v3 := Tryz.zeroValue3
  t4 := Tryz.underlying4
  a4 := Tryz.isAgg4
  z4 := Tryz.sizeOf4
  v4 := Tryz.zeroValue4
  t5 := Tryz.underlying5
  a5 := Tryz.isAgg5
  z5 := Tryz.sizeOf5
  v5 := Tryz.zeroValue5
  t9 := Tryz.underlying9
  a9 := Tryz.isAgg9
  z9 := Tryz.sizeOf9
  v9 := Tryz.zeroValue9
  t22 := Tryz.underlying145
  a22 := Tryz.isAgg145
  z22 := Tryz.sizeOf145
  v22 := Tryz.zeroValue145
  t25 := Tryz.underlying153
  a25 := Tryz.isAgg153
  z25 := Tryz.sizeOf153
  v25 := Tryz.zeroValue153
  t39 := Tryz.underlying168
  a39 := Tryz.isAgg168
  z39 := Tryz.sizeOf168
  v39 := Tryz.zeroValue168
  t45 := Tryz.underlying182
  a45 := Tryz.isAgg182
  z45 := Tryz.sizeOf182
  v45 := Tryz.zeroValue182
  t46 := Tryz.underlying183
  a46 := Tryz.isAgg183
  z46 := Tryz.sizeOf183
  v46 := Tryz.zeroValue183
  t50 := Tryz.underlying187
  a50 := Tryz.isAgg187
  z50 := Tryz.sizeOf187
  v50 := Tryz.zeroValue187
  t53 := Tryz.underlying190
  a53 := Tryz.isAgg190
  z53 := Tryz.sizeOf190
  v53 := Tryz.zeroValue190
  t55 := Tryz.underlying136
  a55 := Tryz.isAgg136
  z55 := Tryz.sizeOf136
  v55 := Tryz.zeroValue136
  t66 := Tryz.underlying198
  a66 := Tryz.isAgg198
  z66 := Tryz.sizeOf198
  v66 := Tryz.zeroValue198
  t70 := Tryz.underlying202
  a70 := Tryz.isAgg202
  z70 := Tryz.sizeOf202
  v70 := Tryz.zeroValue202
  t76 := Tryz.underlying212
  a76 := Tryz.isAgg212
  z76 := Tryz.sizeOf212
  v76 := Tryz.zeroValue212
  t77 := Tryz.underlying70
  a77 := Tryz.isAgg70
  z77 := Tryz.sizeOf70
  v77 := Tryz.zeroValue70 }
end Go.Proofs
namespace GL
open Go Go.Proofs
set_option maxRecDepth 8000
abbrev uV (n : Nat) : Value := .int .u64 (n : Int)
theorem c_lz64 (y : Nat) (hy : y < 18446744073709551616) (h : Heap) : HCalls Tryz.prog 91 #[uV y] h (Pure (.int .i64 (64 - (Lib.bitLen y : Int))) h) := by
  refine hcalls_of fun w hw => ?_
  refine (Tryz.bits_LeadingZeros64 (y : Int) w (by omega) (by omega)).mono ?_
  rintro e w' ⟨rfl, rfl⟩
  exact ⟨_, rfl, .refl _, by rw [Int.toNat_natCast], hw⟩
theorem c_mul64 (x y : Nat) (hx : x < 18446744073709551616) (hy : y < 18446744073709551616) (h : Heap) : HCalls Tryz.prog 73 #[uV x, uV y] h (Pure (.tuple #[uV (x * y / 18446744073709551616), uV (x * y % 18446744073709551616)]) h) := by
  refine hcalls_of fun w hw => ?_
  refine (Tryz.bits_Mul64 x y hx hy w).mono ?_
  rintro e w' ⟨rfl, rfl⟩
  exact ⟨_, rfl, .refl _, rfl, hw⟩
theorem wrapM {a : Int} {r : Nat} (hr : r < 18446744073709551616) (h : (a - (r : Int)) % 18446744073709551616 = 0) : IntKind.u64.wrap a = (r : Int) := by
  rw [IntKind.wrap_u64]; omega
theorem wrapR {a b c d : Int} {r : Nat} (hr : r < 18446744073709551616) (h : a * 4294967296 + b = c + (r : Int)) (hd : d = c) : IntKind.u64.wrap (IntKind.u64.wrap (IntKind.u64.wrap (a * 4294967296) + b) - IntKind.u64.wrap d) = (r : Int) := by
  refine wrapM hr ?_
  subst hd
  simp only [IntKind.wrap_u64]
  omega
section
variable {P : Program} {t : TypeId}
theorem mulU (a b : Nat) (h : a * b < 18446744073709551616) : binv P .mul t (uV a) (uV b) = some (uV (a * b)) := by
  rw [binv_mul, ← Int.natCast_mul, wu64 (by omega) (by omega)]
theorem addU (a b : Nat) (h : a + b < 18446744073709551616) : binv P .add t (uV a) (uV b) = some (uV (a + b)) := by
  rw [binv_add, ← Int.natCast_add, wu64 (by omega) (by omega)]
theorem subU (a b : Nat) (h : b ≤ a) (ha : a < 18446744073709551616) : binv P .sub t (uV a) (uV b) = some (uV (a - b)) := by
  rw [binv_sub, wu64 (by omega) (by omega)]; congr 2; omega
theorem quoU (a b : Nat) (h : b ≠ 0) (ha : a < 18446744073709551616) : binv P .quo t (uV a) (uV b) = some (uV (a / b)) := by
  have h1 := Nat.div_le_self a b
  rw [binv_quo (by omega), ← Int.ofNat_tdiv]
  generalize a / b = c at h1 ⊢
  rw [wu64 (by omega) (by omega)]
theorem remU (a b : Nat) (h : b ≠ 0) : binv P .rem t (uV a) (uV b) = some (uV (a % b)) := by
  rw [binv_rem (by omega), ← Int.ofNat_tmod]
theorem shr32 (a : Nat) : binv P .shr t (uV a) (.int .u64 32) = some (uV (a / 4294967296)) := shr_nat a 32 (by omega)
theorem shrU (a s : Nat) (hs : s ≤ 64) : binv P .shr t (uV a) (uV s) = some (uV (a / 2 ^ s)) := shr_nat a s hs
theorem shlU (a s : Nat) (hs : s ≤ 64) (h : a * 2 ^ s < 18446744073709551616) : binv P .shl t (uV a) (uV s) = some (uV (a * 2 ^ s)) := by
  rw [shl_nat a s hs, Nat.mod_eq_of_lt h]
end
set_option maxHeartbeats 4000000 in
theorem c_div64 (hi lo y : Nat) (hhi : hi < y) (hlo : lo < 18446744073709551616) (hy : y < 18446744073709551616) (h : Heap) :
    HCalls Tryz.prog 74 #[uV hi, uV lo, uV y] h (Pure (.tuple #[uV ((hi * 18446744073709551616 + lo) / y), uV ((hi * 18446744073709551616 + lo) % y)]) h) := by
  have hy0 : 0 < y := by omega
  obtain ⟨s, hs, hs64, hs63, hn1, hn2⟩ := shift_y hy0 hy
  obtain ⟨hu1, hu2, hu3⟩ := shift_u (s := s) hs63 hhi hlo
  obtain ⟨Y, hY⟩ : ∃ Y, Y = y * 2 ^ s := ⟨_, rfl⟩
  obtain ⟨X, hX⟩ : ∃ X, X = hi * 2 ^ s + lo / 2 ^ (64 - s) := ⟨_, rfl⟩
  obtain ⟨W, hW⟩ : ∃ W, W = lo * 2 ^ s % 18446744073709551616 := ⟨_, rfl⟩
  rw [← hY] at hn1 hn2 hu2
  rw [← hX] at hu2
  rw [← hX, ← hW] at hu3
  have hWl : W < 18446744073709551616 := by rw [hW]; exact Nat.mod_lt _ (by decide)
  obtain ⟨y1, hy1⟩ : ∃ y1, y1 = Y / 4294967296 := ⟨_, rfl⟩
  obtain ⟨y0, hy00⟩ : ∃ y0, y0 = Y % 4294967296 := ⟨_, rfl⟩
  obtain ⟨u1, hu1e⟩ : ∃ u1, u1 = W / 4294967296 := ⟨_, rfl⟩
  obtain ⟨u0, hu0e⟩ : ∃ u0, u0 = W % 4294967296 := ⟨_, rfl⟩
  have hD1 : DY X u1 Y y1 y0 := ⟨by omega, by omega, by omega, by omega, hu2, by omega⟩
  obtain ⟨Q1, hQ1⟩ : ∃ Q1, Q1 = (X * 4294967296 + u1) / Y := ⟨_, rfl⟩
  obtain ⟨R1, hR1⟩ : ∃ R1, R1 = (X * 4294967296 + u1) % Y := ⟨_, rfl⟩
  have hR1l : R1 < Y := by rw [hR1]; exact Nat.mod_lt _ hD1.pos
  have hE1 : X * 4294967296 + u1 = Q1 * Y + R1 := by rw [hQ1, hR1]; exact (Nat.div_add_mod' _ _).symm
  have hQ1l : Q1 < 4294967296 := by rw [hQ1]; exact hD1.lt
  have hD0 : DY R1 u0 Y y1 y0 := ⟨hD1.hY, hD1.h0, hD1.h1, hD1.h2, hR1l, by omega⟩
  obtain ⟨Q0, hQ0⟩ : ∃ Q0, Q0 = (R1 * 4294967296 + u0) / Y := ⟨_, rfl⟩
  obtain ⟨R0, hR0⟩ : ∃ R0, R0 = (R1 * 4294967296 + u0) % Y := ⟨_, rfl⟩
  have hR0l : R0 < Y := by rw [hR0]; exact Nat.mod_lt _ hD1.pos
  have hE0 : R1 * 4294967296 + u0 = Q0 * Y + R0 := by rw [hQ0, hR0]; exact (Nat.div_add_mod' _ _).symm
  have hQ0l : Q0 < 4294967296 := by rw [hQ0]; exact hD0.lt
  obtain ⟨hq, hr⟩ := digits (U := hi * 18446744073709551616 + lo) (u1 := u1) (u0 := u0) hy0 hY (by rw [hu3]; congr 1; omega) hE1 hE0 hR0l
  have hI1 : (X : Int) * 4294967296 + (u1 : Int) = ((Q1 * Y : Nat) : Int) + (R1 : Int) := by omega
  have hI0 : (R1 : Int) * 4294967296 + (u0 : Int) = ((Q0 * Y : Nat) : Int) + (R0 : Int) := by omega
  have hsz : s ≤ 64 := by omega
  have hXle : hi * 2 ^ s ≤ X := by rw [hX]; exact Nat.le_add_right _ _
  refine hcalls2 Tryz.func74 rfl (by decide +kernel) (by simp only [Tryz.ntmps74]; exact of_decide_eq_true rfl) ?_
  intro e hin
  have e0 := hin 0 _ rfl
  have e1 := hin 1 _ rfl
  have e2 := hin 2 _ rfl
  refine hx_seq (hx_region ?_)
  iterate 2 refine WL.qq (by simp only [EN, Nat.reduceEqDiff, reduceIte, qv_assign]; rfl) ?_
  refine WL.nil (th_norm (hx_seq (hx_seq (hx_region ?_))))
  iterate 2 refine WL.qq (by simp only [EN, Nat.reduceEqDiff, reduceIte, qv_move, e2, qv_binOp, binv_eql, eq136, Option.map_some]; rfl) ?_
  refine WL.nil (th_norm ?_)
  refine hx_cond (by simp only [EN, Nat.reduceEqDiff, reduceIte]; rfl) (fun hct20 => ?_) (fun hct20 => ?_)
  ·
   simp at hct20; omega
  ·
   try simp only [BD] at hct20
   refine hx_skip (th_norm (hx_seq (hx_seq (hx_region ?_))))
   iterate 3 refine WL.qq (by simp only [EN, Nat.reduceEqDiff, reduceIte, qv_move, e2, e0, qv_binOp, binv_leq]; rfl) ?_
   refine WL.nil (th_norm ?_)
   refine hx_cond (by simp only [EN, Nat.reduceEqDiff, reduceIte]; rfl) (fun hct24 => ?_) (fun hct24 => ?_)
   ·
    simp at hct24; omega
   ·
    try simp only [BD] at hct24
    refine hx_skip (th_norm (hx_seq (hx_seq (hx_region ?_))))
    iterate 2 refine WL.qq (by simp only [EN, Nat.reduceEqDiff, reduceIte, qv_move, e0, qv_binOp, binv_eql, eq136, Option.map_some]; rfl) ?_
    refine WL.nil (th_norm ?_)
    refine hx_cond (by simp only [EN, Nat.reduceEqDiff, reduceIte]; rfl) (fun hct27 => ?_) (fun hct27 => ?_)
    ·
     try simp only [BD] at hct27
     refine hx_seq ?_
     apply hx_draw2 Rel.same [] [] [] rfl (by decide +kernel) rfl
     iterate 2 refine LD.qq rfl rfl (by simp only [EN, Nat.reduceEqDiff, reduceIte, qv_move, e1, e2]; rfl) ?_
     refine LD.qq rfl rfl (by simp only [EN, Nat.reduceEqDiff, reduceIte, e0, e1, e2, qv_binOp]; exact quoU lo y (by omega) hlo) ?_
     iterate 2 refine LD.qq rfl rfl (by simp only [EN, Nat.reduceEqDiff, reduceIte, qv_move, e1, e2]; rfl) ?_
     refine LD.qq rfl rfl (by simp only [EN, Nat.reduceEqDiff, reduceIte, e0, e1, e2, qv_binOp]; exact remU lo y (by omega)) ?_
     iterate 2 refine LD.qq rfl rfl (by simp only [EN, Nat.reduceEqDiff, reduceIte, qv_assign]; rfl) ?_
     refine LD.nil ?_
     rintro h rfl -
     refine WL.nil (th_norm (hx_ret (th_ret ?_)))
     refine fin_ret [.tmp 6, .tmp 7] rfl rfl (by simp only [EN, Nat.reduceEqDiff, reduceIte, resv, e0, e1, e2]; rfl) ?_
     have hi0 : hi = 0 := (by omega)
     exact ⟨by rw [hi0, Nat.zero_mul, Nat.zero_add]; rfl, rfl⟩
    ·
     try simp only [BD] at hct27
     refine hx_skip (th_norm (hx_seq (hx_region ?_)))
     refine WL.qq (by simp only [EN, Nat.reduceEqDiff, reduceIte, qv_move, e2]; rfl) ?_
     refine WL.ck Tryz.call91 (by simp only [EN, Nat.reduceEqDiff, reduceIte, AR]; exact c_lz64 y hy _) ?_
     refine WL.qq (by refine Eq.trans (b := some (uV s)) ?_ rfl; simp only [EN, Nat.reduceEqDiff, reduceIte, e0, e1, e2, qv_convert, convv, Tryz.underlying3, Tryz.underlying168]; congr 2; rw [wu64 (by omega) (by omega)]; omega) ?_
     refine WL.qq (by simp only [EN, Nat.reduceEqDiff, reduceIte, qv_assign]; rfl) ?_
     refine WL.nil (th_norm (hx_seq (hx_region ?_)))
     iterate 2 refine WL.qq (by simp only [EN, Nat.reduceEqDiff, reduceIte, qv_move, e2]; rfl) ?_
     refine WL.qq (by simp only [EN, Nat.reduceEqDiff, reduceIte, e0, e1, e2, qv_binOp]; exact shlU y s hsz (by rw [← hY]; exact hn2)) ?_
     rw [← hY]
     refine WL.qq (by simp only [EN, Nat.reduceEqDiff, reduceIte, qv_assign]; rfl) ?_
     refine WL.nil (th_norm (hx_seq (hx_region ?_)))
     refine WL.qq (by simp only [EN, Nat.reduceEqDiff, reduceIte, qv_move, e2]; rfl) ?_
     refine WL.qq (by simp only [EN, Nat.reduceEqDiff, reduceIte, e0, e1, e2, qv_binOp]; exact shr32 Y) ?_
     rw [← hy1]
     refine WL.qq (by simp only [EN, Nat.reduceEqDiff, reduceIte, qv_assign]; rfl) ?_
     refine WL.nil (th_norm (hx_seq (hx_region ?_)))
     refine WL.qq (by simp only [EN, Nat.reduceEqDiff, reduceIte, qv_move, e2]; rfl) ?_
     refine WL.q (and_lo (a := Y) hn2 (by simp only [EN, Nat.reduceEqDiff, reduceIte, e0, e1, e2] <;> rfl) (by simp only [EN, Nat.reduceEqDiff, reduceIte, e0, e1, e2] <;> rfl)) ?_
     rw [← hy00]
     refine WL.qq (by simp only [EN, Nat.reduceEqDiff, reduceIte, qv_assign]; rfl) ?_
     refine WL.nil (th_norm (hx_seq (hx_region ?_)))
     iterate 2 refine WL.qq (by simp only [EN, Nat.reduceEqDiff, reduceIte, qv_move, e0]; rfl) ?_
     refine WL.qq (by simp only [EN, Nat.reduceEqDiff, reduceIte, e0, e1, e2, qv_binOp]; exact shlU hi s hsz (Nat.lt_of_le_of_lt hXle (by omega))) ?_
     iterate 2 refine WL.qq (by simp only [EN, Nat.reduceEqDiff, reduceIte, qv_move, e1]; rfl) ?_
     refine WL.qq (by simp only [EN, Nat.reduceEqDiff, reduceIte, e0, e1, e2, qv_binOp]; exact subU 64 s hsz (by decide)) ?_
     refine WL.qq (by simp only [EN, Nat.reduceEqDiff, reduceIte, e0, e1, e2, qv_binOp]; exact shrU lo (64 - s) (by omega)) ?_
     refine WL.q (or_add (a := hi) (b := lo / 2 ^ (64 - s)) (s := s) hu1 (by rw [← hX]; omega) (by simp only [EN, Nat.reduceEqDiff, reduceIte, e0, e1, e2] <;> rfl) (by simp only [EN, Nat.reduceEqDiff, reduceIte, e0, e1, e2] <;> rfl)) ?_
     rw [← hX]
     refine WL.qq (by simp only [EN, Nat.reduceEqDiff, reduceIte, qv_assign]; rfl) ?_
     refine WL.nil (th_norm (hx_seq (hx_region ?_)))
     iterate 2 refine WL.qq (by simp only [EN, Nat.reduceEqDiff, reduceIte, qv_move, e1]; rfl) ?_
     refine WL.qq (by simp only [EN, Nat.reduceEqDiff, reduceIte, e0, e1, e2, qv_binOp]; exact shl_nat lo s hsz) ?_
     rw [← hW]
     refine WL.qq (by simp only [EN, Nat.reduceEqDiff, reduceIte, qv_assign]; rfl) ?_
     refine WL.nil (th_norm (hx_seq (hx_region ?_)))
     refine WL.qq (by simp only [EN, Nat.reduceEqDiff, reduceIte, qv_move]; rfl) ?_
     refine WL.qq (by simp only [EN, Nat.reduceEqDiff, reduceIte, e0, e1, e2, qv_binOp]; exact shr32 W) ?_
     rw [← hu1e]
     refine WL.qq (by simp only [EN, Nat.reduceEqDiff, reduceIte, qv_assign]; rfl) ?_
     refine WL.nil (th_norm (hx_seq (hx_region ?_)))
     refine WL.qq (by simp only [EN, Nat.reduceEqDiff, reduceIte, qv_move]; rfl) ?_
     refine WL.q (and_lo (a := W) hWl (by simp only [EN, Nat.reduceEqDiff, reduceIte, e0, e1, e2] <;> rfl) (by simp only [EN, Nat.reduceEqDiff, reduceIte, e0, e1, e2] <;> rfl)) ?_
     rw [← hu0e]
     refine WL.qq (by simp only [EN, Nat.reduceEqDiff, reduceIte, qv_assign]; rfl) ?_
     refine WL.nil (th_norm (hx_seq (hx_region ?_)))
     iterate 2 refine WL.qq (by simp only [EN, Nat.reduceEqDiff, reduceIte, qv_move]; rfl) ?_
     refine WL.qq (by simp only [EN, Nat.reduceEqDiff, reduceIte, e0, e1, e2, qv_binOp]; exact quoU X y1 (by omega) (by omega)) ?_
     refine WL.qq (by simp only [EN, Nat.reduceEqDiff, reduceIte, qv_assign]; rfl) ?_
     refine WL.nil (th_norm (hx_seq (hx_region ?_)))
     iterate 3 refine WL.qq (by simp only [EN, Nat.reduceEqDiff, reduceIte, qv_move]; rfl) ?_
     refine WL.qq (by simp only [EN, Nat.reduceEqDiff, reduceIte, e0, e1, e2, qv_binOp]; exact mulU _ _ (Nat.lt_of_le_of_lt (Nat.div_mul_le_self X y1) (by omega))) ?_
     refine WL.qq (by refine Eq.trans (b := some (uV (X % y1))) ?_ rfl; simp only [EN, Nat.reduceEqDiff, reduceIte, e0, e1, e2, qv_binOp]; rw [subU X (X / y1 * y1) (Nat.div_mul_le_self X y1) (by omega)]; congr 2; have h9 := Nat.div_add_mod' X y1; omega) ?_
     refine WL.qq (by simp only [EN, Nat.reduceEqDiff, reduceIte, qv_assign]; rfl) ?_
     refine WL.nil (th_norm ?_)
     refine hx_cutS [15, 16, 67, 68, 69, 70, 71, 72, 73, 74, 75, 76, 77, 78, 79, 80, 81, 82, 83, 84, 85] (fun e => e 15 = uV Q1) ?_ ?_
     ·
      refine hx_block ?_
      refine hx_loopS [15, 16, 67, 68, 69, 70, 71, 72, 73, 74, 75, 76, 77, 78, 79, 80, 81, 82, 83, 84, 85] (fun k e => ∃ (q : Nat) (r : Nat), q = k ∧ (DG X u1 Y y1 y0 q r) ∧ (r < 4294967296) ∧ e 15 = uV q ∧ e 16 = uV r) _ ⟨X / y1, X % y1, rfl, ?_, ?_, ?_, ?_⟩ ?_
      · exact DG.start hD1
      · exact Nat.lt_trans (Nat.mod_lt _ (by omega)) hD1.h2
      · simp only [EN, Nat.reduceEqDiff, reduceIte, e0, e1, e2] <;> rfl
      · simp only [EN, Nat.reduceEqDiff, reduceIte, e0, e1, e2] <;> rfl
      ·
       rintro k e0L hfr0 ⟨q, r, rfl, hg, hr, i15_0, i16_0⟩
       have k2_0 := hfr0 2 rfl; try simp only [EN, Nat.reduceEqDiff, reduceIte, e2] at k2_0
       have k8_0 := hfr0 8 rfl; try simp only [EN, Nat.reduceEqDiff, reduceIte] at k8_0
       have k9_0 := hfr0 9 rfl; try simp only [EN, Nat.reduceEqDiff, reduceIte] at k9_0
       have k10_0 := hfr0 10 rfl; try simp only [EN, Nat.reduceEqDiff, reduceIte] at k10_0
       have k11_0 := hfr0 11 rfl; try simp only [EN, Nat.reduceEqDiff, reduceIte] at k11_0
       have k13_0 := hfr0 13 rfl; try simp only [EN, Nat.reduceEqDiff, reduceIte] at k13_0
       have k14_0 := hfr0 14 rfl; try simp only [EN, Nat.reduceEqDiff, reduceIte] at k14_0
       refine hx_seq (hx_seq (hx_region ?_))
       iterate 3 refine WL.qq (by simp only [EN, Nat.reduceEqDiff, reduceIte, qv_move, i15_0, qv_binOp, binv_geq]; rfl) ?_
       refine WL.cq (gd_at (t := 69) rfl (by simp only [EN, Nat.reduceEqDiff, reduceIte, i15_0] <;> rfl)) (fun hg17_3 => by simp only [EN, Nat.reduceEqDiff, reduceIte, qv_move, i15_0, hg17_3, GR]; rfl) ?_
       refine WL.cq (gd_at (t := 69) rfl (by simp only [EN, Nat.reduceEqDiff, reduceIte, k10_0] <;> rfl)) (fun hg17_4 => by simp only [EN, Nat.reduceEqDiff, reduceIte, qv_move, k10_0, hg17_4, GR]; rfl) ?_
       refine WL.cq (gd_at (t := 69) rfl (by simp only [EN, Nat.reduceEqDiff, reduceIte] <;> rfl)) (fun hg17_5 => by simp only [EN, Nat.reduceEqDiff, reduceIte, k2_0, k8_0, k9_0, k10_0, k11_0, k13_0, k14_0, i15_0, i16_0, GR, hg17_5, qv_binOp]; exact mulU _ _ (mul_lt64 (by have h9 := of_decide_eq_false hg17_5; omega) hD1.h0)) ?_
       refine WL.cq (gd_at (t := 69) rfl (by simp only [EN, Nat.reduceEqDiff, reduceIte, i16_0] <;> rfl)) (fun hg17_6 => by simp only [EN, Nat.reduceEqDiff, reduceIte, qv_move, i16_0, hg17_6, GR]; rfl) ?_
       refine WL.cq (gd_at (t := 69) rfl (by simp only [EN, Nat.reduceEqDiff, reduceIte] <;> rfl)) (fun hg17_7 => by simp only [EN, Nat.reduceEqDiff, reduceIte, k2_0, k8_0, k9_0, k10_0, k11_0, k13_0, k14_0, i15_0, i16_0, GR, hg17_7, qv_binOp]; exact mulU 4294967296 r (by omega)) ?_
       refine WL.cq (gd_at (t := 69) rfl (by simp only [EN, Nat.reduceEqDiff, reduceIte, k13_0] <;> rfl)) (fun hg17_8 => by simp only [EN, Nat.reduceEqDiff, reduceIte, qv_move, k13_0, hg17_8, GR]; rfl) ?_
       refine WL.cq (gd_at (t := 69) rfl (by simp only [EN, Nat.reduceEqDiff, reduceIte] <;> rfl)) (fun hg17_9 => by simp only [EN, Nat.reduceEqDiff, reduceIte, k2_0, k8_0, k9_0, k10_0, k11_0, k13_0, k14_0, i15_0, i16_0, GR, hg17_9, qv_binOp]; exact addU _ _ (by have := hD1.hd; omega)) ?_
       refine WL.cq (gd_at (t := 69) rfl (by simp only [EN, Nat.reduceEqDiff, reduceIte] <;> rfl)) (fun hg17_10 => by simp only [EN, Nat.reduceEqDiff, reduceIte, qv_binOp, binv_gtr, hg17_10, GR]; rfl) ?_
       refine WL.qq (by simp only [EN, Nat.reduceEqDiff, reduceIte, qv_pick, pk_and, pk_or, GR]; rfl) ?_
       refine WL.nil (th_norm ?_)
       refine hx_cond (by simp only [EN, Nat.reduceEqDiff, reduceIte]; rfl) (fun hct78 => ?_) (fun hct78 => ?_)
       ·
        try simp only [BD] at hct78
        have hc : 4294967296 ≤ q ∨ 4294967296 * r + u1 < q * y0 := (by rcases hct78 with h9 | h9; (exact .inl (by omega)); exact .inr (Int.ofNat_lt.1 h9))
        obtain ⟨hq0, hg2⟩ := hg.dec hD1 hc
        refine hx_skip (th_norm (hx_block (hx_seq (hx_region ?_))))
        refine WL.qq (by simp only [EN, Nat.reduceEqDiff, reduceIte, qv_move, i15_0]; rfl) ?_
        refine WL.qq (by simp only [EN, Nat.reduceEqDiff, reduceIte, k2_0, k8_0, k9_0, k10_0, k11_0, k13_0, k14_0, i15_0, i16_0, qv_binOp]; exact subU q 1 (by omega) (by have := hg.hi; omega)) ?_
        refine WL.qq (by simp only [EN, Nat.reduceEqDiff, reduceIte, qv_assign]; rfl) ?_
        refine WL.nil (th_norm (hx_seq (hx_region ?_)))
        iterate 2 refine WL.qq (by simp only [EN, Nat.reduceEqDiff, reduceIte, qv_move, i16_0, k9_0]; rfl) ?_
        refine WL.qq (by simp only [EN, Nat.reduceEqDiff, reduceIte, k2_0, k8_0, k9_0, k10_0, k11_0, k13_0, k14_0, i15_0, i16_0, qv_binOp]; exact addU r y1 (by have := hD1.h2; omega)) ?_
        refine WL.qq (by simp only [EN, Nat.reduceEqDiff, reduceIte, qv_assign]; rfl) ?_
        refine WL.nil (th_norm (hx_seq (hx_region ?_)))
        iterate 2 refine WL.qq (by simp only [EN, Nat.reduceEqDiff, reduceIte, qv_move, i16_0, qv_binOp, binv_geq]; rfl) ?_
        refine WL.nil (th_norm ?_)
        refine hx_cond (by simp only [EN, Nat.reduceEqDiff, reduceIte]; rfl) (fun hct85 => ?_) (fun hct85 => ?_)
        ·
         try simp only [BD] at hct85
         refine hx_exit (bl_miss rfl (th_exit (bl_hit (th_norm ?_))))
         have hQ : q - 1 = Q1 := (by rw [hQ1]; exact hg2.fin2 hD1 (by have := hg.hi; omega) (by omega))
         refine ⟨rfl, rfl, ?_, ?_⟩
         · (repeat (first | exact Fr.refl _ _ | refine Fr.set rfl ?_ | refine Fr.put rfl ?_ | with_reducible refine Fr.put0 ?_ | refine Fr.trans ?_ (Fr.of hfr0 rfl)))
         · simp only [EN, Nat.reduceEqDiff, reduceIte, k2_0, k8_0, k9_0, k10_0, k11_0, k13_0, k14_0, i15_0, i16_0] <;> rw [hQ]
        ·
         try simp only [BD] at hct85
         refine hx_skip (bl_norm (th_norm ?_))
         refine ⟨rfl, rfl, ?_, _, ?_, q - 1, r + y1, rfl, ?_, ?_, ?_, ?_⟩
         · (repeat (first | exact Fr.refl _ _ | refine Fr.set rfl ?_ | refine Fr.put rfl ?_ | with_reducible refine Fr.put0 ?_))
         · omega
         · exact hg2
         · omega
         · simp only [EN, Nat.reduceEqDiff, reduceIte, k2_0, k8_0, k9_0, k10_0, k11_0, k13_0, k14_0, i15_0, i16_0] <;> first | rfl | (congr 1; omega)
         · simp only [EN, Nat.reduceEqDiff, reduceIte, k2_0, k8_0, k9_0, k10_0, k11_0, k13_0, k14_0, i15_0, i16_0] <;> first | rfl | (congr 1; omega)
       ·
        try simp only [BD] at hct78
        refine hx_exit (th_exit (th_exit (bl_hit (th_norm ?_))))
        have hQ : q = Q1 := (by rw [hQ1]; exact hg.fin1 hD1 (by have h9 := hct78.2; exact Int.ofNat_le.1 (Int.not_lt.1 h9)))
        refine ⟨rfl, rfl, ?_, ?_⟩
        · (repeat (first | exact Fr.refl _ _ | refine Fr.set rfl ?_ | refine Fr.put rfl ?_ | with_reducible refine Fr.put0 ?_ | refine Fr.trans ?_ (Fr.of hfr0 rfl)))
        · simp only [EN, Nat.reduceEqDiff, reduceIte, k2_0, k8_0, k9_0, k10_0, k11_0, k13_0, k14_0, i15_0, i16_0] <;> rw [hQ]
     ·
      rintro ecb0 hfcb0 i15_cb0
      have k2_cb0 := hfcb0 2 rfl; try simp only [EN, Nat.reduceEqDiff, reduceIte, e2] at k2_cb0
      have k8_cb0 := hfcb0 8 rfl; try simp only [EN, Nat.reduceEqDiff, reduceIte] at k8_cb0
      have k9_cb0 := hfcb0 9 rfl; try simp only [EN, Nat.reduceEqDiff, reduceIte] at k9_cb0
      have k10_cb0 := hfcb0 10 rfl; try simp only [EN, Nat.reduceEqDiff, reduceIte] at k10_cb0
      have k11_cb0 := hfcb0 11 rfl; try simp only [EN, Nat.reduceEqDiff, reduceIte] at k11_cb0
      have k13_cb0 := hfcb0 13 rfl; try simp only [EN, Nat.reduceEqDiff, reduceIte] at k13_cb0
      have k14_cb0 := hfcb0 14 rfl; try simp only [EN, Nat.reduceEqDiff, reduceIte] at k14_cb0
      refine hx_seq (hx_region ?_)
      iterate 7 refine WL.qq (by simp only [EN, Nat.reduceEqDiff, reduceIte, qv_move, k11_cb0, qv_binOp, binv_mul, k13_cb0, binv_add, i15_cb0, k2_cb0]; (try simp (disch := omega) only [w64, w8, wu64]); rfl) ?_
      refine WL.qq (by refine Eq.trans (b := some (uV R1)) ?_ rfl; simp only [EN, Nat.reduceEqDiff, reduceIte, k2_cb0, k8_cb0, k9_cb0, k10_cb0, k11_cb0, k13_cb0, k14_cb0, i15_cb0, qv_binOp, binv_sub]; congr 2; exact wrapR (by omega) hI1 (by rw [Int.natCast_mul])) ?_
      refine WL.qq (by simp only [EN, Nat.reduceEqDiff, reduceIte, qv_assign]; rfl) ?_
      refine WL.nil (th_norm (hx_seq (hx_region ?_)))
      iterate 2 refine WL.qq (by simp only [EN, Nat.reduceEqDiff, reduceIte, qv_move, k9_cb0]; rfl) ?_
      refine WL.qq (by simp only [EN, Nat.reduceEqDiff, reduceIte, k2_cb0, k8_cb0, k9_cb0, k10_cb0, k11_cb0, k13_cb0, k14_cb0, i15_cb0, qv_binOp]; exact quoU R1 y1 (by omega) (by omega)) ?_
      refine WL.qq (by simp only [EN, Nat.reduceEqDiff, reduceIte, qv_assign]; rfl) ?_
      refine WL.nil (th_norm (hx_seq (hx_region ?_)))
      iterate 3 refine WL.qq (by simp only [EN, Nat.reduceEqDiff, reduceIte, qv_move, k9_cb0]; rfl) ?_
      refine WL.qq (by simp only [EN, Nat.reduceEqDiff, reduceIte, k2_cb0, k8_cb0, k9_cb0, k10_cb0, k11_cb0, k13_cb0, k14_cb0, i15_cb0, qv_binOp]; exact mulU _ _ (Nat.lt_of_le_of_lt (Nat.div_mul_le_self R1 y1) (by omega))) ?_
      refine WL.qq (by refine Eq.trans (b := some (uV (R1 % y1))) ?_ rfl; simp only [EN, Nat.reduceEqDiff, reduceIte, k2_cb0, k8_cb0, k9_cb0, k10_cb0, k11_cb0, k13_cb0, k14_cb0, i15_cb0, qv_binOp]; rw [subU R1 (R1 / y1 * y1) (Nat.div_mul_le_self R1 y1) (by omega)]; congr 2; have h9 := Nat.div_add_mod' R1 y1; omega) ?_
      refine WL.qq (by simp only [EN, Nat.reduceEqDiff, reduceIte, qv_assign]; rfl) ?_
      refine WL.nil (th_norm ?_)
      refine hx_cutS [16, 18, 102, 103, 104, 105, 106, 107, 108, 109, 110, 111, 112, 113, 114, 115, 116, 117, 118, 119, 120] (fun e => e 18 = uV Q0) ?_ ?_
      ·
       refine hx_block ?_
       refine hx_loopS [16, 18, 102, 103, 104, 105, 106, 107, 108, 109, 110, 111, 112, 113, 114, 115, 116, 117, 118, 119, 120] (fun k e => ∃ (q : Nat) (r : Nat), q = k ∧ (DG R1 u0 Y y1 y0 q r) ∧ (r < 4294967296) ∧ e 18 = uV q ∧ e 16 = uV r) _ ⟨R1 / y1, R1 % y1, rfl, ?_, ?_, ?_, ?_⟩ ?_
       · exact DG.start hD0
       · exact Nat.lt_trans (Nat.mod_lt _ (by omega)) hD0.h2
       · simp only [EN, Nat.reduceEqDiff, reduceIte, k2_cb0, k8_cb0, k9_cb0, k10_cb0, k11_cb0, k13_cb0, k14_cb0, i15_cb0] <;> rfl
       · simp only [EN, Nat.reduceEqDiff, reduceIte, k2_cb0, k8_cb0, k9_cb0, k10_cb0, k11_cb0, k13_cb0, k14_cb0, i15_cb0] <;> rfl
       ·
        rintro k e1L hfr1 ⟨q, r, rfl, hg, hr, i18_1, i16_1⟩
        have k2_1 := hfr1 2 rfl; try simp only [EN, Nat.reduceEqDiff, reduceIte, k2_cb0] at k2_1
        have k8_1 := hfr1 8 rfl; try simp only [EN, Nat.reduceEqDiff, reduceIte, k8_cb0] at k8_1
        have k9_1 := hfr1 9 rfl; try simp only [EN, Nat.reduceEqDiff, reduceIte, k9_cb0] at k9_1
        have k10_1 := hfr1 10 rfl; try simp only [EN, Nat.reduceEqDiff, reduceIte, k10_cb0] at k10_1
        have k14_1 := hfr1 14 rfl; try simp only [EN, Nat.reduceEqDiff, reduceIte, k14_cb0] at k14_1
        have k15_1 := hfr1 15 rfl; try simp only [EN, Nat.reduceEqDiff, reduceIte, i15_cb0] at k15_1
        have k17_1 := hfr1 17 rfl; try simp only [EN, Nat.reduceEqDiff, reduceIte] at k17_1
        refine hx_seq (hx_seq (hx_region ?_))
        iterate 3 refine WL.qq (by simp only [EN, Nat.reduceEqDiff, reduceIte, qv_move, i18_1, qv_binOp, binv_geq]; rfl) ?_
        refine WL.cq (gd_at (t := 104) rfl (by simp only [EN, Nat.reduceEqDiff, reduceIte, i18_1] <;> rfl)) (fun hg24_3 => by simp only [EN, Nat.reduceEqDiff, reduceIte, qv_move, i18_1, hg24_3, GR]; rfl) ?_
        refine WL.cq (gd_at (t := 104) rfl (by simp only [EN, Nat.reduceEqDiff, reduceIte, k10_1] <;> rfl)) (fun hg24_4 => by simp only [EN, Nat.reduceEqDiff, reduceIte, qv_move, k10_1, hg24_4, GR]; rfl) ?_
        refine WL.cq (gd_at (t := 104) rfl (by simp only [EN, Nat.reduceEqDiff, reduceIte] <;> rfl)) (fun hg24_5 => by simp only [EN, Nat.reduceEqDiff, reduceIte, k2_1, k8_1, k9_1, k10_1, k14_1, k15_1, k17_1, i18_1, i16_1, GR, hg24_5, qv_binOp]; exact mulU _ _ (mul_lt64 (by have h9 := of_decide_eq_false hg24_5; omega) hD0.h0)) ?_
        refine WL.cq (gd_at (t := 104) rfl (by simp only [EN, Nat.reduceEqDiff, reduceIte, i16_1] <;> rfl)) (fun hg24_6 => by simp only [EN, Nat.reduceEqDiff, reduceIte, qv_move, i16_1, hg24_6, GR]; rfl) ?_
        refine WL.cq (gd_at (t := 104) rfl (by simp only [EN, Nat.reduceEqDiff, reduceIte] <;> rfl)) (fun hg24_7 => by simp only [EN, Nat.reduceEqDiff, reduceIte, k2_1, k8_1, k9_1, k10_1, k14_1, k15_1, k17_1, i18_1, i16_1, GR, hg24_7, qv_binOp]; exact mulU 4294967296 r (by omega)) ?_
        refine WL.cq (gd_at (t := 104) rfl (by simp only [EN, Nat.reduceEqDiff, reduceIte, k14_1] <;> rfl)) (fun hg24_8 => by simp only [EN, Nat.reduceEqDiff, reduceIte, qv_move, k14_1, hg24_8, GR]; rfl) ?_
        refine WL.cq (gd_at (t := 104) rfl (by simp only [EN, Nat.reduceEqDiff, reduceIte] <;> rfl)) (fun hg24_9 => by simp only [EN, Nat.reduceEqDiff, reduceIte, k2_1, k8_1, k9_1, k10_1, k14_1, k15_1, k17_1, i18_1, i16_1, GR, hg24_9, qv_binOp]; exact addU _ _ (by have := hD0.hd; omega)) ?_
        refine WL.cq (gd_at (t := 104) rfl (by simp only [EN, Nat.reduceEqDiff, reduceIte] <;> rfl)) (fun hg24_10 => by simp only [EN, Nat.reduceEqDiff, reduceIte, qv_binOp, binv_gtr, hg24_10, GR]; rfl) ?_
        refine WL.qq (by simp only [EN, Nat.reduceEqDiff, reduceIte, qv_pick, pk_and, pk_or, GR]; rfl) ?_
        refine WL.nil (th_norm ?_)
        refine hx_cond (by simp only [EN, Nat.reduceEqDiff, reduceIte]; rfl) (fun hct113 => ?_) (fun hct113 => ?_)
        ·
         try simp only [BD] at hct113
         have hc : 4294967296 ≤ q ∨ 4294967296 * r + u0 < q * y0 := (by rcases hct113 with h9 | h9; (exact .inl (by omega)); exact .inr (Int.ofNat_lt.1 h9))
         obtain ⟨hq0, hg2⟩ := hg.dec hD0 hc
         refine hx_skip (th_norm (hx_block (hx_seq (hx_region ?_))))
         refine WL.qq (by simp only [EN, Nat.reduceEqDiff, reduceIte, qv_move, i18_1]; rfl) ?_
         refine WL.qq (by simp only [EN, Nat.reduceEqDiff, reduceIte, k2_1, k8_1, k9_1, k10_1, k14_1, k15_1, k17_1, i18_1, i16_1, qv_binOp]; exact subU q 1 (by omega) (by have := hg.hi; omega)) ?_
         refine WL.qq (by simp only [EN, Nat.reduceEqDiff, reduceIte, qv_assign]; rfl) ?_
         refine WL.nil (th_norm (hx_seq (hx_region ?_)))
         iterate 2 refine WL.qq (by simp only [EN, Nat.reduceEqDiff, reduceIte, qv_move, i16_1, k9_1]; rfl) ?_
         refine WL.qq (by simp only [EN, Nat.reduceEqDiff, reduceIte, k2_1, k8_1, k9_1, k10_1, k14_1, k15_1, k17_1, i18_1, i16_1, qv_binOp]; exact addU r y1 (by have := hD0.h2; omega)) ?_
         refine WL.qq (by simp only [EN, Nat.reduceEqDiff, reduceIte, qv_assign]; rfl) ?_
         refine WL.nil (th_norm (hx_seq (hx_region ?_)))
         iterate 2 refine WL.qq (by simp only [EN, Nat.reduceEqDiff, reduceIte, qv_move, i16_1, qv_binOp, binv_geq]; rfl) ?_
         refine WL.nil (th_norm ?_)
         refine hx_cond (by simp only [EN, Nat.reduceEqDiff, reduceIte]; rfl) (fun hct120 => ?_) (fun hct120 => ?_)
         ·
          try simp only [BD] at hct120
          refine hx_exit (bl_miss rfl (th_exit (bl_hit (th_norm ?_))))
          have hQ : q - 1 = Q0 := (by rw [hQ0]; exact hg2.fin2 hD0 (by have := hg.hi; omega) (by omega))
          refine ⟨rfl, rfl, ?_, ?_⟩
          · (repeat (first | exact Fr.refl _ _ | refine Fr.set rfl ?_ | refine Fr.put rfl ?_ | with_reducible refine Fr.put0 ?_ | refine Fr.trans ?_ (Fr.of hfr1 rfl)))
          · simp only [EN, Nat.reduceEqDiff, reduceIte, k2_1, k8_1, k9_1, k10_1, k14_1, k15_1, k17_1, i18_1, i16_1] <;> rw [hQ]
         ·
          try simp only [BD] at hct120
          refine hx_skip (bl_norm (th_norm ?_))
          refine ⟨rfl, rfl, ?_, _, ?_, q - 1, r + y1, rfl, ?_, ?_, ?_, ?_⟩
          · (repeat (first | exact Fr.refl _ _ | refine Fr.set rfl ?_ | refine Fr.put rfl ?_ | with_reducible refine Fr.put0 ?_))
          · omega
          · exact hg2
          · omega
          · simp only [EN, Nat.reduceEqDiff, reduceIte, k2_1, k8_1, k9_1, k10_1, k14_1, k15_1, k17_1, i18_1, i16_1] <;> first | rfl | (congr 1; omega)
          · simp only [EN, Nat.reduceEqDiff, reduceIte, k2_1, k8_1, k9_1, k10_1, k14_1, k15_1, k17_1, i18_1, i16_1] <;> first | rfl | (congr 1; omega)
        ·
         try simp only [BD] at hct113
         refine hx_exit (th_exit (th_exit (bl_hit (th_norm ?_))))
         have hQ : q = Q0 := (by rw [hQ0]; exact hg.fin1 hD0 (by have h9 := hct113.2; exact Int.ofNat_le.1 (Int.not_lt.1 h9)))
         refine ⟨rfl, rfl, ?_, ?_⟩
         · (repeat (first | exact Fr.refl _ _ | refine Fr.set rfl ?_ | refine Fr.put rfl ?_ | with_reducible refine Fr.put0 ?_ | refine Fr.trans ?_ (Fr.of hfr1 rfl)))
         · simp only [EN, Nat.reduceEqDiff, reduceIte, k2_1, k8_1, k9_1, k10_1, k14_1, k15_1, k17_1, i18_1, i16_1] <;> rw [hQ]
      ·
       rintro ecb2 hfcb2 i18_cb2
       have k2_cb2 := hfcb2 2 rfl; try simp only [EN, Nat.reduceEqDiff, reduceIte, k2_cb0] at k2_cb2
       have k8_cb2 := hfcb2 8 rfl; try simp only [EN, Nat.reduceEqDiff, reduceIte, k8_cb0] at k8_cb2
       have k14_cb2 := hfcb2 14 rfl; try simp only [EN, Nat.reduceEqDiff, reduceIte, k14_cb0] at k14_cb2
       have k15_cb2 := hfcb2 15 rfl; try simp only [EN, Nat.reduceEqDiff, reduceIte, i15_cb0] at k15_cb2
       have k17_cb2 := hfcb2 17 rfl; try simp only [EN, Nat.reduceEqDiff, reduceIte] at k17_cb2
       refine hx_seq (hx_region ?_)
       refine WL.qq (by simp only [EN, Nat.reduceEqDiff, reduceIte, qv_move, k15_cb2]; rfl) ?_
       refine WL.qq (by simp only [EN, Nat.reduceEqDiff, reduceIte, k2_cb2, k8_cb2, k14_cb2, k15_cb2, k17_cb2, i18_cb2, qv_binOp]; exact mulU Q1 4294967296 (by omega)) ?_
       refine WL.qq (by simp only [EN, Nat.reduceEqDiff, reduceIte, qv_move, i18_cb2]; rfl) ?_
       refine WL.qq (by simp only [EN, Nat.reduceEqDiff, reduceIte, k2_cb2, k8_cb2, k14_cb2, k15_cb2, k17_cb2, i18_cb2, qv_binOp]; exact addU _ _ (by omega)) ?_
       iterate 7 refine WL.qq (by simp only [EN, Nat.reduceEqDiff, reduceIte, qv_move, k17_cb2, qv_binOp, binv_mul, k14_cb2, binv_add, i18_cb2, k2_cb2]; (try simp (disch := omega) only [w64, w8, wu64]); rfl) ?_
       refine WL.qq (by refine Eq.trans (b := some (uV R0)) ?_ rfl; simp only [EN, Nat.reduceEqDiff, reduceIte, k2_cb2, k8_cb2, k14_cb2, k15_cb2, k17_cb2, i18_cb2, qv_binOp, binv_sub]; congr 2; exact wrapR (by omega) hI0 (by rw [Int.natCast_mul])) ?_
       refine WL.qq (by simp only [EN, Nat.reduceEqDiff, reduceIte, qv_move, k8_cb2]; rfl) ?_
       refine WL.qq (by simp only [EN, Nat.reduceEqDiff, reduceIte, k2_cb2, k8_cb2, k14_cb2, k15_cb2, k17_cb2, i18_cb2, qv_binOp]; exact shrU R0 s hsz) ?_
       iterate 2 refine WL.qq (by simp only [EN, Nat.reduceEqDiff, reduceIte, qv_assign]; rfl) ?_
       refine WL.nil (th_norm (hx_ret ?_))
       refine fin_ret [.tmp 6, .tmp 7] rfl rfl (by simp only [EN, Nat.reduceEqDiff, reduceIte, resv, k2_cb2, k8_cb2, k14_cb2, k15_cb2, k17_cb2, i18_cb2]; rfl) ?_
       exact ⟨by rw [← hq, ← hr]; rfl, rfl⟩
set_option maxRecDepth 8000
structure SP where
  i : Nat
  r : Nat
deriving DecidableEq
def pLt (x y : SP) : Prop := y.r < x.r ∨ (x.r = y.r ∧ x.i < y.i)
instance (x y : SP) : Decidable (pLt x y) := inferInstanceAs (Decidable (_ ∨ _))
theorem pLt_irrefl (x : SP) : ¬ pLt x x := by unfold pLt; omega
theorem pLt_trans {x y z : SP} (h1 : pLt x y) (h2 : pLt y z) : pLt x z := by unfold pLt at *; omega
theorem pLt_tri {x y : SP} (h1 : ¬ pLt x y) (h2 : ¬ pLt y x) : x = y := by
  obtain ⟨a, b⟩ := x
  obtain ⟨c, d⟩ := y
  unfold pLt at *
  simp only at *
  have : a = c ∧ b = d := by omega
  rw [this.1, this.2]
theorem srt_uni {α : Type} {lt : α → α → Prop} (irr : ∀ x, ¬ lt x x) (tr : ∀ x y z, lt x y → lt y z → lt x z) : ∀ {l m : List α}, l.Pairwise lt → m.Pairwise lt → (∀ q, q ∈ l ↔ q ∈ m) → l = m
  | [], [], _, _, _ => rfl
  | [], b :: m, _, _, h => by have := (h b).2 (by simp); cases this
  | a :: l, [], _, _, h => by have := (h a).1 (by simp); cases this
  | a :: l, b :: m, h1, h2, h => by
    rw [List.pairwise_cons] at h1 h2
    have hab : a = b := by
      have ha := (h a).1 (by simp)
      have hb := (h b).2 (by simp)
      rcases List.mem_cons.1 ha with e | ha
      · exact e
      rcases List.mem_cons.1 hb with e | hb
      · exact e.symm
      exact absurd (tr _ _ _ (h1.1 b hb) (h2.1 a ha)) (irr _)
    subst hab
    congr 1
    refine srt_uni irr tr h1.2 h2.2 fun q => ?_
    have hq := h q
    simp only [List.mem_cons] at hq
    constructor
    · intro h5
      rcases hq.1 (.inr h5) with e | h6
      · subst e; exact absurd (h1.1 _ h5) (irr _)
      · exact h6
    · intro h5
      rcases hq.2 (.inr h5) with e | h6
      · subst e; exact absurd (h2.1 _ h5) (irr _)
      · exact h6
def insP (x : SP) : List SP → List SP
  | [] => [x]
  | y :: l => if pLt y x then y :: insP x l else x :: y :: l
def ordP (l : List SP) : List SP := l.foldr insP []
theorem insP_perm (x : SP) : ∀ l, (insP x l).Perm (x :: l)
  | [] => .refl _
  | y :: l => by
    unfold insP
    split
    · exact ((insP_perm x l).cons y).trans (.swap x y l)
    · exact .refl _
theorem ordP_perm : ∀ l, (ordP l).Perm l
  | [] => .refl _
  | x :: l => (insP_perm x _).trans ((ordP_perm l).cons x)
theorem insP_sorted {x : SP} : ∀ {l : List SP}, l.Pairwise pLt → x ∉ l → (insP x l).Pairwise pLt
  | [], _, _ => List.pairwise_singleton _ _
  | y :: l, h, hx => by
    unfold insP
    rw [List.pairwise_cons] at h
    simp only [List.mem_cons, not_or] at hx
    split
    · rename_i hy
      rw [List.pairwise_cons]
      refine ⟨fun z hz => ?_, insP_sorted h.2 hx.2⟩
      rcases List.mem_cons.1 ((insP_perm x l).mem_iff.1 hz) with rfl | hz
      · exact hy
      · exact h.1 z hz
    · rename_i hy
      have hxy : pLt x y := by
        by_cases h3 : pLt x y
        · exact h3
        · exact absurd (pLt_tri h3 hy) hx.1
      rw [List.pairwise_cons, List.pairwise_cons]
      refine ⟨fun z hz => ?_, h⟩
      rcases List.mem_cons.1 hz with rfl | hz
      · exact hxy
      · exact pLt_trans hxy (h.1 z hz)
theorem ordP_sorted : ∀ {l : List SP}, l.Nodup → (ordP l).Pairwise pLt
  | [], _ => List.Pairwise.nil
  | x :: l, h => by
    rw [List.nodup_cons] at h
    exact insP_sorted (ordP_sorted h.2) fun hm => h.1 ((ordP_perm l).mem_iff.1 hm)
theorem ordP_uni {l m : List SP} (hp : m.Perm l) (hn : l.Nodup) (hs : m.Pairwise fun x y => ¬ pLt y x) : m = ordP l := by
  have hn2 : m.Nodup := hp.nodup_iff.2 hn
  refine srt_uni pLt_irrefl (fun _ _ _ => pLt_trans) ?_ (ordP_sorted hn) fun q => by rw [hp.mem_iff, (ordP_perm l).mem_iff]
  refine (List.Pairwise.and hs hn2).imp fun {a b} h => ?_
  by_cases h3 : pLt a b
  · exact h3
  · exact absurd (pLt_tri h3 h.1) h.2
def shr (t S : Nat) (ws : List Nat) : List Nat := ws.map fun w => t * w / S
def rst (t S : Nat) (ws : List Nat) : List SP := ws.zipIdx.map fun p => ⟨p.2, t * p.1 % S⟩
def lftN (t : Nat) (ws : List Nat) : Nat := t - (shr t ws.sum ws).sum
def splK (t S : Nat) (ws : List Nat) (k : Nat) : List Nat := ws.zipIdx.map fun p => t * p.1 / S + if p.2 ∈ ((ordP (rst t S ws)).take k).map SP.i then 1 else 0
def splL (t : Nat) (ws : List Nat) : List Nat := splK t ws.sum ws (lftN t ws)
section
variable {t S : Nat} {ws : List Nat}
theorem rst_at {i w : Nat} (h : ws[i]? = some w) : (rst t S ws)[i]? = some ⟨i, t * w % S⟩ := by
  unfold rst
  rw [List.getElem?_map, List.getElem?_zipIdx, h]; simp
theorem shr_at {i w : Nat} (h : ws[i]? = some w) : (shr t S ws)[i]? = some (t * w / S) := by
  unfold shr; rw [List.getElem?_map, h]; rfl
theorem splK_at {k i w : Nat} (h : ws[i]? = some w) : (splK t S ws k)[i]? = some (t * w / S + if i ∈ ((ordP (rst t S ws)).take k).map SP.i then 1 else 0) := by
  unfold splK
  rw [List.getElem?_map, List.getElem?_zipIdx, h]; simp
theorem rst_len : (rst t S ws).length = ws.length := by simp [rst]
theorem shr_len : (shr t S ws).length = ws.length := by simp [shr]
theorem splK_len {k : Nat} : (splK t S ws k).length = ws.length := by simp [splK]
theorem ord_len : (ordP (rst t S ws)).length = ws.length := by rw [(ordP_perm _).length_eq, rst_len]
theorem rst_idx {p : SP} (h : p ∈ rst t S ws) : (rst t S ws)[p.i]? = some p := by
  obtain ⟨i, hi⟩ := List.getElem?_of_mem h
  have hlt := (List.getElem?_eq_some_iff.1 hi).1
  rw [rst_len] at hlt
  have h1 := rst_at (t := t) (S := S) (List.getElem?_eq_getElem hlt)
  rw [hi] at h1
  cases h1
  exact hi
theorem rst_nd : (rst t S ws).Nodup := by
  rw [List.Nodup, List.pairwise_iff_getElem]
  intro i j hi hj hij he
  have hi2 : i < ws.length := by rw [← rst_len (t := t) (S := S)]; exact hi
  have hj2 : j < ws.length := by rw [← rst_len (t := t) (S := S)]; exact hj
  have h1 := rst_at (t := t) (S := S) (List.getElem?_eq_getElem hi2)
  have h2 := rst_at (t := t) (S := S) (List.getElem?_eq_getElem hj2)
  rw [List.getElem?_eq_getElem hi] at h1
  rw [List.getElem?_eq_getElem hj, ← he, h1] at h2
  simp only [Option.some.injEq, SP.mk.injEq] at h2
  omega
theorem ord_mem {p : SP} : p ∈ ordP (rst t S ws) ↔ p ∈ rst t S ws := (ordP_perm _).mem_iff
theorem ord_inj {p q : SP} (hp : p ∈ ordP (rst t S ws)) (hq : q ∈ ordP (rst t S ws)) (h : p.i = q.i) : p = q := by
  have h1 := rst_idx (ord_mem.1 hp)
  have h2 := rst_idx (ord_mem.1 hq)
  rw [h, h2] at h1
  exact (Option.some.inj h1).symm
theorem ord_nd : (ordP (rst t S ws)).Nodup := (ordP_perm _).nodup_iff.2 rst_nd
theorem ord_new {k : Nat} {p : SP} (hk : (ordP (rst t S ws))[k]? = some p) : p.i ∉ ((ordP (rst t S ws)).take k).map SP.i := by
  intro hm
  obtain ⟨q, hq, he⟩ := List.mem_map.1 hm
  have h1 := ord_inj (List.mem_of_mem_take hq) (List.mem_of_getElem? hk) he
  subst h1
  obtain ⟨j, hj⟩ := List.getElem?_of_mem hq
  have hjl := (List.getElem?_eq_some_iff.1 hj).1
  rw [List.length_take] at hjl
  rw [List.getElem?_take, if_pos (by omega)] at hj
  have h2 := ord_nd (t := t) (S := S) (ws := ws)
  have := nodup_idx h2 hj hk
  omega
theorem ord_take {k : Nat} {p : SP} (hk : (ordP (rst t S ws))[k]? = some p) (i : Nat) : i ∈ ((ordP (rst t S ws)).take (k + 1)).map SP.i ↔ i = p.i ∨ i ∈ ((ordP (rst t S ws)).take k).map SP.i := by
  rw [List.take_add_one, hk]
  simp only [List.map_append, List.mem_append, Option.toList, List.map_cons, List.map_nil, List.mem_singleton]
  exact Or.comm
theorem splK_step {k : Nat} {p : SP} (hk : (ordP (rst t S ws))[k]? = some p) : ∃ w, ws[p.i]? = some w ∧ (splK t S ws k)[p.i]? = some (t * w / S) ∧ splK t S ws (k + 1) = (splK t S ws k).set p.i (t * w / S + 1) := by
  have hp := rst_idx (ord_mem.1 (List.mem_of_getElem? hk))
  have hlt := (List.getElem?_eq_some_iff.1 hp).1
  rw [rst_len] at hlt
  obtain ⟨w, hw⟩ := atG hlt
  refine ⟨w, hw, by rw [splK_at hw, if_neg (ord_new hk), Nat.add_zero], ?_⟩
  apply List.ext_getElem?
  intro j
  by_cases hj : j < ws.length
  · obtain ⟨u, hu⟩ := atG hj
    rw [splK_at hu]
    by_cases hjp : p.i = j
    · subst hjp
      rw [List.getElem?_set_self (by rw [splK_len]; exact hlt)]
      rw [hw] at hu; cases hu
      rw [if_pos ((ord_take hk _).2 (.inl rfl))]
    · rw [List.getElem?_set_ne hjp, splK_at hu]
      congr 2
      simp only [ord_take hk, eq_comm (a := j), hjp, false_or]
  · rw [List.getElem?_eq_none (by rw [splK_len]; omega), List.getElem?_eq_none (by rw [List.length_set, splK_len]; omega)]
theorem splK_0 : splK t S ws 0 = shr t S ws := by
  apply List.ext_getElem?
  intro j
  by_cases hj : j < ws.length
  · obtain ⟨u, hu⟩ := atG hj
    rw [splK_at hu, shr_at hu]; simp
  · rw [List.getElem?_eq_none (by rw [splK_len]; omega), List.getElem?_eq_none (by rw [shr_len]; omega)]
theorem sum_parts (t S : Nat) : ∀ ws : List Nat, t * ws.sum = (shr t S ws).sum * S + ((rst t S ws).map SP.r).sum := by
  intro ws
  have h1 : (rst t S ws).map SP.r = ws.map fun w => t * w % S := by
    unfold rst
    rw [List.map_map]
    apply List.ext_getElem?
    intro j
    rw [List.getElem?_map, List.getElem?_map, List.getElem?_zipIdx]
    cases ws[j]? <;> simp
  rw [h1]
  induction ws with
  | nil => simp [shr]
  | cons w ws ih =>
    have ih2 := ih (by
      unfold rst
      rw [List.map_map]
      apply List.ext_getElem?
      intro j
      rw [List.getElem?_map, List.getElem?_map, List.getElem?_zipIdx]
      cases ws[j]? <;> simp)
    simp only [shr, List.map_cons, List.sum_cons] at ih2 ⊢
    have h2 := Nat.div_add_mod' (t * w) S
    rw [Nat.mul_add, Nat.add_mul]
    omega
theorem rest_lt (hS : 0 < S) : ∀ p ∈ rst t S ws, p.r < S := by
  intro p hp
  unfold rst at hp
  obtain ⟨q, _, rfl⟩ := List.mem_map.1 hp
  exact Nat.mod_lt _ hS
theorem sum_le_len {l : List Nat} {B : Nat} (h : ∀ x ∈ l, x < B) : l.sum ≤ l.length * B := by
  induction l with
  | nil => simp
  | cons x l ih =>
    simp only [List.sum_cons, List.length_cons, Nat.succ_mul]
    have h1 := ih fun y hy => h y (by simp [hy])
    have h2 := h x (by simp)
    omega
theorem shr_le (hS : 0 < ws.sum) : (shr t ws.sum ws).sum ≤ t ∧ lftN t ws ≤ ws.length := by
  have h1 := sum_parts t ws.sum ws
  have h2 : (shr t ws.sum ws).sum * ws.sum ≤ t * ws.sum := by omega
  have h3 := Nat.le_of_mul_le_mul_right h2 hS
  refine ⟨h3, ?_⟩
  have h4 := sum_le_len (l := (rst t ws.sum ws).map SP.r) (B := ws.sum) (by
    intro x hx
    obtain ⟨p, hp, rfl⟩ := List.mem_map.1 hx
    exact rest_lt hS p hp)
  rw [List.length_map, rst_len] at h4
  have h5 : lftN t ws * ws.sum ≤ ws.length * ws.sum := by
    unfold lftN
    rw [Nat.sub_mul]; omega
  exact Nat.le_of_mul_le_mul_right h5 hS
theorem take_sum_le : ∀ (l : List Nat) (i : Nat), (l.take i).sum ≤ l.sum
  | [], i => by simp
  | x :: l, 0 => by simp
  | x :: l, i + 1 => by
    simp only [List.take_succ_cons, List.sum_cons]
    have := take_sum_le l i; omega
theorem take_sum_step {l : List Nat} {i x : Nat} (h : l[i]? = some x) : (l.take (i + 1)).sum = (l.take i).sum + x := by
  rw [List.take_add_one, h]; simp
theorem mem_sum_le {l : List Nat} {x : Nat} (h : x ∈ l) : x ≤ l.sum := by
  induction l with
  | nil => cases h
  | cons y l ih =>
    simp only [List.sum_cons]
    rcases List.mem_cons.1 h with rfl | h
    · omega
    · have := ih h; omega
end
end GL
namespace GL
open Go Go.Proofs Go.Sort Go.Shelf
set_option maxRecDepth 8000
theorem ext_grow {w w' : World} (hs : Same w w') (hx : Ext w.heap w'.heap) : ∃ q os, w' = Sort.grow (w.drewN q) os := by
  obtain ⟨h1, h2, h3, h4⟩ := hs
  refine ⟨w'.drawn - w.drawn, w'.heap.extract w.heap.size w'.heap.size, ?_⟩
  have hh : w'.heap = w.heap ++ w'.heap.extract w.heap.size w'.heap.size := by
    have hsz := hx.size
    apply Array.ext_getElem?
    intro i
    rw [Array.getElem?_append]
    split
    · rename_i hi
      have h5 := hx i (w.heap[i]) (by simp [hi])
      rw [h5]; simp [hi]
    · rename_i hi
      rw [Array.getElem?_extract]
      by_cases h6 : i < w'.heap.size
      · rw [if_pos (by omega)]; congr 1; omega
      · rw [if_neg (by omega)]; simp; omega
  cases w with
  | mk a b c d e =>
    cases w' with
    | mk a' b' c' d' e' =>
      simp only at h1 h2 h3 h4 hh
      subst h1 h2 h3
      simp only [Sort.grow, World.drewN, World.mk.injEq, true_and, and_true]
      exact ⟨hh, by omega⟩
theorem flatK_eq {α : Type} [Inhabited α] {enc : α → List Value} {k : Nat} (hk : ∀ x, (enc x).length = k) (l : List α) : (flatK enc k l.toArray).toList = l.flatMap enc := by
  have hlen := flat_len hk l
  apply List.ext_getElem?
  intro t
  by_cases ht : t < l.length * k
  · have hk0 : 0 < k := Nat.pos_of_ne_zero fun h => by subst h; simp at ht
    have hi : t / k < l.length := (Nat.div_lt_iff_lt_mul hk0).2 ht
    obtain ⟨x, hx⟩ := atG hi
    have h1 := flat_at hk hx
    have h2 : (l.flatMap enc)[t]? = (enc x)[t % k]? := by
      rw [← h1, List.getElem?_take_of_lt (Nat.mod_lt _ hk0), List.getElem?_drop]
      congr 1
      rw [Nat.mul_comm]
      exact (Nat.div_add_mod t k).symm
    have h3 : t % k < (enc x).length := by rw [hk]; exact Nat.mod_lt _ hk0
    have h4 : (flatK enc k l.toArray)[t]! = (enc x)[t % k]! := by
      rw [get_flatK enc k l.toArray t (by simpa using ht)]
      congr 2
      simp [getElem!_def, hx]
    have h5 : t < (flatK enc k l.toArray).size := by simpa using ht
    rw [h2, Array.getElem?_toList, Array.getElem?_eq_getElem h5, List.getElem?_eq_getElem h3]
    congr 1
    rw [getElem!_pos (flatK enc k l.toArray) t h5, getElem!_pos (enc x) (t % k) h3] at h4
    exact h4
  · rw [List.getElem?_eq_none (by simp; omega), List.getElem?_eq_none (by omega)]
theorem take_put (cur : Array Value) (F : Array Value) (h : F.size ≤ cur.size) : (putCells id 0 F cur).toList.take F.size = F.toList := by
  apply List.ext_getElem?
  intro j
  by_cases hj : j < F.size
  · rw [List.getElem?_take_of_lt hj, Array.getElem?_toList, Array.getElem?_toList]
    simp [putCells, hj, show j < cur.size by omega]
  · rw [List.getElem?_take_eq_none (by omega), List.getElem?_eq_none (by simp; omega)]
theorem ltOf_iff {α : Type} {cf : α → α → Int} {x y : α} : ltOf cf x y = true ↔ cf x y < 0 := by simp [ltOf]
theorem hc_sort {P : Program} {ρ : Ren} {α : Type} [Inhabited α] (L : SlLaysF0.n6 P ρ) {k : Nat} (aE : ∀ w, (isAgg (ρ.t 24)).run P w = .ok true w) (zE : ∀ w, (Go.sizeOf (ρ.t 24)).run P w = .ok k w) {enc : α → List Value} (hk : ∀ x, (enc x).length = k) (h1 : ∀ x, ∀ v ∈ enc x, v.oneCell' = true)
    {cf : α → α → Int} (hO : SWO (ltOf cf)) {g : Nat} (eg : ∀ args w, (callFunc g args).run P w = .ok (.enter g args) w) (hcmp : ∀ x y h, HCalls P g #[.agg (enc x).toArray, .agg (enc y).toArray] h (Grow (.int .i64 (cf x y)) h))
    {h : Heap} {base : Nat} {el : TypeId} {n : Nat} {v : Value} {l : List α} (ho : Own h base el k v n (l.flatMap enc)) (hn : n = l.length) (hn2 : n ≤ 1099511627776) (hk0 : 0 < k) :
    HCalls P (ρ.f 6) #[v, .func (.func g) #[] #[]] h fun _ h' => ∃ l' : List α, l'.Perm l ∧ l'.Pairwise (fun x y => ltOf cf y x = false) ∧ Own h' base el k v n (l'.flatMap enc) ∧ Gr h h' v.ownBlock := by
  refine hcalls_of fun w hw => ?_
  subst hw
  rcases ho.2 with ⟨rfl, h0⟩ | ⟨b, cap, cur, rfl, hb, hg, hc, hm, hs, ht⟩
  · refine (AnyF.slices_SortFunc_none { L with } none 0 (.func (.func g) #[] #[]) w).mono ?_
    rintro e w' ⟨rfl, rfl⟩
    have hl0 : l = [] := List.length_eq_zero_iff.1 (hn.symm.trans h0)
    subst hl0
    exact ⟨_, rfl, .refl _, [], .refl _, .nil, ho, Gr.refl _ _⟩
  · subst hn
    have hlt := (Array.getElem?_eq_some_iff.1 hg).1
    have hH : HoldsK enc k w b 0 l.toArray := by
      intro j hj
      have hj' : j < l.length * k := by simpa using hj
      refine ⟨?_, ?_⟩
      · have h2 : (cur.toList.take (l.length * k))[j]? = (flatK enc k l.toArray).toList[j]? := by rw [ht, flatK_eq hk]
        rw [List.getElem?_take_of_lt hj', Array.getElem?_toList, Array.getElem?_toList] at h2
        have h3 : w.heap[b]? = some (.cells cur el) := hg
        simp only [World.cell?, h3, Nat.zero_add, Option.isSome_none, Bool.false_eq_true, if_false, id]
        rw [h2, Array.getElem?_eq_getElem hj, getElem!_pos (flatK enc k l.toArray) j hj]
      · have h3 : w.heap[b]? = some (.cells cur el) := hg
        simp [World.frozen?, h3]
    have hC : CmpLays P g #[] enc k cf b 0 l.toArray.size w := by
      intro m os dk hdk x y
      have h4 := hcmp x y (sortWorldK enc k w b 0 m dk os).heap (sortWorldK enc k w b 0 m dk os) rfl
      refine (callsIn_wide.1 h4).mono ?_
      rintro e w' ⟨u, rfl, hsm, rfl, hx⟩
      exact ⟨rfl, ext_grow hsm hx⟩
    have hcall := AnyQ.slices_SortFunc L k aE zE enc hk h1 cf hO g #[] b 0 cap l.toArray w eg hC hH hlt (by simp; omega)
    simp only [List.size_toArray] at hcall
    refine hcall.mono ?_
    rintro e w' ⟨rfl, d', m, os, hp, hsd, rfl⟩
    obtain ⟨hps, _, hpp⟩ := hp
    have hsz : d'.size = l.length := by rw [hps]; simp
    have e1 : d'.extract 0 l.length = d' := by rw [← hsz]; simp
    have e2 : l.toArray.extract 0 l.length = l.toArray := by
      have : l.length = l.toArray.size := by simp
      rw [this, Array.extract_size]
    rw [e1, e2] at hpp
    have hF : (flatK enc k d').toList = d'.toList.flatMap enc := by
      have := flatK_eq hk d'.toList
      rwa [Array.toArray_toList] at this
    have hheap : (sortWorldK enc k w b 0 m d' os).heap[b]? = some (.cells (putCells id 0 (flatK enc k d') cur) el) := by
      have hg' : w.heap[b]? = some (.cells cur el) := hg
      show (Sort.grow (putRow id (Sort.ahead w m) b 0 (flatK enc k d')) os).heap[b]? = _
      show ((putRow id (Sort.ahead w m) b 0 (flatK enc k d')).heap ++ os)[b]? = _
      rw [Array.getElem?_append, if_pos (by simp [putRow, mapBlock, Sort.ahead, hlt])]
      simp [putRow, mapBlock, Sort.ahead, Array.getElem?_modify, hg', onCells]
    have hother : ∀ c, c < w.heap.size → c ≠ b → (sortWorldK enc k w b 0 m d' os).heap[c]? = w.heap[c]? := by
      intro c hc hne
      show ((putRow id (Sort.ahead w m) b 0 (flatK enc k d')).heap ++ os)[c]? = _
      rw [Array.getElem?_append, if_pos (by simpa [putRow, mapBlock, Sort.ahead] using hc)]
      have hne' : b ≠ c := fun hh => hne hh.symm
      simp [putRow, mapBlock, Sort.ahead, Array.getElem?_modify, hne']
    refine ⟨_, rfl, ⟨rfl, rfl, rfl, Nat.le_add_right _ _⟩, d'.toList, hpp, ?_, ?_, ?_, ?_⟩
    · rw [List.pairwise_iff_getElem]
      intro i j hi hj hij
      have h5 := hsd i j (Nat.zero_le _) hij (by simpa [hsz] using hj)
      have hi' : i < d'.size := by simpa using hi
      have hj' : j < d'.size := by simpa using hj
      rw [getElem!_pos d' i hi', getElem!_pos d' j hj'] at h5
      simpa using h5
    · refine ⟨by rw [flat_len hk, Array.length_toList, hsz], .inr ⟨b, cap, _, rfl, hb, hheap, hc, hm, by simp [putCells, hs], ?_⟩⟩
      have hcs : (flatK enc k d').size ≤ cur.size := by
        rw [size_flatK, hsz, hs]
        exact Nat.mul_le_mul_right _ hc
      have := take_put cur (flatK enc k d') hcs
      rw [size_flatK, hsz] at this
      rw [this, hF]
    · show w.heap.size ≤ ((putRow id (Sort.ahead w m) b 0 (flatK enc k d')).heap ++ os).size
      simp [putRow, mapBlock, Sort.ahead]
    · intro c hc hne
      exact hother c hc (fun hh => hne (by rw [hh]; rfl))
def Rel.app (N : Nat) (el : TypeId) (sz n m : Nat) (xs ys : List Value) : Rel where
  r := fun a b => a.size ≤ b.size ∧ (∀ c o, c < N → a[c]? = some o → b[c]? = some o) ∧ (∀ (c : Nat) (o : Obj), (∀ cur fr, o ≠ Obj.cells cur el fr) → a[c]? = some o → b[c]? = some o) ∧ (∀ c, Has a c (.cells #[] el) → Has b c (.cells #[] el)) ∧
    (∀ u, Own a N el sz u n xs → Own b N el sz u n xs) ∧ ∀ u, Own a N el sz u (n + m) (xs ++ ys) → Own b N el sz u (n + m) (xs ++ ys)
  refl := fun a => ⟨Nat.le_refl _, fun _ _ _ h => h, fun _ _ _ h => h, fun _ h => h, fun _ h => h, fun _ h => h⟩
  trans := fun h h' => ⟨Nat.le_trans h.1 h'.1, fun c o hc q => h'.2.1 c o hc (h.2.1 c o hc q), fun c o hT q => h'.2.2.1 c o hT (h.2.2.1 c o hT q), fun c q => h'.2.2.2.1 c (h.2.2.2.1 c q),
    fun u q => h'.2.2.2.2.1 u (h.2.2.2.2.1 u q), fun u q => h'.2.2.2.2.2 u (h.2.2.2.2.2 u q)⟩
section
variable {N : Nat} {el : TypeId} {sz n m : Nat} {xs ys : List Value} {a b : Heap}
instance : RelN (Rel.app N el sz n m xs ys) := ⟨fun _ _ => trivial⟩
instance : RelL (Rel.app N el sz n m xs ys) := ⟨fun _ _ _ => trivial⟩
instance : RelF (Rel.app N el sz n m xs ys) := ⟨fun _ => rfl⟩
end
def Turn (p : Nat) (a b : Heap) : Prop := a.size ≤ b.size ∧ ∀ c cur T f, c ≠ p → a[c]? = some (.cells cur T f) → b[c]? = some (.cells cur T f)
section
variable {p : Nat} {a b c : Heap}
theorem Turn.refl : Turn p a a := ⟨Nat.le_refl _, fun _ _ _ _ _ h => h⟩
theorem Turn.trans (h : Turn p a b) (h' : Turn p b c) : Turn p a c := ⟨Nat.le_trans h.1 h'.1, fun x cur T f hx q => h'.2 x cur T f hx (h.2 x cur T f hx q)⟩
theorem Turn.ext (h : Ext a b) : Turn p a b := ⟨h.size, fun x _ _ _ _ q => h x _ q⟩
theorem Turn.gs (h : Gs a b [p]) : Turn p a b := ⟨h.size, fun x cur T f hx q => by
  rw [h.same x (Array.getElem?_eq_some_iff.1 q).1 (by simpa using hx)]; exact q⟩
theorem Turn.map {m : Nat} {κ β : Type} {ek : κ → Value} {ev' : β → Value} {l : List (κ × β)} (h : Gs a b [m]) (hm : MapT ek ev' a m l) : Turn p a b := ⟨h.size, fun x cur T f hx q => by
  obtain ⟨es, s, hb, _⟩ := hm
  have hne : x ≠ m := fun hh => by
    subst hh
    have h9 : some (Obj.map es s) = some (.cells cur T f) := hb.symm.trans q
    cases h9
  rw [h.same x (Array.getElem?_eq_some_iff.1 q).1 (by simpa using hne)]; exact q⟩
theorem Turn.wr {o : Obj} (h : Wr a b p o) : Turn p a b := ⟨Nat.le_of_eq h.size.symm, fun x cur T f hx q => by rw [h.same x hx]; exact q⟩
theorem Has.turn {x : Nat} {cur : Array Value} {T : TypeId} (hb : Has a x (.cells cur T)) (h : Turn p a b) (hx : x ≠ p) : Has b x (.cells cur T) := h.2 x cur T (0, 0) hx hb
end
variable {P : Program} {e : Env} {ds : List Deferred} {h : Heap} {ops : Array Oper} {K : Kont}
theorem cell_at {h : Heap} {b off : Nat} {u : Value} (hc : GL.cell h b off = some u) : b < h.size := by
  unfold GL.cell at hc
  cases hb' : h[b]? with
  | none => rw [hb'] at hc; cases hc
  | some o => exact (Array.getElem?_eq_some_iff.1 hb').1
theorem Gs.cell {a c : Heap} {S : List Nat} {b off : Nat} {u : Value} (hg : Gs a c S) (hc : GL.cell a b off = some u) (hn : b ∉ S) : GL.cell c b off = some u := by
  unfold GL.cell at hc ⊢
  rw [hg.same b (cell_at (h := a) (b := b) (off := off) (u := u) hc) hn]
  exact hc
theorem Gs.rd {a c : Heap} {S : List Nat} {b off n : Nat} {l : List Value} (hg : Gs a c S) (hr : GL.readN a b off n = some l) (h0 : 0 < l.length) (hn : b ∉ S) : GL.readN c b off n = some l := by
  have hc := readN_cell hr 0 l[0] (by simp [h0])
  rw [readN_same (hg.same b (cell_at hc) hn)]; exact hr
theorem SlG.gs {α : Type} {sz : Nat} {f : α → List Value} {a c : Heap} {S : List Nat} {al : Option Addr} {L : List α} (hs : SlG sz f a al L) (hg : Gs a c S) (h0 : ∀ x, 0 < (f x).length) (hn : ∀ b off, al = some ⟨b, off, none⟩ → b ∉ S) : SlG sz f c al L := by
  intro i x hx
  obtain ⟨b, off, ha, hr⟩ := hs i x hx
  exact ⟨b, off, ha, hg.rd hr (h0 x) (hn b off ha)⟩
theorem slicev_l {P : Program} {t el : TypeId} {sz : Nat} (hu : P.underlying t = some (.slice el)) (hs : sizeB P el = some sz) (b off len cap : Nat) (k : IntKind) (i : Int) (h0 : 0 ≤ i) (h1 : i ≤ len) :
    slicev P t (.slice (some ⟨b, off, none⟩) len cap) (some (.int k i)) none none = some (.slice (some ⟨b, if cap = i.toNat then off else off + i.toNat * sz, none⟩) (len - i.toNat) (cap - i.toNat)) := by
  have h2 : i ≤ (len : Int) := h1
  simp only [slicev, hu, bnd, hs, if_pos (And.intro h0 h2)]
  by_cases hc : cap = i.toNat
  · simp [hc]
  · simp [hc, addr_add]
theorem SlG.drop {α : Type} {sz : Nat} {f : α → List Value} {h : Heap} {b off cap : Nat} {L : List α} (hs : SlG sz f h (some ⟨b, off, none⟩) L) (l : Nat) (hc : L.length ≤ cap) : SlG sz f h (some ⟨b, if cap = l then off else off + l * sz, none⟩) (L.drop l) := by
  intro i x hx
  rw [List.getElem?_drop] at hx
  obtain ⟨b', off', ha, hr⟩ := hs (l + i) x hx
  cases ha
  have := (List.getElem?_eq_some_iff.1 hx).1
  rw [if_neg (by omega)]
  refine ⟨_, _, rfl, ?_⟩
  rw [Nat.add_mul, ← Nat.add_assoc] at hr
  exact hr
theorem SlG.take {α : Type} {sz : Nat} {f : α → List Value} {h : Heap} {a : Option Addr} {L : List α} (hs : SlG sz f h a L) (l : Nat) : SlG sz f h a (L.take l) := by
  intro i x hx
  rw [List.getElem?_take] at hx
  split at hx
  · exact hs i x hx
  · cases hx
theorem SlR.wr {α : Type} {el T : TypeId} {sz : Nat} {f : α → List Value} {h h' : Heap} {a : Option Addr} {l : List α} {b : Nat} {c : Array Value} {o : Obj} (hs : SlR el sz f h a l) (hw : Wr h h' b o) (hb : Has h b (.cells c T)) (hT : T ≠ el) : SlR el sz f h' a l := by
  refine hs.gs (S := [b]) (Gs.ofWr hw (by simp)) (fun g off ha hm => ?_)
  obtain ⟨cur, hc⟩ := hs.ty g off ha
  simp at hm
  subst hm
  have := hb.un hc
  cases this
  exact hT rfl
theorem SlR.gro {α : Type} {el el' : TypeId} {sz sz' n N : Nat} {f : α → List Value} {h h' : Heap} {a : Option Addr} {l : List α} {v : Value} {xs : List Value} (hs : SlR el sz f h a l) (hg : Gr h h' v.ownBlock) (ho : Own h N el' sz' v n xs) (hT : el' ≠ el) : SlR el sz f h' a l := by
  refine hs.gs (S := v.ownBlock.toList) (Gs.ofGr hg (fun c hc => by simp [hc])) (fun g off ha hm => ?_)
  obtain ⟨cur, hc⟩ := hs.ty g off ha
  simp at hm
  obtain ⟨cur2, hc2⟩ := ho.typ g hm
  have := hc.un hc2
  cases this
  exact hT rfl
theorem SlR.turn {α : Type} {el T sz q : Nat} {f : α → List Value} {a b : Heap} {al : Option Addr} {L : List α} {cur : Array Value} (hs : SlR el sz f a al L) (hf : ∀ x, 0 < (f x).length) (ht : Turn q a b) (hq : Has a q (.cells cur T)) (hT : T ≠ el) : SlR el sz f b al L := by
  have hn : ∀ g off, al = some ⟨g, off, none⟩ → b[g]? = a[g]? := fun g off ha => by
    obtain ⟨cu, hc⟩ := hs.ty g off ha
    have hne : g ≠ q := fun hh => by subst hh; have := hc.un hq; cases this; exact hT rfl
    rw [ht.2 g cu el (0, 0) hne hc]; exact hc.symm
  refine ⟨fun i x hx => ?_, fun g off ha => ?_⟩
  · obtain ⟨b', off', ha, hr⟩ := hs.rd i x hx
    exact ⟨b', off', ha, by rw [readN_same (hn b' off' ha)]; exact hr⟩
  · obtain ⟨cu, hc⟩ := hs.ty g off ha
    exact ⟨cu, by rw [Has, hn g off ha]; exact hc⟩
theorem e_store {P : Program} {e : Env} {h : Heap} {t ty el : TypeId} {a x : Operand} {b off n : Nat} {c vs : Array Value}
    (ha : ev e a = .pointer (some ⟨b, off, none⟩)) (hs : sizeB P t = some n) (hv : (ev e x).cells = vs) (hn : vs.size = n) (hb : Has h b (.cells c el)) (hl : off + n ≤ c.size) (h1 : ∀ v ∈ vs.toList, v.oneCell' = true) :
    EOp P (.store t a x) ty e h fun _ h' => Wr h h' b (.cells (splc c off vs.toList) el) := by
  refine ⟨rfl, rfl, fun w hw => ?_⟩
  subst hw
  subst hn
  have hrun := run_storeCells_at (P := P) b off el vs.toList 0 c w hb (by simpa using hl) h1
  have hr : (execOp (ev e) { (default : Oper) with op := .store t a x, type := ty }).run P w = .ok .skip (w.setRow b (splc c off vs.toList)) := by
    have hz : ¬ (vs.size ≠ vs.size) := fun hh => hh rfl
    simp only [execOp, Instr.storeAt, ha, Instr.sureAddr, storeVar, hv, Sem.run_bind, Sem.run_pure, Result.andThen_ok, run_sizeOf_of hs, if_neg hz]
    rw [hrun]
    rfl
  rw [hr]
  exact ⟨⟨rfl, rfl, rfl, Nat.le_refl _⟩, setRow_heap' hb⟩
structure MK (b : Nat) (h : Heap) (ms : List Nat) : Prop where
  nd : ms.Nodup
  lo : ∀ r ∈ ms, b ≤ r
  df : ∀ r ∈ ms, h[r]? = some (.deferred (some []))
section
variable {b : Nat} {h h' : Heap} {ms : List Nat}
theorem MK.nil : MK b h [] := ⟨List.nodup_nil, (fun _ hr => by cases hr), (fun _ hr => by cases hr)⟩
theorem MK.keep (hm : MK b h ms) (hs : ∀ r ∈ ms, h'[r]? = h[r]?) : MK b h' ms := ⟨hm.nd, hm.lo, fun r hr => (hs r hr).trans (hm.df r hr)⟩
theorem MK.ext (hm : MK b h ms) (hx : Ext h h') : MK b h' ms := ⟨hm.nd, hm.lo, fun r hr => hx _ _ (hm.df r hr)⟩
theorem MK.lt (hm : MK b h ms) : ∀ r ∈ ms, r < h.size := fun r hr => (Array.getElem?_eq_some_iff.1 (hm.df r hr)).1
theorem MK.gs {S : List Nat} (hm : MK b h ms) (hg : Gs h h' S) (hS : ∀ r ∈ S, ∃ c t, Has h r (.cells c t)) : MK b h' ms := hm.keep fun r hr => hg.same r (hm.lt r hr) fun hh => by
  obtain ⟨c, t, hc⟩ := hS r hh
  have h1 := hm.df r hr
  have h2 : some (Obj.deferred (some [])) = some (Obj.cells c t) := h1.symm.trans hc
  cases h2
theorem MK.wr {q : Nat} {o : Obj} {c : Array Value} {t : TypeId} (hm : MK b h ms) (hw : Wr h h' q o) (hq : Has h q (.cells c t)) : MK b h' ms := hm.keep fun r hr => hw.same r fun hh => by
  subst hh
  have h2 : some (Obj.deferred (some [])) = some (Obj.cells c t) := (hm.df r hr).symm.trans hq
  cases h2
theorem MK.push {r : Nat} (hm : MK b h ms) (hr : r ∉ ms) (hb : b ≤ r) (hd : h[r]? = some (.deferred (some []))) : MK b h (r :: ms) := by
  refine ⟨List.nodup_cons.2 ⟨hr, hm.nd⟩, fun x hx => ?_, fun x hx => ?_⟩
  · rcases List.mem_cons.1 hx with rfl | hx
    · exact hb
    · exact hm.lo x hx
  · rcases List.mem_cons.1 hx with rfl | hx
    · exact hd
    · exact hm.df x hx
theorem MK.range {h0 hL h7 h3 h31 : Heap} {S : List Nat} {rec : Loop} {o : Obj} (hm : MK b hL ms) (hx : Ext hL h7) (hb : b ≤ hL.size) (hC : RX h0 h7 S rec h3) (hS : ∀ r ∈ S, h7[r]? ≠ some (.deferred (some []))) (hw : Wr h3 h31 (h7.size + 1) o) : MK b h31 (h7.size :: ms) := by
  have hz := hx.size
  have h7m := hm.ext hx
  have hlt := hm.lt
  refine MK.push (h7m.keep fun r hr => ?_) (fun hh => by have := hlt _ hh; omega) (by omega) ?_
  · have h1 := hlt r hr
    rw [hw.same r (by omega)]
    exact hC.gs.same r (by omega) fun hh => hS r hh (h7m.df r hr)
  · rw [hw.same _ (by omega)]
    exact hC.df
end
theorem made_list (zc : Array Value) (m : Nat) : (madeCells zc m).toList = (List.range m).map fun j => zc[j % zc.size]! := by
  simp [madeCells]
theorem made_flat {α : Type} {f : α → List Value} {sz : Nat} {z : α} {zc : Array Value} (hz : zc.toList = f z) (hs : zc.size = sz) (h0 : 0 < sz) : ∀ n : Nat, (madeCells zc (n * sz)).toList = (List.replicate n z).flatMap f
  | 0 => by simp [madeCells]
  | n + 1 => by
    have ih := made_flat hz hs h0 n
    rw [made_list] at ih ⊢
    rw [Nat.succ_mul, List.range_add, List.map_append, ih, List.replicate_succ', List.flatMap_append]
    congr 1
    rw [List.flatMap_cons, List.flatMap_nil, List.append_nil, ← hz, List.map_map]
    refine List.ext_getElem? fun j => ?_
    rw [List.getElem?_map, show zc.toList[j]? = zc[j]? from by simp]
    by_cases hj : j < sz
    · rw [List.getElem?_range hj, Option.map_some]
      have h1 : (n * sz + j) % zc.size = j := by rw [hs, Nat.mul_comm, Nat.mul_add_mod, Nat.mod_eq_of_lt hj]
      simp only [Function.comp, h1]
      rw [getElem!_pos zc j (by omega), Array.getElem?_eq_getElem (by omega)]
    · rw [List.getElem?_eq_none (by rw [List.length_range]; omega), Array.getElem?_eq_none (by omega)]
      rfl
theorem e_makeSl {P : Program} {e : Env} {h : Heap} {t el ty : TypeId} {x y : Operand} {i : TypeInfo} {z : Value} {sz bytes n : Nat} {k k' : IntKind} (hu : P.underlying t = some (.slice el)) (hi : P.info? el = some i) (hz : i.zero = some z) (hsz : i.size = sz) (hby : i.bytes = bytes)
    (hx : ev e x = .int k n) (hy : ev e y = .int k' n) (hb : n * bytes ≤ 140737488355328) (h63 : n ≤ maxLen) :
    EOp P (.makeSlice t x y) ty e h fun v h' => Ext h h' ∧ v = .slice (some ⟨h.size, 0, none⟩) n n ∧ Own h' h.size el sz (.slice (some ⟨h.size, 0, none⟩) n n) n (madeCells z.cells (n * sz)).toList := by
  refine ⟨rfl, rfl, fun w hw => ?_⟩
  subst hw
  subst hsz hby
  have h64 : n ≤ 9223372036854775807 := by simpa [maxLen] using h63
  have hb2 : (i.bytes : Int) * (n : Int) ≤ 281474976710656 := by
    have h1 : ((i.bytes * n : Nat) : Int) ≤ 281474976710656 := by rw [Nat.mul_comm]; omega
    rwa [Int.natCast_mul] at h1
  have h1 := run_make (P := P) w t el i z hu hi hz k k' n n (by omega) (Int.le_refl _) hb2 (by omega)
  simp only [Int.toNat_natCast] at h1
  have hr : (execOp (ev e) { (default : Oper) with op := .makeSlice t x y, type := ty }).run P w = .ok (.value (.slice (some ⟨w.heap.size, 0, none⟩) n n)) (w.alloc (.cells (madeCells z.cells (n * i.size)) el)) := by
    simp [execOp, hx, hy, h1]
  rw [hr]
  refine ⟨⟨rfl, rfl, rfl, Nat.le_refl _⟩, Ext.push _ _, rfl, ?_⟩
  have h2 := World.ownsRow_lit w (madeCells z.cells (n * i.size)) n (base := w.heap.size) (e := el) (size := i.size) (Nat.le_refl _) h63 (size_madeCells _ _)
  exact own_iff.1 h2
theorem gd_un {ops : Array Oper} {e : Env} {j t : Nat} (ht : (ops[j]?).bind (·.dst) = some t) (h : e t = undef) : gd ops e j = none := by
  unfold gd
  rw [ht]
  simp only [h]
  rfl
section
variable {ρ : Rel} {P : Program} {ops : Array Oper} {late : Nat → Bool} {Φ : Nat → Option Spec} {h0 : Heap} {ds : List Deferred} {K : Kont} {k : Nat} {rest : List Oper} {e : Env} {F : List (Nat × Value)} {h : Heap}
theorem LD.on {d : Option Nat} {o : Op} {ty : TypeId} {pos : String} {aft : Array Edge} {gw : Nat × Bool} (hg : gOk ops e ⟨d, o, ty, pos, aft, some gw⟩ = true) (hk : LD ρ P ops late Φ h0 ds K k (⟨d, o, ty, pos, aft, none⟩ :: rest) e F) :
    LD ρ P ops late Φ h0 ds K k (⟨d, o, ty, pos, aft, some gw⟩ :: rest) e F := by
  unfold LD at hk ⊢
  split
  · rename_i hl; rw [if_pos hl] at hk; exact hk
  · rename_i hl
    rw [if_neg hl] at hk
    exact ⟨(fun hh => by rw [hg] at hh; cases hh), fun _ => hk.2 gOk_n⟩
theorem LD.off {o : Oper} (hl : late k = false) (hg : gOk ops e o = false) (hk : LD ρ P ops late Φ h0 ds K (k + 1) rest (Env.put e o.dst undef) F) : LD ρ P ops late Φ h0 ds K k (o :: rest) e F := by
  unfold LD
  rw [hl, if_neg (by simp)]
  exact ⟨fun _ => hk, (fun hh => by rw [hg] at hh; cases hh)⟩
theorem WL.on {d : Option Nat} {o : Op} {ty : TypeId} {pos : String} {aft : Array Edge} {gw : Nat × Bool} (hg : gOk ops e ⟨d, o, ty, pos, aft, some gw⟩ = true) (hk : WL P ops (⟨d, o, ty, pos, aft, none⟩ :: rest) e ds h K) :
    WL P ops (⟨d, o, ty, pos, aft, some gw⟩ :: rest) e ds h K := by
  unfold WL at hk ⊢
  exact ⟨fun _ => hk.1 gOk_n, (fun hh => by rw [hg] at hh; cases hh)⟩
theorem WL.off {o : Oper} (hg : gOk ops e o = false) (hk : WL P ops rest (Env.put e o.dst undef) ds h K) : WL P ops (o :: rest) e ds h K := by
  unfold WL
  exact ⟨(fun hh => by rw [hg] at hh; cases hh), fun _ => hk⟩
end
def Rel.two (fs : List Nat) : Rel := { r := Ext, refl := Ext.refl, trans := Ext.trans, late := fun h0 _ b => Ext h0 b, fr := fun k => fs.contains k }
instance (fs : List Nat) : RelX (Rel.two fs) := ⟨fun h => h⟩
instance (fs : List Nat) : RelN (Rel.two fs) := ⟨fun _ _ => trivial⟩
theorem FrS.two {fs : List Nat} {specs : List (Nat × Spec)} (h : ∀ k ∈ fs, ∃ N z t, specOf specs k = some (Spec.blk N z t)) : FrS (Rel.two fs) (specOf specs) :=
  ⟨fun k hk => by
    obtain ⟨N, z, t, h1⟩ := h k (by simpa [Rel.two] using hk)
    rw [h1]; rfl, fun k s hk hs v h2 B hv hm hB => by
    obtain ⟨N, z, t, h1⟩ := h k (by simpa [Rel.two] using hk)
    rw [h1] at hs
    cases hs
    obtain ⟨B', _, rfl⟩ := hv
    cases hB
    exact (Array.getElem?_eq_some_iff.1 (hm _ rfl)).1⟩
section
variable {S : Heap → Heap → Prop} {P : Program} {ops : Array Oper} {e : Env} {ds : List Deferred} {h : Heap} {K : Kont}
theorem WLJ.nil (hk : K e ds h) : WLJ S P ops [] e ds h K := hk
theorem WLJ.store {t ty el : TypeId} {a x : Operand} {pos : String} {aft : Array Edge} {rest : List Oper} {b off n : Nat} {c vs : Array Value}
    (ha : ev e a = .pointer (some ⟨b, off, none⟩)) (hs : sizeB P t = some n) (hv : (ev e x).cells = vs) (hn : vs.size = n) (hb : Has h b (.cells c el)) (hl : off + n ≤ c.size) (h1 : ∀ v ∈ vs.toList, v.oneCell' = true)
    (hk : ∀ h', Wr h h' b (.cells (splc c off vs.toList) el) → S h h' ∧ WLJ S P ops rest e ds h' K) : WLJ S P ops (⟨none, .store t a x, ty, pos, aft, none⟩ :: rest) e ds h K := by
  unfold WLJ
  refine ⟨fun _ => ⟨_, e_store ha hs hv hn hb hl h1, fun v h' hw => hk h' hw⟩, fun hg => by rw [gOk_n] at hg; cases hg⟩
end
section
variable {ρ : Rel} {P : Program} {ops : Array Oper} {late : Nat → Bool} {Φ : Nat → Option Spec} {h0 : Heap} {ds : List Deferred} {K : Kont} {k : Nat} {rest : List Oper} {e : Env} {F : List (Nat × Value)} {h : Heap}
theorem LD.eg [RelN ρ] [RelF ρ] {d : Nat} {o : Op} {ty : TypeId} {pos : String} {aft : Array Edge} {v : Value} {j : Nat} {b g : Bool} (hl : late k = false) (hΦ : Φ k = some (Spec.is v)) (hg : gd ops e j = some g)
    (hE : g = b → ∀ h, ρ.r h0 h → FactsAnc ops Φ k F h → EOp P o ty e h (fun v' h' => v' = v ∧ ρ.r h h'))
    (hk : LD ρ P ops late Φ h0 ds K (k + 1) rest (Env.set e d (if g = b then v else undef)) F) :
    LD ρ P ops late Φ h0 ds K k (⟨some d, o, ty, pos, aft, some (j, b)⟩ :: rest) e F := by
  unfold LD
  rw [hl, if_neg (by simp), gOk_s hg]
  by_cases hgb : g = b
  · rw [if_pos hgb] at hk
    refine ⟨fun hh => by simp [hgb] at hh, fun _ => ?_⟩
    rw [hΦ]
    refine ⟨fun h hx _ hf => (hE hgb h hx hf).mono (fun v' h' hh => ⟨hh.2, hh.1, trivial, NF.all⟩), fun u hu => ?_⟩
    have hu' : u = v := hu
    subst hu'
    exact LD.weaken rest (fun p hp => List.mem_append_left _ hp) hk
  · rw [if_neg hgb] at hk
    exact ⟨fun _ => hk, fun hh => by simp [hgb] at hh⟩
end
end GL
namespace GL
open Go Go.ChangeShapes Go.WideShapes Go.ChangeAt Go.RowKit
theorem Below.of_ext {W W' : World} (hs : Same W W') (hx : Ext W.heap W'.heap) : Below W.heap.size W W' :=
  ⟨hs.2.1, hs.1, hs.2.2.1, hx.size, fun k hk => by
    have e1 : W.heap[k]? = some W.heap[k] := by simp [hk]
    rw [e1]
    exact hx k _ e1⟩
section
variable {H : Type} {enc : TypeId × Value → H} {P : Program}
theorem trodAll_stays (hl : laidOutB P = true) {W W' : World} {sp' : Nat → Bool} :
    ∀ {ts : List TypeId} {vs : List Value} {ds : List (DataW H)} {ps : List MemPlace}, (ts.all fun t => P.readableRec t && decide (t < P.types.size)) = true →
    DataW.TrodAll enc P W 0 (fun _ => true) true ts vs ds ps → (∀ p ∈ ps, W.sameAt W' p) → (∀ p ∈ ps, sp' p.block = true) → DataW.TrodAll enc P W' 0 sp' true ts vs ds ps
  | [], vs, ds, ps, _, h, _, _ => by
    obtain ⟨rfl, rfl, rfl⟩ := trodAll_nil h
    exact trodAll_mk0
  | t :: ts, vs, ds, ps, hr, h, hs, hp => by
    obtain ⟨v, vs', d, ds', p, q, rfl, rfl, rfl, h0, r0⟩ := trodAll_cons h
    simp only [List.all_cons, Bool.and_eq_true, decide_eq_true_eq] at hr
    exact trodAll_cons_mk (WideElems.Trod_stays hl hr.1.1 hr.1.2 h0 (fun x hx => hs x (List.mem_append_left _ hx)) (fun x hx => hp x (List.mem_append_left _ hx)))
      (trodAll_stays hl hr.2 r0 (fun x hx => hs x (List.mem_append_right _ hx)) (fun x hx => hp x (List.mem_append_right _ hx)))
theorem post_of_below {f : Func} {s : ChangeSpec} {apart fresh handsOn again : Bool} {W W' : World} {args : Array Value} {v : Value} {ds gs : List (DataW H)} {before pa pv : List MemPlace}
    (hW : DataW.Whole enc P f.params.toList s.vars apart W args.toList ds gs before)
    (hres : ∀ (b : Nat) (sp : Nat → Bool) (hd : Bool), DataW.TrodAll enc P W' b sp hd f.resultTypes.toList (v.resultList f.resultTypes.size) (s.fn H (ds ++ gs)).results [])
    (hargs : ∀ sp : Nat → Bool, (∀ p ∈ before, sp p.block = true) → DataW.TrodAll enc P W' 0 sp true f.params.toList args.toList (s.fn H (ds ++ gs)).args pa)
    (hvars : ∀ sp : Nat → Bool, (∀ p ∈ before, sp p.block = true) → DataW.TrodVars enc P W' sp s.vars (s.fn H (ds ++ gs)).vars pv)
    (hps : before = pa ++ pv) (hb : Below W.heap.size W W')
    (hok : ∀ (j : Nat) (t : TypeId) (r : Value), f.resultTypes[j]? = some t → (v.resultList f.resultTypes.size)[j]? = some r → Value.okWide P W' .any 0 t r) :
    s.post enc P f apart fresh handsOn again W args v W' := by
  have hlt : ∀ p ∈ before, p.block < W.heap.size := fun p hp => hW.lt p hp
  have hold : ∀ p ∈ before, (fun b => decide (b < W.heap.size)) p.block = true := fun p hp => by simpa using hlt p hp
  refine ⟨ds, gs, before, [], pa, pv, hW, hres _ _ _, hargs _ hold, hvars _ hold, World.keptBut_mono (fun p hp => ⟨hp, ?_⟩) (hb.frame (· ∈ before)), fun _ => ?_⟩
  · rw [hps, List.mem_append] at hp
    exact Or.inr hp
  · obtain ⟨_, _, _, _, _, hz, hn⟩ := hW
    refine ⟨hok, _, _, ([] ++ pa) ++ pv, ⟨[] ++ pa, pv, trodAll_append (hargs _ (fun _ _ => rfl)) (hres _ _ _), hvars _ (fun _ _ => rfl), rfl, ?_, ?_⟩, ?_⟩
    · intro b off hp
      have hin : MemPlace.cell b off ∈ before := by rw [hps]; simpa using hp
      rw [hb.frozen (hlt _ hin)]
      exact hz b off hin
    · intro ha
      have := hn ha
      rw [hps] at this
      simpa using this
    · intro p hp _
      rw [hps]
      simpa using hp
theorem law_done {f : FuncId} {fn : Func} {s : ChangeSpec} {apart fresh handsOn again : Bool} {W : World} {args : Array Value} {ds gs : List (DataW H)} {before : List MemPlace} {tb : TypeId}
    (hl : laidOutB P = true) (hr : (fn.params.toList.all fun t => P.readableRec t && decide (t < P.types.size)) = true) (hv : s.vars = []) (htb : fn.resultTypes = #[tb]) (hb : P.underlying tb = some .bool)
    (hW : DataW.Whole enc P fn.params.toList s.vars apart W args.toList ds gs before)
    (hspec : s.fn H (ds ++ gs) = { results := [.lit (.bool true)], args := ds })
    (hc : HCalls P f args W.heap (Grow (.bool true) W.heap)) :
    Calls P f args W fun e W' => ∃ v, e = .returned v ∧ s.post enc P fn apart fresh handsOn again W args v W' := by
  refine Calls.mono (callsIn_wide.1 (hc W rfl)) ?_
  rintro e W' ⟨v, rfl, hs, rfl, hx⟩
  have hbel := Below.of_ext hs hx
  have hW' := hW
  obtain ⟨p, q, hA, hV, hbq, hfz, hnd⟩ := hW
  rw [hv] at hV
  obtain ⟨rfl, rfl⟩ := trodVars_none hV
  subst hbq
  refine ⟨_, rfl, post_of_below (pa := p) (pv := []) hW' (fun b sp hd => ?_) (fun sp hsp => ?_) (fun sp _ => ?_) rfl hbel ?_⟩
  · rw [hspec, htb]
    exact trodAll_cons_mk (shut_bool hb _) trodAll_mk0
  · rw [hspec]
    exact trodAll_stays hl hr hA (fun x hx' => hbel.same (hW'.lt x (List.mem_append_left _ hx'))) (fun x hx' => hsp x (List.mem_append_left _ hx'))
  · rw [hspec, hv]
    rfl
  · exact ok_one htb rfl (okWide_bool_mk hb _)
end
end GL
namespace GL
open Go Go.ChangeShapes Go.WideShapes Go.ChangeAt Go.RowKit
section
variable {H : Type} {enc : TypeId × Value → H} {P : Program} {W : World}
def VW (enc : TypeId × Value → H) (P : Program) (W : World) (t : TypeId) (Q : List Value → Prop) : Prop :=
  ∀ fuel cs x, DataW.trod enc P W 0 (fun _ => true) true fuel t cs = some x → Q cs
theorem VW.mono {t : TypeId} {Q Q' : List Value → Prop} (h : VW enc P W t Q) (hq : ∀ cs, Q cs → Q' cs) : VW enc P W t Q' := fun f cs x hx => hq _ (h f cs x hx)
theorem vw_int {t : TypeId} {k : IntKind} (hu : P.underlying t = some (.int k)) : VW enc P W t (fun cs => ∃ n, cs = [.int k n] ∧ k.min ≤ n ∧ n ≤ k.max) := fun fuel cs x h => by
  obtain ⟨n, rfl, _, hn⟩ := DataW.trod_int hu h
  exact ⟨n, rfl, by simpa [Lit.wf] using hn⟩
theorem vw_str {t : TypeId} (hu : P.underlying t = some .string) : VW enc P W t (fun cs => ∃ s : ByteArray, cs = [.string s] ∧ s.size ≤ 9223372036854775807) := fun fuel cs x h => by
  obtain ⟨n, rfl, _, hn⟩ := DataW.trod_string hu h
  exact ⟨n, rfl, by simpa [maxLen] using hn⟩
theorem vw_struct {t : TypeId} {fs : Array Field} {Q : Nat → List Value → Prop} (hu : P.underlying t = some (.struct fs)) (hf : ∀ (i : Nat) (f : Field), fs[i]? = some f → VW enc P W f.type (Q i)) :
    VW enc P W t (fun cs => cs.length = P.cellsOf t ∧ ∀ (i : Nat) (f : Field), fs[i]? = some f → Q i ((cs.drop f.offset).take (P.cellsOf f.type))) := fun fuel cs x h => by
  obtain ⟨xs, n, _, _, hl, hx, hd⟩ := DataW.trod_struct hu h
  refine ⟨hl, fun i f hi => ?_⟩
  have h1 := hd i f hi
  have hlt : i < xs.length := by rw [hx]; exact (Array.getElem?_eq_some_iff.1 hi).1
  rw [List.getElem?_eq_getElem hlt] at h1
  exact hf i f hi _ _ _ h1
theorem VW.fld {Q : List Value → Prop} {cs : List Value} {off n m : Nat} (h : Q ((cs.drop off).take n)) (hn : n = m) : Q ((cs.drop off).take m) := hn ▸ h
theorem readN_of_mapM {h : Heap} {b off : Nat} {w : World} (hw : w.heap = h) : ∀ {n k : Nat} {l : List Value}, ((List.range' k n).mapM fun i => w.cell? (Addr.add ⟨b, off, none⟩ i)) = some l → readN h b (off + k) n = some l
  | 0, k, l, hm => by simpa [readN] using hm
  | n + 1, k, l, hm => by
    rw [List.range'_succ, List.mapM_cons] at hm
    simp only [Option.pure_def, Option.bind_eq_bind, Option.bind_eq_some_iff, Option.some.injEq] at hm
    obtain ⟨v, hv, l', hl, rfl⟩ := hm
    rw [addr_add, cell_eq, hw] at hv
    have := readN_of_mapM hw hl
    simp only [readN, hv]
    rw [show off + k + 1 = off + (k + 1) by omega, this]
theorem vw_sl {α : Type} {t e : TypeId} {sz : Nat} {f : α → List Value} {p : α → Prop} (hu : P.underlying t = some (.slice e)) (hc : P.cellsOf e = sz) (h0 : 0 < sz) (he : VW enc P W e (fun cs => ∃ x, cs = f x ∧ p x)) :
    VW enc P W t (fun cs => ∃ a L cap, cs = [.slice a L.length cap] ∧ SlG sz f W.heap a L ∧ L.length ≤ cap ∧ cap ≤ 9223372036854775807 ∧ (a = none → cap = 0) ∧ ∀ x ∈ L, p x) := fun fuel cs x h => by
  rcases DataW.trod_slice hu h with ⟨rfl, _⟩ | ⟨a, len, cap, elems, rest, n, _, rfl, _, _, hl, hm, hlen, hel, _, _⟩
  · exact ⟨none, [], 0, rfl, SlG.nil, by simp, by simp, fun _ => rfl, by simp⟩
  · have hspot : 0 < len → ∃ b off, a = ⟨b, off, none⟩ := by
      intro h1
      have h1 := hel 0 h1
      rw [List.getElem?_eq_getElem (by omega), Option.bind_eq_some_iff] at h1
      obtain ⟨r, hr, h2⟩ := h1
      rw [hc] at hr
      unfold World.cells? at hr
      rw [if_pos (Nat.zero_le _)] at hr
      obtain ⟨b, off, spot⟩ := a
      cases spot with
      | none => exact ⟨b, off, rfl⟩
      | some s =>
        exfalso
        obtain ⟨m, rfl⟩ : ∃ m, sz = m + 1 := ⟨sz - 1, by omega⟩
        rw [List.range_eq_range', List.range'_succ, List.mapM_cons] at hr
        simp only [Option.pure_def, Option.bind_eq_bind, Option.bind_eq_some_iff] at hr
        obtain ⟨v, hv, _⟩ := hr
        simp [Addr.add, World.cell?] at hv
        split at hv <;> cases hv
    have hrow : ∀ i, i < len → ∃ x : α, (∃ b off, a = ⟨b, off, none⟩ ∧ readN W.heap b (off + i * sz) sz = some (f x)) ∧ p x := by
      intro i hi
      have h1 := hel i hi
      rw [List.getElem?_eq_getElem (by omega), Option.bind_eq_some_iff] at h1
      obtain ⟨r, hr, h2⟩ := h1
      obtain ⟨x, rfl, hp⟩ := he _ _ _ h2
      refine ⟨x, ?_, hp⟩
      rw [hc] at hr
      unfold World.cells? at hr
      rw [if_pos (Nat.zero_le _)] at hr
      obtain ⟨b, off, rfl⟩ := hspot (by omega)
      refine ⟨b, off, rfl, ?_⟩
      rw [addr_add, List.range_eq_range'] at hr
      have := readN_of_mapM rfl hr
      rwa [Nat.add_zero] at this
    have hL : ∀ k, k ≤ len → ∃ L : List α, L.length = k ∧ (∀ (i : Nat) x, L[i]? = some x → (∃ b off, a = ⟨b, off, none⟩ ∧ readN W.heap b (off + i * sz) sz = some (f x)) ∧ p x) := by
      intro k
      induction k with
      | zero => exact fun _ => ⟨[], rfl, fun i x hx => by simp at hx⟩
      | succ k ih =>
        intro hk
        obtain ⟨L, hLl, hLp⟩ := ih (by omega)
        obtain ⟨x, hx⟩ := hrow k (by omega)
        refine ⟨L ++ [x], by simp [hLl], fun i y hy => ?_⟩
        rcases Nat.lt_or_ge i k with hi | hi
        · rw [List.getElem?_append_left (by omega)] at hy
          exact hLp i y hy
        · rw [List.getElem?_append_right (by omega)] at hy
          have hik : i - L.length = 0 := by
            have := (List.getElem?_eq_some_iff.1 hy).1
            simp at this; omega
          rw [hik] at hy
          simp only [List.getElem?_cons_zero, Option.some.injEq] at hy
          subst hy
          rw [show i = k by omega]
          exact hx
    obtain ⟨L, hLl, hLp⟩ := hL len (Nat.le_refl _)
    refine ⟨some a, L, cap, by rw [hLl], fun i x hx => ?_, by omega, by simpa [maxLen] using hm, by simp, fun x hx => ?_⟩
    · obtain ⟨⟨b, off, rfl, hr⟩, _⟩ := hLp i x hx
      exact ⟨b, off, rfl, hr⟩
    · obtain ⟨i, hi, rfl⟩ := List.getElem_of_mem hx
      exact (hLp i _ (by simp [hi])).2
theorem view_vsl {r : Reach} {b0 : Nat} {t e : TypeId} {v : Value} {d : DataW H} {q : List MemPlace} {Q : List Value → Prop} (hu : P.underlying t = some (.slice e)) (hQ : VW enc P W t Q)
    (hv : Value.okWide P W r b0 t v) (h : DataW.Trod enc P W 0 (fun _ => true) true t v d q) : ∃ a n cap, v = .slice a n cap ∧ Q [v] := by
  obtain ⟨a, len, cap, rfl⟩ := okWide_slice hu hv
  obtain ⟨fuel, hf⟩ := h
  exact ⟨a, len, cap, rfl, hQ _ _ _ hf⟩
theorem view_vst {r : Reach} {b0 : Nat} {t : TypeId} {fs : Array Field} {v : Value} {d : DataW H} {q : List MemPlace} {Q : List Value → Prop} (hu : P.underlying t = some (.struct fs)) (hQ : VW enc P W t Q)
    (hv : Value.okWide P W r b0 t v) (h : DataW.Trod enc P W 0 (fun _ => true) true t v d q) : ∃ cs, v = .agg cs ∧ Q cs.toList := by
  obtain ⟨cs, rfl⟩ : ∃ cs, v = .agg cs := by
    unfold Value.okWide at hv
    rw [hu] at hv
    obtain ⟨cs, rfl, _⟩ := hv
    exact ⟨cs, rfl⟩
  obtain ⟨fuel, hf⟩ := h
  exact ⟨cs, rfl, hQ _ _ _ hf⟩
end
theorem slG_has {α : Type} {sz : Nat} {f : α → List Value} (hf : ∀ x, (f x).length = sz) {h : Heap} {b : Nat} {c : Array Value} {el : TypeId} {fr : Nat × Nat} {L : List α} (hb : Has h b (.cells c el fr)) (hc : c.toList = L.flatMap f) : SlG sz f h (some ⟨b, 0, none⟩) L := by
  intro i x hi
  refine ⟨b, 0, rfl, ?_⟩
  have hlt := (List.getElem?_eq_some_iff.1 hi).1
  have hsz : c.size = L.length * sz := by rw [← Array.length_toList, hc, flat_len hf]
  have hle : i * sz + sz ≤ c.size := by rw [hsz, ← Nat.succ_mul]; exact Nat.mul_le_mul_right _ hlt
  rw [Nat.zero_add, readN_block hb sz (i * sz) hle, hc, flat_at hf hi]
end GL
namespace GL
open Go Go.Proofs
set_option maxRecDepth 8000
abbrev iV (n : Int) : Value := .int .i64 n
abbrev intL (n : Int) : List Value := [iV n]
def cmpI (a b : Int) : Int := if a < b then -1 else if b < a then 1 else 0
theorem c_isNaN (a : Int) (h : Heap) : HCalls Tryz.prog 94 #[iV a] h (Pure (.bool false) h) := by
  refine hcalls2 Tryz.func94 rfl (by decide +kernel) (by simp only [Tryz.ntmps94]; exact of_decide_eq_true rfl) ?_
  intro e hin
  have e0 := hin 0 _ rfl
  refine hx_seq (hx_region ?_)
  refine WL.qq (by simp only [EN, Nat.reduceEqDiff, reduceIte, qv_assign]; rfl) ?_
  refine WL.nil (th_norm (hx_seq (hx_region ?_)))
  iterate 4 refine WL.qq (by simp only [EN, Nat.reduceEqDiff, reduceIte, qv_move, e0, qv_binOp, binv_neq, eq3, Option.map_some, qv_assign]; rfl) ?_
  refine WL.nil (th_norm (hx_ret ?_))
  refine fin_ret [.tmp 2] rfl rfl (by simp only [EN, Nat.reduceEqDiff, reduceIte, resv, e0]; rfl) ?_
  exact ⟨by simp [retOf], rfl⟩
theorem c_cmpI (a b : Int) (h : Heap) : HCalls Tryz.prog 79 #[iV a, iV b] h (Pure (iV (cmpI a b)) h) := by
  refine hcalls2 Tryz.func79 rfl (by decide +kernel) (by simp only [Tryz.ntmps79]; exact of_decide_eq_true rfl) ?_
  intro e hin
  have e0 := hin 0 _ rfl
  have e1 := hin 1 _ rfl
  refine hx_seq (hx_region ?_)
  refine WL.qq (by simp only [EN, Nat.reduceEqDiff, reduceIte, qv_assign]; rfl) ?_
  refine WL.nil (th_norm (hx_seq (hx_region ?_)))
  refine WL.qq (by simp only [EN, Nat.reduceEqDiff, reduceIte, qv_move, e0]; rfl) ?_
  refine WL.ck Tryz.call94 (by simp only [EN, Nat.reduceEqDiff, reduceIte, AR]; exact c_isNaN _ _) ?_
  refine WL.qq (by simp only [EN, Nat.reduceEqDiff, reduceIte, qv_assign]; rfl) ?_
  refine WL.nil (th_norm (hx_seq (hx_region ?_)))
  refine WL.qq (by simp only [EN, Nat.reduceEqDiff, reduceIte, qv_move, e1]; rfl) ?_
  refine WL.ck Tryz.call94 (by simp only [EN, Nat.reduceEqDiff, reduceIte, AR]; exact c_isNaN _ _) ?_
  refine WL.qq (by simp only [EN, Nat.reduceEqDiff, reduceIte, qv_assign]; rfl) ?_
  refine WL.nil (th_norm (hx_seq (hx_seq (hx_region ?_))))
  refine WL.qq (by simp only [EN, Nat.reduceEqDiff, reduceIte, qv_move]; rfl) ?_
  refine WL.nil (th_norm ?_)
  refine hx_cond (by simp only [EN, Nat.reduceEqDiff, reduceIte]; rfl) (fun hct11 => ?_) (fun hct11 => ?_)
  ·
   simp at hct11
  ·
   try simp only [BD] at hct11
   refine hx_skip (th_norm (hx_seq (hx_seq (hx_region ?_))))
   refine WL.qq (by simp only [EN, Nat.reduceEqDiff, reduceIte, qv_move]; rfl) ?_
   refine WL.nil (th_norm ?_)
   refine hx_cond (by simp only [EN, Nat.reduceEqDiff, reduceIte]; rfl) (fun hct13 => ?_) (fun hct13 => ?_)
   ·
    simp at hct13
   ·
    try simp only [BD] at hct13
    refine hx_skip (th_norm (hx_seq (hx_seq (hx_region ?_))))
    iterate 3 refine WL.qq (by simp only [EN, Nat.reduceEqDiff, reduceIte, qv_move, e0, e1, qv_binOp, binv_lss]; rfl) ?_
    refine WL.nil (th_norm ?_)
    refine hx_cond (by simp only [EN, Nat.reduceEqDiff, reduceIte]; rfl) (fun hct16 => ?_) (fun hct16 => ?_)
    ·
     try simp only [BD] at hct16
     refine hx_seq (hx_region ?_)
     refine WL.qq (by simp only [EN, Nat.reduceEqDiff, reduceIte, qv_assign]; rfl) ?_
     refine WL.nil (th_norm (hx_ret (th_ret ?_)))
     refine fin_ret [.tmp 4] rfl rfl (by simp only [EN, Nat.reduceEqDiff, reduceIte, resv, e0, e1]; rfl) ?_
     exact ⟨by simp [retOf, cmpI, hct16], rfl⟩
    ·
     try simp only [BD] at hct16
     refine hx_skip (th_norm (hx_seq (hx_seq (hx_region ?_))))
     iterate 3 refine WL.qq (by simp only [EN, Nat.reduceEqDiff, reduceIte, qv_move, e0, e1, qv_binOp, binv_gtr]; rfl) ?_
     refine WL.nil (th_norm ?_)
     refine hx_cond (by simp only [EN, Nat.reduceEqDiff, reduceIte]; rfl) (fun hct19 => ?_) (fun hct19 => ?_)
     ·
      try simp only [BD] at hct19
      refine hx_seq (hx_region ?_)
      refine WL.qq (by simp only [EN, Nat.reduceEqDiff, reduceIte, qv_assign]; rfl) ?_
      refine WL.nil (th_norm (hx_ret (th_ret ?_)))
      refine fin_ret [.tmp 4] rfl rfl (by simp only [EN, Nat.reduceEqDiff, reduceIte, resv, e0, e1]; rfl) ?_
      exact ⟨by simp [retOf, cmpI, hct16, hct19], rfl⟩
     ·
      try simp only [BD] at hct19
      refine hx_skip (th_norm (hx_seq (hx_region ?_)))
      refine WL.qq (by simp only [EN, Nat.reduceEqDiff, reduceIte, qv_assign]; rfl) ?_
      refine WL.nil (th_norm (hx_ret ?_))
      refine fin_ret [.tmp 4] rfl rfl (by simp only [EN, Nat.reduceEqDiff, reduceIte, resv, e0, e1]; rfl) ?_
      exact ⟨by simp [retOf, cmpI, hct16, hct19], rfl⟩
theorem c_isNaNU (a : Nat) (h : Heap) : HCalls Tryz.prog 93 #[uV a] h (Pure (.bool false) h) := by
  refine hcalls2 Tryz.func93 rfl (by decide +kernel) (by simp only [Tryz.ntmps93]; exact of_decide_eq_true rfl) ?_
  intro e hin
  have e0 := hin 0 _ rfl
  refine hx_seq (hx_region ?_)
  refine WL.qq (by simp only [EN, Nat.reduceEqDiff, reduceIte, qv_assign]; rfl) ?_
  refine WL.nil (th_norm (hx_seq (hx_region ?_)))
  iterate 4 refine WL.qq (by simp only [EN, Nat.reduceEqDiff, reduceIte, qv_move, e0, qv_binOp, binv_neq, eq136, Option.map_some, qv_assign]; rfl) ?_
  refine WL.nil (th_norm (hx_ret ?_))
  refine fin_ret [.tmp 2] rfl rfl (by simp only [EN, Nat.reduceEqDiff, reduceIte, resv, e0]; rfl) ?_
  exact ⟨by simp [retOf], rfl⟩
theorem c_cmpU (a b : Nat) (h : Heap) : HCalls Tryz.prog 78 #[uV a, uV b] h (Pure (iV (cmpI a b)) h) := by
  refine hcalls2 Tryz.func78 rfl (by decide +kernel) (by simp only [Tryz.ntmps78]; exact of_decide_eq_true rfl) ?_
  intro e hin
  have e0 := hin 0 _ rfl
  have e1 := hin 1 _ rfl
  refine hx_seq (hx_region ?_)
  refine WL.qq (by simp only [EN, Nat.reduceEqDiff, reduceIte, qv_assign]; rfl) ?_
  refine WL.nil (th_norm (hx_seq (hx_region ?_)))
  refine WL.qq (by simp only [EN, Nat.reduceEqDiff, reduceIte, qv_move, e0]; rfl) ?_
  refine WL.ck Tryz.call93 (by simp only [EN, Nat.reduceEqDiff, reduceIte, AR]; exact c_isNaNU _ _) ?_
  refine WL.qq (by simp only [EN, Nat.reduceEqDiff, reduceIte, qv_assign]; rfl) ?_
  refine WL.nil (th_norm (hx_seq (hx_region ?_)))
  refine WL.qq (by simp only [EN, Nat.reduceEqDiff, reduceIte, qv_move, e1]; rfl) ?_
  refine WL.ck Tryz.call93 (by simp only [EN, Nat.reduceEqDiff, reduceIte, AR]; exact c_isNaNU _ _) ?_
  refine WL.qq (by simp only [EN, Nat.reduceEqDiff, reduceIte, qv_assign]; rfl) ?_
  refine WL.nil (th_norm (hx_seq (hx_seq (hx_region ?_))))
  refine WL.qq (by simp only [EN, Nat.reduceEqDiff, reduceIte, qv_move]; rfl) ?_
  refine WL.nil (th_norm ?_)
  refine hx_cond (by simp only [EN, Nat.reduceEqDiff, reduceIte]; rfl) (fun hct11 => ?_) (fun hct11 => ?_)
  ·
   simp at hct11
  ·
   try simp only [BD] at hct11
   refine hx_skip (th_norm (hx_seq (hx_seq (hx_region ?_))))
   refine WL.qq (by simp only [EN, Nat.reduceEqDiff, reduceIte, qv_move]; rfl) ?_
   refine WL.nil (th_norm ?_)
   refine hx_cond (by simp only [EN, Nat.reduceEqDiff, reduceIte]; rfl) (fun hct13 => ?_) (fun hct13 => ?_)
   ·
    simp at hct13
   ·
    try simp only [BD] at hct13
    refine hx_skip (th_norm (hx_seq (hx_seq (hx_region ?_))))
    iterate 3 refine WL.qq (by simp only [EN, Nat.reduceEqDiff, reduceIte, qv_move, e0, e1, qv_binOp, binv_lss]; rfl) ?_
    refine WL.nil (th_norm ?_)
    refine hx_cond (by simp only [EN, Nat.reduceEqDiff, reduceIte]; rfl) (fun hct16 => ?_) (fun hct16 => ?_)
    ·
     try simp only [BD] at hct16
     refine hx_seq (hx_region ?_)
     refine WL.qq (by simp only [EN, Nat.reduceEqDiff, reduceIte, qv_assign]; rfl) ?_
     refine WL.nil (th_norm (hx_ret (th_ret ?_)))
     refine fin_ret [.tmp 4] rfl rfl (by simp only [EN, Nat.reduceEqDiff, reduceIte, resv, e0, e1]; rfl) ?_
     exact ⟨by simp [retOf, cmpI, hct16], rfl⟩
    ·
     try simp only [BD] at hct16
     refine hx_skip (th_norm (hx_seq (hx_seq (hx_region ?_))))
     iterate 3 refine WL.qq (by simp only [EN, Nat.reduceEqDiff, reduceIte, qv_move, e0, e1, qv_binOp, binv_gtr]; rfl) ?_
     refine WL.nil (th_norm ?_)
     refine hx_cond (by simp only [EN, Nat.reduceEqDiff, reduceIte]; rfl) (fun hct19 => ?_) (fun hct19 => ?_)
     ·
      try simp only [BD] at hct19
      refine hx_seq (hx_region ?_)
      refine WL.qq (by simp only [EN, Nat.reduceEqDiff, reduceIte, qv_assign]; rfl) ?_
      refine WL.nil (th_norm (hx_ret (th_ret ?_)))
      refine fin_ret [.tmp 4] rfl rfl (by simp only [EN, Nat.reduceEqDiff, reduceIte, resv, e0, e1]; rfl) ?_
      exact ⟨by simp [retOf, cmpI, hct16, hct19], rfl⟩
     ·
      try simp only [BD] at hct19
      refine hx_skip (th_norm (hx_seq (hx_region ?_)))
      refine WL.qq (by simp only [EN, Nat.reduceEqDiff, reduceIte, qv_assign]; rfl) ?_
      refine WL.nil (th_norm (hx_ret ?_))
      refine fin_ret [.tmp 4] rfl rfl (by simp only [EN, Nat.reduceEqDiff, reduceIte, resv, e0, e1]; rfl) ?_
      exact ⟨by simp [retOf, cmpI, hct16, hct19], rfl⟩
def orI : List Int → Int
  | [] => 0
  | x :: l => if x = 0 then orI l else x
theorem orI_drop {l : List Int} {i : Nat} {x : Int} (hx : l[i]? = some x) : orI (l.drop i) = if x = 0 then orI (l.drop (i + 1)) else x := by
  rw [drop_atG hx]; rfl
theorem c_orI (a : Option Addr) (l : List Int) (cap : Nat) (hl : l.length ≤ 1000000) {h : Heap} (hs : SlG 1 intL h a l) :
    HCalls Tryz.prog 77 #[.slice a l.length cap] h (Pure (iV (orI l)) h) := by
  refine hcalls2 Tryz.func77 rfl (by decide +kernel) (by simp only [Tryz.ntmps77]; exact of_decide_eq_true rfl) ?_
  intro e hin
  have e0 := hin 0 _ rfl
  refine hx_seq (hx_region ?_)
  refine WL.qq (by simp only [EN, Nat.reduceEqDiff, reduceIte, qv_assign]; rfl) ?_
  refine WL.nil (th_norm (hx_seq (hx_region ?_)))
  refine WL.qq (by simp only [EN, Nat.reduceEqDiff, reduceIte, qv_assign]; rfl) ?_
  refine WL.nil (th_norm (hx_seq (hx_seq (hx_region ?_))))
  iterate 3 refine WL.qq (by simp only [EN, Nat.reduceEqDiff, reduceIte, qv_move, e0, qv_len, ln173, AR]; rfl) ?_
  refine WL.nil (th_norm (hx_block ?_))
  refine hx_loopS [2, 5, 8, 9, 10, 11, 12, 13, 14, 15, 16] (fun k e => ∃ (i : Nat), l.length - i = k ∧ (i ≤ l.length) ∧ (orI (l.drop i) = orI l) ∧ e 8 = .int .i64 i) _ ⟨0, rfl, ?_, ?_, ?_⟩ ?_
  · omega
  · rfl
  · simp only [EN, Nat.reduceEqDiff, reduceIte, e0] <;> rfl
  ·
   rintro k e0L hfr0 ⟨i, rfl, hi, hr, i8_0⟩
   have k3_0 := hfr0 3 rfl; try simp only [EN, Nat.reduceEqDiff, reduceIte] at k3_0
   have k6_0 := hfr0 6 rfl; try simp only [EN, Nat.reduceEqDiff, reduceIte] at k6_0
   have k7_0 := hfr0 7 rfl; try simp only [EN, Nat.reduceEqDiff, reduceIte] at k7_0
   refine hx_seq (hx_region ?_)
   refine WL.qq (by simp only [EN, Nat.reduceEqDiff, reduceIte, qv_binOp, binv_lss, k7_0, i8_0]; rfl) ?_
   refine WL.nil (th_norm (hx_seq ?_))
   refine hx_cond (by simp only [EN, Nat.reduceEqDiff, reduceIte]; rfl) (fun hct9 => ?_) (fun hct9 => ?_)
   ·
    try simp only [BD] at hct9
    obtain ⟨x, hx⟩ := atG (l := l) (i := i) (by omega)
    obtain ⟨b, off, rfl, hr0⟩ := hs i x hx
    have hc0 := readN_cell hr0 0 _ rfl
    rw [Nat.add_zero, Nat.mul_one] at hc0
    refine hx_skip (th_norm (hx_seq (hx_block (hx_seq (hx_region ?_)))))
    refine WL.qq (by simp only [EN, Nat.reduceEqDiff, reduceIte, qv_indexAddr, k6_0, i8_0]; (try simp (disch := omega) only [ix173, Int.toNat_natCast]); rfl) ?_
    refine WL.qq (by simp only [EN, Nat.reduceEqDiff, reduceIte, k3_0, k6_0, k7_0, i8_0, qv_load, ld3, Int.toNat_natCast, hc0]; rfl) ?_
    refine WL.qq (by simp only [EN, Nat.reduceEqDiff, reduceIte, qv_assign]; rfl) ?_
    refine WL.nil (th_norm (hx_seq (hx_region ?_)))
    iterate 3 refine WL.qq (by simp only [EN, Nat.reduceEqDiff, reduceIte, qv_move, k3_0, qv_binOp, binv_neq, eq3, Option.map_some]; rfl) ?_
    refine WL.nil (th_norm ?_)
    refine hx_cond (by simp only [EN, Nat.reduceEqDiff, reduceIte]; rfl) (fun hct14 => ?_) (fun hct14 => ?_)
    ·
     try simp only [BD] at hct14
     refine hx_seq (hx_region ?_)
     iterate 2 refine WL.qq (by simp only [EN, Nat.reduceEqDiff, reduceIte, qv_move, qv_assign]; rfl) ?_
     refine WL.nil (th_norm (hx_ret (bl_ret (th_ret (th_ret (bl_ret (th_ret ?_)))))))
     refine fin_ret [.tmp 2] rfl rfl (by simp only [EN, Nat.reduceEqDiff, reduceIte, resv, k3_0, k6_0, k7_0, i8_0]; rfl) ?_
     exact ⟨by have h9 := hr; rw [orI_drop hx, if_neg (by simpa using hct14)] at h9; rw [← h9]; rfl, rfl⟩
    ·
     try simp only [BD] at hct14
     refine hx_skip (bl_norm (th_norm (hx_region ?_)))
     iterate 2 refine WL.qq (by simp only [EN, Nat.reduceEqDiff, reduceIte, qv_binOp, binv_add, i8_0, qv_move]; (try simp (disch := omega) only [w64, w8, wu64]); rfl) ?_
     refine WL.nil (th_norm ?_)
     refine ⟨rfl, rfl, ?_, _, ?_, i + 1, rfl, ?_, ?_, ?_⟩
     · (repeat (first | exact Fr.refl _ _ | refine Fr.set rfl ?_ | refine Fr.put rfl ?_ | with_reducible refine Fr.put0 ?_))
     · omega
     · omega
     · rw [← hr, orI_drop hx, if_pos (by simpa using hct14)]
     · simp only [EN, Nat.reduceEqDiff, reduceIte, k3_0, k6_0, k7_0, i8_0] <;> first | rfl | (congr 1; omega)
   ·
    try simp only [BD] at hct9
    refine hx_exit (th_exit (th_exit (bl_hit (th_norm (hx_seq (hx_region ?_))))))
    iterate 2 refine WL.qq (by simp only [EN, Nat.reduceEqDiff, reduceIte, qv_move, k3_0, qv_assign]; rfl) ?_
    refine WL.nil (th_norm (hx_ret ?_))
    refine fin_ret [.tmp 2] rfl rfl (by simp only [EN, Nat.reduceEqDiff, reduceIte, resv, k3_0, k6_0, k7_0, i8_0]; rfl) ?_
    exact ⟨by have h9 : i = l.length := (by omega); rw [← hr, h9, List.drop_length]; rfl, rfl⟩
abbrev spL (x : SP) : List Value := [iV x.i, uV x.r]
def cmpP (x y : SP) : Int := orI [cmpI y.r x.r, cmpI x.i y.i]
theorem cmpP_lt {x y : SP} : cmpP x y < 0 ↔ pLt x y := by
  simp only [cmpP, orI, cmpI, pLt]
  repeat' split
  all_goals omega
set_option maxHeartbeats 1000000 in
theorem c_cmpP (x y : SP) (h : Heap) : HCalls Tryz.prog 76 #[.agg (spL x).toArray, .agg (spL y).toArray] h (Grow (iV (cmpP x y)) h) := by
  refine hcalls2 Tryz.func76 rfl (by decide +kernel) (by simp only [Tryz.ntmps76]; exact of_decide_eq_true rfl) ?_
  intro e hin
  have e0 := hin 0 _ rfl
  have e1 := hin 1 _ rfl
  refine hx_seq (hx_region ?_)
  refine WL.box2 (by simp only [EN, Nat.reduceEqDiff, reduceIte, Value.cells, e0]; rfl) ?_
  intro h1 B1 hx1 hlt1 hB1
  refine WL.box2 (by simp only [EN, Nat.reduceEqDiff, reduceIte, Value.cells, e1, hB1.cell]; rfl) ?_
  intro h2 B2 hx2 hlt2 hB2
  replace hB1 := hB1.ext hx2
  refine WL.qq (by simp only [EN, Nat.reduceEqDiff, reduceIte, qv_assign, hB1.cell, hB2.cell]; rfl) ?_
  refine WL.nil (th_norm (hx_seq ?_))
  apply hx_draw2 Rel.grows [] [4, 9, 10, 11] [(4, (Spec.is (iV (cmpI y.r x.r)))), (9, (Spec.is (iV (cmpI x.i y.i)))), (10, (Spec.ls h.size #[iV (cmpI y.r x.r), iV (cmpI x.i y.i)] 3 2)), (11, (Spec.is (iV (cmpP x y))))] rfl (by decide +kernel) rfl
  iterate 4 refine LD.qq rfl rfl (by simp only [EN, Nat.reduceEqDiff, reduceIte, qv_fieldAddr, fa148_1, Nat.zero_add, Nat.reduceAdd, hB1.cell, hB2.cell, qv_load, ld136, readN, AR]; rfl) ?_
  refine LD.es rfl rfl (by intro hD hr hf; have hx : Ext _ _ := hr; have hB1 := hB1.ext hx; have hB2 := hB2.ext hx; exact EOp.mono (e_call Tryz.call78 (by simp only [EN, Nat.reduceEqDiff, reduceIte, e0, e1, hB1.cell, hB2.cell, List.map_toArray, List.map_cons, List.map_nil]; exact c_cmpU y.r x.r _)) (fun _ _ hh => by obtain ⟨rfl, rfl⟩ := hh; exact ⟨Ext.refl _, rfl, trivial⟩)) ?_
  intro u1_4 w1_4
  have hu4 : u1_4 = _ := w1_4
  subst hu4
  iterate 4 refine LD.qq rfl rfl (by simp only [EN, Nat.reduceEqDiff, reduceIte, qv_fieldAddr, fa148_0, Nat.zero_add, Nat.reduceAdd, hB1.cell, hB2.cell, qv_load, ld3, readN, AR]; rfl) ?_
  refine LD.es rfl rfl (by intro hD hr hf; have hx : Ext _ _ := hr; have hB1 := hB1.ext hx; have hB2 := hB2.ext hx; exact EOp.mono (e_call Tryz.call79 (by simp only [EN, Nat.reduceEqDiff, reduceIte, e0, e1, hB1.cell, hB2.cell, List.map_toArray, List.map_cons, List.map_nil]; exact c_cmpI x.i y.i _)) (fun _ _ hh => by obtain ⟨rfl, rfl⟩ := hh; exact ⟨Ext.refl _, rfl, trivial⟩)) ?_
  intro u1_9 w1_9
  have hu9 : u1_9 = _ := w1_9
  subst hu9
  refine LD.es rfl rfl (by intro hD hr hf; have hx : Ext _ _ := hr; have hB1 := hB1.ext hx; have hB2 := hB2.ext hx; exact e_litN (Nat.le_trans (Ext.size ((hx1).trans (hx2))) hx.size) #[iV 0, iV 0] Tryz.underlying173 sz3 zr3 (by decide) (by kernel_rfl) ⟨_, (by simp only [EN, Nat.reduceEqDiff, reduceIte, e0, e1, hB1.cell, hB2.cell, AR]; simp [Instr.fill, Value.cells] <;> rfl), rfl⟩) ?_
  intro u1_10 w1_10
  obtain ⟨B10, hlt10, rfl⟩ := w1_10
  refine LD.es rfl rfl (by intro hD hr hf; have hx : Ext _ _ := hr; have hB1 := hB1.ext hx; have hB2 := hB2.ext hx; have m10 := hf (10, .slice (some ⟨B10, 0, none⟩) 2 2) (by simp) (by show tb _ _ 10 = true; decide +kernel) _ rfl B10 rfl; exact EOp.mono (e_call Tryz.call77 (by simp only [EN, Nat.reduceEqDiff, reduceIte, e0, e1, hB1.cell, hB2.cell, List.map_toArray, List.map_cons, List.map_nil]; exact c_orI (some ⟨B10, 0, none⟩) [cmpI y.r x.r, cmpI x.i y.i] 2 (by simp) (slG_has (f := intL) (sz := 1) (L := [cmpI y.r x.r, cmpI x.i y.i]) (fun _ => rfl) m10 rfl))) (fun _ _ hh => by obtain ⟨rfl, rfl⟩ := hh; exact ⟨Ext.refl _, rfl, trivial⟩)) ?_
  intro u1_11 w1_11
  have hu11 : u1_11 = _ := w1_11
  subst hu11
  refine LD.qq rfl rfl (by simp only [EN, Nat.reduceEqDiff, reduceIte, qv_assign, hB1.cell, hB2.cell]; rfl) ?_
  refine LD.nil ?_
  rintro h3 hx3 hF1
  replace hx3 : Ext _ _ := hx3
  replace hB1 := hB1.ext hx3
  replace hB2 := hB2.ext hx3
  refine WL.nil (th_norm (hx_ret ?_))
  refine fin_ret [.tmp 4] rfl rfl (by simp only [EN, Nat.reduceEqDiff, reduceIte, resv, e0, e1, hB1.cell, hB2.cell]; rfl) ?_
  exact ⟨rfl, ((hx1).trans ((hx2).trans (hx3)))⟩
theorem ltP_t {x y : SP} : ltOf cmpP x y = true ↔ pLt x y := by rw [ltOf_iff, cmpP_lt]
theorem ltP_f {x y : SP} : ltOf cmpP x y = false ↔ ¬ pLt x y := by rw [← ltP_t, Bool.not_eq_true]
theorem swoP : Go.Sort.SWO (ltOf cmpP) where
  irrefl x := ltP_f.2 (pLt_irrefl _)
  trans x y z h1 h2 := ltP_t.2 (pLt_trans (ltP_t.1 h1) (ltP_t.1 h2))
  ntrans x y z h1 h2 := by
    rw [ltP_f] at *
    intro h
    by_cases h3 : pLt y x
    · exact h2 (pLt_trans h3 h)
    · exact h2 (pLt_tri h1 h3 ▸ h)
theorem isAggP (w : World) : (isAgg (Tryz.sortP_ren.t 24)).run Tryz.prog w = .ok true w := run_isAgg_of (by kernel_rfl) w
theorem szP (w : World) : (Go.sizeOf (Tryz.sortP_ren.t 24)).run Tryz.prog w = .ok 2 w := run_sizeOf_of (by kernel_rfl) w
instance : Inhabited SP := ⟨⟨0, 0⟩⟩
theorem spL_one (x : SP) : ∀ u ∈ spL x, u.oneCell' = true := fun u hu => by simp at hu; rcases hu with rfl | rfl <;> rfl
theorem c_valid (t : Int) (h : Heap) : HCalls Tryz.prog 71 #[iV t] h (Pure (.bool (decide (-1000000000000000 ≤ t) && decide (t ≤ 1000000000000000))) h) := by
  refine hcalls2 Tryz.func71 rfl (by decide +kernel) (by simp only [Tryz.ntmps71]; exact of_decide_eq_true rfl) ?_
  intro e hin
  have e0 := hin 0 _ rfl
  refine hx_seq (hx_region ?_)
  refine WL.qq (by simp only [EN, Nat.reduceEqDiff, reduceIte, qv_assign]; rfl) ?_
  refine WL.nil (th_norm (hx_seq (hx_region ?_)))
  iterate 3 refine WL.qq (by simp only [EN, Nat.reduceEqDiff, reduceIte, qv_move, e0, qv_binOp, binv_geq]; rfl) ?_
  refine WL.cq (gd_at (t := 5) rfl (by simp only [EN, Nat.reduceEqDiff, reduceIte, e0] <;> rfl)) (fun hg1_3 => by simp only [EN, Nat.reduceEqDiff, reduceIte, qv_move, e0, hg1_3, GR]; rfl) ?_
  refine WL.cq (gd_at (t := 5) rfl (by simp only [EN, Nat.reduceEqDiff, reduceIte] <;> rfl)) (fun hg1_4 => by simp only [EN, Nat.reduceEqDiff, reduceIte, qv_binOp, binv_leq, hg1_4, GR]; rfl) ?_
  iterate 2 refine WL.qq (by simp only [EN, Nat.reduceEqDiff, reduceIte, qv_pick, pk_and, pk_or, GR, qv_assign]; rfl) ?_
  refine WL.nil (th_norm (hx_ret ?_))
  refine fin_ret [.tmp 2] rfl rfl (by simp only [EN, Nat.reduceEqDiff, reduceIte, resv, e0]; rfl) ?_
  exact ⟨rfl, rfl⟩
theorem c_magn (t : Nat) (ht : t ≤ 1000000000000000) (h : Heap) : HCalls Tryz.prog 72 #[iV t] h (Pure (.tuple #[uV t, .bool false]) h) := by
  refine hcalls2 Tryz.func72 rfl (by decide +kernel) (by simp only [Tryz.ntmps72]; exact of_decide_eq_true rfl) ?_
  intro e hin
  have e0 := hin 0 _ rfl
  refine hx_seq (hx_region ?_)
  iterate 2 refine WL.qq (by simp only [EN, Nat.reduceEqDiff, reduceIte, qv_assign]; rfl) ?_
  refine WL.nil (th_norm (hx_seq (hx_seq (hx_region ?_))))
  iterate 2 refine WL.qq (by simp only [EN, Nat.reduceEqDiff, reduceIte, qv_move, e0, qv_binOp, binv_lss]; rfl) ?_
  refine WL.nil (th_norm ?_)
  refine hx_cond (by simp only [EN, Nat.reduceEqDiff, reduceIte]; rfl) (fun hct5 => ?_) (fun hct5 => ?_)
  ·
   simp at hct5; omega
  ·
   try simp only [BD] at hct5
   refine hx_skip (th_norm (hx_seq (hx_region ?_)))
   iterate 4 refine WL.qq (by simp only [EN, Nat.reduceEqDiff, reduceIte, qv_move, e0, qv_convert, convv, Tryz.underlying2, Tryz.underlying136, qv_assign]; (try simp (disch := omega) only [w64, w8, wu64]); rfl) ?_
   refine WL.nil (th_norm (hx_ret ?_))
   refine fin_ret [.tmp 2, .tmp 3] rfl rfl (by simp only [EN, Nat.reduceEqDiff, reduceIte, resv, e0]; rfl) ?_
   exact ⟨rfl, rfl⟩
end GL
namespace GL
open Go Go.Proofs
set_option maxRecDepth 8000
structure SI where
  s : ByteArray
  n : Int
deriving DecidableEq
abbrev siL (x : SI) : List Value := [.string x.s, iV x.n]
abbrev siV (x : SI) : Value := .agg (siL x).toArray
theorem siL_one (x : SI) : ∀ u ∈ siL x, u.oneCell' = true := fun u hu => by simp at hu; rcases hu with rfl | rfl <;> rfl
instance : Inhabited SI := ⟨⟨⟨#[]⟩, 0⟩⟩
theorem si_rd {h : Heap} {a : Option Addr} {L : List SI} {i : Nat} {x : SI} (hs : SlG 2 siL h a L) (hx : L[i]? = some x) :
    ∃ b off, a = some ⟨b, off, none⟩ ∧ GL.readN h b (off + i * 2) 2 = some (siL x) ∧ GL.cell h b (off + i * 2) = some (.string x.s) ∧ GL.cell h b (off + i * 2 + 1) = some (iV x.n) := by
  obtain ⟨b, off, ha, hr⟩ := hs i x hx
  have h0 := readN_cell hr 0 _ rfl
  have h1 := readN_cell hr 1 _ rfl
  rw [Nat.add_zero] at h0
  exact ⟨b, off, ha, hr, h0, h1⟩
def idxS (s : ByteArray) (l : List SI) : Int := match l.findIdx? (fun p => decide (p.s = s)) with
  | some i => (i : Int)
  | none => -1
theorem idxS_yes {s : ByteArray} {l : List SI} {i : Nat} {p : SI} (hno : ∀ y ∈ l.take i, y.s ≠ s) (hp : l[i]? = some p) (hs : p.s = s) : idxS s l = (i : Int) := by
  have h1 : l.findIdx? (fun p => decide (p.s = s)) = some i := by
    rw [List.findIdx?_eq_some_iff_getElem]
    obtain ⟨hi, rfl⟩ := List.getElem?_eq_some_iff.1 hp
    refine ⟨hi, by simp [hs], fun j hj => ?_⟩
    have : l[j] ∈ l.take i := List.mem_take_iff_getElem.2 ⟨j, by omega, rfl⟩
    simpa using hno _ this
  rw [idxS, h1]
theorem idxS_no {s : ByteArray} {l : List SI} (hno : ∀ y ∈ l, y.s ≠ s) : idxS s l = -1 := by
  have h1 : l.findIdx? (fun p => decide (p.s = s)) = none := by
    rw [List.findIdx?_eq_none_iff]
    intro y hy; simpa using hno y hy
  rw [idxS, h1]
theorem idxS_cases (s : ByteArray) (l : List SI) : (idxS s l = -1 ∧ ∀ y ∈ l, y.s ≠ s) ∨ ∃ i x, idxS s l = (i : Nat) ∧ l[i]? = some x ∧ x.s = s ∧ ∀ y ∈ l.take i, y.s ≠ s := by
  unfold idxS
  split
  · rename_i i h1
    rw [List.findIdx?_eq_some_iff_getElem] at h1
    obtain ⟨hi, h2, h3⟩ := h1
    refine .inr ⟨i, l[i], rfl, List.getElem?_eq_getElem hi, by simpa using h2, fun y hy => ?_⟩
    obtain ⟨j, hj, rfl⟩ := List.mem_take_iff_getElem.1 hy
    simpa using h3 j (by omega)
  · rename_i h1
    rw [List.findIdx?_eq_none_iff] at h1
    exact .inl ⟨rfl, fun y hy => by simpa using h1 y hy⟩
theorem idxS_lt (s : ByteArray) (l : List SI) : -1 ≤ idxS s l ∧ idxS s l < l.length := by
  rcases idxS_cases s l with ⟨h, _⟩ | ⟨i, x, h, hx, _⟩
  · omega
  · have := (List.getElem?_eq_some_iff.1 hx).1; omega
theorem c_okH (s : ByteArray) (B : Nat) (x : SI) {h : Heap} (hB : Has h B (.cells #[.string s] 9)) :
    HCalls Tryz.prog 58 #[siV x, .pointer (some ⟨B, 0, none⟩)] h (Grow (.bool (decide (x.s = s))) h) := by
  refine hcalls2 Tryz.func58 rfl (by decide +kernel) (by simp only [Tryz.ntmps58]; exact of_decide_eq_true rfl) ?_
  intro e hin
  have e0 := hin 0 _ rfl
  have e1 := hin 1 _ rfl
  refine hx_seq (hx_region ?_)
  refine WL.box2 (by simp only [EN, Nat.reduceEqDiff, reduceIte, Value.cells, e0, hB.cell, strEq]; rfl) ?_
  intro h1 B1 hx1 hlt1 hB1
  replace hB := hB.ext hx1
  refine WL.qq (by simp only [EN, Nat.reduceEqDiff, reduceIte, qv_assign, hB.cell, strEq, hB1.cell]; rfl) ?_
  refine WL.nil (th_norm (hx_seq (hx_region ?_)))
  iterate 5 refine WL.qq (by simp only [EN, Nat.reduceEqDiff, reduceIte, qv_fieldAddr, fa78_0, Nat.zero_add, Nat.reduceAdd, hB.cell, strEq, hB1.cell, qv_load, ld9, readN, AR, e1, qv_binOp, binv_eql, eq9, Option.map_some, qv_assign]; rfl) ?_
  refine WL.nil (th_norm (hx_ret ?_))
  refine fin_ret [.tmp 3] rfl rfl (by simp only [EN, Nat.reduceEqDiff, reduceIte, resv, e0, e1, hB.cell, strEq, hB1.cell]; rfl) ?_
  exact ⟨rfl, (hx1)⟩
theorem c_okO (s : ByteArray) (B : Nat) (x : SI) {h : Heap} (hB : Has h B (.cells #[.string s] 9)) :
    HCalls Tryz.prog 60 #[siV x, .pointer (some ⟨B, 0, none⟩)] h (Grow (.bool (decide (x.s = s))) h) := by
  refine hcalls2 Tryz.func60 rfl (by decide +kernel) (by simp only [Tryz.ntmps60]; exact of_decide_eq_true rfl) ?_
  intro e hin
  have e0 := hin 0 _ rfl
  have e1 := hin 1 _ rfl
  refine hx_seq (hx_region ?_)
  refine WL.box2 (by simp only [EN, Nat.reduceEqDiff, reduceIte, Value.cells, e0, hB.cell, strEq]; rfl) ?_
  intro h1 B1 hx1 hlt1 hB1
  replace hB := hB.ext hx1
  refine WL.qq (by simp only [EN, Nat.reduceEqDiff, reduceIte, qv_assign, hB.cell, strEq, hB1.cell]; rfl) ?_
  refine WL.nil (th_norm (hx_seq (hx_region ?_)))
  iterate 5 refine WL.qq (by simp only [EN, Nat.reduceEqDiff, reduceIte, qv_fieldAddr, fa80_0, Nat.zero_add, Nat.reduceAdd, hB.cell, strEq, hB1.cell, qv_load, ld9, readN, AR, e1, qv_binOp, binv_eql, eq9, Option.map_some, qv_assign]; rfl) ?_
  refine WL.nil (th_norm (hx_ret ?_))
  refine fin_ret [.tmp 3] rfl rfl (by simp only [EN, Nat.reduceEqDiff, reduceIte, resv, e0, e1, hB.cell, strEq, hB1.cell]; rfl) ?_
  exact ⟨rfl, (hx1)⟩
theorem c_idxH (s : ByteArray) (B : Nat) (a : Option Addr) (l : List SI) (c : Nat) (hl : l.length ≤ 1000000) {h : Heap} (hs : SlG 2 siL h a l) (hB : Has h B (.cells #[.string s] 9)) :
    HCalls Tryz.prog 57 #[.slice a l.length c, .func (.func 58) #[] #[.pointer (some ⟨B, 0, none⟩)]] h (Grow (iV (idxS s l)) h) := by
  refine hcalls2 Tryz.func57 rfl (by decide +kernel) (by simp only [Tryz.ntmps57]; exact of_decide_eq_true rfl) ?_
  intro e hin
  have e0 := hin 0 _ rfl
  have e1 := hin 1 _ rfl
  refine hx_seq (hx_region ?_)
  refine WL.qq (by simp only [EN, Nat.reduceEqDiff, reduceIte, qv_assign]; rfl) ?_
  refine WL.nil (th_norm (hx_seq (hx_seq (hx_region ?_))))
  iterate 3 refine WL.qq (by simp only [EN, Nat.reduceEqDiff, reduceIte, qv_move, e0, qv_len, ln79, AR]; rfl) ?_
  refine WL.nil (th_norm (hx_block ?_))
  refine hx_loopX [4, 5, 8, 9, 10, 11, 12, 13, 14, 15, 16, 17, 18] (fun k e => ∃ (i : Nat), l.length - i = k ∧ (i ≤ l.length) ∧ ((∀ y ∈ l.take i, y.s ≠ s)) ∧ e 8 = .int .i64 i) _ ⟨0, rfl, ?_, ?_, ?_⟩ ?_
  · omega
  · intro y hy; simp at hy
  · simp only [EN, Nat.reduceEqDiff, reduceIte, e0, e1] <;> rfl
  ·
   rintro k e0L hL0 hX0 hfr0 ⟨i, rfl, hi, hno, i8_0⟩
   replace hs := hs.ext hX0
   replace hB := hB.ext hX0
   have k0_0 := hfr0 0 rfl; try simp only [EN, Nat.reduceEqDiff, reduceIte, e0] at k0_0
   have k1_0 := hfr0 1 rfl; try simp only [EN, Nat.reduceEqDiff, reduceIte, e1] at k1_0
   have k7_0 := hfr0 7 rfl; try simp only [EN, Nat.reduceEqDiff, reduceIte] at k7_0
   refine hx_seq (hx_region ?_)
   refine WL.qq (by simp only [EN, Nat.reduceEqDiff, reduceIte, qv_binOp, binv_lss, k7_0, i8_0]; rfl) ?_
   refine WL.nil (th_norm (hx_seq ?_))
   refine hx_cond (by simp only [EN, Nat.reduceEqDiff, reduceIte]; rfl) (fun hct9 => ?_) (fun hct9 => ?_)
   ·
    try simp only [BD] at hct9
    obtain ⟨x, hx⟩ := atG (l := l) (i := i) (by omega)
    obtain ⟨b1, o1, ha1, hr2, _⟩ := si_rd hs hx
    refine hx_skip (th_norm (hx_seq (hx_block (hx_seq (hx_region ?_)))))
    iterate 2 refine WL.qq (by simp only [EN, Nat.reduceEqDiff, reduceIte, qv_move, i8_0, qv_assign]; rfl) ?_
    refine WL.nil (th_norm (hx_seq (hx_region ?_)))
    iterate 4 refine WL.qq (by simp only [EN, Nat.reduceEqDiff, reduceIte, qv_move, k1_0, k0_0, qv_indexAddr, ha1]; (try simp (disch := omega) only [ix79, Int.toNat_natCast]); rfl) ?_
    refine WL.qq (by simp only [EN, Nat.reduceEqDiff, reduceIte, k0_0, k1_0, k7_0, i8_0, qv_load, ld78, Int.toNat_natCast, hr2]; rfl) ?_
    refine WL.cf (f := 58) (first := #[]) (cap := #[.pointer (some ⟨B, 0, none⟩)]) (by simp only [EN, Nat.reduceEqDiff, reduceIte, k0_0, k1_0, k7_0, i8_0]) Tryz.call58 (by simp only [EN, Nat.reduceEqDiff, reduceIte, k0_0, k1_0, k7_0, i8_0, List.map_toArray, List.map_cons, List.map_nil, List.append_toArray, List.nil_append, List.cons_append]; exact c_okH s B x hB) ?_
    rintro _ h1 ⟨rfl, hx1⟩
    simp only [put_some]
    replace hs := hs.ext hx1
    replace hB := hB.ext hx1
    refine WL.nil (th_norm ?_)
    refine hx_cond (by simp only [EN, Nat.reduceEqDiff, reduceIte]; rfl) (fun hct16 => ?_) (fun hct16 => ?_)
    ·
     try simp only [BD] at hct16
     refine hx_seq (hx_region ?_)
     iterate 2 refine WL.qq (by simp only [EN, Nat.reduceEqDiff, reduceIte, qv_move, qv_assign]; rfl) ?_
     refine WL.nil (th_norm (hx_ret (bl_ret (th_ret (th_ret (bl_ret (th_ret ?_)))))))
     refine fin_ret [.tmp 4] rfl rfl (by simp only [EN, Nat.reduceEqDiff, reduceIte, resv, k0_0, k1_0, k7_0, i8_0]; rfl) ?_
     exact ⟨by simp only [retOf]; rw [idxS_yes hno hx (by simpa using hct16)], ((hX0).trans (hx1))⟩
    ·
     try simp only [BD] at hct16
     refine hx_skip (bl_norm (th_norm (hx_region ?_)))
     iterate 2 refine WL.qq (by simp only [EN, Nat.reduceEqDiff, reduceIte, qv_binOp, binv_add, i8_0, qv_move]; (try simp (disch := omega) only [w64, w8, wu64]); rfl) ?_
     refine WL.nil (th_norm ?_)
     refine ⟨rfl, ?_, ?_, _, ?_, i + 1, rfl, ?_, ?_, ?_⟩
     · exact hx1
     · (repeat (first | exact Fr.refl _ _ | refine Fr.set rfl ?_ | refine Fr.put rfl ?_ | with_reducible refine Fr.put0 ?_))
     · omega
     · omega
     · exact all_take hno hx (by simpa using hct16)
     · simp only [EN, Nat.reduceEqDiff, reduceIte, k0_0, k1_0, k7_0, i8_0] <;> first | rfl | (congr 1; omega)
   ·
    try simp only [BD] at hct9
    refine hx_exit (th_exit (th_exit (bl_hit (th_norm (hx_seq (hx_region ?_))))))
    refine WL.qq (by simp only [EN, Nat.reduceEqDiff, reduceIte, qv_assign]; rfl) ?_
    refine WL.nil (th_norm (hx_ret ?_))
    refine fin_ret [.tmp 4] rfl rfl (by simp only [EN, Nat.reduceEqDiff, reduceIte, resv, k0_0, k1_0, k7_0, i8_0]; rfl) ?_
    exact ⟨by simp only [retOf]; rw [idxS_no (all_end hno (by omega))], (hX0)⟩
theorem c_idxO (s : ByteArray) (B : Nat) (a : Option Addr) (l : List SI) (c : Nat) (hl : l.length ≤ 1000000) {h : Heap} (hs : SlG 2 siL h a l) (hB : Has h B (.cells #[.string s] 9)) :
    HCalls Tryz.prog 59 #[.slice a l.length c, .func (.func 60) #[] #[.pointer (some ⟨B, 0, none⟩)]] h (Grow (iV (idxS s l)) h) := by
  refine hcalls2 Tryz.func59 rfl (by decide +kernel) (by simp only [Tryz.ntmps59]; exact of_decide_eq_true rfl) ?_
  intro e hin
  have e0 := hin 0 _ rfl
  have e1 := hin 1 _ rfl
  refine hx_seq (hx_region ?_)
  refine WL.qq (by simp only [EN, Nat.reduceEqDiff, reduceIte, qv_assign]; rfl) ?_
  refine WL.nil (th_norm (hx_seq (hx_seq (hx_region ?_))))
  iterate 3 refine WL.qq (by simp only [EN, Nat.reduceEqDiff, reduceIte, qv_move, e0, qv_len, ln81, AR]; rfl) ?_
  refine WL.nil (th_norm (hx_block ?_))
  refine hx_loopX [4, 5, 8, 9, 10, 11, 12, 13, 14, 15, 16, 17, 18] (fun k e => ∃ (i : Nat), l.length - i = k ∧ (i ≤ l.length) ∧ ((∀ y ∈ l.take i, y.s ≠ s)) ∧ e 8 = .int .i64 i) _ ⟨0, rfl, ?_, ?_, ?_⟩ ?_
  · omega
  · intro y hy; simp at hy
  · simp only [EN, Nat.reduceEqDiff, reduceIte, e0, e1] <;> rfl
  ·
   rintro k e0L hL0 hX0 hfr0 ⟨i, rfl, hi, hno, i8_0⟩
   replace hs := hs.ext hX0
   replace hB := hB.ext hX0
   have k0_0 := hfr0 0 rfl; try simp only [EN, Nat.reduceEqDiff, reduceIte, e0] at k0_0
   have k1_0 := hfr0 1 rfl; try simp only [EN, Nat.reduceEqDiff, reduceIte, e1] at k1_0
   have k7_0 := hfr0 7 rfl; try simp only [EN, Nat.reduceEqDiff, reduceIte] at k7_0
   refine hx_seq (hx_region ?_)
   refine WL.qq (by simp only [EN, Nat.reduceEqDiff, reduceIte, qv_binOp, binv_lss, k7_0, i8_0]; rfl) ?_
   refine WL.nil (th_norm (hx_seq ?_))
   refine hx_cond (by simp only [EN, Nat.reduceEqDiff, reduceIte]; rfl) (fun hct9 => ?_) (fun hct9 => ?_)
   ·
    try simp only [BD] at hct9
    obtain ⟨x, hx⟩ := atG (l := l) (i := i) (by omega)
    obtain ⟨b1, o1, ha1, hr2, _⟩ := si_rd hs hx
    refine hx_skip (th_norm (hx_seq (hx_block (hx_seq (hx_region ?_)))))
    iterate 2 refine WL.qq (by simp only [EN, Nat.reduceEqDiff, reduceIte, qv_move, i8_0, qv_assign]; rfl) ?_
    refine WL.nil (th_norm (hx_seq (hx_region ?_)))
    iterate 4 refine WL.qq (by simp only [EN, Nat.reduceEqDiff, reduceIte, qv_move, k1_0, k0_0, qv_indexAddr, ha1]; (try simp (disch := omega) only [ix81, Int.toNat_natCast]); rfl) ?_
    refine WL.qq (by simp only [EN, Nat.reduceEqDiff, reduceIte, k0_0, k1_0, k7_0, i8_0, qv_load, ld80, Int.toNat_natCast, hr2]; rfl) ?_
    refine WL.cf (f := 60) (first := #[]) (cap := #[.pointer (some ⟨B, 0, none⟩)]) (by simp only [EN, Nat.reduceEqDiff, reduceIte, k0_0, k1_0, k7_0, i8_0]) Tryz.call60 (by simp only [EN, Nat.reduceEqDiff, reduceIte, k0_0, k1_0, k7_0, i8_0, List.map_toArray, List.map_cons, List.map_nil, List.append_toArray, List.nil_append, List.cons_append]; exact c_okO s B x hB) ?_
    rintro _ h1 ⟨rfl, hx1⟩
    simp only [put_some]
    replace hs := hs.ext hx1
    replace hB := hB.ext hx1
    refine WL.nil (th_norm ?_)
    refine hx_cond (by simp only [EN, Nat.reduceEqDiff, reduceIte]; rfl) (fun hct16 => ?_) (fun hct16 => ?_)
    ·
     try simp only [BD] at hct16
     refine hx_seq (hx_region ?_)
     iterate 2 refine WL.qq (by simp only [EN, Nat.reduceEqDiff, reduceIte, qv_move, qv_assign]; rfl) ?_
     refine WL.nil (th_norm (hx_ret (bl_ret (th_ret (th_ret (bl_ret (th_ret ?_)))))))
     refine fin_ret [.tmp 4] rfl rfl (by simp only [EN, Nat.reduceEqDiff, reduceIte, resv, k0_0, k1_0, k7_0, i8_0]; rfl) ?_
     exact ⟨by simp only [retOf]; rw [idxS_yes hno hx (by simpa using hct16)], ((hX0).trans (hx1))⟩
    ·
     try simp only [BD] at hct16
     refine hx_skip (bl_norm (th_norm (hx_region ?_)))
     iterate 2 refine WL.qq (by simp only [EN, Nat.reduceEqDiff, reduceIte, qv_binOp, binv_add, i8_0, qv_move]; (try simp (disch := omega) only [w64, w8, wu64]); rfl) ?_
     refine WL.nil (th_norm ?_)
     refine ⟨rfl, ?_, ?_, _, ?_, i + 1, rfl, ?_, ?_, ?_⟩
     · exact hx1
     · (repeat (first | exact Fr.refl _ _ | refine Fr.set rfl ?_ | refine Fr.put rfl ?_ | with_reducible refine Fr.put0 ?_))
     · omega
     · omega
     · exact all_take hno hx (by simpa using hct16)
     · simp only [EN, Nat.reduceEqDiff, reduceIte, k0_0, k1_0, k7_0, i8_0] <;> first | rfl | (congr 1; omega)
   ·
    try simp only [BD] at hct9
    refine hx_exit (th_exit (th_exit (bl_hit (th_norm (hx_seq (hx_region ?_))))))
    refine WL.qq (by simp only [EN, Nat.reduceEqDiff, reduceIte, qv_assign]; rfl) ?_
    refine WL.nil (th_norm (hx_ret ?_))
    refine fin_ret [.tmp 4] rfl rfl (by simp only [EN, Nat.reduceEqDiff, reduceIte, resv, k0_0, k1_0, k7_0, i8_0]; rfl) ?_
    exact ⟨by simp only [retOf]; rw [idxS_no (all_end hno (by omega))], (hX0)⟩
theorem c_find (s : ByteArray) (a : Option Addr) (l : List SI) (c : Nat) (hl : l.length ≤ 1000000) {h : Heap} (hs : SlG 2 siL h a l) :
    HCalls Tryz.prog 44 #[.slice a l.length c, .string s] h (Grow (iV (idxS s l)) h) := by
  refine hcalls2 Tryz.func44 rfl (by decide +kernel) (by simp only [Tryz.ntmps44]; exact of_decide_eq_true rfl) ?_
  intro e hin
  have e0 := hin 0 _ rfl
  have e1 := hin 1 _ rfl
  refine hx_seq (hx_region ?_)
  refine WL.box2 (by simp only [EN, Nat.reduceEqDiff, reduceIte, Value.cells, e1]; rfl) ?_
  intro h1 B1 hx1 hlt1 hB1
  replace hs := hs.ext hx1
  refine WL.qq (by simp only [EN, Nat.reduceEqDiff, reduceIte, qv_assign, hB1.cell]; rfl) ?_
  refine WL.nil (th_norm (hx_seq (hx_region ?_)))
  iterate 2 refine WL.qq (by simp only [EN, Nat.reduceEqDiff, reduceIte, qv_move, e0, hB1.cell, qv_makeFunc, AR]; rfl) ?_
  refine WL.cg Tryz.call59 (by simp only [EN, Nat.reduceEqDiff, reduceIte, AR, hB1.cell]; exact c_idxO s B1 a l c hl hs hB1) ?_
  intro h2 hx2
  replace hs := hs.ext hx2
  replace hB1 := hB1.ext hx2
  refine WL.qq (by simp only [EN, Nat.reduceEqDiff, reduceIte, qv_assign, hB1.cell]; rfl) ?_
  refine WL.nil (th_norm (hx_ret ?_))
  refine fin_ret [.tmp 4] rfl rfl (by simp only [EN, Nat.reduceEqDiff, reduceIte, resv, e0, e1, hB1.cell]; rfl) ?_
  exact ⟨rfl, ((hx1).trans (hx2))⟩
structure PK where
  o : ByteArray
  k : Int
deriving DecidableEq
abbrev pkV (x : PK) : Value := .agg #[.string x.o, iV x.k]
theorem pk_eq {a b : PK} : a = b ↔ a.o = b.o ∧ a.k = b.k := by cases a; cases b; simp
section
variable {P : Program} {ops : Array Oper} {ds : List Deferred} {K : Kont} {e : Env} {ρ : Rel} {late : Nat → Bool} {Φ : Nat → Option Spec} {h0 h : Heap} {k d : Nat} {rest : List Oper} {F : List (Nat × Value)} {o : Op} {ty : TypeId} {pos : String} {aft : Array Edge} {gw : Option (Nat × Bool)}
theorem LD.offS (hl : late k = false) (hg : gOk ops e ⟨some d, o, ty, pos, aft, gw⟩ = false) (hk : LD ρ P ops late Φ h0 ds K (k + 1) rest (Env.set e d undef) F) : LD ρ P ops late Φ h0 ds K k (⟨some d, o, ty, pos, aft, gw⟩ :: rest) e F := LD.off hl hg hk
theorem WL.offS (hg : gOk ops e ⟨some d, o, ty, pos, aft, gw⟩ = false) (hk : WL P ops rest (Env.set e d undef) ds h K) : WL P ops (⟨some d, o, ty, pos, aft, gw⟩ :: rest) e ds h K := WL.off hg hk
end
def ApS (N : Nat) (el : TypeId) (sz n m : Nat) (xs ys : List Value) (S : List Nat) (a b : Heap) : Prop :=
  a.size ≤ b.size ∧ (∀ c o, c < N → c ∉ S → a[c]? = some o → b[c]? = some o) ∧ (∀ (c : Nat) (o : Obj), c ∉ S → (∀ cur fr, o ≠ Obj.cells cur el fr) → a[c]? = some o → b[c]? = some o) ∧
  (∀ (c : Nat) (cur : Array Value), c ∉ S → cur.size ≤ max n 1 * sz → Has a c (.cells cur el) → Has b c (.cells cur el)) ∧ (∀ u, Own a N el sz u n xs → Own b N el sz u n xs) ∧ (∀ u, Own a N el sz u (n + m) (xs ++ ys) → Own b N el sz u (n + m) (xs ++ ys)) ∧
  ∀ c ∈ S, ∀ (cur : Array Value) (T : TypeId), Has a c (.cells cur T) → ∃ cur' : Array Value, Has b c (.cells cur' T) ∧ cur'.size = cur.size
theorem ApS.refl {N : Nat} {el : TypeId} {sz n m : Nat} {xs ys : List Value} {S : List Nat} (a : Heap) : ApS N el sz n m xs ys S a a :=
  ⟨Nat.le_refl _, fun _ _ _ _ h => h, fun _ _ _ _ h => h, fun _ _ _ _ h => h, fun _ h => h, fun _ h => h, fun _ _ cur _ h => ⟨cur, h, rfl⟩⟩
theorem ApS.trans {N : Nat} {el : TypeId} {sz n m : Nat} {xs ys : List Value} {S : List Nat} {a b c : Heap} (h : ApS N el sz n m xs ys S a b) (h' : ApS N el sz n m xs ys S b c) : ApS N el sz n m xs ys S a c := by
  obtain ⟨p1, p2, p3, p4, p5, p6, p7⟩ := h
  obtain ⟨q1, q2, q3, q4, q5, q6, q7⟩ := h'
  refine ⟨Nat.le_trans p1 q1, fun x o h1 h2 h3 => q2 x o h1 h2 (p2 x o h1 h2 h3), fun x o h1 h2 h3 => q3 x o h1 h2 (p3 x o h1 h2 h3), fun x cu h1 h2 h3 => q4 x cu h1 h2 (p4 x cu h1 h2 h3), fun u hu => q5 u (p5 u hu), fun u hu => q6 u (p6 u hu), fun x hx cur T h1 => ?_⟩
  obtain ⟨c1, r1, r2⟩ := p7 x hx cur T h1
  obtain ⟨c2, r3, r4⟩ := q7 x hx c1 T r1
  exact ⟨c2, r3, r4.trans r2⟩
theorem WLJ.qq {S : Heap → Heap → Prop} {P : Program} {ops : Array Oper} {e : Env} {ds : List Deferred} {h : Heap} {K : Kont} {d : Nat} {o : Op} {ty : TypeId} {pos : String} {aft : Array Edge} {rest : List Oper} {v : Value}
    (hE : qv P o e h = some v) (hS : S h h) (hk : WLJ S P ops rest (Env.set e d v) ds h K) : WLJ S P ops (⟨some d, o, ty, pos, aft, none⟩ :: rest) e ds h K := by
  unfold WLJ
  refine ⟨fun _ => ⟨_, (qv_Q hE).ef, ?_⟩, fun hg => by rw [gOk_n] at hg; cases hg⟩
  rintro v' h' ⟨rfl, rfl⟩
  exact ⟨hS, hk⟩
end GL
namespace GL
open Go Go.Proofs
set_option maxRecDepth 8000
abbrev em : ByteArray := ⟨#[]⟩
abbrev tyH : TypeId := 78
abbrev tyO : TypeId := 80
abbrev tyEl : TypeId := 85
abbrev tyMp : TypeId := 83
theorem pkV_inj {a b : PK} (h : pkV a = pkV b) : a = b := by
  simp [pkV] at h
  cases a; cases b; simp_all
theorem ktE : KT Tryz.prog 89 pkV := by
  refine kt_struct Tryz.underlying89 pkV_inj (fun a => ⟨_, rfl, ?_⟩) (fun a b => ?_) (fun a => by simp [pkV, Instr.sameBits, strEq])
  · intro f hf hn
    simp only [List.mem_cons, List.not_mem_nil, or_false] at hf
    rcases hf with rfl | rfl
    · exact ⟨_, _, (pt9 _ _).trans rfl, Tryz.underlying9, trivial⟩
    · exact ⟨_, _, (pt3 _ _).trans rfl, Tryz.underlying3, rfl⟩
  · refine ((eqv_struct Tryz.underlying89 (by kernel_rfl)).trans (eqFs_c (by decide) ((pt9 _ _).trans rfl) ((pt9 _ _).trans rfl) (eqv_string Tryz.underlying9) (eqFs_c (by decide) ((pt3 _ _).trans rfl) ((pt3 _ _).trans rfl) (eqv_int Tryz.underlying3) rfl))).trans ?_
    congr 1
    rw [Bool.eq_iff_iff]
    simp [strEq, pk_eq]
theorem lkE {h : Heap} {b : Nat} {l : List (PK × Int)} (hm : MapT pkV iV h b l) (q : PK) : GL.lookv Tryz.prog tyMp (.map (some b)) (pkV q) false h = some (iV (lk l q)) := by
  rw [hm.lookv (z := 0) ktE Tryz.underlying83 zr2 q false]; rfl
structure EL where
  hs : List SI
  os : List SI
  d : Nat
  dd : Int
  dm : Int
  m : List (PK × Int)
  cl : Bool
structure IsE (h : Heap) (N p b : Nat) (vh vo : Value) (E : EL) : Prop where
  blk : Has h p (.cells #[vh, vo, iV E.d, iV E.dd, iV E.dm, .map (some b), .bool E.cl] tyEl)
  oh : Own h N tyH 2 vh E.hs.length (E.hs.flatMap siL)
  oo : Own h N tyO 2 vo E.os.length (E.os.flatMap siL)
  map : MapT pkV iV h b E.m
  lo : N ≤ p ∧ N ≤ b
section
variable {h h' : Heap} {N p b : Nat} {vh vo : Value} {E : EL}
theorem IsE.ext (hE : IsE h N p b vh vo E) (hx : Ext h h') : IsE h' N p b vh vo E := ⟨hE.blk.ext hx, hE.oh.ext hx, hE.oo.ext hx, hE.map.ext hx, hE.lo⟩
theorem IsE.sh (hE : IsE h N p b vh vo E) : ∃ a c, vh = .slice a E.hs.length c ∧ SlG 2 siL h a E.hs := by
  obtain ⟨a, c, rfl, _⟩ := hE.oh.shape
  exact ⟨a, c, rfl, slG_own (f := siL) (sz := 2) (fun _ => rfl) hE.oh rfl⟩
theorem IsE.so (hE : IsE h N p b vh vo E) : ∃ a c, vo = .slice a E.os.length c ∧ SlG 2 siL h a E.os := by
  obtain ⟨a, c, rfl, _⟩ := hE.oo.shape
  exact ⟨a, c, rfl, slG_own (f := siL) (sz := 2) (fun _ => rfl) hE.oo rfl⟩
end
def chE (E : EL) (s : ByteArray) (k : Nat) : Int := lk E.m ⟨s, k⟩
def sumE (E : EL) (s : ByteArray) : Int := sumF (chE E s) (List.range E.os.length)
theorem sumF_bd {α : Type} {f : α → Int} {B : Int} : ∀ {l : List α}, (∀ x ∈ l, 0 ≤ f x ∧ f x ≤ B) → 0 ≤ sumF f l ∧ sumF f l ≤ l.length * B
  | [], _ => by simp [sumF]
  | x :: l, h => by
    have h1 := sumF_bd (fun y hy => h y (List.mem_cons_of_mem _ hy))
    have h2 := h x List.mem_cons_self
    simp only [sumF, List.length_cons, Int.natCast_add, Int.add_mul]
    omega
structure BdE (E : EL) : Prop where
  nh : E.hs.length ≤ 1024
  no : E.os.length ≤ 16
  hq : ∀ x ∈ E.hs, 1 ≤ x.n ∧ x.n ≤ 1000000000000000
  ch : ∀ q, 0 ≤ lk E.m q ∧ lk E.m q ≤ 1000000000000000
theorem BdE.part {E : EL} (hb : BdE E) (s : ByteArray) (i : Nat) : 0 ≤ sumF (chE E s) ((List.range E.os.length).take i) ∧ sumF (chE E s) ((List.range E.os.length).take i) ≤ 16000000000000000 := by
  have h1 := sumF_bd (f := chE E s) (B := 1000000000000000) (l := (List.range E.os.length).take i) (fun x _ => hb.ch _)
  have h2 : ((List.range E.os.length).take i).length ≤ 16 := by
    rw [List.length_take, List.length_range]
    have := hb.no; omega
  omega
theorem BdE.sum {E : EL} (hb : BdE E) (s : ByteArray) : 0 ≤ sumE E s ∧ sumE E s ≤ 16000000000000000 := by
  have := hb.part s E.os.length
  rwa [List.take_of_length_le (by rw [List.length_range]; exact Nat.le_refl _)] at this
def hldE (E : EL) (s : ByteArray) : SI := (E.hs.find? fun x => decide (x.s = s)).getD ⟨em, 0⟩
theorem hld_no {E : EL} {s : ByteArray} (h : ∀ y ∈ E.hs, y.s ≠ s) : hldE E s = ⟨em, 0⟩ := by
  unfold hldE
  rw [List.find?_eq_none.2 (fun x hx => by simpa using h x hx)]; rfl
theorem hld_yes {E : EL} {s : ByteArray} {i : Nat} {x : SI} (hno : ∀ y ∈ E.hs.take i, y.s ≠ s) (hx : E.hs[i]? = some x) (hs : x.s = s) : hldE E s = x := by
  unfold hldE
  obtain ⟨hi, rfl⟩ := List.getElem?_eq_some_iff.1 hx
  rw [List.find?_eq_some_iff_getElem.2 ⟨by simpa using hs, i, hi, rfl, fun j hj => by
    have : E.hs[j] ∈ E.hs.take i := List.mem_take_iff_getElem.2 ⟨j, by omega, rfl⟩
    simpa using hno _ this⟩]; rfl
theorem c_sum {N p b : Nat} {vh vo : Value} {E : EL} (hb : BdE E) (s : ByteArray) {h : Heap} (hE : IsE h N p b vh vo E) :
    HCalls Tryz.prog 45 #[.pointer (some ⟨p, 0, none⟩), .string s] h (Pure (iV (sumE E s)) h) := by
  obtain ⟨ao, co, rfl, hso⟩ := hE.so
  have hp := hE.blk
  have hno := hb.no
  refine hcalls2 Tryz.func45 rfl (by decide +kernel) (by simp only [Tryz.ntmps45]; exact of_decide_eq_true rfl) ?_
  intro e hin
  have e0 := hin 0 _ rfl
  have e1 := hin 1 _ rfl
  refine hx_seq (hx_region ?_)
  refine WL.qq (by simp only [EN, Nat.reduceEqDiff, reduceIte, qv_assign, hp.cell]; rfl) ?_
  refine WL.nil (th_norm (hx_seq (hx_region ?_)))
  refine WL.qq (by simp only [EN, Nat.reduceEqDiff, reduceIte, qv_assign, hp.cell]; rfl) ?_
  refine WL.nil (th_norm (hx_seq (hx_seq (hx_region ?_))))
  iterate 6 refine WL.qq (by simp only [EN, Nat.reduceEqDiff, reduceIte, qv_move, e0, hp.cell, qv_nilCheck, qv_fieldAddr, fa85_1, Nat.zero_add, Nat.reduceAdd, qv_load, ld81, readN, AR, qv_len, ln81]; rfl) ?_
  refine WL.nil (th_norm (hx_block ?_))
  refine hx_loopS [5, 6, 12, 13, 14, 15, 16, 17, 18, 19, 20, 21, 22, 23, 24, 25] (fun k e => ∃ (i : Nat), E.os.length - i = k ∧ (i ≤ E.os.length) ∧ e 12 = .int .i64 i ∧ e 5 = iV (sumF (chE E s) ((List.range E.os.length).take i))) _ ⟨0, rfl, ?_, ?_, ?_⟩ ?_
  · omega
  · simp only [EN, Nat.reduceEqDiff, reduceIte, e0, e1, hp.cell] <;> rfl
  · simp only [EN, Nat.reduceEqDiff, reduceIte, e0, e1, hp.cell] <;> rfl
  ·
   rintro k e0L hfr0 ⟨i, rfl, hi, i12_0, i5_0⟩
   have k0_0 := hfr0 0 rfl; try simp only [EN, Nat.reduceEqDiff, reduceIte, e0, hp.cell] at k0_0
   have k1_0 := hfr0 1 rfl; try simp only [EN, Nat.reduceEqDiff, reduceIte, e1, hp.cell] at k1_0
   have k11_0 := hfr0 11 rfl; try simp only [EN, Nat.reduceEqDiff, reduceIte, hp.cell] at k11_0
   refine hx_seq (hx_region ?_)
   refine WL.qq (by simp only [EN, Nat.reduceEqDiff, reduceIte, qv_binOp, binv_lss, k11_0, i12_0, hp.cell]; rfl) ?_
   refine WL.nil (th_norm (hx_seq ?_))
   refine hx_cond (by simp only [EN, Nat.reduceEqDiff, reduceIte, hp.cell]; rfl) (fun hct13 => ?_) (fun hct13 => ?_)
   ·
    try simp only [BD] at hct13
    have hst := sumF_step (f := chE E s) (l := List.range E.os.length) (i := i) (x := i) (by rw [List.getElem?_range (by omega)])
    have hb1 := hb.part s (i + 1); have hb0 := hb.part s i; rw [hst] at hb1
    refine hx_skip (th_norm (hx_seq (hx_block (hx_seq (hx_region ?_)))))
    iterate 2 refine WL.qq (by simp only [EN, Nat.reduceEqDiff, reduceIte, qv_move, i12_0, hp.cell, qv_assign]; rfl) ?_
    refine WL.nil (th_norm (hx_region ?_))
    iterate 7 refine WL.qq (by simp only [EN, Nat.reduceEqDiff, reduceIte, qv_move, i5_0, hp.cell, k0_0, qv_nilCheck, qv_fieldAddr, fa85_4, Nat.zero_add, Nat.reduceAdd, qv_load, ld83, readN, AR, k1_0]; rfl) ?_
    refine WL.qq (by refine qv_bld (by simp only [EN, Nat.reduceEqDiff, reduceIte, AR, hp.cell] <;> rfl) (by rw [bl89]; simp [Instr.fill, Value.cells]; rfl)) ?_
    refine WL.qq (by refine Eq.trans (b := some (iV (chE E s i))) ?_ rfl; simp only [EN, Nat.reduceEqDiff, reduceIte, k0_0, k1_0, k11_0, i12_0, i5_0, hp.cell, qv_lookup]; exact lkE hE.map ⟨s, i⟩) ?_
    iterate 2 refine WL.qq (by simp only [EN, Nat.reduceEqDiff, reduceIte, qv_binOp, binv_add, hp.cell, qv_assign]; (try simp (disch := omega) only [w64, w8, wu64]); rfl) ?_
    refine WL.nil (bl_norm (th_norm (hx_region ?_)))
    iterate 2 refine WL.qq (by simp only [EN, Nat.reduceEqDiff, reduceIte, qv_binOp, binv_add, i12_0, hp.cell, qv_move]; (try simp (disch := omega) only [w64, w8, wu64]); rfl) ?_
    refine WL.nil (th_norm ?_)
    refine ⟨rfl, rfl, ?_, _, ?_, i + 1, rfl, ?_, ?_, ?_⟩
    · (repeat (first | exact Fr.refl _ _ | refine Fr.set rfl ?_ | refine Fr.put rfl ?_ | with_reducible refine Fr.put0 ?_))
    · omega
    · omega
    · simp only [EN, Nat.reduceEqDiff, reduceIte, k0_0, k1_0, k11_0, i12_0, i5_0, hp.cell] <;> first | rfl | (congr 1; omega)
    · simp only [EN, Nat.reduceEqDiff, reduceIte, k0_0, k1_0, k11_0, i12_0, i5_0, hp.cell] <;> rw [hst]
   ·
    try simp only [BD] at hct13
    refine hx_exit (th_exit (th_exit (bl_hit (th_norm (hx_seq (hx_region ?_))))))
    iterate 2 refine WL.qq (by simp only [EN, Nat.reduceEqDiff, reduceIte, qv_move, i5_0, hp.cell, qv_assign]; rfl) ?_
    refine WL.nil (th_norm (hx_ret ?_))
    refine fin_ret [.tmp 4] rfl rfl (by simp only [EN, Nat.reduceEqDiff, reduceIte, resv, k0_0, k1_0, k11_0, i12_0, i5_0, hp.cell]; rfl) ?_
    exact ⟨by rw [List.take_of_length_le (by rw [List.length_range]; omega)]; rfl, rfl⟩
theorem c_holder {N p b : Nat} {vh vo : Value} {E : EL} (hb : BdE E) (s : ByteArray) {h : Heap} (hE : IsE h N p b vh vo E) :
    HCalls Tryz.prog 43 #[.pointer (some ⟨p, 0, none⟩), .string s] h (Grow (.tuple #[siV (hldE E s), .bool (decide (0 ≤ idxS s E.hs))]) h) := by
  obtain ⟨ah, ch, rfl, hsh⟩ := hE.sh
  have hp := hE.blk
  have hnh := hb.nh
  refine hcalls2 Tryz.func43 rfl (by decide +kernel) (by simp only [Tryz.ntmps43]; exact of_decide_eq_true rfl) ?_
  intro e hin
  have e0 := hin 0 _ rfl
  have e1 := hin 1 _ rfl
  have hE : Ext h h := Ext.refl h
  refine hx_seq (hx_region ?_)
  refine WL.box2 (by simp only [EN, Nat.reduceEqDiff, reduceIte, Value.cells, e1, hp.cell]; rfl) ?_
  intro h1 B1 hx1 hlt1 hB1
  replace hE := hE.trans hx1
  replace hp := hp.ext hx1
  replace hsh := hsh.ext hx1
  refine WL.alloc2 zr78 ?_
  intro h2 B2 hx2 hlt2 hB2
  have hne1_2 : B2 ≠ B1 := by have := (Array.getElem?_eq_some_iff.1 hB1).1; omega
  have hb0_2 := Nat.le_trans hE.size hlt2
  have hp_s2 := hp
  have hsh_s2 := hsh
  have hB1_s2 := hB1
  replace hE := hE.trans hx2
  replace hp := hp.ext hx2
  replace hsh := hsh.ext hx2
  replace hB1 := hB1.ext hx2
  have hEo2 := hx2
  simp only [Value.cells] at hB2
  refine WL.qq (by simp only [EN, Nat.reduceEqDiff, reduceIte, qv_assign, hp.cell, hB1.cell, hB2.cell]; rfl) ?_
  refine WL.nil (th_norm (hx_seq (hx_region ?_)))
  iterate 5 refine WL.qq (by simp only [EN, Nat.reduceEqDiff, reduceIte, qv_move, e0, hp.cell, hB1.cell, hB2.cell, qv_nilCheck, qv_fieldAddr, fa85_0, Nat.zero_add, Nat.reduceAdd, qv_load, ld79, readN, AR, qv_makeFunc]; rfl) ?_
  refine WL.cg Tryz.call57 (by simp only [EN, Nat.reduceEqDiff, reduceIte, AR, hp.cell, hB1.cell, hB2.cell]; exact c_idxH s B1 ah E.hs ch (by omega) hsh hB1) ?_
  intro h3 hx3
  replace hE := hE.trans hx3
  replace hEo2 := hEo2.trans hx3
  replace hp := hp.ext hx3
  replace hsh := hsh.ext hx3
  replace hB1 := hB1.ext hx3
  replace hB2 := hB2.ext hx3
  refine WL.qq (by simp only [EN, Nat.reduceEqDiff, reduceIte, qv_assign, hp.cell, hB1.cell, hB2.cell]; rfl) ?_
  refine WL.nil (th_norm (hx_seq (hx_seq (hx_region ?_))))
  have hcs := idxS_cases s E.hs
  iterate 2 refine WL.qq (by simp only [EN, Nat.reduceEqDiff, reduceIte, qv_move, hp.cell, hB1.cell, hB2.cell, qv_binOp, binv_lss]; rfl) ?_
  refine WL.nil (th_norm ?_)
  refine hx_cond (by simp only [EN, Nat.reduceEqDiff, reduceIte, hp.cell, hB1.cell, hB2.cell]; rfl) (fun hct14 => ?_) (fun hct14 => ?_)
  ·
   try simp only [BD] at hct14
   have hz : hldE E s = ⟨em, 0⟩ := (by rcases hcs with ⟨_, hno⟩ | ⟨i, x, hi, _⟩; exact hld_no hno; omega)
   refine hx_seq (hx_region ?_)
   refine WL.qq (by refine qv_bld (by simp only [EN, Nat.reduceEqDiff, reduceIte, AR, hp.cell, hB1.cell, hB2.cell] <;> rfl) (by rw [bl78]; simp [Instr.fill, Value.cells]; rfl)) ?_
   refine WL.store (by simp only [EN, Nat.reduceEqDiff, reduceIte, hp.cell, hB1.cell, hB2.cell] <;> rfl) sz78 (by simp only [EN, Nat.reduceEqDiff, reduceIte, Value.cells, hp.cell, hB1.cell, hB2.cell] <;> rfl) rfl hB2 (by first | decide | (simp; done) | (simp; omega)) (by simp [Value.oneCell']) ?_
   intro h4 hw4
   replace hE := hw4.ext hE hb0_2
   replace hEo2 := hw4.ext hEo2 hlt2
   replace hp := hp_s2.ext hEo2
   replace hsh := hsh_s2.ext hEo2
   replace hB1 := hB1_s2.ext hEo2
   replace hB2 := hw4.at_
   try simp only [splc, List.take_succ_cons, List.take_zero, List.take_nil, List.drop_succ_cons, List.drop_zero, List.drop_nil, List.cons_append, List.nil_append, List.length_cons, List.length_nil, Nat.zero_add, Nat.add_zero, Nat.reduceAdd, List.append_nil] at hB2
   refine WL.qq (by simp only [EN, Nat.reduceEqDiff, reduceIte, qv_assign, hp.cell, hB1.cell, hB2.cell]; rfl) ?_
   refine WL.nil (th_norm (hx_ret (th_ret ?_)))
   refine fin_ret [.cell 4 78, .tmp 5] rfl rfl (by simp only [EN, Nat.reduceEqDiff, reduceIte, resv, ld78, readN, AR, Nat.zero_add, Nat.reduceAdd, e0, e1, hp.cell, hB1.cell, hB2.cell]; rfl) ?_
   exact ⟨by rw [hz, decide_eq_false (by omega)]; rfl, hE⟩
  ·
   try simp only [BD] at hct14
   obtain ⟨i, x, hi, hx, hxs, hno⟩ : ∃ i x, idxS s E.hs = (i : Nat) ∧ E.hs[i]? = some x ∧ x.s = s ∧ ∀ y ∈ E.hs.take i, y.s ≠ s := hcs.resolve_left (fun hh => by omega)
   obtain ⟨b1, o1, ha1, hr2, _⟩ := si_rd hsh hx; have hil := (List.getElem?_eq_some_iff.1 hx).1; have hz := hld_yes hno hx hxs; rw [hi]
   refine hx_skip (th_norm (hx_seq (hx_region ?_)))
   iterate 5 refine WL.qq (by simp only [EN, Nat.reduceEqDiff, reduceIte, qv_move, e0, hp.cell, hB1.cell, hB2.cell, qv_nilCheck, qv_fieldAddr, fa85_0, Nat.zero_add, Nat.reduceAdd, qv_load, ld79, readN, AR]; rfl) ?_
   refine WL.qq (by simp only [EN, Nat.reduceEqDiff, reduceIte, qv_indexAddr, hp.cell, hB1.cell, hB2.cell, ha1, hi]; (try simp (disch := omega) only [ix79, Int.toNat_natCast]); rfl) ?_
   refine WL.qq (by simp only [EN, Nat.reduceEqDiff, reduceIte, e0, e1, hp.cell, hB1.cell, hB2.cell, qv_load, ld78, Int.toNat_natCast, hr2]; rfl) ?_
   refine WL.store (by simp only [EN, Nat.reduceEqDiff, reduceIte, hp.cell, hB1.cell, hB2.cell] <;> rfl) sz78 (by simp only [EN, Nat.reduceEqDiff, reduceIte, Value.cells, hp.cell, hB1.cell, hB2.cell] <;> rfl) rfl hB2 (by first | decide | (simp; done) | (simp; omega)) (by simp [Value.oneCell']) ?_
   intro h5 hw5
   replace hE := hw5.ext hE hb0_2
   replace hEo2 := hw5.ext hEo2 hlt2
   replace hp := hp_s2.ext hEo2
   replace hsh := hsh_s2.ext hEo2
   replace hB1 := hB1_s2.ext hEo2
   replace hB2 := hw5.at_
   try simp only [splc, List.take_succ_cons, List.take_zero, List.take_nil, List.drop_succ_cons, List.drop_zero, List.drop_nil, List.cons_append, List.nil_append, List.length_cons, List.length_nil, Nat.zero_add, Nat.add_zero, Nat.reduceAdd, List.append_nil] at hB2
   refine WL.qq (by simp only [EN, Nat.reduceEqDiff, reduceIte, qv_assign, hp.cell, hB1.cell, hB2.cell]; rfl) ?_
   refine WL.nil (th_norm (hx_ret ?_))
   refine fin_ret [.cell 4 78, .tmp 5] rfl rfl (by simp only [EN, Nat.reduceEqDiff, reduceIte, resv, ld78, readN, AR, Nat.zero_add, Nat.reduceAdd, e0, e1, hp.cell, hB1.cell, hB2.cell]; rfl) ?_
   exact ⟨by rw [hz, decide_eq_true (by omega)]; rfl, hE⟩
end GL
namespace GL
open Go Go.Proofs
set_option maxRecDepth 8000
theorem hld_bd {E : EL} (hb : BdE E) (s : ByteArray) : 0 ≤ (hldE E s).n ∧ (hldE E s).n ≤ 1000000000000000 := by
  unfold hldE
  cases hf : E.hs.find? (fun x => decide (x.s = s)) with
  | none => exact ⟨by decide, by decide⟩
  | some x => have := hb.hq x (List.mem_of_find?_eq_some hf); simp only [Option.getD]; omega
def freeE (E : EL) (s : ByteArray) : Int := if 0 ≤ idxS s E.hs then (hldE E s).n - sumE E s else 0
theorem BdE.free {E : EL} (hb : BdE E) (s : ByteArray) : -16000000000000000 ≤ freeE E s ∧ freeE E s ≤ 1000000000000000 := by
  have h1 := hld_bd hb s
  have h2 := hb.sum s
  unfold freeE
  split <;> omega
def tknE (E : EL) (s : ByteArray) (k : Nat) : Int := if k = E.d then chE E s k + freeE E s else chE E s k
section
variable {N p b : Nat} {vh vo : Value} {E : EL} {h : Heap}
theorem c_free (hb : BdE E) (s : ByteArray) (hE : IsE h N p b vh vo E) :
    HCalls Tryz.prog 20 #[.pointer (some ⟨p, 0, none⟩), .string s] h (Grow (iV (freeE E s)) h) := by
  have hp := hE.blk
  refine hcalls2 Tryz.func20 rfl (by decide +kernel) (by simp only [Tryz.ntmps20]; exact of_decide_eq_true rfl) ?_
  intro e hin
  have e0 := hin 0 _ rfl
  have e1 := hin 1 _ rfl
  refine hx_seq (hx_region ?_)
  refine WL.qq (by simp only [EN, Nat.reduceEqDiff, reduceIte, qv_assign]; rfl) ?_
  refine WL.nil (th_norm (hx_seq (hx_seq (hx_region ?_))))
  iterate 2 refine WL.qq (by simp only [EN, Nat.reduceEqDiff, reduceIte, qv_move, e0, qv_binOp, binv_eql, eqz31, eqn31, eqm31, Option.map_some]; rfl) ?_
  refine WL.nil (th_norm ?_)
  refine hx_cond (by simp only [EN, Nat.reduceEqDiff, reduceIte]; rfl) (fun hct8 => ?_) (fun hct8 => ?_)
  ·
   simp at hct8
  ·
   try simp only [BD] at hct8
   refine hx_skip (th_norm (hx_seq (hx_region ?_)))
   iterate 2 refine WL.qq (by simp only [EN, Nat.reduceEqDiff, reduceIte, qv_move, e0, e1]; rfl) ?_
   refine WL.cg Tryz.call43 (by simp only [EN, Nat.reduceEqDiff, reduceIte, AR]; exact c_holder hb s hE) ?_
   intro h1 hx1
   replace hp := hp.ext hx1
   replace hE := hE.ext hx1
   iterate 3 refine WL.qq (by simp only [EN, Nat.reduceEqDiff, reduceIte, qv_move, qv_extract, AR]; rfl) ?_
   refine WL.allocSt zr78 sz78 (fun u => by simp only [EN, Nat.reduceEqDiff, reduceIte, Value.cells]; rfl) ⟨rfl, rfl⟩ (by simp [Value.oneCell']) ?_
   intro h2 B2 hx2 hlt2 hB2
   replace hp := hp.ext hx2
   replace hE := hE.ext hx2
   refine WL.qq (by simp only [EN, Nat.reduceEqDiff, reduceIte, qv_assign, hB2.cell]; rfl) ?_
   refine WL.nil (th_norm (hx_seq (hx_seq (hx_region ?_))))
   iterate 2 refine WL.qq (by simp only [EN, Nat.reduceEqDiff, reduceIte, qv_move, hB2.cell, qv_unOp, unv_not]; rfl) ?_
   refine WL.nil (th_norm ?_)
   refine hx_cond (by simp only [EN, Nat.reduceEqDiff, reduceIte, hB2.cell]; rfl) (fun hct16 => ?_) (fun hct16 => ?_)
   ·
    try simp only [BD] at hct16
    have hz : freeE E s = 0 := if_neg (by simpa using hct16)
    refine hx_seq (hx_region ?_)
    refine WL.qq (by simp only [EN, Nat.reduceEqDiff, reduceIte, qv_assign, hB2.cell]; rfl) ?_
    refine WL.nil (th_norm (hx_ret (th_ret ?_)))
    refine fin_ret [.tmp 4] rfl rfl (by simp only [EN, Nat.reduceEqDiff, reduceIte, resv, e0, e1, hB2.cell]; rfl) ?_
    exact ⟨by rw [hz]; rfl, ((hx1).trans (hx2))⟩
   ·
    try simp only [BD] at hct16
    have hz : freeE E s = (hldE E s).n - sumE E s := if_pos (by simpa using hct16)
    have hb1 := hld_bd hb s; have hb2 := hb.sum s
    refine hx_skip (th_norm (hx_seq ?_))
    apply hx_draw2 Rel.grows [] [4] [(4, (Spec.is (iV (sumE E s))))] rfl (by decide +kernel) rfl
    iterate 4 refine LD.qq rfl rfl (by simp only [EN, Nat.reduceEqDiff, reduceIte, qv_fieldAddr, fa78_1, Nat.zero_add, Nat.reduceAdd, hB2.cell, qv_load, ld2, readN, AR, qv_move, e0, e1]; rfl) ?_
    refine LD.es rfl rfl (by intro hD hr hf; have hx : Ext _ _ := hr; have hp := hp.ext hx; have hE := hE.ext hx; have hB2 := hB2.ext hx; exact EOp.mono (e_call Tryz.call45 (by simp only [EN, Nat.reduceEqDiff, reduceIte, e0, e1, hB2.cell, List.map_toArray, List.map_cons, List.map_nil]; exact c_sum hb s hE)) (fun _ _ hh => by obtain ⟨rfl, rfl⟩ := hh; exact ⟨Ext.refl _, rfl, trivial⟩)) ?_
    intro u6_4 w6_4
    have hu4 : u6_4 = _ := w6_4
    subst hu4
    iterate 2 refine LD.qq rfl rfl (by simp only [EN, Nat.reduceEqDiff, reduceIte, qv_binOp, binv_sub, hB2.cell, qv_assign]; (try simp (disch := omega) only [w64, w8, wu64]); rfl) ?_
    refine LD.nil ?_
    rintro h3 hx3 hF6
    replace hx3 : Ext _ _ := hx3
    replace hp := hp.ext hx3
    replace hE := hE.ext hx3
    replace hB2 := hB2.ext hx3
    refine WL.nil (th_norm (hx_ret ?_))
    refine fin_ret [.tmp 4] rfl rfl (by simp only [EN, Nat.reduceEqDiff, reduceIte, resv, e0, e1, hB2.cell]; rfl) ?_
    exact ⟨by rw [hz]; rfl, ((hx1).trans ((hx2).trans (hx3)))⟩
theorem c_taken (hb : BdE E) (s : ByteArray) (k : Nat) (hE : IsE h N p b vh vo E) :
    HCalls Tryz.prog 42 #[.pointer (some ⟨p, 0, none⟩), .string s, iV k] h (Grow (iV (tknE E s k)) h) := by
  have hp := hE.blk
  have hb1 : 0 ≤ chE E s k ∧ chE E s k ≤ 1000000000000000 := hb.ch ⟨s, k⟩
  have hb2 := hb.free s
  refine hcalls2 Tryz.func42 rfl (by decide +kernel) (by simp only [Tryz.ntmps42]; exact of_decide_eq_true rfl) ?_
  intro e hin
  have e0 := hin 0 _ rfl
  have e1 := hin 1 _ rfl
  have e2 := hin 2 _ rfl
  refine hx_seq (hx_region ?_)
  refine WL.qq (by simp only [EN, Nat.reduceEqDiff, reduceIte, qv_assign, hp.cell]; rfl) ?_
  refine WL.nil (th_norm (hx_seq (hx_region ?_)))
  iterate 6 refine WL.qq (by simp only [EN, Nat.reduceEqDiff, reduceIte, qv_move, e0, hp.cell, qv_nilCheck, qv_fieldAddr, fa85_4, Nat.zero_add, Nat.reduceAdd, qv_load, ld83, readN, AR, e1, e2]; rfl) ?_
  refine WL.qq (by refine qv_bld (by simp only [EN, Nat.reduceEqDiff, reduceIte, AR, hp.cell] <;> rfl) (by rw [bl89]; simp [Instr.fill, Value.cells]; rfl)) ?_
  refine WL.qq (by refine Eq.trans (b := some (iV (chE E s k))) ?_ rfl; simp only [EN, Nat.reduceEqDiff, reduceIte, e0, e1, e2, hp.cell, qv_lookup]; exact lkE hE.map ⟨s, k⟩) ?_
  refine WL.qq (by simp only [EN, Nat.reduceEqDiff, reduceIte, qv_assign, hp.cell]; rfl) ?_
  refine WL.nil (th_norm (hx_seq (hx_seq (hx_region ?_))))
  iterate 6 refine WL.qq (by simp only [EN, Nat.reduceEqDiff, reduceIte, qv_move, e2, hp.cell, e0, qv_nilCheck, qv_fieldAddr, fa85_2, Nat.zero_add, Nat.reduceAdd, qv_load, ld3, readN, AR, qv_binOp, binv_eql, eq3, Option.map_some]; rfl) ?_
  refine WL.nil (th_norm ?_)
  refine hx_cond (by simp only [EN, Nat.reduceEqDiff, reduceIte, hp.cell]; rfl) (fun hct21 => ?_) (fun hct21 => ?_)
  ·
   try simp only [BD] at hct21
   refine hx_region ?_
   iterate 3 refine WL.qq (by simp only [EN, Nat.reduceEqDiff, reduceIte, qv_move, hp.cell, e0, e1]; rfl) ?_
   refine WL.cg Tryz.call20 (by simp only [EN, Nat.reduceEqDiff, reduceIte, AR, hp.cell]; exact c_free hb s hE) ?_
   intro h1 hx1
   replace hp := hp.ext hx1
   replace hE := hE.ext hx1
   iterate 2 refine WL.qq (by simp only [EN, Nat.reduceEqDiff, reduceIte, qv_binOp, binv_add, hp.cell, qv_assign]; (try simp (disch := omega) only [w64, w8, wu64]); rfl) ?_
   refine WL.nil (th_norm (hx_seq (hx_region ?_)))
   iterate 2 refine WL.qq (by simp only [EN, Nat.reduceEqDiff, reduceIte, qv_move, hp.cell, qv_assign]; rfl) ?_
   refine WL.nil (th_norm (hx_ret ?_))
   refine fin_ret [.tmp 6] rfl rfl (by simp only [EN, Nat.reduceEqDiff, reduceIte, resv, e0, e1, e2, hp.cell]; rfl) ?_
   exact ⟨by unfold tknE; rw [if_pos (by omega)]; rfl, (hx1)⟩
  ·
   try simp only [BD] at hct21
   refine hx_skip (th_norm (hx_seq (hx_region ?_)))
   iterate 2 refine WL.qq (by simp only [EN, Nat.reduceEqDiff, reduceIte, qv_move, hp.cell, qv_assign]; rfl) ?_
   refine WL.nil (th_norm (hx_ret ?_))
   refine fin_ret [.tmp 6] rfl rfl (by simp only [EN, Nat.reduceEqDiff, reduceIte, resv, e0, e1, e2, hp.cell]; rfl) ?_
   exact ⟨by unfold tknE; rw [if_neg (by omega)]; rfl, (Ext.refl _)⟩
end
end GL
namespace GL
open Go Go.Proofs
set_option maxRecDepth 8000
def cmpC (a b : Int × Int) : Int := if a.1 < b.1 ∨ (a.1 = b.1 ∧ a.2 < b.2) then -1 else if a.1 = b.1 ∧ a.2 = b.2 then 0 else 1
theorem c_cmp (d m d' m' : Int) (h : Heap) : HCalls Tryz.prog 40 #[.agg #[.int .i64 d, .int .i64 m], .agg #[.int .i64 d', .int .i64 m']] h (Grow (.int .i64 (cmpC (d, m) (d', m'))) h) := by
  refine hcalls2 Tryz.func40 rfl (by decide +kernel) (by simp only [Tryz.ntmps40]; exact of_decide_eq_true rfl) ?_
  intro e hin
  have e0 := hin 0 _ rfl
  have e1 := hin 1 _ rfl
  refine hx_seq (hx_region ?_)
  refine WL.box2 (by simp only [EN, Nat.reduceEqDiff, reduceIte, Value.cells, e0]; rfl) ?_
  intro h1 B1 hx1 hlt1 hB1
  refine WL.box2 (by simp only [EN, Nat.reduceEqDiff, reduceIte, Value.cells, e1, hB1.cell]; rfl) ?_
  intro h2 B2 hx2 hlt2 hB2
  replace hB1 := hB1.ext hx2
  refine WL.qq (by simp only [EN, Nat.reduceEqDiff, reduceIte, qv_assign, hB1.cell, hB2.cell]; rfl) ?_
  refine WL.nil (th_norm (hx_seq (hx_block (hx_seq (hx_region ?_)))))
  iterate 6 refine WL.qq (by simp only [EN, Nat.reduceEqDiff, reduceIte, qv_fieldAddr, fa49_0, Nat.zero_add, Nat.reduceAdd, hB1.cell, hB2.cell, qv_load, ld3, readN, AR, qv_binOp, binv_lss, qv_move]; rfl) ?_
  refine WL.cq (gd_at (t := 11) rfl (by simp only [EN, Nat.reduceEqDiff, reduceIte, hB1.cell, hB2.cell] <;> rfl)) (fun hg1_6 => by simp only [EN, Nat.reduceEqDiff, reduceIte, qv_fieldAddr, fa49_0, Nat.zero_add, Nat.reduceAdd, hB1.cell, hB2.cell, hg1_6, GR]; rfl) ?_
  refine WL.cq (gd_at (t := 11) rfl (by simp only [EN, Nat.reduceEqDiff, reduceIte, hB1.cell, hB2.cell] <;> rfl)) (fun hg1_7 => by simp only [EN, Nat.reduceEqDiff, reduceIte, qv_load, ld3, readN, AR, Nat.zero_add, Nat.reduceAdd, hB1.cell, hB2.cell, hg1_7, GR]; rfl) ?_
  refine WL.cq (gd_at (t := 11) rfl (by simp only [EN, Nat.reduceEqDiff, reduceIte, hB1.cell, hB2.cell] <;> rfl)) (fun hg1_8 => by simp only [EN, Nat.reduceEqDiff, reduceIte, qv_fieldAddr, fa49_0, Nat.zero_add, Nat.reduceAdd, hB1.cell, hB2.cell, hg1_8, GR]; rfl) ?_
  refine WL.cq (gd_at (t := 11) rfl (by simp only [EN, Nat.reduceEqDiff, reduceIte, hB1.cell, hB2.cell] <;> rfl)) (fun hg1_9 => by simp only [EN, Nat.reduceEqDiff, reduceIte, qv_load, ld3, readN, AR, Nat.zero_add, Nat.reduceAdd, hB1.cell, hB2.cell, hg1_9, GR]; rfl) ?_
  refine WL.cq (gd_at (t := 11) rfl (by simp only [EN, Nat.reduceEqDiff, reduceIte, hB1.cell, hB2.cell] <;> rfl)) (fun hg1_10 => by simp only [EN, Nat.reduceEqDiff, reduceIte, qv_binOp, binv_eql, eq3, Option.map_some, hB1.cell, hB2.cell, hg1_10, GR]; rfl) ?_
  refine WL.cq (gd_at (t := 11) rfl (by simp only [EN, Nat.reduceEqDiff, reduceIte, hB1.cell, hB2.cell] <;> rfl)) (fun hg1_11 => by simp only [EN, Nat.reduceEqDiff, reduceIte, qv_move, hB1.cell, hB2.cell, hg1_11, GR]; rfl) ?_
  refine WL.cq2 (t := 17) rfl (by simp only [EN, Nat.reduceEqDiff, reduceIte, hB1.cell, hB2.cell]; rfl) (fun hC1_12 hg1_12 => by simp only [EN, Nat.reduceEqDiff, reduceIte, qv_fieldAddr, fa49_1, Nat.zero_add, Nat.reduceAdd, hB1.cell, hB2.cell, hC1_12, hg1_12, GR]; rfl) ?_
  refine WL.cq2 (t := 17) rfl (by simp only [EN, Nat.reduceEqDiff, reduceIte, hB1.cell, hB2.cell]; rfl) (fun hC1_13 hg1_13 => by simp only [EN, Nat.reduceEqDiff, reduceIte, qv_load, ld3, readN, AR, Nat.zero_add, Nat.reduceAdd, hB1.cell, hB2.cell, hC1_13, hg1_13, GR]; rfl) ?_
  refine WL.cq2 (t := 17) rfl (by simp only [EN, Nat.reduceEqDiff, reduceIte, hB1.cell, hB2.cell]; rfl) (fun hC1_14 hg1_14 => by simp only [EN, Nat.reduceEqDiff, reduceIte, qv_fieldAddr, fa49_1, Nat.zero_add, Nat.reduceAdd, hB1.cell, hB2.cell, hC1_14, hg1_14, GR]; rfl) ?_
  refine WL.cq2 (t := 17) rfl (by simp only [EN, Nat.reduceEqDiff, reduceIte, hB1.cell, hB2.cell]; rfl) (fun hC1_15 hg1_15 => by simp only [EN, Nat.reduceEqDiff, reduceIte, qv_load, ld3, readN, AR, Nat.zero_add, Nat.reduceAdd, hB1.cell, hB2.cell, hC1_15, hg1_15, GR]; rfl) ?_
  refine WL.cq2 (t := 17) rfl (by simp only [EN, Nat.reduceEqDiff, reduceIte, hB1.cell, hB2.cell]; rfl) (fun hC1_16 hg1_16 => by have hC1_16o := hC1_16; (try simp only [hg1_16] at hC1_16); simp only [EN, Nat.reduceEqDiff, reduceIte, qv_binOp, binv_lss, hB1.cell, hB2.cell, hC1_16o, hC1_16, hg1_16, GR]; rfl) ?_
  refine WL.cq (gd_at (t := 11) rfl (by simp only [EN, Nat.reduceEqDiff, reduceIte, hB1.cell, hB2.cell] <;> rfl)) (fun hg1_17 => by simp only [EN, Nat.reduceEqDiff, reduceIte, qv_pick, pk_and, pk_or, GR, hB1.cell, hB2.cell, hg1_17, GR]; rfl) ?_
  iterate 2 refine WL.qq (by simp only [EN, Nat.reduceEqDiff, reduceIte, qv_pick, pk_and, pk_or, GR, hB1.cell, hB2.cell, qv_assign]; rfl) ?_
  refine WL.nil (th_norm ?_)
  refine hx_cond (by simp only [EN, Nat.reduceEqDiff, reduceIte, hB1.cell, hB2.cell]; rfl) (fun hct5 => ?_) (fun hct5 => ?_)
  ·
   try simp only [BD] at hct5
   refine hx_seq (hx_region ?_)
   refine WL.qq (by simp only [EN, Nat.reduceEqDiff, reduceIte, qv_assign, hB1.cell, hB2.cell]; rfl) ?_
   refine WL.nil (th_norm (hx_ret (bl_ret (th_ret ?_))))
   refine fin_ret [.tmp 4] rfl rfl (by simp only [EN, Nat.reduceEqDiff, reduceIte, resv, e0, e1, hB1.cell, hB2.cell]; rfl) ?_
   exact ⟨by simp only [cmpC]; rw [if_pos (by omega)]; rfl, ((hx1).trans (hx2))⟩
  ·
   try simp only [BD] at hct5
   refine hx_seq (hx_region ?_)
   iterate 4 refine WL.qq (by simp only [EN, Nat.reduceEqDiff, reduceIte, qv_load, ld49, readN, AR, Nat.zero_add, Nat.reduceAdd, hB1.cell, hB2.cell, qv_binOp, binv_eql, eqs49, Option.map_some, qv_assign]; rfl) ?_
   refine WL.nil (th_norm ?_)
   refine hx_cond (by simp only [EN, Nat.reduceEqDiff, reduceIte, hB1.cell, hB2.cell]; rfl) (fun hct25 => ?_) (fun hct25 => ?_)
   ·
    try simp only [BD] at hct25
    simp at hct25
    refine hx_seq (hx_region ?_)
    refine WL.qq (by simp only [EN, Nat.reduceEqDiff, reduceIte, qv_assign, hB1.cell, hB2.cell]; rfl) ?_
    refine WL.nil (th_norm (hx_ret (bl_ret (th_ret ?_))))
    refine fin_ret [.tmp 4] rfl rfl (by simp only [EN, Nat.reduceEqDiff, reduceIte, resv, e0, e1, hB1.cell, hB2.cell]; rfl) ?_
    exact ⟨by simp only [cmpC]; rw [if_neg (by omega), if_pos (by omega)]; rfl, ((hx1).trans (hx2))⟩
   ·
    try simp only [BD] at hct25
    simp at hct25
    refine hx_skip (bl_norm (th_norm (hx_seq (hx_region ?_))))
    refine WL.qq (by simp only [EN, Nat.reduceEqDiff, reduceIte, qv_assign, hB1.cell, hB2.cell]; rfl) ?_
    refine WL.nil (th_norm (hx_ret ?_))
    refine fin_ret [.tmp 4] rfl rfl (by simp only [EN, Nat.reduceEqDiff, reduceIte, resv, e0, e1, hB1.cell, hB2.cell]; rfl) ?_
    exact ⟨by simp only [cmpC]; rw [if_neg (by omega), if_neg (by omega)]; rfl, ((hx1).trans (hx2))⟩
theorem IsE.gs {h h' : Heap} {N p b : Nat} {vh vo : Value} {E : EL} {S : List Nat} (hE : IsE h N p b vh vo E) (hg : Gs h h' S) (h1 : p ∉ S) (h2 : b ∉ S) (h3 : ∀ c, vh.ownBlock = some c → c ∉ S) (h4 : ∀ c, vo.ownBlock = some c → c ∉ S) : IsE h' N p b vh vo E :=
  ⟨hE.blk.gs hg h1, hE.oh.gs hg h3, hE.oo.gs hg h4, hE.map.gs hg h2, hE.lo⟩
theorem IsE.setM {h h' : Heap} {N p b : Nat} {vh vo : Value} {E : EL} {o : Obj} {m : List (PK × Int)} (hE : IsE h N p b vh vo E) (hw : Wr h h' b o) (hm : MapT pkV iV h' b m) : IsE h' N p b vh vo { E with m := m } := by
  have h1 : p ≠ b := hE.blk.nmap hE.map
  refine ⟨?_, hE.oh.keep fun c hc => hw.same c fun hh => by subst hh; exact hE.oh.nmap hE.map hc, hE.oo.keep fun c hc => hw.same c fun hh => by subst hh; exact hE.oo.nmap hE.map hc, hm, hE.lo⟩
  rw [Has, hw.same p h1]; exact hE.blk
def chM (m : List (PK × Int)) (x : PK) (q : Int) : List (PK × Int) := if q = 0 then mdel m x else mset m x q
def chX (E : EL) (s o : ByteArray) (q ad am : Int) : Int :=
  if E.cl = true then 21 else if 0 < cmpC (ad, am) (E.dd, E.dm) then 22 else if idxS s E.hs < 0 then 9 else if idxS o E.os < 0 then 6
  else if q < 0 ∨ 1000000000000000 < q then 2 else if (hldE E s).n < sumE E s - lk E.m ⟨s, idxS o E.os⟩ + q then 13 else 0
section
variable {N p b : Nat} {vh vo : Value} {E : EL} {h : Heap}
theorem c_choose (hb : BdE E) (s o : ByteArray) (q ad am : Int) (hE : IsE h N p b vh vo E) {r : Int} (hr : chX E s o q ad am = r) :
    HCalls Tryz.prog 18 #[.pointer (some ⟨p, 0, none⟩), .string s, .string o, iV q, .agg #[iV ad, iV am]] h fun v h' => v = iV r ∧ Gs h h' [b] ∧ IsE h' N p b vh vo (if r = 0 then { E with m := chM E.m ⟨s, idxS o E.os⟩ q } else E) := by
  obtain ⟨ao, co, rfl, hso⟩ := hE.so
  have hp := hE.blk
  have hno := hb.no
  have hb1 := hld_bd hb s; have hb2 := hb.sum s; have hb3 := hb.ch ⟨s, idxS o E.os⟩
  refine hcalls2 Tryz.func18 rfl (by decide +kernel) (by simp only [Tryz.ntmps18]; exact of_decide_eq_true rfl) ?_
  intro e hin
  have e0 := hin 0 _ rfl
  have e1 := hin 1 _ rfl
  have e2 := hin 2 _ rfl
  have e3 := hin 3 _ rfl
  have e4 := hin 4 _ rfl
  refine hx_seq (hx_region ?_)
  refine WL.box2 (by simp only [EN, Nat.reduceEqDiff, reduceIte, Value.cells, e4, hp.cell]; rfl) ?_
  intro h1 B1 hx1 hlt1 hB1
  replace hp := hp.ext hx1
  replace hE := hE.ext hx1
  replace hso := hso.ext hx1
  refine WL.qq (by simp only [EN, Nat.reduceEqDiff, reduceIte, qv_assign, hp.cell, hB1.cell]; rfl) ?_
  refine WL.nil (th_norm (hx_seq (hx_seq (hx_region ?_))))
  iterate 2 refine WL.qq (by simp only [EN, Nat.reduceEqDiff, reduceIte, qv_move, e0, hp.cell, hB1.cell, qv_binOp, binv_eql, eqz31, eqn31, eqm31, Option.map_some]; rfl) ?_
  refine WL.nil (th_norm ?_)
  refine hx_cond (by simp only [EN, Nat.reduceEqDiff, reduceIte, hp.cell, hB1.cell]; rfl) (fun hct16 => ?_) (fun hct16 => ?_)
  ·
   simp at hct16
  ·
   try simp only [BD] at hct16
   refine hx_skip (th_norm (hx_seq (hx_seq (hx_region ?_))))
   iterate 4 refine WL.qq (by simp only [EN, Nat.reduceEqDiff, reduceIte, qv_move, e0, hp.cell, hB1.cell, qv_nilCheck, qv_fieldAddr, fa85_5, Nat.zero_add, Nat.reduceAdd, qv_load, ld4, readN, AR]; rfl) ?_
   refine WL.nil (th_norm ?_)
   refine hx_cond (by simp only [EN, Nat.reduceEqDiff, reduceIte, hp.cell, hB1.cell]; rfl) (fun hct20 => ?_) (fun hct20 => ?_)
   ·
    try simp only [BD] at hct20
    refine hx_seq (hx_region ?_)
    refine WL.qq (by simp only [EN, Nat.reduceEqDiff, reduceIte, qv_assign, hp.cell, hB1.cell]; rfl) ?_
    refine WL.nil (th_norm (hx_ret (th_ret ?_)))
    refine fin_ret [.tmp 10] rfl rfl (by simp only [EN, Nat.reduceEqDiff, reduceIte, resv, e0, e1, e2, e3, e4, hp.cell, hB1.cell]; rfl) ?_
    rw [chX, if_pos (by simpa using hct20)] at hr
    subst hr
    exact ⟨rfl, Gs.ofExt (hx1), hE⟩
   ·
    try simp only [BD] at hct20
    rw [chX, if_neg (by simpa using hct20)] at hr
    refine hx_skip (th_norm (hx_seq (hx_seq ?_)))
    apply hx_draw2 Rel.grows [] [5] [(5, Spec.is _)] rfl (by decide +kernel) rfl
    iterate 5 refine LD.qq rfl rfl (by simp only [EN, Nat.reduceEqDiff, reduceIte, qv_load, ld49, readN, AR, Nat.zero_add, Nat.reduceAdd, hp.cell, hB1.cell, qv_move, e0, qv_nilCheck, qv_fieldAddr, fa85_3]; rfl) ?_
    refine LD.ck rfl rfl Tryz.call40 (by intro hD hr; have hx : Ext _ _ := hr; have hp := hp.ext hx; have hE := hE.ext hx; have hso := hso.ext hx; have hB1 := hB1.ext hx; simp only [EN, Nat.reduceEqDiff, reduceIte, AR, hp.cell, hB1.cell]; exact c_cmp ad am E.dd E.dm _) ?_
    refine LD.qq rfl rfl (by simp only [EN, Nat.reduceEqDiff, reduceIte, qv_binOp, binv_gtr, hp.cell, hB1.cell]; rfl) ?_
    refine LD.nil ?_
    rintro h2 hx2 hF5
    replace hx2 : Ext _ _ := hx2
    replace hp := hp.ext hx2
    replace hE := hE.ext hx2
    replace hso := hso.ext hx2
    replace hB1 := hB1.ext hx2
    refine WL.nil (th_norm ?_)
    refine hx_cond (by simp only [EN, Nat.reduceEqDiff, reduceIte, hp.cell, hB1.cell]; rfl) (fun hct27 => ?_) (fun hct27 => ?_)
    ·
     try simp only [BD] at hct27
     refine hx_seq (hx_region ?_)
     refine WL.qq (by simp only [EN, Nat.reduceEqDiff, reduceIte, qv_assign, hp.cell, hB1.cell]; rfl) ?_
     refine WL.nil (th_norm (hx_ret (th_ret ?_)))
     refine fin_ret [.tmp 10] rfl rfl (by simp only [EN, Nat.reduceEqDiff, reduceIte, resv, e0, e1, e2, e3, e4, hp.cell, hB1.cell]; rfl) ?_
     rw [if_pos (by omega)] at hr
     subst hr
     exact ⟨rfl, Gs.ofExt ((hx1).trans (hx2)), hE⟩
    ·
     try simp only [BD] at hct27
     rw [if_neg (by omega)] at hr
     refine hx_skip (th_norm (hx_seq (hx_region ?_)))
     iterate 2 refine WL.qq (by simp only [EN, Nat.reduceEqDiff, reduceIte, qv_move, e0, hp.cell, hB1.cell, e1]; rfl) ?_
     refine WL.cg Tryz.call43 (by simp only [EN, Nat.reduceEqDiff, reduceIte, AR, hp.cell, hB1.cell]; exact c_holder hb s hE) ?_
     intro h3 hx3
     replace hp := hp.ext hx3
     replace hE := hE.ext hx3
     replace hso := hso.ext hx3
     replace hB1 := hB1.ext hx3
     iterate 3 refine WL.qq (by simp only [EN, Nat.reduceEqDiff, reduceIte, qv_move, hp.cell, hB1.cell, qv_extract, AR]; rfl) ?_
     refine WL.allocSt zr78 sz78 (fun u => by simp only [EN, Nat.reduceEqDiff, reduceIte, Value.cells, hp.cell, hB1.cell]; rfl) ⟨rfl, rfl⟩ (by simp [Value.oneCell']) ?_
     intro h4 B4 hx4 hlt4 hB4
     replace hp := hp.ext hx4
     replace hE := hE.ext hx4
     replace hso := hso.ext hx4
     replace hB1 := hB1.ext hx4
     refine WL.qq (by simp only [EN, Nat.reduceEqDiff, reduceIte, qv_assign, hp.cell, hB1.cell, hB4.cell]; rfl) ?_
     refine WL.nil (th_norm (hx_seq (hx_region ?_)))
     iterate 5 refine WL.qq (by simp only [EN, Nat.reduceEqDiff, reduceIte, qv_move, e0, hp.cell, hB1.cell, hB4.cell, qv_nilCheck, qv_fieldAddr, fa85_1, Nat.zero_add, Nat.reduceAdd, qv_load, ld81, readN, AR, e2]; rfl) ?_
     refine WL.cg Tryz.call44 (by simp only [EN, Nat.reduceEqDiff, reduceIte, AR, hp.cell, hB1.cell, hB4.cell]; exact c_find o ao E.os co (by omega) hso) ?_
     intro h5 hx5
     replace hp := hp.ext hx5
     replace hE := hE.ext hx5
     replace hso := hso.ext hx5
     replace hB1 := hB1.ext hx5
     replace hB4 := hB4.ext hx5
     refine WL.qq (by simp only [EN, Nat.reduceEqDiff, reduceIte, qv_assign, hp.cell, hB1.cell, hB4.cell]; rfl) ?_
     refine WL.nil (th_norm (hx_seq (hx_region ?_)))
     iterate 2 refine WL.qq (by simp only [EN, Nat.reduceEqDiff, reduceIte, qv_move, e1, hp.cell, hB1.cell, hB4.cell]; rfl) ?_
     refine WL.qq (by refine qv_bld (by simp only [EN, Nat.reduceEqDiff, reduceIte, AR, hp.cell, hB1.cell, hB4.cell] <;> rfl) (by rw [bl89]; simp [Instr.fill, Value.cells]; rfl)) ?_
     refine WL.allocSt zr89 sz89 (fun u => by simp only [EN, Nat.reduceEqDiff, reduceIte, Value.cells, hp.cell, hB1.cell, hB4.cell]; rfl) ⟨rfl, rfl⟩ (by simp [Value.oneCell']) ?_
     intro h6 B6 hx6 hlt6 hB6
     replace hp := hp.ext hx6
     replace hE := hE.ext hx6
     replace hso := hso.ext hx6
     replace hB1 := hB1.ext hx6
     replace hB4 := hB4.ext hx6
     refine WL.nil (th_norm (hx_seq (hx_block (hx_seq (hx_region ?_)))))
     iterate 3 refine WL.qq (by simp only [EN, Nat.reduceEqDiff, reduceIte, qv_move, hp.cell, hB1.cell, hB4.cell, hB6.cell, qv_unOp, unv_not, qv_assign]; rfl) ?_
     refine WL.nil (th_norm ?_)
     refine hx_cond (by simp only [EN, Nat.reduceEqDiff, reduceIte, hp.cell, hB1.cell, hB4.cell, hB6.cell]; rfl) (fun hct43 => ?_) (fun hct43 => ?_)
     ·
      try simp only [BD] at hct43
      refine hx_seq (hx_region ?_)
      refine WL.qq (by simp only [EN, Nat.reduceEqDiff, reduceIte, qv_assign, hp.cell, hB1.cell, hB4.cell, hB6.cell]; rfl) ?_
      refine WL.nil (th_norm (hx_ret (bl_ret (th_ret ?_))))
      refine fin_ret [.tmp 10] rfl rfl (by simp only [EN, Nat.reduceEqDiff, reduceIte, resv, e0, e1, e2, e3, e4, hp.cell, hB1.cell, hB4.cell, hB6.cell]; rfl) ?_
      rw [if_pos (by simpa using hct43)] at hr
      subst hr
      exact ⟨rfl, Gs.ofExt ((hx1).trans ((hx2).trans ((hx3).trans ((hx4).trans ((hx5).trans (hx6)))))), hE⟩
     ·
      try simp only [BD] at hct43
      rw [if_neg (by simpa using hct43)] at hr
      refine hx_seq (hx_region ?_)
      iterate 3 refine WL.qq (by simp only [EN, Nat.reduceEqDiff, reduceIte, qv_move, hp.cell, hB1.cell, hB4.cell, hB6.cell, qv_binOp, binv_lss, qv_assign]; rfl) ?_
      refine WL.nil (th_norm ?_)
      refine hx_cond (by simp only [EN, Nat.reduceEqDiff, reduceIte, hp.cell, hB1.cell, hB4.cell, hB6.cell]; rfl) (fun hct46 => ?_) (fun hct46 => ?_)
      ·
       try simp only [BD] at hct46
       refine hx_seq (hx_region ?_)
       refine WL.qq (by simp only [EN, Nat.reduceEqDiff, reduceIte, qv_assign, hp.cell, hB1.cell, hB4.cell, hB6.cell]; rfl) ?_
       refine WL.nil (th_norm (hx_ret (bl_ret (th_ret ?_))))
       refine fin_ret [.tmp 10] rfl rfl (by simp only [EN, Nat.reduceEqDiff, reduceIte, resv, e0, e1, e2, e3, e4, hp.cell, hB1.cell, hB4.cell, hB6.cell]; rfl) ?_
       rw [if_pos (by omega)] at hr
       subst hr
       exact ⟨rfl, Gs.ofExt ((hx1).trans ((hx2).trans ((hx3).trans ((hx4).trans ((hx5).trans (hx6)))))), hE⟩
      ·
       try simp only [BD] at hct46
       rw [if_neg (by omega)] at hr
       refine hx_seq (hx_region ?_)
       iterate 3 refine WL.qq (by simp only [EN, Nat.reduceEqDiff, reduceIte, qv_move, e3, hp.cell, hB1.cell, hB4.cell, hB6.cell, qv_binOp, binv_lss]; rfl) ?_
       refine WL.cq (gd_at (t := 52) rfl (by simp only [EN, Nat.reduceEqDiff, reduceIte, e3, hp.cell, hB1.cell, hB4.cell, hB6.cell] <;> rfl)) (fun hg14_3 => by simp only [EN, Nat.reduceEqDiff, reduceIte, qv_move, e3, hp.cell, hB1.cell, hB4.cell, hB6.cell, hg14_3, GR]; rfl) ?_
       refine WL.cq (gd_at (t := 52) rfl (by simp only [EN, Nat.reduceEqDiff, reduceIte, hp.cell, hB1.cell, hB4.cell, hB6.cell] <;> rfl)) (fun hg14_4 => by simp only [EN, Nat.reduceEqDiff, reduceIte, qv_binOp, binv_gtr, hp.cell, hB1.cell, hB4.cell, hB6.cell, hg14_4, GR]; rfl) ?_
       iterate 2 refine WL.qq (by simp only [EN, Nat.reduceEqDiff, reduceIte, qv_pick, pk_and, pk_or, GR, hp.cell, hB1.cell, hB4.cell, hB6.cell, qv_assign]; rfl) ?_
       refine WL.nil (th_norm ?_)
       refine hx_cond (by simp only [EN, Nat.reduceEqDiff, reduceIte, hp.cell, hB1.cell, hB4.cell, hB6.cell]; rfl) (fun hct49 => ?_) (fun hct49 => ?_)
       ·
        try simp only [BD] at hct49
        refine hx_seq (hx_region ?_)
        refine WL.qq (by simp only [EN, Nat.reduceEqDiff, reduceIte, qv_assign, hp.cell, hB1.cell, hB4.cell, hB6.cell]; rfl) ?_
        refine WL.nil (th_norm (hx_ret (bl_ret (th_ret ?_))))
        refine fin_ret [.tmp 10] rfl rfl (by simp only [EN, Nat.reduceEqDiff, reduceIte, resv, e0, e1, e2, e3, e4, hp.cell, hB1.cell, hB4.cell, hB6.cell]; rfl) ?_
        rw [if_pos (by omega)] at hr
        subst hr
        exact ⟨rfl, Gs.ofExt ((hx1).trans ((hx2).trans ((hx3).trans ((hx4).trans ((hx5).trans (hx6)))))), hE⟩
       ·
        try simp only [BD] at hct49
        rw [if_neg (by omega)] at hr
        refine hx_seq ?_
        apply hx_draw2 Rel.grows [] [2] [(2, (Spec.is (iV (sumE E s))))] rfl (by decide +kernel) rfl
        iterate 2 refine LD.qq rfl rfl (by simp only [EN, Nat.reduceEqDiff, reduceIte, qv_move, e0, hp.cell, hB1.cell, hB4.cell, hB6.cell, e1]; rfl) ?_
        refine LD.es rfl rfl (by intro hD hr hf; have hx : Ext _ _ := hr; have hp := hp.ext hx; have hE := hE.ext hx; have hso := hso.ext hx; have hB1 := hB1.ext hx; have hB4 := hB4.ext hx; have hB6 := hB6.ext hx; exact EOp.mono (e_call Tryz.call45 (by simp only [EN, Nat.reduceEqDiff, reduceIte, e0, e1, e2, e3, e4, hp.cell, hB1.cell, hB4.cell, hB6.cell, List.map_toArray, List.map_cons, List.map_nil]; exact c_sum hb s hE)) (fun _ _ hh => by obtain ⟨rfl, rfl⟩ := hh; exact ⟨Ext.refl _, rfl, trivial⟩)) ?_
        intro u16_2 w16_2
        have hu4 : u16_2 = _ := w16_2
        subst hu4
        iterate 5 refine LD.qq rfl rfl (by simp only [EN, Nat.reduceEqDiff, reduceIte, qv_move, e0, hp.cell, hB1.cell, hB4.cell, hB6.cell, qv_nilCheck, qv_fieldAddr, fa85_4, Nat.zero_add, Nat.reduceAdd, qv_load, ld83, readN, AR, ld89]; rfl) ?_
        refine LD.qq rfl rfl (by simp only [EN, Nat.reduceEqDiff, reduceIte, e0, e1, e2, e3, e4, hp.cell, hB1.cell, hB4.cell, hB6.cell, qv_lookup]; exact lkE hE.map ⟨s, idxS o E.os⟩) ?_
        iterate 7 refine LD.qq rfl rfl (by simp only [EN, Nat.reduceEqDiff, reduceIte, qv_binOp, binv_sub, hp.cell, hB1.cell, hB4.cell, hB6.cell, qv_move, e3, binv_add, qv_fieldAddr, fa78_1, Nat.zero_add, Nat.reduceAdd, qv_load, ld2, readN, AR, binv_gtr, qv_assign]; (try simp (disch := omega) only [w64, w8, wu64]); rfl) ?_
        refine LD.nil ?_
        rintro h7 hx7 hF16
        replace hx7 : Ext _ _ := hx7
        replace hp := hp.ext hx7
        replace hE := hE.ext hx7
        replace hso := hso.ext hx7
        replace hB1 := hB1.ext hx7
        replace hB4 := hB4.ext hx7
        replace hB6 := hB6.ext hx7
        refine WL.nil (th_norm ?_)
        refine hx_cond (by simp only [EN, Nat.reduceEqDiff, reduceIte, hp.cell, hB1.cell, hB4.cell, hB6.cell]; rfl) (fun hct56 => ?_) (fun hct56 => ?_)
        ·
         try simp only [BD] at hct56
         refine hx_seq (hx_region ?_)
         refine WL.qq (by simp only [EN, Nat.reduceEqDiff, reduceIte, qv_assign, hp.cell, hB1.cell, hB4.cell, hB6.cell]; rfl) ?_
         refine WL.nil (th_norm (hx_ret (bl_ret (th_ret ?_))))
         refine fin_ret [.tmp 10] rfl rfl (by simp only [EN, Nat.reduceEqDiff, reduceIte, resv, e0, e1, e2, e3, e4, hp.cell, hB1.cell, hB4.cell, hB6.cell]; rfl) ?_
         rw [if_pos (by omega)] at hr
         subst hr
         exact ⟨rfl, Gs.ofExt ((hx1).trans ((hx2).trans ((hx3).trans ((hx4).trans ((hx5).trans ((hx6).trans (hx7))))))), hE⟩
        ·
         try simp only [BD] at hct56
         rw [if_neg (by omega)] at hr; subst hr
         have hX := ((hx1).trans ((hx2).trans ((hx3).trans ((hx4).trans ((hx5).trans ((hx6).trans (hx7)))))))
         refine hx_skip (bl_norm (th_norm (hx_seq (hx_seq (hx_region ?_)))))
         iterate 2 refine WL.qq (by simp only [EN, Nat.reduceEqDiff, reduceIte, qv_move, e3, hp.cell, hB1.cell, hB4.cell, hB6.cell, qv_binOp, binv_eql, eq2, Option.map_some]; rfl) ?_
         refine WL.nil (th_norm ?_)
         refine hx_cond (by simp only [EN, Nat.reduceEqDiff, reduceIte, hp.cell, hB1.cell, hB4.cell, hB6.cell]; rfl) (fun hct73 => ?_) (fun hct73 => ?_)
         ·
          try simp only [BD] at hct73
          apply hx_draw2 Rel.grows [5] [] [] rfl (by decide +kernel) rfl
          iterate 5 refine LD.qq rfl rfl (by simp only [EN, Nat.reduceEqDiff, reduceIte, qv_move, e0, hp.cell, hB1.cell, hB4.cell, hB6.cell, qv_nilCheck, qv_fieldAddr, fa85_4, Nat.zero_add, Nat.reduceAdd, qv_load, ld83, readN, AR, ld89]; rfl) ?_
          refine LD.skip rfl ?_
          refine LD.nil ?_
          rintro h8 hx8 hF19
          replace hx8 : Ext _ _ := hx8
          replace hp := hp.ext hx8
          replace hE := hE.ext hx8
          replace hso := hso.ext hx8
          replace hB1 := hB1.ext hx8
          replace hB4 := hB4.ext hx8
          replace hB6 := hB6.ext hx8
          have hX := ((hx1).trans ((hx2).trans ((hx3).trans ((hx4).trans ((hx5).trans ((hx6).trans ((hx7).trans (hx8))))))))
          refine WL.ef _ (e_delete (t := 83) (x := (⟨s, idxS o E.os⟩ : PK)) ktE Tryz.underlying83 rfl hE.map (by simp only [EN, Nat.reduceEqDiff, reduceIte, e0, e1, e2, e3, e4, hp.cell, hB1.cell, hB4.cell, hB6.cell]) (by simp only [EN, Nat.reduceEqDiff, reduceIte, e0, e1, e2, e3, e4, hp.cell, hB1.cell, hB4.cell, hB6.cell] <;> rfl)) ?_
          rintro _ h3 ⟨⟨o3, hw3⟩, hm3⟩
          simp only [put_none]
          refine WL.nil (th_norm (hx_seq (hx_region ?_)))
          refine WL.qq (by simp only [EN, Nat.reduceEqDiff, reduceIte, qv_assign, hp.cell, hB1.cell, hB4.cell, hB6.cell]; rfl) ?_
          refine WL.nil (th_norm (hx_ret ?_))
          refine fin_ret [.tmp 10] rfl rfl (by simp only [EN, Nat.reduceEqDiff, reduceIte, resv, e0, e1, e2, e3, e4, hp.cell, hB1.cell, hB4.cell, hB6.cell]; rfl) ?_
          exact ⟨rfl, (Gs.ofExt hX).trans (Gs.ofWr hw3 (by simp)), by have h9 : q = 0 := (by omega); simp only [chM, h9, if_true] at hm3 ⊢; exact hE.setM hw3 hm3⟩
         ·
          try simp only [BD] at hct73
          apply hx_draw2 Rel.grows [6] [] [] rfl (by decide +kernel) rfl
          iterate 6 refine LD.qq rfl rfl (by simp only [EN, Nat.reduceEqDiff, reduceIte, qv_move, e0, hp.cell, hB1.cell, hB4.cell, hB6.cell, qv_nilCheck, qv_fieldAddr, fa85_4, Nat.zero_add, Nat.reduceAdd, qv_load, ld83, readN, AR, ld89, e3]; rfl) ?_
          refine LD.skip rfl ?_
          refine LD.nil ?_
          rintro h9 hx9 hF20
          replace hx9 : Ext _ _ := hx9
          replace hp := hp.ext hx9
          replace hE := hE.ext hx9
          replace hso := hso.ext hx9
          replace hB1 := hB1.ext hx9
          replace hB4 := hB4.ext hx9
          replace hB6 := hB6.ext hx9
          have hX := ((hx1).trans ((hx2).trans ((hx3).trans ((hx4).trans ((hx5).trans ((hx6).trans ((hx7).trans (hx9))))))))
          refine WL.ef _ (e_mapUpdate (x := (⟨s, idxS o E.os⟩ : PK)) (v := q) ktE Tryz.underlying83 hE.map (by simp only [EN, Nat.reduceEqDiff, reduceIte, e0, e1, e2, e3, e4, hp.cell, hB1.cell, hB4.cell, hB6.cell]) (by simp only [EN, Nat.reduceEqDiff, reduceIte, e0, e1, e2, e3, e4, hp.cell, hB1.cell, hB4.cell, hB6.cell] <;> rfl) (by simp only [EN, Nat.reduceEqDiff, reduceIte, e0, e1, e2, e3, e4, hp.cell, hB1.cell, hB4.cell, hB6.cell] <;> rfl)) ?_
          rintro _ h3 ⟨⟨o3, hw3⟩, hm3⟩
          simp only [put_none]
          refine WL.nil (th_norm (hx_seq (hx_region ?_)))
          refine WL.qq (by simp only [EN, Nat.reduceEqDiff, reduceIte, qv_assign, hp.cell, hB1.cell, hB4.cell, hB6.cell]; rfl) ?_
          refine WL.nil (th_norm (hx_ret ?_))
          refine fin_ret [.tmp 10] rfl rfl (by simp only [EN, Nat.reduceEqDiff, reduceIte, resv, e0, e1, e2, e3, e4, hp.cell, hB1.cell, hB4.cell, hB6.cell]; rfl) ?_
          exact ⟨rfl, (Gs.ofExt hX).trans (Gs.ofWr hw3 (by simp)), by have h9 : ¬ q = 0 := (by omega); simp only [chM, if_neg h9, if_true]; exact hE.setM hw3 hm3⟩
end
end GL

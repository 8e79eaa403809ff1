/- A logic of heaps. Part 20: maps: keys, entries as a list, what the operations on a map do. -/
import Derived.Test.YtklhfckdifkpaaaGl17
import Derived.Maps.RangeRun
import Derived.Maps.Keyed
import Derived.DeepKeys4
set_option linter.unusedSimpArgs false
set_option linter.unusedVariables false
set_option linter.unnecessarySimpa false
namespace GL
open Go Go.MapKept
open Go.ChangeMaps (setBlock)

/-- Keys of type k, as they are written down. -/
structure KT (P : Program) (k : TypeId) {κ : Type} (ek : κ → Value) : Prop where
  inj : ∀ {a b : κ}, ek a = ek b → a = b
  check : ∀ (w : World) (em : Bool) (a : κ), (Instr.checkKey em 10000 k (ek a)).run P w = .ok () w
  find : ∀ (w : World) (x : κ) (es : List MapEntry), (∀ e ∈ es, ∃ a, e.key = ek a) →
    ((Instr.findKey k (ek x) es).run P w = .ok none w ∧ ∀ e ∈ es, e.key ≠ ek x) ∨ ∃ j e, (Instr.findKey k (ek x) es).run P w = .ok (some (j, e.val)) w ∧ es[j]? = some e ∧ e.key = ek x
  stays : ∀ (w : World) (a : κ), (Instr.keyThatStays (ek a) (ek a)).run P w = .ok (ek a) w
theorem kt_plain {P : Program} {k : TypeId} {d : TypeDesc} {κ : Type} {ek : κ → Value} (hu : P.underlying k = some d) (hk : ∀ a, IsKey d (ek a)) (hi : ∀ {a b : κ}, ek a = ek b → a = b) : KT P k ek := by
  refine ⟨hi, fun w em a => run_checkKey hu (hk a) em 9999, ?_, fun w a => run_keyThatStays (hk a)⟩
  intro w x es hes
  have hks : ∀ y ∈ es, IsKey d y.key := fun y hy => by
    obtain ⟨a, ha⟩ := hes y hy
    rw [ha]; exact hk a
  rcases findNow_spec (hk x) es 0 hks with ⟨h1, h2⟩ | ⟨j, e0, h1, h2, h3⟩
  · exact Or.inl ⟨run_findKey hu h1, h2⟩
  · exact Or.inr ⟨j, e0, by simpa using run_findKey hu h1, h2, h3⟩
theorem run_findAsking_of {P : Program} {k : TypeId} {κ : Type} [DecidableEq κ] {ek : κ → Value} (hi : ∀ {a b : κ}, ek a = ek b → a = b) (heq : ∀ a b, eqv P 10000 k (ek a) (ek b) = some (decide (a = b))) (x : κ) (w : World) :
    ∀ (es : List MapEntry) (i : Nat), (∀ e ∈ es, ∃ a, e.key = ek a) →
    ((Instr.findAsking k (ek x) es i).run P w = .ok none w ∧ ∀ e ∈ es, e.key ≠ ek x) ∨ ∃ j e, (Instr.findAsking k (ek x) es i).run P w = .ok (some (i + j, e.val)) w ∧ es[j]? = some e ∧ e.key = ek x
  | [], i, _ => .inl ⟨rfl, by simp⟩
  | e :: es, i, h => by
    obtain ⟨a, ha⟩ := h e (by simp)
    have hrun : (Op.equal k (ek x) e.key).run P w = .ok (decide (x = a)) w := by
      rw [ha]
      exact run_equalIn_of 10000 k (ek x) (ek a) _ (heq x a) w
    by_cases hxa : x = a
    · refine .inr ⟨0, e, ?_, rfl, by rw [ha, hxa]⟩
      rw [hxa] at hrun ⊢
      simp only [Instr.findAsking, Sem.run_bind, hrun, Result.andThen_ok, decide_true, if_true, Sem.run_pure, Nat.add_zero]
    · have hne : e.key ≠ ek x := fun q => hxa (hi (by rw [← q, ha]))
      rcases run_findAsking_of hi heq x w es (i + 1) (fun y hy => h y (by simp [hy])) with ⟨h1, h2⟩ | ⟨j, e', h1, h2, h3⟩
      · refine .inl ⟨?_, fun y hy => ?_⟩
        · simp only [Instr.findAsking, Sem.run_bind, hrun, Result.andThen_ok, hxa, decide_false, Bool.false_eq_true, if_false, h1]
        · rcases List.mem_cons.1 hy with rfl | hy
          · exact hne
          · exact h2 y hy
      · refine .inr ⟨j + 1, e', ?_, by simpa using h2, h3⟩
        simp only [Instr.findAsking, Sem.run_bind, hrun, Result.andThen_ok, hxa, decide_false, Bool.false_eq_true, if_false, h1]
        congr 3
        omega
theorem findNow_agg {fs : Array Field} {k : Value} : ∀ (es : List MapEntry) (i : Nat), es ≠ [] → Instr.findNow (.struct fs) k es i = none
  | [], _, h => absurd rfl h
  | e :: es, i, _ => by simp [Instr.findNow, Instr.sameNow]
theorem run_checkFs {P : Program} {w : World} {em : Bool} {n : Nat} {cs : Array Value} : ∀ (fs : List Field), (∀ f ∈ fs, f.name ≠ "_" → ∃ v d, partB P f.type cs f.offset = some v ∧ P.underlying f.type = some d ∧ IsKey d v) →
    (forIn fs PUnit.unit (fun (f : Field) (_ : PUnit) => (if f.name ≠ "_" then (do
      let v ← part f.type cs f.offset
      Instr.checkKey em (n + 1) f.type v
      pure (ForInStep.yield PUnit.unit)) else pure (ForInStep.yield PUnit.unit) : Sem (ForInStep PUnit)))).run P w = .ok PUnit.unit w
  | [], _ => by simp
  | f :: fs, h => by
    simp only [List.forIn_cons]
    have ih := run_checkFs (em := em) (n := n) (w := w) fs (fun g hg => h g (by simp [hg]))
    by_cases hn : f.name ≠ "_"
    · obtain ⟨v, d, h1, h2, h3⟩ := h f (by simp) hn
      simp only [if_pos hn, Sem.run_bind, run_part_of h1, Result.andThen_ok, run_checkKey h2 h3 em n, Sem.run_pure]
      exact ih
    · simp only [if_neg hn, Sem.run_bind, Sem.run_pure, Result.andThen_ok]
      exact ih
theorem run_checkKey_struct {P : Program} {w : World} {em : Bool} {n : Nat} {k : TypeId} {fs : Array Field} {cs : Array Value} (hu : P.underlying k = some (.struct fs))
    (h : ∀ f ∈ fs.toList, f.name ≠ "_" → ∃ v d, partB P f.type cs f.offset = some v ∧ P.underlying f.type = some d ∧ IsKey d v) : (Instr.checkKey em (n + 2) k (.agg cs)).run P w = .ok () w := by
  unfold Instr.checkKey
  simp only [Sem.run_bind, run_underlying hu, Result.andThen_ok]
  rw [← Array.forIn_toList]
  have := run_checkFs (P := P) (w := w) (em := em) (n := n) (cs := cs) fs.toList h
  rw [this]
  rfl
theorem kt_struct {P : Program} {k : TypeId} {κ : Type} [DecidableEq κ] {ek : κ → Value} {fs : Array Field} (hu : P.underlying k = some (.struct fs)) (hi : ∀ {a b : κ}, ek a = ek b → a = b)
    (hag : ∀ a, ∃ cs, ek a = .agg cs ∧ ∀ f ∈ fs.toList, f.name ≠ "_" → ∃ v d, partB P f.type cs f.offset = some v ∧ P.underlying f.type = some d ∧ IsKey d v)
    (heq : ∀ a b, eqv P 10000 k (ek a) (ek b) = some (decide (a = b))) (hst : ∀ a, Instr.sameBits 10000 (ek a) (ek a) = true) : KT P k ek := by
  refine ⟨hi, fun w em a => ?_, ?_, fun w a => by simp [Instr.keyThatStays, hst a]⟩
  · obtain ⟨cs, hc, hf⟩ := hag a
    rw [hc]
    exact run_checkKey_struct hu hf
  · intro w x es hes
    cases es with
    | nil => exact .inl ⟨by simp [Instr.findKey, run_underlying hu, Instr.findNow], by simp⟩
    | cons e es =>
      have h1 : (Instr.findKey k (ek x) (e :: es)).run P w = (Instr.findAsking k (ek x) (e :: es) 0).run P w := by
        simp only [Instr.findKey, Sem.run_bind, run_underlying hu, Result.andThen_ok, findNow_agg (e :: es) 0 (by simp)]
      rw [h1]
      rcases run_findAsking_of hi heq x w (e :: es) 0 hes with hh | ⟨j, e', h2, h3, h4⟩
      · exact .inl hh
      · exact .inr ⟨j, e', by simpa using h2, h3, h4⟩

section
variable {κ β : Type} {ek : κ → Value} {ev' : β → Value}
/-- Block b is a map: its keys and elements in the order of their coming. -/
def MapT (ek : κ → Value) (ev' : β → Value) (h : Heap) (b : Nat) (l : List (κ × β)) : Prop :=
  ∃ es clock, Has h b (.map es clock) ∧ es.toList.map (fun e => (e.key, e.val)) = l.map (fun p => (ek p.1, ev' p.2)) ∧ Stamped es clock
theorem MapT.ext {h h' : Heap} {b : Nat} {l : List (κ × β)} (hm : MapT ek ev' h b l) (hx : Ext h h') : MapT ek ev' h' b l := by
  obtain ⟨es, c, h1, h2, h3⟩ := hm
  exact ⟨es, c, h1.ext hx, h2, h3⟩
theorem MapT.wr {h h' : Heap} {b c : Nat} {o : Obj} {l : List (κ × β)} (hm : MapT ek ev' h b l) (hw : Wr h h' c o) (hne : b ≠ c) : MapT ek ev' h' b l := by
  obtain ⟨es, cl, h1, h2, h3⟩ := hm
  exact ⟨es, cl, h1.wr hw hne, h2, h3⟩
theorem MapT.gr {h h' : Heap} {b : Nat} {c : Option Nat} {l : List (κ × β)} (hm : MapT ek ev' h b l) (hg : Gr h h' c) (hne : c ≠ some b) : MapT ek ev' h' b l := by
  obtain ⟨es, cl, h1, h2, h3⟩ := hm
  exact ⟨es, cl, h1.gr hg hne, h2, h3⟩
theorem MapT.lt {h : Heap} {b : Nat} {l : List (κ × β)} (hm : MapT ek ev' h b l) : b < h.size := by
  obtain ⟨es, c, h1, _⟩ := hm
  exact (Array.getElem?_eq_some_iff.1 h1).1
theorem MapT.new {h : Heap} {b : Nat} (hb : Has h b (.map #[] 0)) : MapT ek ev' h b [] := ⟨_, _, hb, rfl, stamped_empty _⟩
theorem entries_at {es : Array MapEntry} {l : List (κ × β)} (he : es.toList.map (fun e => (e.key, e.val)) = l.map (fun p => (ek p.1, ev' p.2))) {j : Nat} {e : MapEntry} (hj : es.toList[j]? = some e) :
    ∃ p, l[j]? = some p ∧ e.key = ek p.1 ∧ e.val = ev' p.2 := by
  have h1 : (es.toList.map (fun e => (e.key, e.val)))[j]? = some (e.key, e.val) := by rw [List.getElem?_map, hj]; rfl
  rw [he, List.getElem?_map] at h1
  cases hp : l[j]? with
  | none => rw [hp] at h1; cases h1
  | some p =>
    rw [hp] at h1
    simp only [Option.map_some, Option.some.injEq, Prod.mk.injEq] at h1
    exact ⟨p, rfl, h1.1.symm, h1.2.symm⟩
theorem entries_len {es : Array MapEntry} {l : List (κ × β)} (he : es.toList.map (fun e => (e.key, e.val)) = l.map (fun p => (ek p.1, ev' p.2))) : es.size = l.length := by
  have := congrArg List.length he
  simpa using this
theorem entries_key {es : Array MapEntry} {l : List (κ × β)} (he : es.toList.map (fun e => (e.key, e.val)) = l.map (fun p => (ek p.1, ev' p.2))) : ∀ e ∈ es.toList, ∃ a, e.key = ek a := by
  intro e hm
  obtain ⟨j, hj⟩ := List.getElem?_of_mem hm
  obtain ⟨p, _, h, _⟩ := entries_at he hj
  exact ⟨p.1, h⟩
theorem entries_mem {es : Array MapEntry} {l : List (κ × β)} (he : es.toList.map (fun e => (e.key, e.val)) = l.map (fun p => (ek p.1, ev' p.2))) {p : κ × β} (hp : p ∈ l) : ∃ e ∈ es.toList, e.key = ek p.1 ∧ e.val = ev' p.2 := by
  have : (ek p.1, ev' p.2) ∈ es.toList.map (fun e => (e.key, e.val)) := by rw [he]; exact List.mem_map.2 ⟨p, hp, rfl⟩
  obtain ⟨e, h1, h2⟩ := List.mem_map.1 this
  simp only [Prod.mk.injEq] at h2
  exact ⟨e, h1, h2.1, h2.2⟩
theorem MapT.nodup {h : Heap} {b : Nat} {l : List (κ × β)} (hm : MapT ek ev' h b l) : (l.map Prod.fst).Nodup := by
  obtain ⟨es, c, _, he, hs⟩ := hm
  have h1 := ((stamped_iff es c).1 hs).2.2
  have h2 : (es.toList.map (fun e => (e.key, e.val))).Pairwise (fun p q => p.1 ≠ q.1) := List.pairwise_map.2 h1
  rw [he] at h2
  have h3 := List.pairwise_map.1 h2
  refine List.pairwise_map.2 (h3.imp fun {a b} hne heq => hne ?_)
  simp only [heq]

/-! Lists of keys and elements. -/
section lists
variable [DecidableEq κ]
def mset : List (κ × β) → κ → β → List (κ × β)
  | [], x, v => [(x, v)]
  | p :: l, x, v => if p.1 = x then (x, v) :: l else p :: mset l x v
def mdel (l : List (κ × β)) (x : κ) : List (κ × β) := l.filter fun p => decide (p.1 ≠ x)
theorem lookup_no {l : List (κ × β)} {x : κ} (h : ∀ p ∈ l, p.1 ≠ x) : l.lookup x = none := by
  induction l with
  | nil => rfl
  | cons p l ih =>
    obtain ⟨a, v⟩ := p
    have h1 : a ≠ x := h (a, v) (by simp)
    have h2 : (x == a) = false := by simpa using fun hh => h1 hh.symm
    simp only [List.lookup, h2]
    exact ih fun q hq => h q (by simp [hq])
theorem lookup_mem {l : List (κ × β)} (hn : (l.map Prod.fst).Nodup) {x : κ} {v : β} (h : (x, v) ∈ l) : l.lookup x = some v := by
  induction l with
  | nil => cases h
  | cons p l ih =>
    obtain ⟨a, u⟩ := p
    simp only [List.map_cons, List.nodup_cons] at hn
    rcases List.mem_cons.1 h with h | h
    · cases h; simp [List.lookup]
    · have hne : x ≠ a := fun hh => hn.1 (hh ▸ List.mem_map.2 ⟨(x, v), h, rfl⟩)
      have h2 : (x == a) = false := by simpa using hne
      simp only [List.lookup, h2]
      exact ih hn.2 h
theorem mem_lookup {l : List (κ × β)} {x : κ} {v : β} (h : l.lookup x = some v) : (x, v) ∈ l := by
  induction l with
  | nil => cases h
  | cons p l ih =>
    obtain ⟨a, u⟩ := p
    simp only [List.lookup] at h
    split at h
    · rename_i hb
      have : x = a := by simpa using hb
      cases h; subst this; simp
    · exact List.mem_cons_of_mem _ (ih h)
theorem lookup_none_iff {l : List (κ × β)} {x : κ} : l.lookup x = none ↔ ∀ p ∈ l, p.1 ≠ x := by
  refine ⟨fun h p hp hx => ?_, lookup_no⟩
  induction l with
  | nil => cases hp
  | cons q l ih =>
    obtain ⟨a, u⟩ := q
    simp only [List.lookup] at h
    split at h
    · cases h
    · rename_i hb
      rcases List.mem_cons.1 hp with rfl | hp
      · subst hx; simp at hb
      · exact ih h hp
theorem lookup_mset (l : List (κ × β)) (x y : κ) (v : β) : (mset l x v).lookup y = if y = x then some v else l.lookup y := by
  induction l with
  | nil =>
    by_cases h : y = x
    · subst h; simp [mset, List.lookup]
    · have h2 : (y == x) = false := by simpa using h
      simp [mset, List.lookup, h2, h]
  | cons p l ih =>
    obtain ⟨a, u⟩ := p
    simp only [mset]
    by_cases ha : a = x
    · subst ha
      simp only [if_true, List.lookup]
      by_cases h : y = a
      · subst h; simp
      · have h2 : (y == a) = false := by simpa using h
        simp [h2, h]
    · simp only [ha, if_false, List.lookup]
      by_cases h : y = a
      · subst h; simp [ha]
      · have h2 : (y == a) = false := by simpa using h
        simp only [h2, ih]
theorem mset_no {l : List (κ × β)} {x : κ} {v : β} (h : ∀ p ∈ l, p.1 ≠ x) : mset l x v = l ++ [(x, v)] := by
  induction l with
  | nil => rfl
  | cons p l ih =>
    simp only [mset, if_neg (h p (by simp)), ih fun q hq => h q (by simp [hq]), List.cons_append]
theorem mset_at {l : List (κ × β)} (hn : (l.map Prod.fst).Nodup) {x : κ} {v u : β} : ∀ {j : Nat}, l[j]? = some (x, u) → mset l x v = l.set j (x, v) := by
  induction l with
  | nil => intro j h; simp at h
  | cons p l ih =>
    intro j h
    simp only [List.map_cons, List.nodup_cons] at hn
    cases j with
    | zero =>
      simp only [List.getElem?_cons_zero, Option.some.injEq] at h
      subst h
      simp [mset]
    | succ j =>
      simp only [List.getElem?_cons_succ] at h
      have hne : p.1 ≠ x := fun hh => hn.1 (hh ▸ List.mem_map.2 ⟨(x, u), List.mem_of_getElem? h, rfl⟩)
      simp only [mset, if_neg hne, List.set_cons_succ, ih hn.2 h]
theorem mset_mset (l : List (κ × β)) (x : κ) (u v : β) : mset (mset l x u) x v = mset l x v := by
  induction l with
  | nil => simp [mset]
  | cons p l ih =>
    simp only [mset]
    by_cases h : p.1 = x
    · simp [h, mset]
    · simp [h, mset, ih]
theorem mset_len (l : List (κ × β)) (x : κ) (v : β) : (mset l x v).length ≤ l.length + 1 := by
  induction l with
  | nil => simp [mset]
  | cons p l ih =>
    simp only [mset]
    split
    · simp
    · simp only [List.length_cons]; omega
theorem lookup_mdel (l : List (κ × β)) (x y : κ) : (mdel l x).lookup y = if y = x then none else l.lookup y := by
  induction l with
  | nil => simp [mdel]
  | cons p l ih =>
    obtain ⟨a, u⟩ := p
    simp only [mdel, List.filter_cons] at ih ⊢
    by_cases ha : a = x
    · subst ha
      simp only [ne_eq, not_true_eq_false, decide_false, Bool.false_eq_true, if_false, ih, List.lookup]
      by_cases h : y = a
      · simp [h]
      · have h2 : (y == a) = false := by simpa using h
        simp [h, h2]
    · simp only [ne_eq, ha, not_false_eq_true, decide_true, if_true, List.lookup]
      by_cases h : y = a
      · subst h; simp [ha]
      · have h2 : (y == a) = false := by simpa using h
        simp only [h2, ih]
theorem mdel_no {l : List (κ × β)} {x : κ} (h : ∀ p ∈ l, p.1 ≠ x) : mdel l x = l := List.filter_eq_self.2 fun p hp => by simpa using h p hp
theorem mdel_at {l : List (κ × β)} (hn : (l.map Prod.fst).Nodup) {x : κ} {u : β} : ∀ {j : Nat}, l[j]? = some (x, u) → mdel l x = l.eraseIdx j := by
  induction l with
  | nil => intro j h; simp at h
  | cons p l ih =>
    intro j h
    simp only [List.map_cons, List.nodup_cons] at hn
    cases j with
    | zero =>
      simp only [List.getElem?_cons_zero, Option.some.injEq] at h
      subst h
      have : mdel l x = l := mdel_no fun q hq hh => hn.1 (hh ▸ List.mem_map.2 ⟨q, hq, rfl⟩)
      simp only [mdel, List.filter_cons, ne_eq, not_true_eq_false, decide_false, Bool.false_eq_true, if_false, List.eraseIdx_zero, List.tail_cons]
      exact this
    | succ j =>
      simp only [List.getElem?_cons_succ] at h
      have hne : p.1 ≠ x := fun hh => hn.1 (hh ▸ List.mem_map.2 ⟨(x, u), List.mem_of_getElem? h, rfl⟩)
      have := ih hn.2 h
      simp only [mdel] at this
      simp only [mdel, List.filter_cons, hne, ne_eq, not_false_eq_true, decide_true, if_true, List.eraseIdx_cons_succ, this]
end lists

/-! The operations. -/
section ops
variable {P : Program} {k : TypeId}
/-- What a search finds. -/
theorem MapT.find {h : Heap} {b : Nat} {l : List (κ × β)} (K : KT P k ek) {es : Array MapEntry} (he : es.toList.map (fun e => (e.key, e.val)) = l.map (fun p => (ek p.1, ev' p.2))) (x : κ) (w : World) :
    ((Instr.findKey k (ek x) es.toList).run P w = .ok none w ∧ ∀ p ∈ l, p.1 ≠ x) ∨
    ∃ j e v, (Instr.findKey k (ek x) es.toList).run P w = .ok (some (j, ev' v)) w ∧ es.toList[j]? = some e ∧ e.key = ek x ∧ e.val = ev' v ∧ l[j]? = some (x, v) := by
  rcases K.find w x es.toList (entries_key he) with ⟨h1, h2⟩ | ⟨j, e, h1, h2, h3⟩
  · refine .inl ⟨h1, fun p hp hx => ?_⟩
    obtain ⟨e, hm, h3, _⟩ := entries_mem he hp
    exact h2 e hm (by rw [h3, hx])
  · obtain ⟨p, hp, h4, h5⟩ := entries_at he h2
    obtain ⟨a, v⟩ := p
    have : a = x := K.inj (by rw [← h4, h3])
    subst this
    exact .inr ⟨j, e, v, by rw [h1]; simp only at h5; rw [h5], h2, h3, h5, hp⟩
theorem MapT.lookv [DecidableEq κ] {h : Heap} {b : Nat} {l : List (κ × β)} (hm : MapT ek ev' h b l) {t e : TypeId} {z : β} (K : KT P k ek) (hu : P.underlying t = some (.map k e)) (hz : zeroB P e = some (ev' z)) (x : κ) (ok : Bool) :
    GL.lookv P t (.map (some b)) (ek x) ok h = some (if ok then .tuple #[ev' ((l.lookup x).getD z), .bool (l.lookup x).isSome] else ev' ((l.lookup x).getD z)) := by
  have hn := hm.nodup
  obtain ⟨es, c, hb, he, hs⟩ := hm
  refine lookv_eq hb fun w hw => ?_
  rcases MapT.find (h := h) (b := b) K he x w with ⟨h1, h2⟩ | ⟨j, en, v, h1, h2, h3, h4, h5⟩
  · simp [Instr.lookup, run_underlying hu, run_getObj_map hw, K.check, h1, run_zero_of hz, lookup_no h2]
  · simp [Instr.lookup, run_underlying hu, run_getObj_map hw, K.check, h1, lookup_mem hn (List.mem_of_getElem? h5)]
theorem lookv_nilm {t e : TypeId} {z : Value} (hu : P.underlying t = some (.map k e)) (K : KT P k ek) (hz : zeroB P e = some z) (x : κ) (ok : Bool) (h : Heap) :
    GL.lookv P t (.map none) (ek x) ok h = some (if ok then .tuple #[z, .bool false] else z) := by
  refine lookv_nil fun w => ?_
  rcases K.find w x [] (by simp) with ⟨h1, _⟩ | ⟨j, en, _, h2, _⟩
  · simp [Instr.lookup, run_underlying hu, K.check, h1, run_zero_of hz]
  · simp at h2
theorem map_push {es : Array MapEntry} {l : List (κ × β)} (he : es.toList.map (fun e => (e.key, e.val)) = l.map (fun p => (ek p.1, ev' p.2))) (x : κ) (v : β) (c : Nat) :
    (es.push { key := ek x, val := ev' v, born := c }).toList.map (fun e => (e.key, e.val)) = (l ++ [(x, v)]).map (fun p => (ek p.1, ev' p.2)) := by simp [he]
theorem map_modify {es : Array MapEntry} {l : List (κ × β)} (he : es.toList.map (fun e => (e.key, e.val)) = l.map (fun p => (ek p.1, ev' p.2))) (x : κ) (v : β) (j : Nat) (f : MapEntry → MapEntry) (hf : ∀ e, es.toList[j]? = some e → (f e).key = ek x ∧ (f e).val = ev' v) :
    (es.modify j f).toList.map (fun e => (e.key, e.val)) = (l.set j (x, v)).map (fun p => (ek p.1, ev' p.2)) := by
  have hlen := entries_len he
  apply List.ext_getElem?
  intro i
  have h1 : (es.toList.map (fun e => (e.key, e.val)))[i]? = (l.map (fun p => (ek p.1, ev' p.2)))[i]? := by rw [he]
  simp only [List.getElem?_map, Array.getElem?_toList, Array.getElem?_modify, List.getElem?_set] at h1 ⊢
  by_cases hij : j = i
  · subst hij
    simp only [if_true]
    cases hj : es[j]? with
    | none =>
      have : ¬ j < l.length := by rw [← hlen]; simpa using hj
      simp [this]
    | some e =>
      have : j < l.length := by rw [← hlen]; exact (Array.getElem?_eq_some_iff.1 hj).1
      obtain ⟨h2, h3⟩ := hf e (by simpa using hj)
      simp [this, h2, h3]
  · simp only [hij, if_false]
    exact h1
theorem map_erase {es : Array MapEntry} {l : List (κ × β)} (he : es.toList.map (fun e => (e.key, e.val)) = l.map (fun p => (ek p.1, ev' p.2))) (j : Nat) :
    (es.eraseIdxIfInBounds j).toList.map (fun e => (e.key, e.val)) = (l.eraseIdx j).map (fun p => (ek p.1, ev' p.2)) := by
  have hlen := entries_len he
  unfold Array.eraseIdxIfInBounds
  split
  · rw [Array.toList_eraseIdx]
    have e1 : ∀ {α γ : Type} (f : α → γ) (l : List α) (i : Nat), (l.eraseIdx i).map f = (l.map f).eraseIdx i := by
      intro α γ f l
      induction l with
      | nil => intro i; simp
      | cons a l ih =>
        intro i
        cases i with
        | zero => simp
        | succ i => simp [ih]
    rw [e1, e1, he]
  · rename_i hj
    rw [he, List.eraseIdx_of_length_le (by omega)]
/-- m[x] = v. -/
theorem e_mapUpdate [DecidableEq κ] {t e ty : TypeId} {en : Env} {h : Heap} {b : Nat} {l : List (κ × β)} {om ox ov : Operand} {x : κ} {v : β} (K : KT P k ek) (hu : P.underlying t = some (.map k e)) (hm : MapT ek ev' h b l)
    (h1 : ev en om = .map (some b)) (h2 : ev en ox = ek x) (h3 : ev en ov = ev' v) :
    EOp P (.mapUpdate t om ox ov) ty en h fun _ h' => (∃ o, Wr h h' b o) ∧ MapT ek ev' h' b (mset l x v) := by
  have hn := hm.nodup
  obtain ⟨es, c, hb, he, hs⟩ := hm
  refine ⟨rfl, rfl, fun w hw => ?_⟩
  subst hw
  have hlt := (Array.getElem?_eq_some_iff.1 hb).1
  rcases MapT.find (h := w.heap) (b := b) K he x w with ⟨q1, q2⟩ | ⟨j, e0, v0, q1, q2, q3, q4, q5⟩
  · have hr : (execOp (ev en) { (default : Oper) with op := .mapUpdate t om ox ov, type := ty }).run P w = .ok .skip { w with heap := w.heap.setIfInBounds b (.map (es.push { key := ek x, val := ev' v, born := c }) (c + 1)) } := by
      simp [execOp, h1, h2, h3, Instr.mapUpdate, run_underlying hu, run_getObj_map hb, K.check, q1, run_setObj_map _ hb]
    rw [hr]
    refine ⟨⟨rfl, rfl, rfl, Nat.le_refl _⟩, ⟨_, Wr.set hlt⟩, _, _, (Wr.set hlt).at_, ?_, stamped_push hs fun y hy hk => ?_⟩
    · rw [mset_no q2]; exact map_push he x v c
    · obtain ⟨i, hi⟩ := List.getElem?_of_mem hy
      obtain ⟨p, hp, h4, _⟩ := entries_at he hi
      exact q2 p (List.mem_of_getElem? hp) (K.inj (by rw [← h4, hk]))
  · have hj : es[j]? = some e0 := by simpa using q2
    have hr : (execOp (ev en) { (default : Oper) with op := .mapUpdate t om ox ov, type := ty }).run P w = .ok .skip { w with heap := w.heap.setIfInBounds b (.map (es.modify j fun e => { e with key := ek x, val := ev' v }) c) } := by
      simp [execOp, h1, h2, h3, Instr.mapUpdate, run_underlying hu, run_getObj_map hb, K.check, q1, run_setObj_map _ hb, hj, q3, K.stays]
    rw [hr]
    have hkey : ∀ e', es[j]? = some e' → ({ e' with key := ek x, val := ev' v } : MapEntry).key = e'.key := fun e' he' => by rw [hj] at he'; cases he'; exact q3.symm
    refine ⟨⟨rfl, rfl, rfl, Nat.le_refl _⟩, ⟨_, Wr.set hlt⟩, _, _, (Wr.set hlt).at_, ?_, stamped_modify hs _ _ (fun _ _ => rfl) fun e' _ he' => hkey e' he'⟩
    rw [mset_at hn q5]
    exact map_modify he x v j (fun e => { e with key := ek x, val := ev' v }) fun e' _ => ⟨rfl, rfl⟩
/-- The map b, in which the entry at x bears the stamp st. -/
def EntT (ek : κ → Value) (ev' : β → Value) (h : Heap) (b : Nat) (l : List (κ × β)) (x : κ) (st : Int) : Prop :=
  ∃ (es : Array MapEntry) (clock j : Nat) (e : MapEntry), Has h b (.map es clock) ∧ es.toList.map (fun e => (e.key, e.val)) = l.map (fun p => (ek p.1, ev' p.2)) ∧ Stamped es clock ∧ es.toList[j]? = some e ∧ e.key = ek x ∧ (e.born : Int) = st ∧ ∃ v, l[j]? = some (x, v)
theorem EntT.map {h : Heap} {b : Nat} {l : List (κ × β)} {x : κ} {st : Int} (hm : EntT ek ev' h b l x st) : MapT ek ev' h b l := by
  obtain ⟨es, c, j, e, h1, h2, h3, _⟩ := hm
  exact ⟨es, c, h1, h2, h3⟩
theorem EntT.ext {h h' : Heap} {b : Nat} {l : List (κ × β)} {x : κ} {st : Int} (hm : EntT ek ev' h b l x st) (hx : Ext h h') : EntT ek ev' h' b l x st := by
  obtain ⟨es, c, j, e, h1, h2⟩ := hm
  exact ⟨es, c, j, e, h1.ext hx, h2⟩
/-- The first half of m[x] op= v. -/
theorem e_mapEntry [DecidableEq κ] {t e ty : TypeId} {en : Env} {h : Heap} {b : Nat} {l : List (κ × β)} {om ox : Operand} {x : κ} {z : β} (K : KT P k ek) (hu : P.underlying t = some (.map k e)) (hz : zeroB P e = some (ev' z)) (hm : MapT ek ev' h b l)
    (h1 : ev en om = .map (some b)) (h2 : ev en ox = ek x) :
    EOp P (.mapEntry t om ox) ty en h fun u h' => ∃ st : Int, u = .tuple #[ev' ((l.lookup x).getD z), .int .i64 st] ∧ (∃ o, Wr h h' b o) ∧ EntT ek ev' h' b (mset l x ((l.lookup x).getD z)) x st := by
  have hn := hm.nodup
  obtain ⟨es, c, hb, he, hs⟩ := hm
  refine ⟨rfl, rfl, fun w hw => ?_⟩
  subst hw
  have hlt := (Array.getElem?_eq_some_iff.1 hb).1
  rcases MapT.find (h := w.heap) (b := b) K he x w with ⟨q1, q2⟩ | ⟨j, e0, v0, q1, q2, q3, q4, q5⟩
  · have hr : (execOp (ev en) { (default : Oper) with op := .mapEntry t om ox, type := ty }).run P w = .ok (.value (.tuple #[ev' z, .int .i64 c])) { w with heap := w.heap.setIfInBounds b (.map (es.push { key := ek x, val := ev' z, born := c }) (c + 1)) } := by
      simp [execOp, h1, h2, Instr.mapEntry, run_underlying hu, run_getObj_map hb, K.check, q1, run_setObj_map _ hb, run_zero_of hz, goInt]
    rw [hr]
    have hl : (l.lookup x).getD z = z := by rw [lookup_no q2]; rfl
    have hlen := entries_len he
    refine ⟨⟨rfl, rfl, rfl, Nat.le_refl _⟩, c, by rw [hl], ⟨_, Wr.set hlt⟩, _, _, es.size, { key := ek x, val := ev' z, born := c }, (Wr.set hlt).at_, ?_, stamped_push hs fun y hy hk => ?_, by simp, rfl, rfl, z, ?_⟩
    · rw [hl, mset_no q2]; exact map_push he x z c
    · obtain ⟨i, hi⟩ := List.getElem?_of_mem hy
      obtain ⟨p, hp, h4, _⟩ := entries_at he hi
      exact q2 p (List.mem_of_getElem? hp) (K.inj (by rw [← h4, hk]))
    · rw [hl, mset_no q2, hlen]; simp
  · have hj : es[j]? = some e0 := by simpa using q2
    have hl : (l.lookup x).getD z = v0 := by rw [lookup_mem hn (List.mem_of_getElem? q5)]; rfl
    have hr : (execOp (ev en) { (default : Oper) with op := .mapEntry t om ox, type := ty }).run P w = .ok (.value (.tuple #[ev' v0, .int .i64 e0.born])) { w with heap := w.heap.setIfInBounds b (.map (es.modify j fun e => { e with key := ek x }) c) } := by
      simp [execOp, h1, h2, Instr.mapEntry, run_underlying hu, run_getObj_map hb, K.check, q1, run_setObj_map _ hb, hj, q3, K.stays, goInt]
    rw [hr]
    have hkey : ∀ e', es[j]? = some e' → ({ e' with key := ek x } : MapEntry).key = e'.key := fun e' he' => by rw [hj] at he'; cases he'; exact q3.symm
    refine ⟨⟨rfl, rfl, rfl, Nat.le_refl _⟩, e0.born, by rw [hl], ⟨_, Wr.set hlt⟩, _, _, j, { e0 with key := ek x }, (Wr.set hlt).at_, ?_, stamped_modify hs _ _ (fun _ _ => rfl) (fun e' _ he' => hkey e' he'), ?_, rfl, rfl, v0, ?_⟩
    · rw [hl, mset_at hn q5]
      refine map_modify he x v0 j (fun e => { e with key := ek x }) fun e' he' => ⟨rfl, ?_⟩
      rw [q2] at he'; cases he'; exact q4
    · simp [hj]
    · rw [hl, mset_at hn q5]
      have : j < l.length := (List.getElem?_eq_some_iff.1 q5).1
      simp [this]
/-- The second half. -/
theorem e_entryStore [DecidableEq κ] {t ty : TypeId} {en : Env} {h : Heap} {b : Nat} {l : List (κ × β)} {om os ov : Operand} {x : κ} {st : Int} {v : β} (hm : EntT ek ev' h b l x st)
    (h1 : ev en om = .map (some b)) (h2 : ev en os = .int .i64 st) (h3 : ev en ov = ev' v) :
    EOp P (.entryStore t om os ov) ty en h fun _ h' => (∃ o, Wr h h' b o) ∧ MapT ek ev' h' b (mset l x v) := by
  have hn := hm.map.nodup
  obtain ⟨es, c, j, e0, hb, he, hs, q2, q3, rfl, v0, q5⟩ := hm
  refine ⟨rfl, rfl, fun w hw => ?_⟩
  subst hw
  have hlt := (Array.getElem?_eq_some_iff.1 hb).1
  have hj : es[j]? = some e0 := by simpa using q2
  have hjs : j < es.size := (Array.getElem?_eq_some_iff.1 hj).1
  have hf : es.findIdx? (fun e => (e.born : Int) == (e0.born : Int)) = some j := by
    rw [Array.findIdx?_eq_some_iff_getElem]
    refine ⟨hjs, ?_, fun i hi => ?_⟩
    · have := (Array.getElem?_eq_some_iff.1 hj).2
      simp [this]
    · have hnd := ((stamped_iff es c).1 hs).2.1
      have hne : es[i].born ≠ es[j].born := by
        intro hh
        have := List.pairwise_iff_getElem.1 hnd i j (by simp; omega) (by simpa using hjs) hi
        exact this (by simpa using hh)
      have h6 := (Array.getElem?_eq_some_iff.1 hj).2
      rw [h6] at hne
      simp only [beq_iff_eq]
      omega
  have hr : (execOp (ev en) { (default : Oper) with op := .entryStore t om os ov, type := ty }).run P w = .ok .skip { w with heap := w.heap.setIfInBounds b (.map (es.modify j fun e => { e with val := ev' v }) c) } := by
    simp [execOp, h1, h2, h3, Instr.entryStore, run_getObj_map hb, asInt, asIntOf, hf, run_setObj_map _ hb]
  rw [hr]
  refine ⟨⟨rfl, rfl, rfl, Nat.le_refl _⟩, ⟨_, Wr.set hlt⟩, _, _, (Wr.set hlt).at_, ?_, stamped_modify hs _ _ (fun _ _ => rfl) (fun _ _ _ => rfl)⟩
  rw [mset_at hn q5]
  refine map_modify he x v j (fun e => { e with val := ev' v }) fun e' he' => ⟨?_, rfl⟩
  rw [q2] at he'; cases he'; exact q3
/-- delete(m, x). -/
theorem e_delete [DecidableEq κ] {t e ty : TypeId} {ts : Array TypeId} {en : Env} {h : Heap} {b : Nat} {l : List (κ × β)} {om ox : Operand} {x : κ} (K : KT P k ek) (hu : P.underlying t = some (.map k e)) (hts : ts[0]? = some t) (hm : MapT ek ev' h b l)
    (h1 : ev en om = .map (some b)) (h2 : ev en ox = ek x) :
    EOp P (.call ⟨.builtin .delete, #[om, ox], ts⟩) ty en h fun _ h' => (∃ o, Wr h h' b o) ∧ MapT ek ev' h' b (mdel l x) := by
  have hn := hm.nodup
  obtain ⟨es, c, hb, he, hs⟩ := hm
  refine ⟨rfl, rfl, fun w hw => ?_⟩
  subst hw
  have hlt := (Array.getElem?_eq_some_iff.1 hb).1
  have hex : (execOp (ev en) { (default : Oper) with op := .call ⟨.builtin .delete, #[om, ox], ts⟩, type := ty }).run P w = ((Builtin.delete_ ts ty #[.map (some b), ek x]).run P w).andThen fun v w' => .ok (.value v) w' := by
    simp [execOp, resolve, invoke, builtin, h1, h2]
  rw [hex]
  rcases MapT.find (h := w.heap) (b := b) K he x w with ⟨q1, q2⟩ | ⟨j, e0, v0, q1, q2, q3, q4, q5⟩
  · have hr : (Builtin.delete_ ts ty #[.map (some b), ek x]).run P w = .ok (.tuple #[]) { w with heap := w.heap.setIfInBounds b (.map es c) } := by
      simp [Builtin.delete_, hts, run_underlying hu, run_getObj_map hb, K.check, q1, run_setObj_map _ hb]
    rw [hr]
    refine ⟨⟨rfl, rfl, rfl, Nat.le_refl _⟩, ⟨_, Wr.set hlt⟩, _, _, (Wr.set hlt).at_, ?_, hs⟩
    rw [mdel_no q2]; exact he
  · have hr : (Builtin.delete_ ts ty #[.map (some b), ek x]).run P w = .ok (.tuple #[]) { w with heap := w.heap.setIfInBounds b (.map (es.eraseIdxIfInBounds j) c) } := by
      simp [Builtin.delete_, hts, run_underlying hu, run_getObj_map hb, K.check, q1, run_setObj_map _ hb]
    rw [hr]
    refine ⟨⟨rfl, rfl, rfl, Nat.le_refl _⟩, ⟨_, Wr.set hlt⟩, _, _, (Wr.set hlt).at_, ?_, stamped_erase hs _⟩
    rw [mdel_at hn q5]; exact map_erase he j
/-- clear(m). -/
theorem e_clear {t e ty : TypeId} {ts : Array TypeId} {en : Env} {h : Heap} {b : Nat} {l : List (κ × β)} {om : Operand} (hu : P.underlying t = some (.map k e)) (hts : ts[0]? = some t) (hm : MapT ek ev' h b l)
    (h1 : ev en om = .map (some b)) :
    EOp P (.call ⟨.builtin .clear, #[om], ts⟩) ty en h fun _ h' => (∃ o, Wr h h' b o) ∧ MapT ek ev' h' b [] := by
  obtain ⟨es, c, hb, he, hs⟩ := hm
  refine ⟨rfl, rfl, fun w hw => ?_⟩
  subst hw
  have hlt := (Array.getElem?_eq_some_iff.1 hb).1
  have hr : (execOp (ev en) { (default : Oper) with op := .call ⟨.builtin .clear, #[om], ts⟩, type := ty }).run P w = .ok (.value (.tuple #[])) { w with heap := w.heap.setIfInBounds b (.map #[] c) } := by
    simp [execOp, resolve, invoke, builtin, h1, Builtin.clear_, hts, run_underlying hu, run_getObj_map hb, run_setObj_map _ hb]
  rw [hr]
  exact ⟨⟨rfl, rfl, rfl, Nat.le_refl _⟩, ⟨_, Wr.set hlt⟩, _, _, (Wr.set hlt).at_, rfl, stamped_empty _⟩
theorem MapT.len {h : Heap} {b : Nat} {l : List (κ × β)} (hm : MapT ek ev' h b l) {t e : TypeId} (hu : P.underlying t = some (.map k e)) : lenv P t (.map (some b)) h = some (.int .i64 l.length) := by
  obtain ⟨es, c, hb, he, hs⟩ := hm
  have hb' : h[b]? = some (.map es c) := hb
  simp only [lenv, hu, hb', entries_len he]

/-! Ranges over a map. -/
/-- Block it ranges over the map b: the entries l are there, left are still to come. -/
def IterT (ek : κ → Value) (ev' : β → Value) (h : Heap) (it b : Nat) (l left : List (κ × β)) : Prop :=
  ∃ (es : Array MapEntry) (clock since : Nat) (seen : Array Nat) (c0 : Nat), Has h b (.map es clock) ∧ es.toList.map (fun e => (e.key, e.val)) = l.map (fun p => (ek p.1, ev' p.2)) ∧ Stamped es clock ∧
    Has h it (.mapIter (some b) since seen c0) ∧ (∀ x ∈ es.toList, x.born < since) ∧ since ≤ c0 ∧ since ≤ clock ∧ (leftOf es seen).toList.map (fun e => (e.key, e.val)) = left.map (fun p => (ek p.1, ev' p.2))
/-- The same just behind a step that handed out p. -/
def StepT (ek : κ → Value) (ev' : β → Value) (h : Heap) (it b : Nat) (l left : List (κ × β)) (p : κ × β) : Prop :=
  ∃ (es : Array MapEntry) (clock since : Nat) (seen : Array Nat) (e : MapEntry), Has h b (.map es clock) ∧ es.toList.map (fun e => (e.key, e.val)) = l.map (fun p => (ek p.1, ev' p.2)) ∧ Stamped es clock ∧
    Has h it (.mapIter (some b) since (seen.push e.born) clock) ∧ (∀ x ∈ es.toList, x.born < since) ∧ since ≤ clock ∧ e ∈ es.toList ∧ e.key = ek p.1 ∧ e.val = ev' p.2 ∧ (leftOf es (seen.push e.born)).toList.map (fun e => (e.key, e.val)) = left.map (fun p => (ek p.1, ev' p.2))
theorem StepT.iter {h : Heap} {it b : Nat} {l left : List (κ × β)} {p : κ × β} (hs : StepT ek ev' h it b l left p) : IterT ek ev' h it b l left := by
  obtain ⟨es, c, s, seen, e, h1, h2, h3, h4, h5, h6, _, _, _, h7⟩ := hs
  exact ⟨es, c, s, _, c, h1, h2, h3, h4, h5, h6, h6, h7⟩
theorem IterT.map {h : Heap} {it b : Nat} {l left : List (κ × β)} (hs : IterT ek ev' h it b l left) : MapT ek ev' h b l := by
  obtain ⟨es, c, s, seen, e, h1, h2, h3, _⟩ := hs
  exact ⟨es, c, h1, h2, h3⟩
theorem IterT.ext {h h' : Heap} {it b : Nat} {l left : List (κ × β)} (hs : IterT ek ev' h it b l left) (hx : Ext h h') : IterT ek ev' h' it b l left := by
  obtain ⟨es, c, s, seen, e, h1, h2, h3, h4, h5⟩ := hs
  exact ⟨es, c, s, seen, e, h1.ext hx, h2, h3, h4.ext hx, h5⟩
theorem IterT.wr {h h' : Heap} {it b d : Nat} {o : Obj} {l left : List (κ × β)} (hs : IterT ek ev' h it b l left) (hw : Wr h h' d o) (h1 : b ≠ d) (h2 : it ≠ d) : IterT ek ev' h' it b l left := by
  obtain ⟨es, c, s, seen, e, q1, q2, q3, q4, q5⟩ := hs
  exact ⟨es, c, s, seen, e, q1.wr hw h1, q2, q3, q4.wr hw h2, q5⟩
theorem IterT.gr {h h' : Heap} {it b : Nat} {d : Option Nat} {l left : List (κ × β)} (hs : IterT ek ev' h it b l left) (hw : Gr h h' d) (h1 : d ≠ some b) (h2 : d ≠ some it) : IterT ek ev' h' it b l left := by
  obtain ⟨es, c, s, seen, e, q1, q2, q3, q4, q5⟩ := hs
  exact ⟨es, c, s, seen, e, q1.gr hw h1, q2, q3, q4.gr hw h2, q5⟩
theorem e_range {t e ty : TypeId} {en : Env} {h : Heap} {b : Nat} {l : List (κ × β)} {om : Operand} (hu : P.underlying t = some (.map k e)) (hm : MapT ek ev' h b l) (h1 : ev en om = .map (some b)) :
    EOp P (.range t om) ty en h fun u h' => ∃ it, u = .pointer (some ⟨it, 0, none⟩) ∧ it = h.size ∧ Ext h h' ∧ h'.size = h.size + 1 ∧ IterT ek ev' h' it b l l := by
  obtain ⟨es, c, hb, he, hs⟩ := hm
  refine ⟨rfl, rfl, fun w hw => ?_⟩
  subst hw
  have hr : (execOp (ev en) { (default : Oper) with op := .range t om, type := ty }).run P w = .ok (.value (.pointer (some ⟨w.heap.size, 0, none⟩))) { w with heap := w.heap.push (.mapIter (some b) c #[] c) } := by
    simp only [execOp, h1, Sem.run_bind, run_range_map w t k e b es c hu hb, Result.andThen_ok, Sem.run_pure]
    rfl
  rw [hr]
  refine ⟨⟨rfl, rfl, rfl, Nat.le_refl _⟩, _, rfl, rfl, Ext.push _ _, by simp, es, c, c, #[], c, hb.ext (Ext.push _ _), he, hs, by simp [Has], ((stamped_iff es c).1 hs).1, Nat.le_refl _, Nat.le_refl _, ?_⟩
  have : leftOf es #[] = es := by unfold leftOf; simp
  rw [this]; exact he
theorem split_at {γ : Type} {L : List γ} {e : γ} (h : e ∈ L) : ∃ a b, L = a ++ e :: b := List.append_of_mem h
/-- What a step of a range gives. -/
theorem e_next {ty : TypeId} {en : Env} {h : Heap} {it b : Nat} {l left : List (κ × β)} {oi : Operand} (K : KT P k ek) (hI : IterT ek ev' h it b l left) (h1 : ev en oi = .pointer (some ⟨it, 0, none⟩)) :
    EOp P (.next oi false) ty en h fun u h' => (left = [] ∧ u = .tuple #[.bool false] ∧ h' = h) ∨
      ∃ p left', left.Perm (p :: left') ∧ u = .tuple #[.bool true, ek p.1, ev' p.2] ∧ (∃ o, Wr h h' it o) ∧ StepT ek ev' h' it b l left' p := by
  obtain ⟨es, c, since, seen, c0, hb, he, hs, hit, hold, hsc, hsk, hl⟩ := hI
  refine ⟨rfl, rfl, fun w hw => ?_⟩
  subst hw
  have hne : b ≠ it := fun hh => by
    subst hh
    have h2 : some (Obj.map es c) = some (.mapIter (some b) since seen c0) := (hb.symm.trans hit)
    cases h2
  rcases run_next_at (P := P) w ty it b since c0 seen es c hit hb hold hsc with ⟨h0, hrun⟩ | ⟨e, hel, w1, hal, hrun⟩
  · have hr : (execOp (ev en) { (default : Oper) with op := .next oi false, type := ty }).run P w = .ok (.value (.tuple #[.bool false])) w := by
      simp [execOp, h1, hrun]
    rw [hr]
    refine ⟨.refl _, .inl ⟨?_, rfl, rfl⟩⟩
    have : (leftOf es seen).toList = [] := by simpa using Array.eq_empty_of_size_eq_zero h0
    rw [this] at hl
    simpa using hl.symm
  · have hr : (execOp (ev en) { (default : Oper) with op := .next oi false, type := ty }).run P w = .ok (.value (.tuple #[.bool true, e.key, e.val])) (setBlock w1 it (.mapIter (some b) since (seen.push e.born) c)) := by
      simp [execOp, h1, hrun]
    rw [hr]
    have hsame : Same w (setBlock w1 it (.mapIter (some b) since (seen.push e.born) c)) := by rcases hal with rfl | rfl <;> first | exact ⟨rfl, rfl, rfl, Nat.le_refl _⟩ | exact ⟨rfl, rfl, rfl, Nat.le_succ _⟩
    have hheap : (setBlock w1 it (.mapIter (some b) since (seen.push e.born) c)).heap = w.heap.setIfInBounds it (.mapIter (some b) since (seen.push e.born) c) := by rcases hal with rfl | rfl <;> rfl
    refine ⟨hsame, .inr ?_⟩
    rw [hheap]
    have hlt := (Array.getElem?_eq_some_iff.1 hit).1
    have hW : Wr w.heap (w.heap.setIfInBounds it (.mapIter (some b) since (seen.push e.born) c)) it (.mapIter (some b) since (seen.push e.born) c) := Wr.set hlt
    obtain ⟨hem, hes⟩ := mem_left hel
    -- the entries that are left behind the step
    have hnd := ((stamped_iff es c).1 hs).2.1
    have hleft' : (leftOf es (seen.push e.born)).toList = (leftOf es seen).toList.filter fun x => decide (x.born ≠ e.born) := by
      unfold leftOf
      simp only [Array.toList_filter, List.filter_filter]
      apply List.filter_congr
      intro x hx
      rw [contains_push]
      cases seen.contains x.born <;> by_cases hq : x.born = e.born <;> simp [hq]
    have hndl : ((leftOf es seen).toList.map (·.born)).Nodup := by
      unfold leftOf
      rw [Array.toList_filter]
      exact (List.filter_sublist.map _).nodup hnd
    obtain ⟨A, B, hAB⟩ := split_at hel
    have hfil : (leftOf es seen).toList.filter (fun x => decide (x.born ≠ e.born)) = A ++ B := by
      rw [hAB] at hndl ⊢
      simp only [List.map_append, List.map_cons] at hndl
      have hA : A.filter (fun x => decide (x.born ≠ e.born)) = A := List.filter_eq_self.2 fun x hx => by
        have h5 := (List.nodup_append.1 hndl).2.2 x.born (List.mem_map.2 ⟨x, hx, rfl⟩) e.born (by simp)
        simpa using h5
      have hB : B.filter (fun x => decide (x.born ≠ e.born)) = B := List.filter_eq_self.2 fun x hx => by
        have h5 := (List.nodup_cons.1 (List.nodup_append.1 hndl).2.1).1
        have h6 : x.born ≠ e.born := fun hh => h5 (by rw [← hh]; exact List.mem_map.2 ⟨x, hx, rfl⟩)
        simpa using h6
      rw [List.filter_append, List.filter_cons, hA, hB]
      simp
    -- the same of the typed list
    obtain ⟨l1, l2, hl12, hl1, hl2⟩ : ∃ l1 l2, left = l1 ++ l2 ∧ l1.map (fun p => (ek p.1, ev' p.2)) = A.map (fun e => (e.key, e.val)) ∧ l2.map (fun p => (ek p.1, ev' p.2)) = (e :: B).map (fun e => (e.key, e.val)) := by
      rw [hAB, List.map_append] at hl
      obtain ⟨l1, l2, h5, h6, h7⟩ := List.map_eq_append_iff.1 hl.symm
      exact ⟨l1, l2, h5, h6, h7⟩
    cases l2 with
    | nil => simp at hl2
    | cons p l2 =>
      simp only [List.map_cons, List.cons.injEq, Prod.mk.injEq] at hl2
      refine ⟨p, l1 ++ l2, by rw [hl12]; exact List.perm_middle, by rw [← hl2.1.1, ← hl2.1.2], ⟨_, hW⟩, es, c, since, seen, e, hb.wr hW hne, he, hs, hW.at_, hold, hsk, hem, hl2.1.1.symm, hl2.1.2.symm, ?_⟩
      rw [hleft', hfil, List.map_append, List.map_append, hl1, hl2.2]
theorem e_entry {ty : TypeId} {en : Env} {h : Heap} {it b : Nat} {l left : List (κ × β)} {p : κ × β} {oi : Operand} (hI : StepT ek ev' h it b l left p) (h1 : ev en oi = .pointer (some ⟨it, 0, none⟩)) :
    EOp P (.entry oi) ty en h fun u h' => u = .tuple #[ek p.1, ev' p.2] ∧ h' = h := by
  obtain ⟨es, c, since, seen, e, hb, he, hs, hit, hold, hsk, hem, hk, hv, hl⟩ := hI
  refine ⟨rfl, rfl, fun w hw => ?_⟩
  subst hw
  have hr : (execOp (ev en) { (default : Oper) with op := .entry oi, type := ty }).run P w = .ok (.value (.tuple #[ek p.1, ev' p.2])) w := by
    simp [execOp, h1, run_entry_at w it b since seen es c e hit hb hem ((stamped_iff es c).1 hs).2.1, hk, hv]
  rw [hr]
  exact ⟨.refl _, rfl, rfl⟩
end ops
end
end GL

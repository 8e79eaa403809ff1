/- Common: slices.SortFunc on an own slice of structs. -/
import Derived.Test.YtklhfckdifkpaaaGl29
import Derived.Shelf.SlSortCmp.NoneTotal
import Derived.Sort.OwnSorted
set_option linter.unusedSimpArgs false
set_option linter.unusedVariables false
set_option linter.unnecessarySimpa false
namespace GL
open Go Go.Proofs Go.Sort Go.Shelf
set_option maxRecDepth 8000
theorem ext_grow {w w' : World} (hs : Same w w') (hx : Ext w.heap w'.heap) : ∃ q os, w' = Sort.grow (w.drewN q) os := by
  obtain ⟨h1, h2, h3, h4⟩ := hs
  refine ⟨w'.drawn - w.drawn, w'.heap.extract w.heap.size w'.heap.size, ?_⟩
  have hh : w'.heap = w.heap ++ w'.heap.extract w.heap.size w'.heap.size := by
    have hsz := hx.size
    apply Array.ext_getElem?
    intro i
    rw [Array.getElem?_append]
    split
    · rename_i hi
      have h5 := hx i (w.heap[i]) (by simp [hi])
      rw [h5]; simp [hi]
    · rename_i hi
      rw [Array.getElem?_extract]
      by_cases h6 : i < w'.heap.size
      · rw [if_pos (by omega)]; congr 1; omega
      · rw [if_neg (by omega)]; simp; omega
  cases w with
  | mk a b c d e =>
    cases w' with
    | mk a' b' c' d' e' =>
      simp only at h1 h2 h3 h4 hh
      subst h1 h2 h3
      simp only [Sort.grow, World.drewN, World.mk.injEq, true_and, and_true]
      exact ⟨hh, by omega⟩
theorem flatK_eq {α : Type} [Inhabited α] {enc : α → List Value} {k : Nat} (hk : ∀ x, (enc x).length = k) (l : List α) : (flatK enc k l.toArray).toList = l.flatMap enc := by
  have hlen := flat_len hk l
  apply List.ext_getElem?
  intro t
  by_cases ht : t < l.length * k
  · have hk0 : 0 < k := Nat.pos_of_ne_zero fun h => by subst h; simp at ht
    have hi : t / k < l.length := (Nat.div_lt_iff_lt_mul hk0).2 ht
    obtain ⟨x, hx⟩ := atG hi
    have h1 := flat_at hk hx
    have h2 : (l.flatMap enc)[t]? = (enc x)[t % k]? := by
      rw [← h1, List.getElem?_take_of_lt (Nat.mod_lt _ hk0), List.getElem?_drop]
      congr 1
      rw [Nat.mul_comm]
      exact (Nat.div_add_mod t k).symm
    have h3 : t % k < (enc x).length := by rw [hk]; exact Nat.mod_lt _ hk0
    have h4 : (flatK enc k l.toArray)[t]! = (enc x)[t % k]! := by
      rw [get_flatK enc k l.toArray t (by simpa using ht)]
      congr 2
      simp [getElem!_def, hx]
    have h5 : t < (flatK enc k l.toArray).size := by simpa using ht
    rw [h2, Array.getElem?_toList, Array.getElem?_eq_getElem h5, List.getElem?_eq_getElem h3]
    congr 1
    rw [getElem!_pos (flatK enc k l.toArray) t h5, getElem!_pos (enc x) (t % k) h3] at h4
    exact h4
  · rw [List.getElem?_eq_none (by simp; omega), List.getElem?_eq_none (by omega)]
theorem take_put (cur : Array Value) (F : Array Value) (h : F.size ≤ cur.size) : (putCells id 0 F cur).toList.take F.size = F.toList := by
  apply List.ext_getElem?
  intro j
  by_cases hj : j < F.size
  · rw [List.getElem?_take_of_lt hj, Array.getElem?_toList, Array.getElem?_toList]
    simp [putCells, hj, show j < cur.size by omega]
  · rw [List.getElem?_take_eq_none (by omega), List.getElem?_eq_none (by simp; omega)]
theorem ltOf_iff {α : Type} {cf : α → α → Int} {x y : α} : ltOf cf x y = true ↔ cf x y < 0 := by simp [ltOf]
/-- slices.SortFunc: a permutation, ascending. -/
theorem hc_sort {P : Program} {ρ : Ren} {α : Type} [Inhabited α] (L : SlLaysF0.n6 P ρ) {k : Nat} (aE : ∀ w, (isAgg (ρ.t 24)).run P w = .ok true w) (zE : ∀ w, (Go.sizeOf (ρ.t 24)).run P w = .ok k w) {enc : α → List Value} (hk : ∀ x, (enc x).length = k) (h1 : ∀ x, ∀ v ∈ enc x, v.oneCell' = true)
    {cf : α → α → Int} (hO : SWO (ltOf cf)) {g : Nat} (eg : ∀ args w, (callFunc g args).run P w = .ok (.enter g args) w) (hcmp : ∀ x y h, HCalls P g #[.agg (enc x).toArray, .agg (enc y).toArray] h (Grow (.int .i64 (cf x y)) h))
    {h : Heap} {base : Nat} {el : TypeId} {n : Nat} {v : Value} {l : List α} (ho : Own h base el k v n (l.flatMap enc)) (hn : n = l.length) (hn2 : n ≤ 1099511627776) (hk0 : 0 < k) :
    HCalls P (ρ.f 6) #[v, .func (.func g) #[] #[]] h fun _ h' => ∃ l' : List α, l'.Perm l ∧ l'.Pairwise (fun x y => ltOf cf y x = false) ∧ Own h' base el k v n (l'.flatMap enc) ∧ Gr h h' v.ownBlock := by
  refine hcalls_of fun w hw => ?_
  subst hw
  rcases ho.2 with ⟨rfl, h0⟩ | ⟨b, cap, cur, rfl, hb, hg, hc, hm, hs, ht⟩
  · refine (AnyF.slices_SortFunc_none { L with } none 0 (.func (.func g) #[] #[]) w).mono ?_
    rintro e w' ⟨rfl, rfl⟩
    have hl0 : l = [] := List.length_eq_zero_iff.1 (hn.symm.trans h0)
    subst hl0
    exact ⟨_, rfl, .refl _, [], .refl _, .nil, ho, Gr.refl _ _⟩
  · subst hn
    have hlt := (Array.getElem?_eq_some_iff.1 hg).1
    have hH : HoldsK enc k w b 0 l.toArray := by
      intro j hj
      have hj' : j < l.length * k := by simpa using hj
      refine ⟨?_, ?_⟩
      · have h2 : (cur.toList.take (l.length * k))[j]? = (flatK enc k l.toArray).toList[j]? := by rw [ht, flatK_eq hk]
        rw [List.getElem?_take_of_lt hj', Array.getElem?_toList, Array.getElem?_toList] at h2
        have h3 : w.heap[b]? = some (.cells cur el) := hg
        simp only [World.cell?, h3, Nat.zero_add, Option.isSome_none, Bool.false_eq_true, if_false, id]
        rw [h2, Array.getElem?_eq_getElem hj, getElem!_pos (flatK enc k l.toArray) j hj]
      · have h3 : w.heap[b]? = some (.cells cur el) := hg
        simp [World.frozen?, h3]
    have hC : CmpLays P g #[] enc k cf b 0 l.toArray.size w := by
      intro m os dk hdk x y
      have h4 := hcmp x y (sortWorldK enc k w b 0 m dk os).heap (sortWorldK enc k w b 0 m dk os) rfl
      refine (callsIn_wide.1 h4).mono ?_
      rintro e w' ⟨u, rfl, hsm, rfl, hx⟩
      exact ⟨rfl, ext_grow hsm hx⟩
    have hcall := AnyQ.slices_SortFunc L k aE zE enc hk h1 cf hO g #[] b 0 cap l.toArray w eg hC hH hlt (by simp; omega)
    simp only [List.size_toArray] at hcall
    refine hcall.mono ?_
    rintro e w' ⟨rfl, d', m, os, hp, hsd, rfl⟩
    obtain ⟨hps, _, hpp⟩ := hp
    have hsz : d'.size = l.length := by rw [hps]; simp
    have e1 : d'.extract 0 l.length = d' := by rw [← hsz]; simp
    have e2 : l.toArray.extract 0 l.length = l.toArray := by
      have : l.length = l.toArray.size := by simp
      rw [this, Array.extract_size]
    rw [e1, e2] at hpp
    have hF : (flatK enc k d').toList = d'.toList.flatMap enc := by
      have := flatK_eq hk d'.toList
      rwa [Array.toArray_toList] at this
    have hheap : (sortWorldK enc k w b 0 m d' os).heap[b]? = some (.cells (putCells id 0 (flatK enc k d') cur) el) := by
      have hg' : w.heap[b]? = some (.cells cur el) := hg
      show (Sort.grow (putRow id (Sort.ahead w m) b 0 (flatK enc k d')) os).heap[b]? = _
      show ((putRow id (Sort.ahead w m) b 0 (flatK enc k d')).heap ++ os)[b]? = _
      rw [Array.getElem?_append, if_pos (by simp [putRow, mapBlock, Sort.ahead, hlt])]
      simp [putRow, mapBlock, Sort.ahead, Array.getElem?_modify, hg', onCells]
    have hother : ∀ c, c < w.heap.size → c ≠ b → (sortWorldK enc k w b 0 m d' os).heap[c]? = w.heap[c]? := by
      intro c hc hne
      show ((putRow id (Sort.ahead w m) b 0 (flatK enc k d')).heap ++ os)[c]? = _
      rw [Array.getElem?_append, if_pos (by simpa [putRow, mapBlock, Sort.ahead] using hc)]
      have hne' : b ≠ c := fun hh => hne hh.symm
      simp [putRow, mapBlock, Sort.ahead, Array.getElem?_modify, hne']
    refine ⟨_, rfl, ⟨rfl, rfl, rfl, Nat.le_add_right _ _⟩, d'.toList, hpp, ?_, ?_, ?_, ?_⟩
    · rw [List.pairwise_iff_getElem]
      intro i j hi hj hij
      have h5 := hsd i j (Nat.zero_le _) hij (by simpa [hsz] using hj)
      have hi' : i < d'.size := by simpa using hi
      have hj' : j < d'.size := by simpa using hj
      rw [getElem!_pos d' i hi', getElem!_pos d' j hj'] at h5
      simpa using h5
    · refine ⟨by rw [flat_len hk, Array.length_toList, hsz], .inr ⟨b, cap, _, rfl, hb, hheap, hc, hm, by simp [putCells, hs], ?_⟩⟩
      have hcs : (flatK enc k d').size ≤ cur.size := by
        rw [size_flatK, hsz, hs]
        exact Nat.mul_le_mul_right _ hc
      have := take_put cur (flatK enc k d') hcs
      rw [size_flatK, hsz] at this
      rw [this, hF]
    · show w.heap.size ≤ ((putRow id (Sort.ahead w m) b 0 (flatK enc k d')).heap ++ os).size
      simp [putRow, mapBlock, Sort.ahead]
    · intro c hc hne
      exact hother c hc (fun hh => hne (by rw [hh]; rfl))
end GL

/- A logic of heaps. Part 26: what arguments are in memory, whatever their type: numbers, strings, structs, slices in one another. -/
import Derived.Test.YtklhfckdifkpaaaGl18
import Derived.Test.YtklhfckdifkpaaaGl21
set_option linter.unusedSimpArgs false
set_option linter.unusedVariables false
set_option linter.unnecessarySimpa false
namespace GL
open Go Go.ChangeShapes Go.WideShapes Go.ChangeAt Go.RowKit
section
variable {H : Type} {enc : TypeId × Value → H} {P : Program} {W : World}
/-- What is read at type t is as Q says. -/
def VW (enc : TypeId × Value → H) (P : Program) (W : World) (t : TypeId) (Q : List Value → Prop) : Prop :=
  ∀ fuel cs x, DataW.trod enc P W 0 (fun _ => true) true fuel t cs = some x → Q cs
theorem VW.mono {t : TypeId} {Q Q' : List Value → Prop} (h : VW enc P W t Q) (hq : ∀ cs, Q cs → Q' cs) : VW enc P W t Q' := fun f cs x hx => hq _ (h f cs x hx)
theorem vw_int {t : TypeId} {k : IntKind} (hu : P.underlying t = some (.int k)) : VW enc P W t (fun cs => ∃ n, cs = [.int k n] ∧ k.min ≤ n ∧ n ≤ k.max) := fun fuel cs x h => by
  obtain ⟨n, rfl, _, hn⟩ := DataW.trod_int hu h
  exact ⟨n, rfl, by simpa [Lit.wf] using hn⟩
theorem vw_bool {t : TypeId} (hu : P.underlying t = some .bool) : VW enc P W t (fun cs => ∃ b, cs = [.bool b]) := fun fuel cs x h => by
  obtain ⟨n, rfl, _⟩ := DataW.trod_bool hu h
  exact ⟨n, rfl⟩
theorem vw_str {t : TypeId} (hu : P.underlying t = some .string) : VW enc P W t (fun cs => ∃ s : ByteArray, cs = [.string s] ∧ s.size ≤ 9223372036854775807) := fun fuel cs x h => by
  obtain ⟨n, rfl, _, hn⟩ := DataW.trod_string hu h
  exact ⟨n, rfl, by simpa [maxLen] using hn⟩
theorem vw_struct {t : TypeId} {fs : Array Field} {Q : Nat → List Value → Prop} (hu : P.underlying t = some (.struct fs)) (hf : ∀ (i : Nat) (f : Field), fs[i]? = some f → VW enc P W f.type (Q i)) :
    VW enc P W t (fun cs => cs.length = P.cellsOf t ∧ ∀ (i : Nat) (f : Field), fs[i]? = some f → Q i ((cs.drop f.offset).take (P.cellsOf f.type))) := fun fuel cs x h => by
  obtain ⟨xs, n, _, _, hl, hx, hd⟩ := DataW.trod_struct hu h
  refine ⟨hl, fun i f hi => ?_⟩
  have h1 := hd i f hi
  have hlt : i < xs.length := by rw [hx]; exact (Array.getElem?_eq_some_iff.1 hi).1
  rw [List.getElem?_eq_getElem hlt] at h1
  exact hf i f hi _ _ _ h1
theorem VW.fld {Q : List Value → Prop} {cs : List Value} {off n m : Nat} (h : Q ((cs.drop off).take n)) (hn : n = m) : Q ((cs.drop off).take m) := hn ▸ h
theorem readN_of_mapM {h : Heap} {b off : Nat} {w : World} (hw : w.heap = h) : ∀ {n k : Nat} {l : List Value}, ((List.range' k n).mapM fun i => w.cell? (Addr.add ⟨b, off, none⟩ i)) = some l → readN h b (off + k) n = some l
  | 0, k, l, hm => by simpa [readN] using hm
  | n + 1, k, l, hm => by
    rw [List.range'_succ, List.mapM_cons] at hm
    simp only [Option.pure_def, Option.bind_eq_bind, Option.bind_eq_some_iff, Option.some.injEq] at hm
    obtain ⟨v, hv, l', hl, rfl⟩ := hm
    rw [addr_add, cell_eq, hw] at hv
    have := readN_of_mapM hw hl
    simp only [readN, hv]
    rw [show off + k + 1 = off + (k + 1) by omega, this]
/-- A slice: its rows, one an element. -/
theorem vw_sl {α : Type} {t e : TypeId} {sz : Nat} {f : α → List Value} {p : α → Prop} (hu : P.underlying t = some (.slice e)) (hc : P.cellsOf e = sz) (h0 : 0 < sz) (he : VW enc P W e (fun cs => ∃ x, cs = f x ∧ p x)) :
    VW enc P W t (fun cs => ∃ a L cap, cs = [.slice a L.length cap] ∧ SlG sz f W.heap a L ∧ L.length ≤ cap ∧ cap ≤ 9223372036854775807 ∧ (a = none → cap = 0) ∧ ∀ x ∈ L, p x) := fun fuel cs x h => by
  rcases DataW.trod_slice hu h with ⟨rfl, _⟩ | ⟨a, len, cap, elems, rest, n, _, rfl, _, _, hl, hm, hlen, hel, _, _⟩
  · exact ⟨none, [], 0, rfl, SlG.nil, by simp, by simp, fun _ => rfl, by simp⟩
  · have hspot : 0 < len → ∃ b off, a = ⟨b, off, none⟩ := by
      intro h1
      have h1 := hel 0 h1
      rw [List.getElem?_eq_getElem (by omega), Option.bind_eq_some_iff] at h1
      obtain ⟨r, hr, h2⟩ := h1
      rw [hc] at hr
      unfold World.cells? at hr
      rw [if_pos (Nat.zero_le _)] at hr
      obtain ⟨b, off, spot⟩ := a
      cases spot with
      | none => exact ⟨b, off, rfl⟩
      | some s =>
        exfalso
        obtain ⟨m, rfl⟩ : ∃ m, sz = m + 1 := ⟨sz - 1, by omega⟩
        rw [List.range_eq_range', List.range'_succ, List.mapM_cons] at hr
        simp only [Option.pure_def, Option.bind_eq_bind, Option.bind_eq_some_iff] at hr
        obtain ⟨v, hv, _⟩ := hr
        simp [Addr.add, World.cell?] at hv
        split at hv <;> cases hv
    have hrow : ∀ i, i < len → ∃ x : α, (∃ b off, a = ⟨b, off, none⟩ ∧ readN W.heap b (off + i * sz) sz = some (f x)) ∧ p x := by
      intro i hi
      have h1 := hel i hi
      rw [List.getElem?_eq_getElem (by omega), Option.bind_eq_some_iff] at h1
      obtain ⟨r, hr, h2⟩ := h1
      obtain ⟨x, rfl, hp⟩ := he _ _ _ h2
      refine ⟨x, ?_, hp⟩
      rw [hc] at hr
      unfold World.cells? at hr
      rw [if_pos (Nat.zero_le _)] at hr
      obtain ⟨b, off, rfl⟩ := hspot (by omega)
      refine ⟨b, off, rfl, ?_⟩
      rw [addr_add, List.range_eq_range'] at hr
      have := readN_of_mapM rfl hr
      rwa [Nat.add_zero] at this
    have hL : ∀ k, k ≤ len → ∃ L : List α, L.length = k ∧ (∀ (i : Nat) x, L[i]? = some x → (∃ b off, a = ⟨b, off, none⟩ ∧ readN W.heap b (off + i * sz) sz = some (f x)) ∧ p x) := by
      intro k
      induction k with
      | zero => exact fun _ => ⟨[], rfl, fun i x hx => by simp at hx⟩
      | succ k ih =>
        intro hk
        obtain ⟨L, hLl, hLp⟩ := ih (by omega)
        obtain ⟨x, hx⟩ := hrow k (by omega)
        refine ⟨L ++ [x], by simp [hLl], fun i y hy => ?_⟩
        rcases Nat.lt_or_ge i k with hi | hi
        · rw [List.getElem?_append_left (by omega)] at hy
          exact hLp i y hy
        · rw [List.getElem?_append_right (by omega)] at hy
          have hik : i - L.length = 0 := by
            have := (List.getElem?_eq_some_iff.1 hy).1
            simp at this; omega
          rw [hik] at hy
          simp only [List.getElem?_cons_zero, Option.some.injEq] at hy
          subst hy
          rw [show i = k by omega]
          exact hx
    obtain ⟨L, hLl, hLp⟩ := hL len (Nat.le_refl _)
    refine ⟨some a, L, cap, by rw [hLl], fun i x hx => ?_, by omega, by simpa [maxLen] using hm, by simp, fun x hx => ?_⟩
    · obtain ⟨⟨b, off, rfl, hr⟩, _⟩ := hLp i x hx
      exact ⟨b, off, rfl, hr⟩
    · obtain ⟨i, hi, rfl⟩ := List.getElem_of_mem hx
      exact (hLp i _ (by simp [hi])).2
/-- An argument that is a slice. -/
theorem view_vsl {r : Reach} {b0 : Nat} {t e : TypeId} {v : Value} {d : DataW H} {q : List MemPlace} {Q : List Value → Prop} (hu : P.underlying t = some (.slice e)) (hQ : VW enc P W t Q)
    (hv : Value.okWide P W r b0 t v) (h : DataW.Trod enc P W 0 (fun _ => true) true t v d q) : ∃ a n cap, v = .slice a n cap ∧ Q [v] := by
  obtain ⟨a, len, cap, rfl⟩ := okWide_slice hu hv
  obtain ⟨fuel, hf⟩ := h
  exact ⟨a, len, cap, rfl, hQ _ _ _ hf⟩
/-- An argument that is a struct. -/
theorem view_vst {r : Reach} {b0 : Nat} {t : TypeId} {fs : Array Field} {v : Value} {d : DataW H} {q : List MemPlace} {Q : List Value → Prop} (hu : P.underlying t = some (.struct fs)) (hQ : VW enc P W t Q)
    (hv : Value.okWide P W r b0 t v) (h : DataW.Trod enc P W 0 (fun _ => true) true t v d q) : ∃ cs, v = .agg cs ∧ Q cs.toList := by
  obtain ⟨cs, rfl⟩ : ∃ cs, v = .agg cs := by
    unfold Value.okWide at hv
    rw [hu] at hv
    obtain ⟨cs, rfl, _⟩ := hv
    exact ⟨cs, rfl⟩
  obtain ⟨fuel, hf⟩ := h
  exact ⟨cs, rfl, hQ _ _ _ hf⟩
/-- A struct of one field, of two, and so on: its cells are those of the fields, one behind the other. -/
theorem cut2 {cs : List Value} {a b : Nat} (h : cs.length = a + b) : cs = (cs.drop 0).take a ++ (cs.drop a).take b := by
  rw [List.drop_zero, List.take_of_length_le (i := b) (by simp; omega), List.take_append_drop]
end
theorem slG_has {α : Type} {sz : Nat} {f : α → List Value} (hf : ∀ x, (f x).length = sz) {h : Heap} {b : Nat} {c : Array Value} {el : TypeId} {fr : Nat × Nat} {L : List α} (hb : Has h b (.cells c el fr)) (hc : c.toList = L.flatMap f) : SlG sz f h (some ⟨b, 0, none⟩) L := by
  intro i x hi
  refine ⟨b, 0, rfl, ?_⟩
  have hlt := (List.getElem?_eq_some_iff.1 hi).1
  have hsz : c.size = L.length * sz := by rw [← Array.length_toList, hc, flat_len hf]
  have hle : i * sz + sz ≤ c.size := by rw [hsz, ← Nat.succ_mul]; exact Nat.mul_le_mul_right _ hlt
  rw [Nat.zero_add, readN_block hb sz (i * sz) hle, hc, flat_at hf hi]
end GL

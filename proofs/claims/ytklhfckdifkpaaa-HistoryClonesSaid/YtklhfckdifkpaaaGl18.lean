/- A logic of heaps. Part 18: structs and arrays of ints among the arguments. -/
import Derived.Test.YtklhfckdifkpaaaGl15
set_option linter.unusedSimpArgs false
set_option linter.unusedVariables false
set_option linter.unnecessarySimpa false
namespace GL
open Go Go.ChangeShapes Go.WideShapes Go.ChangeAt Go.RowKit
theorem cell_int {P : Program} {W : World} {r : Reach} {b0 : Nat} {u : TypeId} {v : Value} (hu : P.underlying u = some (.int .i64)) (hv : Cell.okWide P W r b0 u v) :
    ∃ x : Int, v = .int .i64 x ∧ (-9223372036854775808 ≤ x ∧ x ≤ 9223372036854775807) := by
  have hv' : Value.okWide P W r b0 u v := by unfold Value.okWide; rw [hu]; exact hv
  obtain ⟨x, rfl⟩ := okWide_int hu hv'
  simp only [Cell.okWide, hu, Cell.ok] at hv
  exact ⟨x, rfl, by have h2 := hv; simp [IntKind.has, IntKind.min, IntKind.max, IntKind.signed, IntKind.bits] at h2; exact h2⟩
theorem view_agg {P : Program} {W : World} {r : Reach} {b0 : Nat} {t : TypeId} {v : Value} {ts : List TypeId} (hs : (∃ fs, P.underlying t = some (.struct fs)) ∨ ∃ n e, P.underlying t = some (.array n e))
    (hct : P.cellTypes P.depth t = some ts) (hall : ∀ u ∈ ts, P.underlying u = some (.int .i64)) (hv : Value.okWide P W r b0 t v) :
    ∃ ns : List Int, ns.length = P.cellsOf t ∧ v = .agg (ns.map (Value.int .i64)).toArray ∧ ∀ x ∈ ns, (-9223372036854775808 ≤ x ∧ x ≤ 9223372036854775807) := by
  have h1 : ∃ cs, v = .agg cs ∧ cs.size = P.cellsOf t ∧ Row.okWide P W r b0 t cs := by
    unfold Value.okWide at hv
    rcases hs with ⟨fs, hs⟩ | ⟨n, e, hs⟩ <;> (rw [hs] at hv; exact hv)
  obtain ⟨cs, rfl, hsz, ts', hts, _, hc⟩ := h1
  rw [hct] at hts
  cases hts
  have h2 : ∀ i : Nat, i < cs.size → ∃ x : Int, cs[i]? = some (.int .i64 x) ∧ (-9223372036854775808 ≤ x ∧ x ≤ 9223372036854775807) := by
    intro i hi
    obtain ⟨u, hu, hk⟩ := hc i cs[i] (by simp [hi])
    obtain ⟨x, hx, hb⟩ := cell_int (hall u (List.mem_of_getElem? hu)) hk
    exact ⟨x, by simp [hi, hx], hb⟩
  have h3 : ∀ l : List Value, (∀ i : Nat, i < l.length → ∃ x : Int, l[i]? = some (.int .i64 x) ∧ (-9223372036854775808 ≤ x ∧ x ≤ 9223372036854775807)) →
      ∃ ns : List Int, l = ns.map (Value.int .i64) ∧ ∀ x ∈ ns, (-9223372036854775808 ≤ x ∧ x ≤ 9223372036854775807) := by
    intro l
    induction l with
    | nil => exact fun _ => ⟨[], rfl, fun x hx => by cases hx⟩
    | cons a l ih =>
      intro h
      obtain ⟨x, hx, hb⟩ := h 0 (by simp)
      obtain ⟨ns, rfl, hns⟩ := ih fun i hi => by simpa using h (i + 1) (by simpa using hi)
      simp only [List.getElem?_cons_zero, Option.some.injEq] at hx
      subst hx
      exact ⟨x :: ns, rfl, fun y hy => by rcases List.mem_cons.1 hy with rfl | hy; exact hb; exact hns y hy⟩
  obtain ⟨ns, hl, hb⟩ := h3 cs.toList (by simpa using h2)
  refine ⟨ns, ?_, ?_, hb⟩
  · rw [← hsz, ← Array.length_toList, hl, List.length_map]
  · rw [← hl]
theorem len1 {l : List Int} (h : l.length = 1) : ∃ a, l = [a] := by
  match l, h with
  | [a], _ => exact ⟨a, rfl⟩
theorem len2 {l : List Int} (h : l.length = 2) : ∃ a b, l = [a, b] := by
  match l, h with
  | [a, b], _ => exact ⟨a, b, rfl⟩
theorem len4 {l : List Int} (h : l.length = 4) : ∃ a b c d, l = [a, b, c, d] := by
  match l, h with
  | [a, b, c, d], _ => exact ⟨a, b, c, d, rfl⟩
theorem len6 {l : List Int} (h : l.length = 6) : ∃ a b c d e f, l = [a, b, c, d, e, f] := by
  match l, h with
  | [a, b, c, d, e, f], _ => exact ⟨a, b, c, d, e, f, rfl⟩
end GL

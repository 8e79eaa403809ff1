/- A logic of heaps. Part 21: calls of a loop's yield under a condition; invariants that outlive growth. -/
import Derived.Test.YtnmgdjajmmgaaaaGl17
set_option linter.unusedSimpArgs false
set_option linter.unusedVariables false
set_option linter.unnecessarySimpa false
namespace GL
open Go
theorem WL.cy {P : Program} {e : Env} {ds : List Deferred} {h : Heap} {ops : Array Oper} {K : Kont} {d t l : Nat} {args : Array Operand} {ts : Array TypeId} {ty : TypeId} {pos : String} {aft : Array Edge} {rest : List Oper} {j : Nat} {b g : Bool} {R : Bool → Heap → Prop}
    (hg : gd ops e j = some g) (ht : g = b → e t = .func (.yield l) #[] #[]) (hy : g = b → HY P l (args.map (ev e)) h (fun v h' => ∃ bb : Bool, v = .bool bb ∧ R bb h'))
    (hk : ∀ bb h', (g = b → R bb h') → (g ≠ b → h' = h) → WL P ops rest (Env.set e d (if g = b then .bool bb else undef)) ds h' K) :
    WL P ops (⟨some d, .call ⟨.value (.tmp t), args, ts⟩, ty, pos, aft, some (j, b)⟩ :: rest) e ds h K := by
  by_cases hgb : g = b
  · refine WL.gy _ (hgb ▸ hg) (e_yield (ht hgb) (hy hgb)) ?_
    rintro v h' ⟨bb, rfl, hR⟩
    have := hk bb h' (fun _ => hR) (fun hh => absurd hgb hh)
    rw [if_pos hgb] at this
    exact this
  · have := hk true h (fun hh => absurd hh hgb) (fun _ => rfl)
    rw [if_neg hgb] at this
    exact WL.gn (by rw [hg]; simpa using hgb) this
/-- An invariant of a loop over a function, with its word that growth keeps it. -/
structure KJ (J : Nat → Heap → Prop) (hx : ∀ i h h', J i h → Ext h h' → J i h') (i : Nat) (h : Heap) : Prop where
  j : J i h
theorem KJ.ext {J : Nat → Heap → Prop} {hx : ∀ i h h', J i h → Ext h h' → J i h'} {i : Nat} {h h' : Heap} (hj : KJ J hx i h) (he : Ext h h') : KJ J hx i h' := ⟨hx i h h' hj.j he⟩
end GL

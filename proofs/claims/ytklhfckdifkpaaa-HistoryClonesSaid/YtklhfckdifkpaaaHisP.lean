/- History: Back and Same where the order is open. -/
import Derived.Test.YtklhfckdifkpaaaHisO
import Derived.Test.YtklhfckdifkpaaaHisI
import Derived.Test.YtklhfckdifkpaaaGl36
set_option linter.unusedSimpArgs false
set_option linter.unusedVariables false
set_option linter.unnecessarySimpa false
namespace GL
open Go Go.Proofs
set_option maxRecDepth 8000
/-- A bundle's value. -/
def Spec.bk (b : HB) : Spec := ⟨fun v => ∃ y : BX, v = .agg (bdL y).toArray ∧ y.bd = b, fun v h => ∃ y : BX, v = .agg (bdL y).toArray ∧ y.bd = b ∧ BXin h y,
  ⟨.agg (bdL ⟨b.s, b.day, b.mn, none, b.pts.map fun p => ⟨p.r, none, p.ps, 0⟩, 0⟩).toArray, ⟨b.s, b.day, b.mn, none, b.pts.map fun p => ⟨p.r, none, p.ps, 0⟩, 0⟩, rfl, by cases b; simp [BX.bd, PX.pt, Function.comp_def]⟩, fun v h h' hx ⟨y, h1, h2, h3⟩ => ⟨y, h1, h2, h3.ext hx⟩⟩
theorem bk_of {hD h' : Heap} {v : Value} {b : HB} (hh : Ext hD h' ∧ ∃ y : BX, v = .agg (bdL y).toArray ∧ y.bd = b ∧ BXin h' y) : Ext hD h' ∧ (Spec.bk b).val v ∧ (Spec.bk b).mem v h' :=
  ⟨hh.1, by obtain ⟨y, h1, h2, _⟩ := hh.2; exact ⟨y, h1, h2⟩, hh.2⟩
theorem c_sameB {h : Heap} {v : Value} {b : HB} (hf : FB b) (hm : (Spec.bk b).mem v h) (x : BX) (hx : BXin h x) {r : Bool} (hr : r = decide (b = x.bd)) :
    HCalls Try.prog 25 #[v, .agg (bdL x).toArray] h (Grow (.bool r) h) := by
  obtain ⟨y, rfl, rfl, hy⟩ := hm
  subst hr
  exact c_same y x hf.lens hy hx
theorem grow_is {hD h' : Heap} {v w : Value} (hh : Grow w hD v h') : Ext hD h' ∧ (Spec.is w).val v ∧ (Spec.is w).mem v h' := ⟨hh.2, hh.1, trivial⟩
theorem zFB : FB zB := ⟨by decide, fun p hp => by cases hp⟩
end GL


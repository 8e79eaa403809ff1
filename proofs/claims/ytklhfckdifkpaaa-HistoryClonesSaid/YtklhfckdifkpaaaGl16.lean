/- A logic of heaps. Part 16: more rules for calls. -/
import Derived.Test.YtklhfckdifkpaaaGl14
set_option linter.unusedSimpArgs false
set_option linter.unusedVariables false
set_option linter.unnecessarySimpa false
namespace GL
open Go
section
variable {P : Program} {e : Env} {ds : List Deferred} {h : Heap} {ops : Array Oper} {K : Kont}
theorem WL.ccg2 {d t : Nat} {f : FuncId} {args : Array Operand} {ts : Array TypeId} {ty : TypeId} {pos : String} {aft : Array Edge} {rest : List Oper} {v : Value} {j : Nat} {b g : Bool} {C : Prop} {inst : Decidable C}
    (ht : (ops[j]?).bind (·.dst) = some t) (hv : e t = if C then .bool g else undef) (hcall : ∀ args w, (callFunc f args).run P w = .ok (.enter f args) w) (hc : C → g = b → HCalls P f (args.map (ev e)) h (Grow v h))
    (hk : ∀ h', Ext h h' → WL P ops rest (Env.set e d (if C ∧ g = b then v else undef)) ds h' K) :
    WL P ops (⟨some d, .call ⟨.value (.func f), args, ts⟩, ty, pos, aft, some (j, b)⟩ :: rest) e ds h K := by
  have hg := gd_if (inst := inst) ht hv
  by_cases hC : C
  · rw [if_pos hC] at hg
    by_cases hgb : g = b
    · refine WL.gy _ (hgb ▸ hg) (e_call hcall (hc hC hgb)) ?_
      rintro v' h' ⟨rfl, hx⟩
      have := hk h' hx
      rw [if_pos ⟨hC, hgb⟩] at this
      exact this
    · have := hk h (Ext.refl _)
      rw [if_neg (fun hh => hgb hh.2)] at this
      exact WL.gn (by rw [hg]; simpa using hgb) this
  · have := hk h (Ext.refl _)
    rw [if_neg hC] at hg
    rw [if_neg (fun hh => hC hh.1)] at this
    exact WL.gn (by rw [hg]; rfl) this
/-- A call of a function's value, bound arguments and captured ones included. -/
theorem e_callf {f : FuncId} {first cap : Array Value} {t : Nat} {args : Array Operand} {ts : Array TypeId} {ty : TypeId} {R : Value → Heap → Prop} (hcall : ∀ args w, (callFunc f args).run P w = .ok (.enter f args) w)
    (ht : e t = .func (.func f) first cap) (hc : HCalls P f (first ++ args.map (ev e) ++ cap) h R) : EOp P (.call ⟨.value (.tmp t), args, ts⟩) ty e h R := by
  refine ⟨rfl, rfl, fun w hw => ?_⟩
  have h1 : (execOp (ev e) { (default : Oper) with op := .call ⟨.value (.tmp t), args, ts⟩, type := ty }).run P w = .ok (.enter f (first ++ args.map (ev e) ++ cap)) w := by
    simp [execOp, resolve, Deferred.ofValue, ev, ht, invoke, hcall]
  rw [h1]
  exact ⟨.refl _, by rw [hw]; exact hc⟩
theorem WL.cf {d : Option Nat} {f : FuncId} {first cap : Array Value} {t : Nat} {args : Array Operand} {ts : Array TypeId} {ty : TypeId} {pos : String} {aft : Array Edge} {rest : List Oper} {R : Value → Heap → Prop}
    (ht : e t = .func (.func f) first cap) (hcall : ∀ args w, (callFunc f args).run P w = .ok (.enter f args) w) (hc : HCalls P f (first ++ args.map (ev e) ++ cap) h R) (hk : ∀ v h', R v h' → WL P ops rest (Env.put e d v) ds h' K) :
    WL P ops (⟨d, .call ⟨.value (.tmp t), args, ts⟩, ty, pos, aft, none⟩ :: rest) e ds h K := WL.ef R (e_callf hcall ht hc) hk
end
end GL

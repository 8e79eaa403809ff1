/- Operations that are left out: their result's place. -/
import Derived.Test.YtklhfckdifkpaaaGl35
set_option linter.unusedSimpArgs false
set_option linter.unusedVariables false
namespace GL
open Go
section
variable {P : Program} {ops : Array Oper} {ds : List Deferred} {K : Kont} {e : Env} {ρ : Rel} {late : Nat → Bool} {Φ : Nat → Option Spec} {h0 h : Heap} {k d : Nat} {rest : List Oper} {F : List (Nat × Value)} {o : Op} {ty : TypeId} {pos : String} {aft : Array Edge} {gw : Option (Nat × Bool)}
theorem LD.offS (hl : late k = false) (hg : gOk ops e ⟨some d, o, ty, pos, aft, gw⟩ = false) (hk : LD ρ P ops late Φ h0 ds K (k + 1) rest (Env.set e d undef) F) : LD ρ P ops late Φ h0 ds K k (⟨some d, o, ty, pos, aft, gw⟩ :: rest) e F := LD.off hl hg hk
theorem WL.offS (hg : gOk ops e ⟨some d, o, ty, pos, aft, gw⟩ = false) (hk : WL P ops rest (Env.set e d undef) ds h K) : WL P ops (⟨some d, o, ty, pos, aft, gw⟩ :: rest) e ds h K := WL.off hg hk
end
end GL

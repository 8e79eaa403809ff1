/- A logic of heaps. Part 25: interfaces that hold a map; the copy of a map. -/
import Derived.Test.YtklhfckdifkpaaaGl24
import Derived.Laws.Externs
import Derived.MapKept
set_option linter.unusedSimpArgs false
set_option linter.unusedVariables false
set_option linter.unnecessarySimpa false
namespace GL
open Go Go.MapKept
section
variable {P : Program} {e : Env} {h : Heap} {ty : TypeId}
theorem qv_mkI {t : TypeId} {x : Operand} (hc : P.concrete t = true) : qv P (.makeInterface t x) e h = some (.iface t (ev e x)) :=
  pureRun_eq fun w => run_makeInterface w t (ev e x) hc
theorem q_assertMap {t xT k el : TypeId} {x : Operand} {v : Value} (hu : P.underlying t = some (.map k el)) (hx : ev e x = .iface t v) : QOp P (.typeAssert x xT t false) ty e h v := by
  refine ⟨rfl, rfl, fun w hw => ?_⟩
  simp [execOp, hx, Instr.typeAssert, run_underlying hu, go_sem, Result.andThen]
theorem run_maps_clone {w : World} {r : Nat} {es : Array MapEntry} {clock : Nat} (t : TypeId) (hb : w.heap[r]? = some (.map es clock)) :
    (Extern.MapsClone.clone #[.iface t (.map (some r))]).run P w = .ok (.iface t (.map (some w.heap.size))) { w with heap := w.heap.push (.map es clock) } := by
  have e : Extern.MapsClone.clone #[.iface t (.map (some r))] = (getObj r >>= fun o => match o with
      | .map entries clock => (newObj (.map entries clock) >>= fun n => pure (.iface t (.map (some n))))
      | _ => stuck "maps.clone: a map expected") := rfl
  rw [e]
  simp [MapKept.run_getObj_map hb, Result.andThen, go_sem, newObj, Sem.run]
/-- maps.clone, by the model's entry. -/
theorem e_mapsClone {κ β : Type} {ek : κ → Value} {ev' : β → Value} {f : FuncId} {x : Operand} {ts : Array TypeId} {t : TypeId} {b : Nat} {l : List (κ × β)}
    (hcall : ∀ args w, (callFunc f args).run P w = ((Extern.MapsClone.clone args).run P w).andThen fun v w' => .ok (.value v) w') (hx : ev e x = .iface t (.map (some b))) (hm : MapT ek ev' h b l) :
    EOp P (.call ⟨.value (.func f), #[x], ts⟩) ty e h fun u h' => u = .iface t (.map (some h.size)) ∧ Ext h h' ∧ MapT ek ev' h' h.size l := by
  obtain ⟨es, clock, hb, he, hs⟩ := hm
  refine ⟨rfl, rfl, fun w hw => ?_⟩
  subst hw
  have h1 : (execOp (ev e) { (default : Oper) with op := .call ⟨.value (.func f), #[x], ts⟩, type := ty }).run P w = .ok (.value (.iface t (.map (some w.heap.size)))) { w with heap := w.heap.push (.map es clock) } := by
    simp [execOp, resolve, Deferred.ofValue, ev_func, invoke, hcall, hx, run_maps_clone t hb, Result.andThen]
  rw [h1]
  exact ⟨⟨rfl, rfl, rfl, Nat.le_refl _⟩, rfl, Ext.push _ _, es, clock, by simp [Has], he, hs⟩
end
/-- Operation j is the first of the statement's that turns memory. -/
def Rel.first (j : Nat) (h0 : Heap) : Rel := { r := Ext, refl := Ext.refl, trans := Ext.trans, neg := fun k h => k = j → h = h0 }
instance (j : Nat) (h0 : Heap) : RelX (Rel.first j h0) := ⟨fun h => h⟩
instance (j : Nat) (h0 : Heap) : RelL (Rel.first j h0) := ⟨fun _ _ _ => trivial⟩
instance (j : Nat) (h0 : Heap) : RelF (Rel.first j h0) := ⟨fun _ => rfl⟩
/-- The word of the first copy of a map, and of one that is made behind it. -/
def Spec.m1 {κ β : Type} (ek : κ → Value) (ev' : β → Value) (N : Nat) (l : List (κ × β)) : Spec := ⟨fun v => v = .map (some N), fun _ h => MapT ek ev' h N l, ⟨_, rfl⟩, fun _ _ _ hx hm => hm.ext hx⟩
def Spec.m2 {κ β : Type} (ek : κ → Value) (ev' : β → Value) (N : Nat) (l : List (κ × β)) : Spec := ⟨fun v => ∃ B, N < B ∧ v = .map (some B), fun v h => ∀ B, v = .map (some B) → MapT ek ev' h B l, ⟨.map (some (N + 1)), N + 1, Nat.lt_succ_self _, rfl⟩, fun _ _ _ hx hm B hB => (hm B hB).ext hx⟩
/-- A quiet operation that reads what the statement has made. -/
theorem LD.qf {P : Program} {ops : Array Oper} {ds : List Deferred} {K : Kont} {e : Env} {ρ : Rel} {late : Nat → Bool} {Φ : Nat → Option Spec} {h0 : Heap} {n : Nat} {rest : List Oper} {F : List (Nat × Value)} {d : Nat} {o : Op} {ty : TypeId} {pos : String} {aft : Array Edge} {v : Value}
    (hl : late n = false) (hΦ : Φ n = none) (hE : ∀ h, ρ.r h0 h → FactsAnc ops Φ n F h → qv P o e h = some v) (hk : LD ρ P ops late Φ h0 ds K (n + 1) rest (Env.set e d v) F) : LD ρ P ops late Φ h0 ds K n (⟨some d, o, ty, pos, aft, none⟩ :: rest) e F := by
  unfold LD
  rw [hl, if_neg (by simp)]
  refine ⟨fun hg => (by rw [gOk_n] at hg; cases hg), fun _ => ?_⟩
  rw [hΦ]
  exact ⟨v, hE, hk⟩
/-- The word of a call that gives a slice. -/
def Spec.slg {α : Type} (sz : Nat) (f : α → List Value) (L : List α) : Spec := ⟨fun v => ∃ a cap, v = .slice a L.length cap, fun v h => ∀ a n cap, v = .slice a n cap → SlG sz f h a L, ⟨.slice none L.length 0, none, 0, rfl⟩, fun v h h' hx hm a n cap hv => (hm a n cap hv).ext hx⟩
/-- Two maps hold the same. -/
def mapEq {κ β : Type} [BEq κ] (l l' : List (κ × β)) : Prop := l.length = l'.length ∧ ∀ p ∈ l, l'.lookup p.1 = some p.2
instance {κ β : Type} [BEq κ] [DecidableEq β] (l l' : List (κ × β)) : Decidable (mapEq l l') := inferInstanceAs (Decidable (_ ∧ _))
theorem mapEq_refl {κ β : Type} [DecidableEq κ] {l : List (κ × β)} (hn : (l.map Prod.fst).Nodup) : mapEq l l := ⟨rfl, fun p hp => lookup_mem hn hp⟩
end GL

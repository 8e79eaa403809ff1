/- Operations that are left out: their result's place. -/
import Derived.Test.YtklhfckdifkpaaaGl33
import Derived.Test.YtklhfckdifkpaaaGl35
set_option linter.unusedSimpArgs false
set_option linter.unusedVariables false
namespace GL
open Go
section
variable {P : Program} {ops : Array Oper} {ds : List Deferred} {K : Kont} {e : Env} {ρ : Rel} {late : Nat → Bool} {Φ : Nat → Option Spec} {h0 h : Heap} {k d : Nat} {rest : List Oper} {F : List (Nat × Value)} {o : Op} {ty : TypeId} {pos : String} {aft : Array Edge} {gw : Option (Nat × Bool)}
theorem LD.offS (hl : late k = false) (hg : gOk ops e ⟨some d, o, ty, pos, aft, gw⟩ = false) (hk : LD ρ P ops late Φ h0 ds K (k + 1) rest (Env.set e d undef) F) : LD ρ P ops late Φ h0 ds K k (⟨some d, o, ty, pos, aft, gw⟩ :: rest) e F := LD.off hl hg hk
theorem WL.offS (hg : gOk ops e ⟨some d, o, ty, pos, aft, gw⟩ = false) (hk : WL P ops rest (Env.set e d undef) ds h K) : WL P ops (⟨some d, o, ty, pos, aft, gw⟩ :: rest) e ds h K := WL.off hg hk
end
end GL
set_option linter.unusedSimpArgs false
set_option linter.unusedVariables false
namespace GL
open Go
def ApS (N : Nat) (el : TypeId) (sz n m : Nat) (xs ys : List Value) (S : List Nat) (a b : Heap) : Prop :=
  a.size ≤ b.size ∧ (∀ c o, c < N → c ∉ S → a[c]? = some o → b[c]? = some o) ∧ (∀ (c : Nat) (o : Obj), c ∉ S → (∀ cur fr, o ≠ Obj.cells cur el fr) → a[c]? = some o → b[c]? = some o) ∧
  (∀ (c : Nat) (cur : Array Value), c ∉ S → cur.size ≤ max n 1 * sz → Has a c (.cells cur el) → Has b c (.cells cur el)) ∧ (∀ u, Own a N el sz u n xs → Own b N el sz u n xs) ∧ (∀ u, Own a N el sz u (n + m) (xs ++ ys) → Own b N el sz u (n + m) (xs ++ ys)) ∧
  ∀ c ∈ S, ∀ (cur : Array Value) (T : TypeId), Has a c (.cells cur T) → ∃ cur' : Array Value, Has b c (.cells cur' T) ∧ cur'.size = cur.size
theorem ApS.refl {N : Nat} {el : TypeId} {sz n m : Nat} {xs ys : List Value} {S : List Nat} (a : Heap) : ApS N el sz n m xs ys S a a :=
  ⟨Nat.le_refl _, fun _ _ _ _ h => h, fun _ _ _ _ h => h, fun _ _ _ _ h => h, fun _ h => h, fun _ h => h, fun _ _ cur _ h => ⟨cur, h, rfl⟩⟩
theorem ApS.trans {N : Nat} {el : TypeId} {sz n m : Nat} {xs ys : List Value} {S : List Nat} {a b c : Heap} (h : ApS N el sz n m xs ys S a b) (h' : ApS N el sz n m xs ys S b c) : ApS N el sz n m xs ys S a c := by
  obtain ⟨p1, p2, p3, p4, p5, p6, p7⟩ := h
  obtain ⟨q1, q2, q3, q4, q5, q6, q7⟩ := h'
  refine ⟨Nat.le_trans p1 q1, fun x o h1 h2 h3 => q2 x o h1 h2 (p2 x o h1 h2 h3), fun x o h1 h2 h3 => q3 x o h1 h2 (p3 x o h1 h2 h3), fun x cu h1 h2 h3 => q4 x cu h1 h2 (p4 x cu h1 h2 h3), fun u hu => q5 u (p5 u hu), fun u hu => q6 u (p6 u hu), fun x hx cur T h1 => ?_⟩
  obtain ⟨c1, r1, r2⟩ := p7 x hx cur T h1
  obtain ⟨c2, r3, r4⟩ := q7 x hx c1 T r1
  exact ⟨c2, r3, r4.trans r2⟩
def Rel.apS (N : Nat) (el : TypeId) (sz n m : Nat) (xs ys : List Value) (S : List Nat) : Rel where
  r := ApS N el sz n m xs ys S
  refl := ApS.refl
  trans := ApS.trans
  late := fun _ a b => ApS N el sz n m xs ys S a b
section
variable {N : Nat} {el : TypeId} {sz n m : Nat} {xs ys : List Value} {S : List Nat} {a b : Heap}
instance : RelN (Rel.apS N el sz n m xs ys S) := ⟨fun _ _ => trivial⟩
instance : RelF (Rel.apS N el sz n m xs ys S) := ⟨fun _ => rfl⟩
theorem apS_of_ap1 (hS : ∀ c ∈ S, c < N) (h : (Rel.ap1 N el sz n m xs ys).r a b) : ApS N el sz n m xs ys S a b :=
  ⟨h.1, fun c o h1 _ h2 => h.2.1 c o h1 h2, fun c o _ h1 h2 => h.2.2.1 c o h1 h2, fun c cu _ h1 h2 => h.2.2.2.1 c cu h1 h2, h.2.2.2.2.1, h.2.2.2.2.2, fun c hc cur T h1 => ⟨cur, h.2.1 c _ (hS c hc) h1, rfl⟩⟩
theorem apS_of_ext (hx : Ext a b) : ApS N el sz n m xs ys S a b :=
  ⟨hx.size, fun c o _ _ h => hx c o h, fun c o _ _ h => hx c o h, fun _ _ _ _ h => h.ext hx, fun _ h => h.ext hx, fun _ h => h.ext hx, fun _ _ cur _ h => ⟨cur, h.ext hx, rfl⟩⟩
theorem apS_wr {B : Nat} {T : TypeId} {cur cur' : Array Value} (hS : ∀ c ∈ S, c < N) (hB : B ∈ S) (hb : Has a B (.cells cur T)) (hs : cur'.size = cur.size) (hw : Wr a b B (.cells cur' T)) : ApS N el sz n m xs ys S a b := by
  have hn := hS B hB
  refine ⟨Nat.le_of_eq hw.size.symm, fun c o _ h1 h2 => ?_, fun c o h1 _ h2 => ?_, fun c cu h1 _ h2 => ?_, fun u ho => ?_, fun u ho => ?_, fun c hc cu U h1 => ?_⟩
  · rw [hw.same c (fun hh => h1 (hh ▸ hB))]; exact h2
  · rw [hw.same c (fun hh => h1 (hh ▸ hB))]; exact h2
  · exact (hw.same c (fun hh => h1 (hh ▸ hB))).trans h2
  · exact ho.keep fun c hc => hw.same c fun hh => by have := (ho.block c hc).1; omega
  · exact ho.keep fun c hc => hw.same c fun hh => by have := (ho.block c hc).1; omega
  · by_cases hh : c = B
    · subst hh
      have h9 : some (Obj.cells cur T (0, 0)) = some (Obj.cells cu U (0, 0)) := hb.symm.trans h1
      cases h9
      exact ⟨cur', hw.at_, hs⟩
    · exact ⟨cu, (hw.same c hh).trans h1, rfl⟩
theorem apS_has {c : Nat} {o : Obj} (hr : ApS a.size el sz n m xs ys S a b) (hc : Has a c o) (hn : c ∉ S) : Has b c o := hr.2.1 c _ (Array.getElem?_eq_some_iff.1 hc).1 hn hc
theorem apS_old {h0 : Heap} (hr : ApS a.size el sz n m xs ys S a b) (hx : Ext h0 a) (hS : ∀ c ∈ S, h0.size ≤ c) : Ext h0 b := fun c o hc => by
  have h1 := (Array.getElem?_eq_some_iff.1 hc).1
  exact hr.2.1 c o (by have := hx.size; omega) (fun hh => by have := hS c hh; omega) (hx c o hc)
/-- The same, and the block is new. -/
def Spec.lsN (N : Nat) (c : Array Value) (el : TypeId) (n : Nat) : Spec := ⟨fun v => ∃ B, N ≤ B ∧ v = .slice (some ⟨B, 0, none⟩) n n, fun v h => ∀ B, v = .slice (some ⟨B, 0, none⟩) n n → N ≤ B ∧ Has h B (.cells c el),
  ⟨.slice (some ⟨N, 0, none⟩) n n, N, Nat.le_refl _, rfl⟩, fun v h h' hx hm B hv => ⟨(hm B hv).1, (hm B hv).2.ext hx⟩⟩
theorem lsN_of {N : Nat} {c : Array Value} {v : Value} {h : Heap} (hv : (Spec.ls N c el n).val v) (hm : (Spec.ls N c el n).mem v h) : (Spec.lsN N c el n).val v ∧ (Spec.lsN N c el n).mem v h := by
  refine ⟨hv, fun B hB => ⟨?_, hm B hB⟩⟩
  obtain ⟨C, h1, h2⟩ := hv
  rw [h2] at hB
  cases hB
  exact h1
theorem apS_stable {j1 j2 j3 j5 : Nat} {c1 : Array Value} (hS : ∀ c ∈ S, c < N) (hc1 : c1.size = sz) :
    Stable (Rel.apS N el sz n 1 xs ys S) (specOf [(j1, Spec.lsN N #[] el 0), (j2, Spec.ownZ N el sz n xs), (j5, Spec.lsN N c1 el 1), (j3, Spec.own N el sz (n + 1) (xs ++ ys))]) := by
  intro i s hi u a b hr hm
  simp only [specOf, List.lookup] at hi
  repeat' split at hi
  all_goals cases hi
  · exact fun B hv => ⟨(hm B hv).1, hr.2.2.2.1 B _ (fun hh => by have := hS B hh; have := (hm B hv).1; omega) (by simp) (hm B hv).2⟩
  · exact hr.2.2.2.2.1 u hm
  · exact fun B hv => ⟨(hm B hv).1, hr.2.2.2.1 B _ (fun hh => by have := hS B hh; have := (hm B hv).1; omega) (by rw [hc1]; exact Nat.le_mul_of_pos_left _ (by omega)) (hm B hv).2⟩
  · exact hr.2.2.2.2.2.1 u hm
end
theorem splc_whole {c : Array Value} {vs : List Value} (h : vs.length = c.size) : splc c 0 vs = vs.toArray := by
  simp only [splc, List.take_zero, List.nil_append, Nat.zero_add]
  rw [List.drop_eq_nil_of_le (by simp; omega), List.append_nil]
theorem hx_drawS {P : Program} {n : Nat} {r : Option Nat} {Q : Post} {e : Env} {h : Heap} {ds : List Deferred} {id : Nat} {l : List Oper} (ρ : Rel) [RelF ρ] [RelN ρ] (pd lates effs : List Nat) (specs : List (Nat × Spec)) (hm : P.follows .mixedOrders = true)
    (hok : drawOkP pd [] l lates effs = true) (he : specs.map (·.1) = effs) (S : Stable ρ (specOf specs)) (hLt : ∀ h2 h3, ρ.r h h2 → ρ.late h h2 h3 → ρ.r h h3) (hLD : LD ρ P l.toArray (fun i => lates.contains i) (specOf specs) h ds (Q .normal) 0 l e []) :
    HX P n r (.region id l.toArray true) Q e ds h := hx_drawP ρ pd [] lates specs hm (fun _ => hLt) (he ▸ hok) (fun j hj => by cases hj) S (FrS.none _ (fun k => RelF.no k)) (fun k => RelN.all k h) hLD
theorem WLJ.qq {S : Heap → Heap → Prop} {P : Program} {ops : Array Oper} {e : Env} {ds : List Deferred} {h : Heap} {K : Kont} {d : Nat} {o : Op} {ty : TypeId} {pos : String} {aft : Array Edge} {rest : List Oper} {v : Value}
    (hE : qv P o e h = some v) (hS : S h h) (hk : WLJ S P ops rest (Env.set e d v) ds h K) : WLJ S P ops (⟨some d, o, ty, pos, aft, none⟩ :: rest) e ds h K := by
  unfold WLJ
  refine ⟨fun _ => ⟨_, (qv_Q hE).ef, ?_⟩, fun hg => by rw [gOk_n] at hg; cases hg⟩
  rintro v' h' ⟨rfl, rfl⟩
  exact ⟨hS, hk⟩
end GL

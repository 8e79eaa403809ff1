/- A logic of heaps. Part 38: three variables that count on in one statement whose order is open. -/
import Derived.Test.YtklhfckdifkpaaaGl36
set_option linter.unusedSimpArgs false
set_option linter.unusedVariables false
namespace GL
open Go Go.Proofs
theorem LD.enN {P : Program} {ops : Array Oper} {ds : List Deferred} {K : Kont} {e : Env} {ρ : Rel} [RelF ρ] {late : Nat → Bool} {Φ : Nat → Option Spec} {h0 : Heap} {k : Nat} {rest : List Oper} {F : List (Nat × Value)} {o : Op} {ty : TypeId} {pos : String} {aft : Array Edge} {s : Spec}
    (hl : late k = false) (hΦ : Φ k = some s) (hE : ∀ h, ρ.r h0 h → ρ.neg k h → FactsAnc ops Φ k F h → EOp P o ty e h fun v' h' => ρ.r h h' ∧ s.val v' ∧ s.mem v' h' ∧ ∀ k', k' ≠ k → tb ops k k' = false → ρ.neg k' h → ρ.neg k' h')
    (hk : ∀ v, s.val v → LD ρ P ops late Φ h0 ds K (k + 1) rest e (F ++ [(k, v)])) :
    LD ρ P ops late Φ h0 ds K k (⟨none, o, ty, pos, aft, none⟩ :: rest) e F := by
  unfold LD
  rw [hl, if_neg (by simp)]
  refine ⟨fun hg => (by rw [gOk_n] at hg; cases hg), fun _ => ?_⟩
  rw [hΦ]
  exact ⟨fun h hx hn hf => (hE h hx hn hf).mono (fun v' h' hh => ⟨hh.1, hh.2.1, hh.2.2.1, hh.2.2.2, fun q => by rw [RelF.no] at q; cases q⟩), hk⟩
/-- Each of three rows is as it was, or holds its new cells. -/
def R3 (B1 B2 B3 : Nat) (T : TypeId) (u1 u2 u3 : Array Value) (a b : Heap) : Prop :=
  b.size = a.size ∧ (∀ c, c ≠ B1 → c ≠ B2 → c ≠ B3 → b[c]? = a[c]?) ∧ (b[B1]? = a[B1]? ∨ Has b B1 (.cells u1 T)) ∧ (b[B2]? = a[B2]? ∨ Has b B2 (.cells u2 T)) ∧ (b[B3]? = a[B3]? ∨ Has b B3 (.cells u3 T))
section
variable {B1 B2 B3 : Nat} {T : TypeId} {u1 u2 u3 o1 o2 o3 : Array Value} {a b c : Heap}
theorem R3.refl : R3 B1 B2 B3 T u1 u2 u3 a a := ⟨rfl, fun _ _ _ _ => rfl, .inl rfl, .inl rfl, .inl rfl⟩
theorem r3_or {B : Nat} {u : Array Value} (h : b[B]? = a[B]? ∨ Has b B (.cells u T)) (h' : c[B]? = b[B]? ∨ Has c B (.cells u T)) : c[B]? = a[B]? ∨ Has c B (.cells u T) := by
  rcases h' with h' | h'
  · rcases h with h | h
    · exact .inl (h'.trans h)
    · exact .inr (h'.trans h)
  · exact .inr h'
theorem R3.trans (h : R3 B1 B2 B3 T u1 u2 u3 a b) (h' : R3 B1 B2 B3 T u1 u2 u3 b c) : R3 B1 B2 B3 T u1 u2 u3 a c :=
  ⟨h'.1.trans h.1, fun x p q r => (h'.2.1 x p q r).trans (h.2.1 x p q r), r3_or h.2.2.1 h'.2.2.1, r3_or h.2.2.2.1 h'.2.2.2.1, r3_or h.2.2.2.2 h'.2.2.2.2⟩
theorem R3.gs (h : R3 B1 B2 B3 T u1 u2 u3 a b) : Gs a b [B1, B2, B3] := ⟨Nat.le_of_eq h.1.symm, fun x _ hn => by
  simp only [List.mem_cons, List.not_mem_nil, or_false, not_or] at hn
  exact h.2.1 x hn.1 hn.2.1 hn.2.2⟩
theorem R3.w1 (h1 : B2 ≠ B1) (h2 : B3 ≠ B1) (hw : Wr a b B1 (.cells u1 T)) : R3 B1 B2 B3 T u1 u2 u3 a b := ⟨hw.size, fun x p _ _ => hw.same x p, .inr hw.at_, .inl (hw.same _ h1), .inl (hw.same _ h2)⟩
theorem R3.w2 (h1 : B1 ≠ B2) (h2 : B3 ≠ B2) (hw : Wr a b B2 (.cells u2 T)) : R3 B1 B2 B3 T u1 u2 u3 a b := ⟨hw.size, fun x _ p _ => hw.same x p, .inl (hw.same _ h1), .inr hw.at_, .inl (hw.same _ h2)⟩
theorem R3.w3 (h1 : B1 ≠ B3) (h2 : B2 ≠ B3) (hw : Wr a b B3 (.cells u3 T)) : R3 B1 B2 B3 T u1 u2 u3 a b := ⟨hw.size, fun x _ _ p => hw.same x p, .inl (hw.same _ h1), .inl (hw.same _ h2), .inr hw.at_⟩
/-- A row's cells, old or new. -/
theorem r3_has {B : Nat} {o u : Array Value} (h : b[B]? = a[B]? ∨ Has b B (.cells u T)) (ha : Has a B (.cells o T)) (hs : u.size = o.size) : ∃ c, Has b B (.cells c T) ∧ c.size = o.size := by
  rcases h with h | h
  · exact ⟨o, h.trans ha, rfl⟩
  · exact ⟨u, h, hs⟩
end
def Rel.three (B1 B2 B3 : Nat) (T : TypeId) (u1 u2 u3 o1 o2 o3 : Array Value) : Rel where
  r := R3 B1 B2 B3 T u1 u2 u3
  refl := fun _ => R3.refl
  trans := R3.trans
  neg := fun k h => (k = 0 → Has h B1 (.cells o1 T)) ∧ (k = 2 → Has h B2 (.cells o2 T)) ∧ (k = 4 → Has h B3 (.cells o3 T))
section
variable {B1 B2 B3 : Nat} {T : TypeId} {u1 u2 u3 o1 o2 o3 : Array Value}
instance : RelF (Rel.three B1 B2 B3 T u1 u2 u3 o1 o2 o3) := ⟨fun _ => rfl⟩
instance : RelL (Rel.three B1 B2 B3 T u1 u2 u3 o1 o2 o3) := ⟨fun _ _ _ => trivial⟩
def Spec.nw (B : Nat) (T : TypeId) (u : Array Value) : Spec := ⟨fun _ => True, fun _ h => Has h B (.cells u T), ⟨undef, trivial⟩, fun _ _ _ hx hm => hm.ext hx⟩
theorem nw_blind {B : Nat} {u : Array Value} : (Spec.nw B T u).blind := fun _ _ => ⟨fun h => h, fun _ h => h⟩
theorem three_stable {a1 a2 a3 : Value} : Stable (Rel.three B1 B2 B3 T u1 u2 u3 o1 o2 o3) (specOf [(0, Spec.is a1), (2, Spec.is a2), (4, Spec.is a3), (6, Spec.nw B1 T u1), (7, Spec.nw B2 T u2), (8, Spec.nw B3 T u3)]) := by
  intro i s hi u a b hr hm
  simp only [specOf, List.lookup] at hi
  repeat' split at hi
  all_goals cases hi
  · trivial
  · trivial
  · trivial
  · rcases hr.2.2.1 with h | h
    · exact h.trans hm
    · exact h
  · rcases hr.2.2.2.1 with h | h
    · exact h.trans hm
    · exact h
  · rcases hr.2.2.2.2 with h | h
    · exact h.trans hm
    · exact h
theorem three_blind {a1 a2 a3 : Value} : ∀ j ∈ [6, 7, 8], ∃ s, specOf [(0, Spec.is a1), (2, Spec.is a2), (4, Spec.is a3), (6, Spec.nw B1 T u1), (7, Spec.nw B2 T u2), (8, Spec.nw B3 T u3)] j = some s ∧ s.blind := by
  intro j hj
  simp only [List.mem_cons, List.not_mem_nil, or_false] at hj
  rcases hj with rfl | rfl | rfl
  · exact ⟨_, rfl, nw_blind⟩
  · exact ⟨_, rfl, nw_blind⟩
  · exact ⟨_, rfl, nw_blind⟩
variable {P : Program} {e : Env} {h : Heap} {ops : Array Oper}
theorem three_ld {o : Op} {ty : TypeId} {k : Nat} {v : Value} (hq : qv P o e h = some v) :
    EOp P o ty e h fun v' h' => (Rel.three B1 B2 B3 T u1 u2 u3 o1 o2 o3).r h h' ∧ (Spec.is v).val v' ∧ (Spec.is v).mem v' h' ∧ ∀ k', k' ≠ k → tb ops k k' = false → (Rel.three B1 B2 B3 T u1 u2 u3 o1 o2 o3).neg k' h → (Rel.three B1 B2 B3 T u1 u2 u3 o1 o2 o3).neg k' h' :=
  (qv_Q hq).ef.mono fun v' h' hh => by obtain ⟨rfl, rfl⟩ := hh; exact ⟨R3.refl, rfl, trivial, fun _ _ _ hx => hx⟩
theorem three_s1 {o : Op} {ty : TypeId} {k : Nat} (h1 : B2 ≠ B1) (h2 : B3 ≠ B1) (ht : tb ops k 0 = true) (hE : EOp P o ty e h fun _ h' => Wr h h' B1 (.cells u1 T)) :
    EOp P o ty e h fun v' h' => (Rel.three B1 B2 B3 T u1 u2 u3 o1 o2 o3).r h h' ∧ (Spec.nw B1 T u1).val v' ∧ (Spec.nw B1 T u1).mem v' h' ∧ ∀ k', k' ≠ k → tb ops k k' = false → (Rel.three B1 B2 B3 T u1 u2 u3 o1 o2 o3).neg k' h → (Rel.three B1 B2 B3 T u1 u2 u3 o1 o2 o3).neg k' h' :=
  hE.mono fun v' h' hw => ⟨R3.w1 h1 h2 hw, trivial, hw.at_, fun k' _ hf hn => ⟨fun hk => (by subst hk; rw [ht] at hf; cases hf), fun hk => (hw.same _ h1).trans (hn.2.1 hk), fun hk => (hw.same _ h2).trans (hn.2.2 hk)⟩⟩
theorem three_s2 {o : Op} {ty : TypeId} {k : Nat} (h1 : B1 ≠ B2) (h2 : B3 ≠ B2) (ht : tb ops k 2 = true) (hE : EOp P o ty e h fun _ h' => Wr h h' B2 (.cells u2 T)) :
    EOp P o ty e h fun v' h' => (Rel.three B1 B2 B3 T u1 u2 u3 o1 o2 o3).r h h' ∧ (Spec.nw B2 T u2).val v' ∧ (Spec.nw B2 T u2).mem v' h' ∧ ∀ k', k' ≠ k → tb ops k k' = false → (Rel.three B1 B2 B3 T u1 u2 u3 o1 o2 o3).neg k' h → (Rel.three B1 B2 B3 T u1 u2 u3 o1 o2 o3).neg k' h' :=
  hE.mono fun v' h' hw => ⟨R3.w2 h1 h2 hw, trivial, hw.at_, fun k' _ hf hn => ⟨fun hk => (hw.same _ h1).trans (hn.1 hk), fun hk => (by subst hk; rw [ht] at hf; cases hf), fun hk => (hw.same _ h2).trans (hn.2.2 hk)⟩⟩
theorem three_s3 {o : Op} {ty : TypeId} {k : Nat} (h1 : B1 ≠ B3) (h2 : B2 ≠ B3) (ht : tb ops k 4 = true) (hE : EOp P o ty e h fun _ h' => Wr h h' B3 (.cells u3 T)) :
    EOp P o ty e h fun v' h' => (Rel.three B1 B2 B3 T u1 u2 u3 o1 o2 o3).r h h' ∧ (Spec.nw B3 T u3).val v' ∧ (Spec.nw B3 T u3).mem v' h' ∧ ∀ k', k' ≠ k → tb ops k k' = false → (Rel.three B1 B2 B3 T u1 u2 u3 o1 o2 o3).neg k' h → (Rel.three B1 B2 B3 T u1 u2 u3 o1 o2 o3).neg k' h' :=
  hE.mono fun v' h' hw => ⟨R3.w3 h1 h2 hw, trivial, hw.at_, fun k' _ hf hn => ⟨fun hk => (hw.same _ h1).trans (hn.1 hk), fun hk => (hw.same _ h2).trans (hn.2.1 hk), fun hk => (by subst hk; rw [ht] at hf; cases hf)⟩⟩
/-- A store of one cell into a row of one cell. -/
theorem e_store1 {t ty el : TypeId} {a x : Operand} {B : Nat} {o : Array Value} {v : Value} (ha : ev e a = .pointer (some ⟨B, 0, none⟩)) (hs : sizeB P t = some 1) (hv : (ev e x).cells = #[v]) (hb : ∃ c : Array Value, Has h B (.cells c el) ∧ c.size = 1) (h1 : v.oneCell' = true) :
    EOp P (.store t a x) ty e h fun _ h' => Wr h h' B (.cells #[v] el) := by
  obtain ⟨c, hc, hz⟩ := hb
  refine (e_store (vs := #[v]) ha hs hv rfl hc (by omega) (by simp [h1])).mono fun _ h' hw => ?_
  have h9 : splc c 0 [v] = #[v] := by
    simp only [splc, List.take_zero, List.nil_append, List.length_singleton, Nat.zero_add]
    rw [List.drop_of_length_le (by simp; omega)]; rfl
  rw [show (#[v] : Array Value).toList = [v] from rfl, h9] at hw
  exact hw
end
end GL

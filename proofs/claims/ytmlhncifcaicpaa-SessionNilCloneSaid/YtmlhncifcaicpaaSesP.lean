/- Session: a sender in some good state. -/
import Derived.Test.YtmlhncifcaicpaaSesO
set_option linter.unusedSimpArgs false
set_option linter.unusedVariables false
set_option linter.unnecessarySimpa false
namespace GL
open Go Go.Proofs
set_option maxRecDepth 8000
theorem slicev_s {P : Program} {t : TypeId} (hu : P.underlying t = some .string) (s : ByteArray) (k : IntKind) (i : Int) (h0 : 0 ≤ i) (h1 : i ≤ s.size) :
    slicev P t (.string s) none (some (.int k i)) none = some (.string (s.extract 0 i.toNat)) := by
  have e1 : (0 ≤ i ∧ i ≤ ((s.size : Nat) : Int)) := ⟨h0, h1⟩
  simp only [slicev, hu, bnd, e1, and_self, if_true]
/-- A sender that was made behind h0, in some good state. -/
structure PS (h0 h : Heap) (p : Nat) (w : Int) : Prop where
  ex : ∃ n a al cap K, SG w n a K ∧ TS h0 h p w n a al cap K
theorem PS.E {h0 h : Heap} {p : Nat} {w : Int} (hP : PS h0 h p w) : Ext h0 h := by
  obtain ⟨n, a, al, cap, K, hS, hT⟩ := hP.ex
  exact hT.E
theorem PS.ext {h0 h h' : Heap} {p : Nat} {w : Int} (hP : PS h0 h p w) (hx : Ext h h') : PS h0 h' p w := by
  obtain ⟨n, a, al, cap, K, hS, hT⟩ := hP.ex
  exact ⟨n, a, al, cap, K, hS, hT.ext hx⟩
theorem ps_new (w : Int) (hw : 1 ≤ w ∧ w ≤ 256) (h : Heap) : HCalls Try.prog 20 #[iV w] h fun v h' => Ext h h' ∧ ∃ p, v = .tuple #[.pointer (some ⟨p, 0, none⟩), iV 0] ∧ PS h h' p w :=
  (ts_new w hw h).mono fun v h' ⟨hx, p, hv, ht⟩ => ⟨hx, p, hv, ⟨_, _, _, _, _, sg_new w hw, ht⟩⟩
theorem ps_Send {h0 h : Heap} {p : Nat} {w : Int} (pl : ByteArray) (hP : PS h0 h p w) : HCalls Try.prog 22 #[.pointer (some ⟨p, 0, none⟩), .string pl] h fun v h' => (∃ m e, v = .tuple #[.agg (msgL m).toArray, iV e]) ∧ PS h0 h' p w := by
  obtain ⟨n, a, al, cap, K, hS, hT⟩ := hP.ex
  exact (c_Send pl hS hT).mono fun v h' ⟨hv, al', cap', hT', _⟩ => ⟨⟨_, _, hv⟩, ⟨_, _, _, _, _, hS.snd pl, hT'⟩⟩
theorem ps_Ack {h0 h : Heap} {p : Nat} {w : Int} (x : Int) (hP : PS h0 h p w) : HCalls Try.prog 23 #[.pointer (some ⟨p, 0, none⟩), iV x] h fun v h' => (∃ e, v = iV e) ∧ PS h0 h' p w := by
  obtain ⟨n, a, al, cap, K, hS, hT⟩ := hP.ex
  exact (c_Acknowledge x hS hT).mono fun v h' ⟨hv, al', cap', hT', _⟩ => ⟨⟨_, hv⟩, ⟨_, _, _, _, _, hS.ack x, hT'⟩⟩
/-- What Resend returns. -/
def Spec.res (L : List M2) (e : Int) : Spec := ⟨fun v => ∃ a c, v = .tuple #[.slice a L.length c, iV e], fun v h => ∀ a n c u, v = .tuple #[.slice a n c, u] → SlR 43 2 msgL h a L,
  ⟨.tuple #[.slice none L.length 0, iV e], none, 0, rfl⟩, fun v h h' hx hm a n c u hv => (hm a n c u hv).ext hx⟩
theorem res_of {L : List M2} {e : Int} {h h' : Heap} {v : Value} (hh : Ext h h' ∧ ∃ b' c', v = .tuple #[.slice b' L.length c', iV e] ∧ SlR 43 2 msgL h' b' L) : Rel.grows.r h h' ∧ (Spec.res L e).val v ∧ (Spec.res L e).mem v h' := by
  obtain ⟨h1, b, c, rfl, h2⟩ := hh
  exact ⟨h1, ⟨b, c, rfl⟩, fun a n c u hv => by cases hv; exact h2⟩
end GL


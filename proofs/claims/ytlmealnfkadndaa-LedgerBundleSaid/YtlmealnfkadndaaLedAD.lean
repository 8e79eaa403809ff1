/- Ledger: lists of lists among the statements' arguments. -/
import Derived.Test.YtlmealnfkadndaaLedAC
import Derived.Test.YtlmealnfkadndaaLedV
set_option linter.unusedSimpArgs false
set_option linter.unusedVariables false
set_option linter.unnecessarySimpa false
namespace GL
open Go Go.Proofs Go.ChangeShapes Go.WideShapes Go.ChangeAt Go.RowKit
set_option maxRecDepth 8000
section
variable {H : Type} {enc : TypeId × Value → H} {W : World}
structure AVo (h : Heap) (x : AV) : Prop where
  rd : SlG 3 entL h x.a x.L
  ok : okE x.L
  len : x.L.length ≤ 9223372036854775807
  nil : x.a = none → x.c = 0
theorem vw_AV : VW enc Try.prog W 26 (fun cs => ∃ x : AV, cs = avL x ∧ AVo W.heap x) :=
  vw_Es.mono fun cs ⟨a, L, cap, h1, h2, h3, h4, h5, h6⟩ => ⟨⟨a, L, cap⟩, h1, ⟨h2, u8E h6, Nat.le_trans h3 h4, h5⟩⟩
theorem view_avs {r : Reach} {b0 : Nat} {v : Value} {d : DataW H} {q : List MemPlace} (hv : Value.okWide Try.prog W r b0 63 v) (h : DataW.Trod enc Try.prog W 0 (fun _ => true) true 63 v d q) :
    ∃ al l cl, v = .slice al l.length cl ∧ SlA W.heap al l ∧ l.length ≤ 9223372036854775807 ∧ ∀ x ∈ l, okE x.L ∧ x.L.length ≤ 9223372036854775807 ∧ (x.a = none → x.c = 0) := by
  obtain ⟨a, n, cap, rfl, al, l, cl, h1, h2, h3, h4, h5, h6⟩ := view_vsl Try.underlying63 (vw_sl Try.underlying63 cl26 (by decide) vw_AV) hv h
  simp only [List.cons.injEq, and_true] at h1
  rw [h1]
  exact ⟨al, l, cl, rfl, ⟨h2, fun x hx => (h6 x hx).rd⟩, Nat.le_trans h3 h4, fun x hx => ⟨(h6 x hx).ok, (h6 x hx).len, (h6 x hx).nil⟩⟩
theorem view_u8s {r : Reach} {b0 : Nat} {v : Value} {d : DataW H} {q : List MemPlace} (hv : Value.okWide Try.prog W r b0 35 v) (h : DataW.Trod enc Try.prog W 0 (fun _ => true) true 35 v d q) :
    ∃ (al : Option Addr) (l : List Int) (cl : Nat), v = .slice al l.length cl ∧ SlG 1 u8L W.heap al l ∧ l.length ≤ 9223372036854775807 ∧ ∀ x ∈ l, 0 ≤ x ∧ x ≤ 255 := by
  obtain ⟨a, n, cap, rfl, al, l, cl, h1, h2, h3, h4, h5, h6⟩ := view_vsl Try.underlying35 (vw_sl (p := fun x : Int => 0 ≤ x ∧ x ≤ 255) (f := u8L) Try.underlying35 cl5 (by decide) (vw_u8.mono fun cs ⟨n, h1, h2⟩ => ⟨n, h1, h2⟩)) hv h
  simp only [List.cons.injEq, and_true] at h1
  rw [h1]
  exact ⟨al, l, cl, rfl, h2, Nat.le_trans h3 h4, h6⟩
end
end GL


/- Limits: the statements on operations, on Reset, on errors. -/
import Derived.Test.YtenjmnpefmjdfaaLimS
import Derived.Test.YtenjmnpefmjdfaaGl32
set_option linter.unusedSimpArgs false
set_option linter.unusedVariables false
set_option linter.unnecessarySimpa false
namespace GL
open Go Go.Proofs
set_option maxRecDepth 8000
theorem c_runM (al : Option Addr) (l : List LOp) (cl : Nat) (hsm : smallB l = true) {h : Heap} (hl : SlG 5 opL h al l) (hok : ∀ o ∈ l, LOk h o) :
    HCalls Try.prog 22 #[.slice al l.length cl] h fun v h' => Ext h h' ∧ ∃ p w, v = .tuple #[.pointer (some ⟨p, 0, none⟩), w, .bool true] ∧ TB h h' p (rS l).1 (rS l).2 ∧ RT h' w (rR l).1 (rR l).2 ∧ EQ (rS l).1 (rS l).2 (rR l).1 (rR l).2 l.length :=
  (c_run al l cl hsm hl hok).mono fun v h' ⟨p, w, h1, h2, h3, h4⟩ => ⟨h2.E, p, w, h1, h2, h3, h4⟩
section
variable {h0 h h' : Heap} {p : Nat} {ls ns : List L2}
theorem tb_Clone (ht : TB h0 h p ls ns) : HCalls Try.prog 23 #[.pointer (some ⟨p, 0, none⟩)] h fun v h' => Ext h h' ∧ ∃ p', v = .pointer (some ⟨p', 0, none⟩) ∧ TB h h' p' ls ns := by
  obtain ⟨⟨bl, bn, h1, h2, h3⟩, hE, hp⟩ := ht
  refine (c_Clone h1).mono ?_
  rintro v h' ⟨hx, p', bl', bn', rfl, hb, q1, q2, q3⟩
  exact ⟨hx, p', rfl, ⟨bl', bn', hb, q2, q3⟩, hx, q1⟩
theorem tb_Equal {h1 : Heap} {p' : Nat} {ls' ns' : List L2} (ht : TB h0 h p ls ns) (ht' : TB h1 h p' ls' ns') :
    HCalls Try.prog 24 #[.pointer (some ⟨p, 0, none⟩), .pointer (some ⟨p', 0, none⟩)] h (Grow (.bool (decide (mapEq ls ls') && decide (mapEq ns ns'))) h) := by
  obtain ⟨⟨bl, bn, h1, h2, h3⟩, hE, hp⟩ := ht
  obtain ⟨⟨bl', bn', h1', h2', h3'⟩, hE', hp'⟩ := ht'
  exact c_Equal h1 h1'
theorem tb_EqualS {h1 : Heap} {p' : Nat} (ht : TB h0 h p ls ns) (ht' : TB h1 h p' ls ns) :
    HCalls Try.prog 24 #[.pointer (some ⟨p, 0, none⟩), .pointer (some ⟨p', 0, none⟩)] h (Grow (.bool true) h) := by
  have hn := tb_nodup ht
  refine (tb_Equal ht ht').mono ?_
  rintro v h' ⟨rfl, hx⟩
  exact ⟨by rw [decide_eq_true (mapEq_refl hn.1), decide_eq_true (mapEq_refl hn.2)]; rfl, hx⟩
theorem tb_EqualU {h1 : Heap} {p' : Nat} {o : LOp} (he : ¬ eS o ls ns = 0) (ht : TB h0 h p (lS o ls ns) (nS o ls ns)) (ht' : TB h1 h p' ls ns) :
    HCalls Try.prog 24 #[.pointer (some ⟨p, 0, none⟩), .pointer (some ⟨p', 0, none⟩)] h (Grow (.bool true) h) := by
  obtain ⟨e1, e2⟩ := eS_no he
  rw [e1, e2] at ht
  exact tb_EqualS ht ht'
theorem c_small1 {o : LOp} {v : Value} (hv : ∃ B, v = .slice (some ⟨B, 0, none⟩) 1 1 ∧ Has h B (.cells (opL o).toArray 45)) : HCalls Try.prog 17 #[v] h (Pure (.bool (smallB [o])) h) := by
  obtain ⟨B, rfl, hB⟩ := hv
  exact c_small (some ⟨B, 0, none⟩) [o] 1 (by simp) (slG_has (f := opL) (sz := 5) (L := [o]) (fun _ => rfl) hB (by simp))
end
end GL


/-
  No cell of these rows narrows 'for every input' (looked for: loops, veiled, ifaces, maps, wideKeys, modest, calm, conditions, laid).
  DERIVED. THE GIVEN ROWS OF THIS SEAT. 9 by the template 'for every input the law returns true; each argument reads behind the call as it read before'; 0 by the template 'total and deterministic' (their statements: YtnmgdjajmmgaaaaTotals.lean).
  GIVEN WITH THE SEED: the statements are not yours to turn. If you find one false, say at which input.
  Laid BY PROGRAM, IN A SANDBOX (cutbox-rows.mjs): the forced cells as the released guide's own fill.sh prints them over the translation 0b165f44744e7b54… (all of the seat's roots in one cut). By AI agents, Wed Nov 11 2026. No macro, syntax, notation, axiom, sorry.
-/
import Derived.Test.YtnmgdjajmmgaaaaChecked
import GoSem.Claim
import GoSem.ClaimJoined
import GoSem.ClaimMapViews
import Derived.JoinedTies
import Derived.KernelRfl
namespace Go.Proofs.Ytnmgdjajmmgaaaa
/- THE CELL 'sum', in the pinned program and in every row, IS THE sha256 OF THE DUMP (.gsa) THAT YtnmgdjajmmgaaaaProg.lean LOADS. Nothing in Lean hashes anything: it is a label: what it is worth is what the hold of that sum in a sandbox is worth. -/
noncomputable def Try.pinned : Pinned := { name := "ytnmgdjajmmgaaaa", sum := "0b165f44744e7b5457d5978578fc5f1fe26ac58a651e6e61d458c20be4c40473", checked := Try.checked }
namespace Rows
def none {H : Type} : Left H := { results := [], args := [] }

/-- 'girolaw47.SchedulePhase': WHATEVER THE INPUT: true; the input reads as it did. -/
def schedulePhaseSpec : ChangeSpec := { name := "schedulePhase", fn := fun _ => fun
  | [d1, d2, d3] => { results := [.lit (.bool true)], args := [d1, d2, d3] }
  | _ => none }
def schedulePhaseRow : OpenClaim := { program := "ytnmgdjajmmgaaaa", sum := "0b165f44744e7b5457d5978578fc5f1fe26ac58a651e6e61d458c20be4c40473", func := "giro/girolaw47.SchedulePhase", spec := "schedulePhase", unfollowed := true, recurses := true, apart := false }
def SchedulePhaseSaid : Prop := schedulePhaseRow.holds Try.pinned (OpenSpec.ofChange schedulePhaseSpec)

/-- ITS FALSE NEIGHBOUR: 'it returns false'. Refute it at one input. -/
def schedulePhaseWrong : ChangeSpec := { name := "schedulePhase", fn := fun _ => fun
  | [d1, d2, d3] => { results := [.lit (.bool false)], args := [d1, d2, d3] }
  | _ => none }
def SchedulePhaseWrongFalsely : Prop := schedulePhaseRow.holds Try.pinned (OpenSpec.ofChange schedulePhaseWrong)

/-- 'girolaw47.ScheduleBegin': WHATEVER THE INPUT: true; the input reads as it did. -/
def scheduleBeginSpec : ChangeSpec := { name := "scheduleBegin", fn := fun _ => fun
  | [d1, d2, d3] => { results := [.lit (.bool true)], args := [d1, d2, d3] }
  | _ => none }
def scheduleBeginRow : OpenClaim := { program := "ytnmgdjajmmgaaaa", sum := "0b165f44744e7b5457d5978578fc5f1fe26ac58a651e6e61d458c20be4c40473", func := "giro/girolaw47.ScheduleBegin", spec := "scheduleBegin", unfollowed := true, recurses := true, apart := false }
def ScheduleBeginSaid : Prop := scheduleBeginRow.holds Try.pinned (OpenSpec.ofChange scheduleBeginSpec)

/-- ITS FALSE NEIGHBOUR: 'it returns false'. Refute it at one input. -/
def scheduleBeginWrong : ChangeSpec := { name := "scheduleBegin", fn := fun _ => fun
  | [d1, d2, d3] => { results := [.lit (.bool false)], args := [d1, d2, d3] }
  | _ => none }
def ScheduleBeginWrongFalsely : Prop := scheduleBeginRow.holds Try.pinned (OpenSpec.ofChange scheduleBeginWrong)

/-- 'girolaw47.ScheduleNames': WHATEVER THE INPUT: true; the input reads as it did. -/
def scheduleNamesSpec : ChangeSpec := { name := "scheduleNames", fn := fun _ => fun
  | [d1, d2] => { results := [.lit (.bool true)], args := [d1, d2] }
  | _ => none }
def scheduleNamesRow : OpenClaim := { program := "ytnmgdjajmmgaaaa", sum := "0b165f44744e7b5457d5978578fc5f1fe26ac58a651e6e61d458c20be4c40473", func := "giro/girolaw47.ScheduleNames", spec := "scheduleNames", unfollowed := true, recurses := true, apart := false }
def ScheduleNamesSaid : Prop := scheduleNamesRow.holds Try.pinned (OpenSpec.ofChange scheduleNamesSpec)

/-- ITS FALSE NEIGHBOUR: 'it returns false'. Refute it at one input. -/
def scheduleNamesWrong : ChangeSpec := { name := "scheduleNames", fn := fun _ => fun
  | [d1, d2] => { results := [.lit (.bool false)], args := [d1, d2] }
  | _ => none }
def ScheduleNamesWrongFalsely : Prop := scheduleNamesRow.holds Try.pinned (OpenSpec.ofChange scheduleNamesWrong)

/-- 'girolaw47.ScheduleChanges': WHATEVER THE INPUT: true; the input reads as it did. -/
def scheduleChangesSpec : ChangeSpec := { name := "scheduleChanges", fn := fun _ => fun
  | [d1, d2, d3] => { results := [.lit (.bool true)], args := [d1, d2, d3] }
  | _ => none }
def scheduleChangesRow : OpenClaim := { program := "ytnmgdjajmmgaaaa", sum := "0b165f44744e7b5457d5978578fc5f1fe26ac58a651e6e61d458c20be4c40473", func := "giro/girolaw47.ScheduleChanges", spec := "scheduleChanges", unfollowed := true, recurses := true, apart := false }
def ScheduleChangesSaid : Prop := scheduleChangesRow.holds Try.pinned (OpenSpec.ofChange scheduleChangesSpec)

/-- ITS FALSE NEIGHBOUR: 'it returns false'. Refute it at one input. -/
def scheduleChangesWrong : ChangeSpec := { name := "scheduleChanges", fn := fun _ => fun
  | [d1, d2, d3] => { results := [.lit (.bool false)], args := [d1, d2, d3] }
  | _ => none }
def ScheduleChangesWrongFalsely : Prop := scheduleChangesRow.holds Try.pinned (OpenSpec.ofChange scheduleChangesWrong)

/-- 'girolaw47.ScheduleNext': WHATEVER THE INPUT: true; the input reads as it did. -/
def scheduleNextSpec : ChangeSpec := { name := "scheduleNext", fn := fun _ => fun
  | [d1, d2, d3] => { results := [.lit (.bool true)], args := [d1, d2, d3] }
  | _ => none }
def scheduleNextRow : OpenClaim := { program := "ytnmgdjajmmgaaaa", sum := "0b165f44744e7b5457d5978578fc5f1fe26ac58a651e6e61d458c20be4c40473", func := "giro/girolaw47.ScheduleNext", spec := "scheduleNext", unfollowed := true, recurses := true, apart := false }
def ScheduleNextSaid : Prop := scheduleNextRow.holds Try.pinned (OpenSpec.ofChange scheduleNextSpec)

/-- ITS FALSE NEIGHBOUR: 'it returns false'. Refute it at one input. -/
def scheduleNextWrong : ChangeSpec := { name := "scheduleNext", fn := fun _ => fun
  | [d1, d2, d3] => { results := [.lit (.bool false)], args := [d1, d2, d3] }
  | _ => none }
def ScheduleNextWrongFalsely : Prop := scheduleNextRow.holds Try.pinned (OpenSpec.ofChange scheduleNextWrong)

/-- 'girolaw47.ScheduleAdjoining': WHATEVER THE INPUT: true; the input reads as it did. -/
def scheduleAdjoiningSpec : ChangeSpec := { name := "scheduleAdjoining", fn := fun _ => fun
  | [d1, d2, d3] => { results := [.lit (.bool true)], args := [d1, d2, d3] }
  | _ => none }
def scheduleAdjoiningRow : OpenClaim := { program := "ytnmgdjajmmgaaaa", sum := "0b165f44744e7b5457d5978578fc5f1fe26ac58a651e6e61d458c20be4c40473", func := "giro/girolaw47.ScheduleAdjoining", spec := "scheduleAdjoining", unfollowed := true, recurses := true, apart := false }
def ScheduleAdjoiningSaid : Prop := scheduleAdjoiningRow.holds Try.pinned (OpenSpec.ofChange scheduleAdjoiningSpec)

/-- ITS FALSE NEIGHBOUR: 'it returns false'. Refute it at one input. -/
def scheduleAdjoiningWrong : ChangeSpec := { name := "scheduleAdjoining", fn := fun _ => fun
  | [d1, d2, d3] => { results := [.lit (.bool false)], args := [d1, d2, d3] }
  | _ => none }
def ScheduleAdjoiningWrongFalsely : Prop := scheduleAdjoiningRow.holds Try.pinned (OpenSpec.ofChange scheduleAdjoiningWrong)

/-- 'girolaw47.ScheduleActions': WHATEVER THE INPUT: true; the input reads as it did. -/
def scheduleActionsSpec : ChangeSpec := { name := "scheduleActions", fn := fun _ => fun
  | [d1, d2] => { results := [.lit (.bool true)], args := [d1, d2] }
  | _ => none }
def scheduleActionsRow : OpenClaim := { program := "ytnmgdjajmmgaaaa", sum := "0b165f44744e7b5457d5978578fc5f1fe26ac58a651e6e61d458c20be4c40473", func := "giro/girolaw47.ScheduleActions", spec := "scheduleActions", unfollowed := true, recurses := true, apart := false }
def ScheduleActionsSaid : Prop := scheduleActionsRow.holds Try.pinned (OpenSpec.ofChange scheduleActionsSpec)

/-- ITS FALSE NEIGHBOUR: 'it returns false'. Refute it at one input. -/
def scheduleActionsWrong : ChangeSpec := { name := "scheduleActions", fn := fun _ => fun
  | [d1, d2] => { results := [.lit (.bool false)], args := [d1, d2] }
  | _ => none }
def ScheduleActionsWrongFalsely : Prop := scheduleActionsRow.holds Try.pinned (OpenSpec.ofChange scheduleActionsWrong)

/-- 'girolaw47.ScheduleAllows': WHATEVER THE INPUT: true; the input reads as it did. -/
def scheduleAllowsSpec : ChangeSpec := { name := "scheduleAllows", fn := fun _ => fun
  | [d1, d2] => { results := [.lit (.bool true)], args := [d1, d2] }
  | _ => none }
def scheduleAllowsRow : OpenClaim := { program := "ytnmgdjajmmgaaaa", sum := "0b165f44744e7b5457d5978578fc5f1fe26ac58a651e6e61d458c20be4c40473", func := "giro/girolaw47.ScheduleAllows", spec := "scheduleAllows", unfollowed := true, recurses := true, apart := false }
def ScheduleAllowsSaid : Prop := scheduleAllowsRow.holds Try.pinned (OpenSpec.ofChange scheduleAllowsSpec)

/-- ITS FALSE NEIGHBOUR: 'it returns false'. Refute it at one input. -/
def scheduleAllowsWrong : ChangeSpec := { name := "scheduleAllows", fn := fun _ => fun
  | [d1, d2] => { results := [.lit (.bool false)], args := [d1, d2] }
  | _ => none }
def ScheduleAllowsWrongFalsely : Prop := scheduleAllowsRow.holds Try.pinned (OpenSpec.ofChange scheduleAllowsWrong)

/-- 'girolaw47.ScheduleNil': WHATEVER THE INPUT: true; the input reads as it did. -/
def scheduleNilSpec : ChangeSpec := { name := "scheduleNil", fn := fun _ => fun
  | [d1, d2, d3] => { results := [.lit (.bool true)], args := [d1, d2, d3] }
  | _ => none }
def scheduleNilRow : OpenClaim := { program := "ytnmgdjajmmgaaaa", sum := "0b165f44744e7b5457d5978578fc5f1fe26ac58a651e6e61d458c20be4c40473", func := "giro/girolaw47.ScheduleNil", spec := "scheduleNil", unfollowed := true, recurses := true, apart := false }
def ScheduleNilSaid : Prop := scheduleNilRow.holds Try.pinned (OpenSpec.ofChange scheduleNilSpec)

/-- ITS FALSE NEIGHBOUR: 'it returns false'. Refute it at one input. -/
def scheduleNilWrong : ChangeSpec := { name := "scheduleNil", fn := fun _ => fun
  | [d1, d2, d3] => { results := [.lit (.bool false)], args := [d1, d2, d3] }
  | _ => none }
def ScheduleNilWrongFalsely : Prop := scheduleNilRow.holds Try.pinned (OpenSpec.ofChange scheduleNilWrong)

/- THE SECOND FORM. 'bulk': how many values and letters a reading holds, each counted each time it is reached (what is shared counts as often as it is met; a slice's spare places count too). A statement '..UptoSaid' is the law's where the arguments, and the package variables that the reading takes, are together of bulk at most 1048576: NARROWER than '..Said'. Prove '..Said' where nothing that the law and all that it calls make is longer than what came in: it says more and counts as full. Else prove '..UptoSaid'. A law counts once. -/
mutual
def uptoBulk {H : Type} : DataW H → Nat
  | .lit (.string bytes) => bytes.length + 1
  | .lit _ => 1
  | .nil => 1
  | .ptr d => uptoBulk d + 1
  | .slice elems spare => uptoBulkAll elems + uptoBulkAll spare + 1
  | .agg parts => uptoBulkAll parts + 1
  | .iface _ d => uptoBulk d + 1
  | .map entries => uptoBulkEntries entries + 1
  | .held _ => 1
def uptoBulkAll {H : Type} : List (DataW H) → Nat
  | [] => 0
  | d :: r => uptoBulk d + uptoBulkAll r
def uptoBulkEntries {H : Type} : List (Lit × DataW H) → Nat
  | [] => 0
  | x :: r => uptoBulkEntry x + uptoBulkEntries r
def uptoBulkEntry {H : Type} : Lit × DataW H → Nat
  | (.string bytes, d) => bytes.length + uptoBulk d + 1
  | (_, d) => uptoBulk d + 1
 end
def uptoSmall : (H : Type) → List (DataW H) → Bool := fun _ ds => decide (uptoBulkAll ds ≤ 1048576)
def OpenSpec.upto (s : _root_.Go.ChangeSpec) : _root_.Go.OpenSpec := { _root_.Go.OpenSpec.ofChange s with cond := some uptoSmall }

/-- 'girolaw47.SchedulePhase', WHERE WHAT IT READS IS OF BULK AT MOST 1048576: true; the input reads as it did. -/
def schedulePhaseUptoRow : OpenClaim := { program := "ytnmgdjajmmgaaaa", sum := "0b165f44744e7b5457d5978578fc5f1fe26ac58a651e6e61d458c20be4c40473", func := "giro/girolaw47.SchedulePhase", spec := "schedulePhase", unfollowed := true, recurses := true, apart := false, narrowed := true }
def SchedulePhaseUptoSaid : Prop := schedulePhaseUptoRow.holds Try.pinned (OpenSpec.upto schedulePhaseSpec)

/-- 'girolaw47.ScheduleBegin', WHERE WHAT IT READS IS OF BULK AT MOST 1048576: true; the input reads as it did. -/
def scheduleBeginUptoRow : OpenClaim := { program := "ytnmgdjajmmgaaaa", sum := "0b165f44744e7b5457d5978578fc5f1fe26ac58a651e6e61d458c20be4c40473", func := "giro/girolaw47.ScheduleBegin", spec := "scheduleBegin", unfollowed := true, recurses := true, apart := false, narrowed := true }
def ScheduleBeginUptoSaid : Prop := scheduleBeginUptoRow.holds Try.pinned (OpenSpec.upto scheduleBeginSpec)

/-- 'girolaw47.ScheduleNames', WHERE WHAT IT READS IS OF BULK AT MOST 1048576: true; the input reads as it did. -/
def scheduleNamesUptoRow : OpenClaim := { program := "ytnmgdjajmmgaaaa", sum := "0b165f44744e7b5457d5978578fc5f1fe26ac58a651e6e61d458c20be4c40473", func := "giro/girolaw47.ScheduleNames", spec := "scheduleNames", unfollowed := true, recurses := true, apart := false, narrowed := true }
def ScheduleNamesUptoSaid : Prop := scheduleNamesUptoRow.holds Try.pinned (OpenSpec.upto scheduleNamesSpec)

/-- 'girolaw47.ScheduleChanges', WHERE WHAT IT READS IS OF BULK AT MOST 1048576: true; the input reads as it did. -/
def scheduleChangesUptoRow : OpenClaim := { program := "ytnmgdjajmmgaaaa", sum := "0b165f44744e7b5457d5978578fc5f1fe26ac58a651e6e61d458c20be4c40473", func := "giro/girolaw47.ScheduleChanges", spec := "scheduleChanges", unfollowed := true, recurses := true, apart := false, narrowed := true }
def ScheduleChangesUptoSaid : Prop := scheduleChangesUptoRow.holds Try.pinned (OpenSpec.upto scheduleChangesSpec)

/-- 'girolaw47.ScheduleNext', WHERE WHAT IT READS IS OF BULK AT MOST 1048576: true; the input reads as it did. -/
def scheduleNextUptoRow : OpenClaim := { program := "ytnmgdjajmmgaaaa", sum := "0b165f44744e7b5457d5978578fc5f1fe26ac58a651e6e61d458c20be4c40473", func := "giro/girolaw47.ScheduleNext", spec := "scheduleNext", unfollowed := true, recurses := true, apart := false, narrowed := true }
def ScheduleNextUptoSaid : Prop := scheduleNextUptoRow.holds Try.pinned (OpenSpec.upto scheduleNextSpec)

/-- 'girolaw47.ScheduleAdjoining', WHERE WHAT IT READS IS OF BULK AT MOST 1048576: true; the input reads as it did. -/
def scheduleAdjoiningUptoRow : OpenClaim := { program := "ytnmgdjajmmgaaaa", sum := "0b165f44744e7b5457d5978578fc5f1fe26ac58a651e6e61d458c20be4c40473", func := "giro/girolaw47.ScheduleAdjoining", spec := "scheduleAdjoining", unfollowed := true, recurses := true, apart := false, narrowed := true }
def ScheduleAdjoiningUptoSaid : Prop := scheduleAdjoiningUptoRow.holds Try.pinned (OpenSpec.upto scheduleAdjoiningSpec)

/-- 'girolaw47.ScheduleActions', WHERE WHAT IT READS IS OF BULK AT MOST 1048576: true; the input reads as it did. -/
def scheduleActionsUptoRow : OpenClaim := { program := "ytnmgdjajmmgaaaa", sum := "0b165f44744e7b5457d5978578fc5f1fe26ac58a651e6e61d458c20be4c40473", func := "giro/girolaw47.ScheduleActions", spec := "scheduleActions", unfollowed := true, recurses := true, apart := false, narrowed := true }
def ScheduleActionsUptoSaid : Prop := scheduleActionsUptoRow.holds Try.pinned (OpenSpec.upto scheduleActionsSpec)

/-- 'girolaw47.ScheduleAllows', WHERE WHAT IT READS IS OF BULK AT MOST 1048576: true; the input reads as it did. -/
def scheduleAllowsUptoRow : OpenClaim := { program := "ytnmgdjajmmgaaaa", sum := "0b165f44744e7b5457d5978578fc5f1fe26ac58a651e6e61d458c20be4c40473", func := "giro/girolaw47.ScheduleAllows", spec := "scheduleAllows", unfollowed := true, recurses := true, apart := false, narrowed := true }
def ScheduleAllowsUptoSaid : Prop := scheduleAllowsUptoRow.holds Try.pinned (OpenSpec.upto scheduleAllowsSpec)

/-- 'girolaw47.ScheduleNil', WHERE WHAT IT READS IS OF BULK AT MOST 1048576: true; the input reads as it did. -/
def scheduleNilUptoRow : OpenClaim := { program := "ytnmgdjajmmgaaaa", sum := "0b165f44744e7b5457d5978578fc5f1fe26ac58a651e6e61d458c20be4c40473", func := "giro/girolaw47.ScheduleNil", spec := "scheduleNil", unfollowed := true, recurses := true, apart := false, narrowed := true }
def ScheduleNilUptoSaid : Prop := scheduleNilUptoRow.holds Try.pinned (OpenSpec.upto scheduleNilSpec)

end Rows
end Go.Proofs.Ytnmgdjajmmgaaaa

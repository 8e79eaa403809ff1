/-
  No cell of these rows narrows 'for every input' (looked for: loops, veiled, ifaces, maps, wideKeys, modest, calm, conditions, laid).
  DERIVED. THE GIVEN ROWS OF THIS SEAT. 8 by the template 'for every input the law returns true; each argument reads behind the call as it read before'; 0 by the template 'total and deterministic' (their statements: YtmlhncifcaicpaaTotals.lean).
  GIVEN WITH THE SEED: the statements are not yours to turn. If you find one false, say at which input.
  Laid BY PROGRAM, IN A SANDBOX (cutbox-rows.mjs): the forced cells as the released guide's own fill.sh prints them over the translation 832aef0975c3fb15… (all of the seat's roots in one cut). By AI agents, Wed Nov 11 2026. No macro, syntax, notation, axiom, sorry.
-/
import Derived.Test.YtmlhncifcaicpaaChecked
import GoSem.Claim
import GoSem.ClaimJoined
import GoSem.ClaimMapViews
import Derived.JoinedTies
import Derived.KernelRfl
namespace Go.Proofs.Ytmlhncifcaicpaa
/- THE CELL 'sum', in the pinned program and in every row, IS THE sha256 OF THE DUMP (.gsa) THAT YtmlhncifcaicpaaProg.lean LOADS. Nothing in Lean hashes anything: it is a label: what it is worth is what the hold of that sum in a sandbox is worth. -/
noncomputable def Try.pinned : Pinned := { name := "ytmlhncifcaicpaa", sum := "832aef0975c3fb1566c783c47d1cd2c576039892ab94d3455ebe2c73bb364131", checked := Try.checked }
namespace Rows
def none {H : Type} : Left H := { results := [], args := [] }

/-- 'girolaw49.SessionReceiver': WHATEVER THE INPUT: true; the input reads as it did. -/
def sessionReceiverSpec : ChangeSpec := { name := "sessionReceiver", fn := fun _ => fun
  | [d1, d2] => { results := [.lit (.bool true)], args := [d1, d2] }
  | _ => none }
def sessionReceiverRow : OpenClaim := { program := "ytmlhncifcaicpaa", sum := "832aef0975c3fb1566c783c47d1cd2c576039892ab94d3455ebe2c73bb364131", func := "giro/girolaw49.SessionReceiver", spec := "sessionReceiver", unfollowed := true, recurses := true, apart := false }
def SessionReceiverSaid : Prop := sessionReceiverRow.holds Try.pinned (OpenSpec.ofChange sessionReceiverSpec)

/-- ITS FALSE NEIGHBOUR: 'it returns false'. Refute it at one input. -/
def sessionReceiverWrong : ChangeSpec := { name := "sessionReceiver", fn := fun _ => fun
  | [d1, d2] => { results := [.lit (.bool false)], args := [d1, d2] }
  | _ => none }
def SessionReceiverWrongFalsely : Prop := sessionReceiverRow.holds Try.pinned (OpenSpec.ofChange sessionReceiverWrong)

/-- 'girolaw49.SessionOrder': WHATEVER THE INPUT: true; the input reads as it did. -/
def sessionOrderSpec : ChangeSpec := { name := "sessionOrder", fn := fun _ => fun
  | [d1, d2, d3] => { results := [.lit (.bool true)], args := [d1, d2, d3] }
  | _ => none }
def sessionOrderRow : OpenClaim := { program := "ytmlhncifcaicpaa", sum := "832aef0975c3fb1566c783c47d1cd2c576039892ab94d3455ebe2c73bb364131", func := "giro/girolaw49.SessionOrder", spec := "sessionOrder", unfollowed := true, recurses := true, apart := false }
def SessionOrderSaid : Prop := sessionOrderRow.holds Try.pinned (OpenSpec.ofChange sessionOrderSpec)

/-- ITS FALSE NEIGHBOUR: 'it returns false'. Refute it at one input. -/
def sessionOrderWrong : ChangeSpec := { name := "sessionOrder", fn := fun _ => fun
  | [d1, d2, d3] => { results := [.lit (.bool false)], args := [d1, d2, d3] }
  | _ => none }
def SessionOrderWrongFalsely : Prop := sessionOrderRow.holds Try.pinned (OpenSpec.ofChange sessionOrderWrong)

/-- 'girolaw49.SessionDuplicates': WHATEVER THE INPUT: true; the input reads as it did. -/
def sessionDuplicatesSpec : ChangeSpec := { name := "sessionDuplicates", fn := fun _ => fun
  | [d1, d2, d3] => { results := [.lit (.bool true)], args := [d1, d2, d3] }
  | _ => none }
def sessionDuplicatesRow : OpenClaim := { program := "ytmlhncifcaicpaa", sum := "832aef0975c3fb1566c783c47d1cd2c576039892ab94d3455ebe2c73bb364131", func := "giro/girolaw49.SessionDuplicates", spec := "sessionDuplicates", inPlace := ["maps.clone"], unfollowed := true, recurses := true, apart := false }
def SessionDuplicatesSaid : Prop := sessionDuplicatesRow.holds Try.pinned (OpenSpec.ofChange sessionDuplicatesSpec)

/-- ITS FALSE NEIGHBOUR: 'it returns false'. Refute it at one input. -/
def sessionDuplicatesWrong : ChangeSpec := { name := "sessionDuplicates", fn := fun _ => fun
  | [d1, d2, d3] => { results := [.lit (.bool false)], args := [d1, d2, d3] }
  | _ => none }
def SessionDuplicatesWrongFalsely : Prop := sessionDuplicatesRow.holds Try.pinned (OpenSpec.ofChange sessionDuplicatesWrong)

/-- 'girolaw49.SessionWindow': WHATEVER THE INPUT: true; the input reads as it did. -/
def sessionWindowSpec : ChangeSpec := { name := "sessionWindow", fn := fun _ => fun
  | [d1, d2, d3] => { results := [.lit (.bool true)], args := [d1, d2, d3] }
  | _ => none }
def sessionWindowRow : OpenClaim := { program := "ytmlhncifcaicpaa", sum := "832aef0975c3fb1566c783c47d1cd2c576039892ab94d3455ebe2c73bb364131", func := "giro/girolaw49.SessionWindow", spec := "sessionWindow", unfollowed := true, recurses := true, apart := false }
def SessionWindowSaid : Prop := sessionWindowRow.holds Try.pinned (OpenSpec.ofChange sessionWindowSpec)

/-- ITS FALSE NEIGHBOUR: 'it returns false'. Refute it at one input. -/
def sessionWindowWrong : ChangeSpec := { name := "sessionWindow", fn := fun _ => fun
  | [d1, d2, d3] => { results := [.lit (.bool false)], args := [d1, d2, d3] }
  | _ => none }
def SessionWindowWrongFalsely : Prop := sessionWindowRow.holds Try.pinned (OpenSpec.ofChange sessionWindowWrong)

/-- 'girolaw49.SessionSender': WHATEVER THE INPUT: true; the input reads as it did. -/
def sessionSenderSpec : ChangeSpec := { name := "sessionSender", fn := fun _ => fun
  | [d1, d2] => { results := [.lit (.bool true)], args := [d1, d2] }
  | _ => none }
def sessionSenderRow : OpenClaim := { program := "ytmlhncifcaicpaa", sum := "832aef0975c3fb1566c783c47d1cd2c576039892ab94d3455ebe2c73bb364131", func := "giro/girolaw49.SessionSender", spec := "sessionSender", unfollowed := true, recurses := true, apart := false }
def SessionSenderSaid : Prop := sessionSenderRow.holds Try.pinned (OpenSpec.ofChange sessionSenderSpec)

/-- ITS FALSE NEIGHBOUR: 'it returns false'. Refute it at one input. -/
def sessionSenderWrong : ChangeSpec := { name := "sessionSender", fn := fun _ => fun
  | [d1, d2] => { results := [.lit (.bool false)], args := [d1, d2] }
  | _ => none }
def SessionSenderWrongFalsely : Prop := sessionSenderRow.holds Try.pinned (OpenSpec.ofChange sessionSenderWrong)

/-- 'girolaw49.SessionPending': WHATEVER THE INPUT: true; the input reads as it did. -/
def sessionPendingSpec : ChangeSpec := { name := "sessionPending", fn := fun _ => fun
  | [d1, d2] => { results := [.lit (.bool true)], args := [d1, d2] }
  | _ => none }
def sessionPendingRow : OpenClaim := { program := "ytmlhncifcaicpaa", sum := "832aef0975c3fb1566c783c47d1cd2c576039892ab94d3455ebe2c73bb364131", func := "giro/girolaw49.SessionPending", spec := "sessionPending", unfollowed := true, recurses := true, apart := false }
def SessionPendingSaid : Prop := sessionPendingRow.holds Try.pinned (OpenSpec.ofChange sessionPendingSpec)

/-- ITS FALSE NEIGHBOUR: 'it returns false'. Refute it at one input. -/
def sessionPendingWrong : ChangeSpec := { name := "sessionPending", fn := fun _ => fun
  | [d1, d2] => { results := [.lit (.bool false)], args := [d1, d2] }
  | _ => none }
def SessionPendingWrongFalsely : Prop := sessionPendingRow.holds Try.pinned (OpenSpec.ofChange sessionPendingWrong)

/-- 'girolaw49.SessionRecovery': WHATEVER THE INPUT: true; the input reads as it did. -/
def sessionRecoverySpec : ChangeSpec := { name := "sessionRecovery", fn := fun _ => fun
  | [d1, d2] => { results := [.lit (.bool true)], args := [d1, d2] }
  | _ => none }
def sessionRecoveryRow : OpenClaim := { program := "ytmlhncifcaicpaa", sum := "832aef0975c3fb1566c783c47d1cd2c576039892ab94d3455ebe2c73bb364131", func := "giro/girolaw49.SessionRecovery", spec := "sessionRecovery", unfollowed := true, recurses := true, apart := false }
def SessionRecoverySaid : Prop := sessionRecoveryRow.holds Try.pinned (OpenSpec.ofChange sessionRecoverySpec)

/-- ITS FALSE NEIGHBOUR: 'it returns false'. Refute it at one input. -/
def sessionRecoveryWrong : ChangeSpec := { name := "sessionRecovery", fn := fun _ => fun
  | [d1, d2] => { results := [.lit (.bool false)], args := [d1, d2] }
  | _ => none }
def SessionRecoveryWrongFalsely : Prop := sessionRecoveryRow.holds Try.pinned (OpenSpec.ofChange sessionRecoveryWrong)

/-- 'girolaw49.SessionNilClone': WHATEVER THE INPUT: true; the input reads as it did. -/
def sessionNilCloneSpec : ChangeSpec := { name := "sessionNilClone", fn := fun _ => fun
  | [d1, d2, d3, d4, d5] => { results := [.lit (.bool true)], args := [d1, d2, d3, d4, d5] }
  | _ => none }
def sessionNilCloneRow : OpenClaim := { program := "ytmlhncifcaicpaa", sum := "832aef0975c3fb1566c783c47d1cd2c576039892ab94d3455ebe2c73bb364131", func := "giro/girolaw49.SessionNilClone", spec := "sessionNilClone", inPlace := ["maps.clone"], unfollowed := true, recurses := true, apart := false }
def SessionNilCloneSaid : Prop := sessionNilCloneRow.holds Try.pinned (OpenSpec.ofChange sessionNilCloneSpec)

/-- ITS FALSE NEIGHBOUR: 'it returns false'. Refute it at one input. -/
def sessionNilCloneWrong : ChangeSpec := { name := "sessionNilClone", fn := fun _ => fun
  | [d1, d2, d3, d4, d5] => { results := [.lit (.bool false)], args := [d1, d2, d3, d4, d5] }
  | _ => none }
def SessionNilCloneWrongFalsely : Prop := sessionNilCloneRow.holds Try.pinned (OpenSpec.ofChange sessionNilCloneWrong)

/- THE SECOND FORM. 'bulk': how many values and letters a reading holds, each counted each time it is reached (what is shared counts as often as it is met; a slice's spare places count too). A statement '..UptoSaid' is the law's where the arguments, and the package variables that the reading takes, are together of bulk at most 1048576: NARROWER than '..Said'. Prove '..Said' where nothing that the law and all that it calls make is longer than what came in: it says more and counts as full. Else prove '..UptoSaid'. A law counts once. -/
mutual
def uptoBulk {H : Type} : DataW H → Nat
  | .lit (.string bytes) => bytes.length + 1
  | .lit _ => 1
  | .nil => 1
  | .ptr d => uptoBulk d + 1
  | .slice elems spare => uptoBulkAll elems + uptoBulkAll spare + 1
  | .agg parts => uptoBulkAll parts + 1
  | .iface _ d => uptoBulk d + 1
  | .map entries => uptoBulkEntries entries + 1
  | .held _ => 1
def uptoBulkAll {H : Type} : List (DataW H) → Nat
  | [] => 0
  | d :: r => uptoBulk d + uptoBulkAll r
def uptoBulkEntries {H : Type} : List (Lit × DataW H) → Nat
  | [] => 0
  | x :: r => uptoBulkEntry x + uptoBulkEntries r
def uptoBulkEntry {H : Type} : Lit × DataW H → Nat
  | (.string bytes, d) => bytes.length + uptoBulk d + 1
  | (_, d) => uptoBulk d + 1
 end
def uptoSmall : (H : Type) → List (DataW H) → Bool := fun _ ds => decide (uptoBulkAll ds ≤ 1048576)
def OpenSpec.upto (s : _root_.Go.ChangeSpec) : _root_.Go.OpenSpec := { _root_.Go.OpenSpec.ofChange s with cond := some uptoSmall }

/-- 'girolaw49.SessionReceiver', WHERE WHAT IT READS IS OF BULK AT MOST 1048576: true; the input reads as it did. -/
def sessionReceiverUptoRow : OpenClaim := { program := "ytmlhncifcaicpaa", sum := "832aef0975c3fb1566c783c47d1cd2c576039892ab94d3455ebe2c73bb364131", func := "giro/girolaw49.SessionReceiver", spec := "sessionReceiver", unfollowed := true, recurses := true, apart := false, narrowed := true }
def SessionReceiverUptoSaid : Prop := sessionReceiverUptoRow.holds Try.pinned (OpenSpec.upto sessionReceiverSpec)

/-- 'girolaw49.SessionOrder', WHERE WHAT IT READS IS OF BULK AT MOST 1048576: true; the input reads as it did. -/
def sessionOrderUptoRow : OpenClaim := { program := "ytmlhncifcaicpaa", sum := "832aef0975c3fb1566c783c47d1cd2c576039892ab94d3455ebe2c73bb364131", func := "giro/girolaw49.SessionOrder", spec := "sessionOrder", unfollowed := true, recurses := true, apart := false, narrowed := true }
def SessionOrderUptoSaid : Prop := sessionOrderUptoRow.holds Try.pinned (OpenSpec.upto sessionOrderSpec)

/-- 'girolaw49.SessionDuplicates', WHERE WHAT IT READS IS OF BULK AT MOST 1048576: true; the input reads as it did. -/
def sessionDuplicatesUptoRow : OpenClaim := { program := "ytmlhncifcaicpaa", sum := "832aef0975c3fb1566c783c47d1cd2c576039892ab94d3455ebe2c73bb364131", func := "giro/girolaw49.SessionDuplicates", spec := "sessionDuplicates", inPlace := ["maps.clone"], unfollowed := true, recurses := true, apart := false, narrowed := true }
def SessionDuplicatesUptoSaid : Prop := sessionDuplicatesUptoRow.holds Try.pinned (OpenSpec.upto sessionDuplicatesSpec)

/-- 'girolaw49.SessionWindow', WHERE WHAT IT READS IS OF BULK AT MOST 1048576: true; the input reads as it did. -/
def sessionWindowUptoRow : OpenClaim := { program := "ytmlhncifcaicpaa", sum := "832aef0975c3fb1566c783c47d1cd2c576039892ab94d3455ebe2c73bb364131", func := "giro/girolaw49.SessionWindow", spec := "sessionWindow", unfollowed := true, recurses := true, apart := false, narrowed := true }
def SessionWindowUptoSaid : Prop := sessionWindowUptoRow.holds Try.pinned (OpenSpec.upto sessionWindowSpec)

/-- 'girolaw49.SessionSender', WHERE WHAT IT READS IS OF BULK AT MOST 1048576: true; the input reads as it did. -/
def sessionSenderUptoRow : OpenClaim := { program := "ytmlhncifcaicpaa", sum := "832aef0975c3fb1566c783c47d1cd2c576039892ab94d3455ebe2c73bb364131", func := "giro/girolaw49.SessionSender", spec := "sessionSender", unfollowed := true, recurses := true, apart := false, narrowed := true }
def SessionSenderUptoSaid : Prop := sessionSenderUptoRow.holds Try.pinned (OpenSpec.upto sessionSenderSpec)

/-- 'girolaw49.SessionPending', WHERE WHAT IT READS IS OF BULK AT MOST 1048576: true; the input reads as it did. -/
def sessionPendingUptoRow : OpenClaim := { program := "ytmlhncifcaicpaa", sum := "832aef0975c3fb1566c783c47d1cd2c576039892ab94d3455ebe2c73bb364131", func := "giro/girolaw49.SessionPending", spec := "sessionPending", unfollowed := true, recurses := true, apart := false, narrowed := true }
def SessionPendingUptoSaid : Prop := sessionPendingUptoRow.holds Try.pinned (OpenSpec.upto sessionPendingSpec)

/-- 'girolaw49.SessionRecovery', WHERE WHAT IT READS IS OF BULK AT MOST 1048576: true; the input reads as it did. -/
def sessionRecoveryUptoRow : OpenClaim := { program := "ytmlhncifcaicpaa", sum := "832aef0975c3fb1566c783c47d1cd2c576039892ab94d3455ebe2c73bb364131", func := "giro/girolaw49.SessionRecovery", spec := "sessionRecovery", unfollowed := true, recurses := true, apart := false, narrowed := true }
def SessionRecoveryUptoSaid : Prop := sessionRecoveryUptoRow.holds Try.pinned (OpenSpec.upto sessionRecoverySpec)

/-- 'girolaw49.SessionNilClone', WHERE WHAT IT READS IS OF BULK AT MOST 1048576: true; the input reads as it did. -/
def sessionNilCloneUptoRow : OpenClaim := { program := "ytmlhncifcaicpaa", sum := "832aef0975c3fb1566c783c47d1cd2c576039892ab94d3455ebe2c73bb364131", func := "giro/girolaw49.SessionNilClone", spec := "sessionNilClone", inPlace := ["maps.clone"], unfollowed := true, recurses := true, apart := false, narrowed := true }
def SessionNilCloneUptoSaid : Prop := sessionNilCloneUptoRow.holds Try.pinned (OpenSpec.upto sessionNilCloneSpec)

end Rows
end Go.Proofs.Ytmlhncifcaicpaa

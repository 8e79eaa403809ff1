/-
  No cell of these rows narrows 'for every input' (looked for: loops, veiled, ifaces, maps, wideKeys, modest, calm, conditions, laid).
  DERIVED. THE GIVEN ROWS OF THIS SEAT. 8 by the template 'for every input the law returns true; each argument reads behind the call as it read before'; 0 by the template 'total and deterministic' (their statements: YtenjmnpefmjdfaaTotals.lean).
  GIVEN WITH THE SEED: the statements are not yours to turn. If you find one false, say at which input.
  Laid BY PROGRAM, IN A SANDBOX (cutbox-rows.mjs): the forced cells as the released guide's own fill.sh prints them over the translation abf318f8e8affe91… (all of the seat's roots in one cut). By AI agents, Wed Nov 11 2026. No macro, syntax, notation, axiom, sorry.
-/
import Derived.Test.YtenjmnpefmjdfaaChecked
import GoSem.Claim
import GoSem.ClaimJoined
import GoSem.ClaimMapViews
import Derived.JoinedTies
import Derived.KernelRfl
namespace Go.Proofs.Ytenjmnpefmjdfaa
/- THE CELL 'sum', in the pinned program and in every row, IS THE sha256 OF THE DUMP (.gsa) THAT YtenjmnpefmjdfaaProg.lean LOADS. Nothing in Lean hashes anything: it is a label: what it is worth is what the hold of that sum in a sandbox is worth. -/
noncomputable def Try.pinned : Pinned := { name := "ytenjmnpefmjdfaa", sum := "abf318f8e8affe91eb16915769c309b02b954bf1c9e7cad528e34d308ed43a14", checked := Try.checked }
namespace Rows
def none {H : Type} : Left H := { results := [], args := [] }

/-- 'girolaw16.LimitCapacity': WHATEVER THE INPUT: true; the input reads as it did. -/
def limitCapacitySpec : ChangeSpec := { name := "limitCapacity", fn := fun _ => fun
  | [d1, d2] => { results := [.lit (.bool true)], args := [d1, d2] }
  | _ => none }
def limitCapacityRow : OpenClaim := { program := "ytenjmnpefmjdfaa", sum := "abf318f8e8affe91eb16915769c309b02b954bf1c9e7cad528e34d308ed43a14", func := "giro/girolaw16.LimitCapacity", spec := "limitCapacity", inPlace := ["maps.clone"], unfollowed := true, recurses := true, plainKeys := false, apart := false }
def LimitCapacitySaid : Prop := limitCapacityRow.holds Try.pinned (OpenSpec.ofChange limitCapacitySpec)

/-- ITS FALSE NEIGHBOUR: 'it returns false'. Refute it at one input. -/
def limitCapacityWrong : ChangeSpec := { name := "limitCapacity", fn := fun _ => fun
  | [d1, d2] => { results := [.lit (.bool false)], args := [d1, d2] }
  | _ => none }
def LimitCapacityWrongFalsely : Prop := limitCapacityRow.holds Try.pinned (OpenSpec.ofChange limitCapacityWrong)

/-- 'girolaw16.LimitAntisymmetry': WHATEVER THE INPUT: true; the input reads as it did. -/
def limitAntisymmetrySpec : ChangeSpec := { name := "limitAntisymmetry", fn := fun _ => fun
  | [d] => { results := [.lit (.bool true)], args := [d] }
  | _ => none }
def limitAntisymmetryRow : OpenClaim := { program := "ytenjmnpefmjdfaa", sum := "abf318f8e8affe91eb16915769c309b02b954bf1c9e7cad528e34d308ed43a14", func := "giro/girolaw16.LimitAntisymmetry", spec := "limitAntisymmetry", inPlace := ["maps.clone"], unfollowed := true, recurses := true, plainKeys := false, apart := false }
def LimitAntisymmetrySaid : Prop := limitAntisymmetryRow.holds Try.pinned (OpenSpec.ofChange limitAntisymmetrySpec)

/-- ITS FALSE NEIGHBOUR: 'it returns false'. Refute it at one input. -/
def limitAntisymmetryWrong : ChangeSpec := { name := "limitAntisymmetry", fn := fun _ => fun
  | [d] => { results := [.lit (.bool false)], args := [d] }
  | _ => none }
def LimitAntisymmetryWrongFalsely : Prop := limitAntisymmetryRow.holds Try.pinned (OpenSpec.ofChange limitAntisymmetryWrong)

/-- 'girolaw16.LimitErrors': WHATEVER THE INPUT: true; the input reads as it did. -/
def limitErrorsSpec : ChangeSpec := { name := "limitErrors", fn := fun _ => fun
  | [d1, d2] => { results := [.lit (.bool true)], args := [d1, d2] }
  | _ => none }
def limitErrorsRow : OpenClaim := { program := "ytenjmnpefmjdfaa", sum := "abf318f8e8affe91eb16915769c309b02b954bf1c9e7cad528e34d308ed43a14", func := "giro/girolaw16.LimitErrors", spec := "limitErrors", inPlace := ["maps.clone"], unfollowed := true, recurses := true, plainKeys := false, apart := false }
def LimitErrorsSaid : Prop := limitErrorsRow.holds Try.pinned (OpenSpec.ofChange limitErrorsSpec)

/-- ITS FALSE NEIGHBOUR: 'it returns false'. Refute it at one input. -/
def limitErrorsWrong : ChangeSpec := { name := "limitErrors", fn := fun _ => fun
  | [d1, d2] => { results := [.lit (.bool false)], args := [d1, d2] }
  | _ => none }
def LimitErrorsWrongFalsely : Prop := limitErrorsRow.holds Try.pinned (OpenSpec.ofChange limitErrorsWrong)

/-- 'girolaw16.LimitOrder': WHATEVER THE INPUT: true; the input reads as it did. -/
def limitOrderSpec : ChangeSpec := { name := "limitOrder", fn := fun _ => fun
  | [d1, d2, d3] => { results := [.lit (.bool true)], args := [d1, d2, d3] }
  | _ => none }
def limitOrderRow : OpenClaim := { program := "ytenjmnpefmjdfaa", sum := "abf318f8e8affe91eb16915769c309b02b954bf1c9e7cad528e34d308ed43a14", func := "giro/girolaw16.LimitOrder", spec := "limitOrder", inPlace := ["maps.clone"], unfollowed := true, recurses := true, plainKeys := false, apart := false }
def LimitOrderSaid : Prop := limitOrderRow.holds Try.pinned (OpenSpec.ofChange limitOrderSpec)

/-- ITS FALSE NEIGHBOUR: 'it returns false'. Refute it at one input. -/
def limitOrderWrong : ChangeSpec := { name := "limitOrder", fn := fun _ => fun
  | [d1, d2, d3] => { results := [.lit (.bool false)], args := [d1, d2, d3] }
  | _ => none }
def LimitOrderWrongFalsely : Prop := limitOrderRow.holds Try.pinned (OpenSpec.ofChange limitOrderWrong)

/-- 'girolaw16.LimitNeverExceeded': WHATEVER THE INPUT: true; the input reads as it did. -/
def limitNeverExceededSpec : ChangeSpec := { name := "limitNeverExceeded", fn := fun _ => fun
  | [d1, d2] => { results := [.lit (.bool true)], args := [d1, d2] }
  | _ => none }
def limitNeverExceededRow : OpenClaim := { program := "ytenjmnpefmjdfaa", sum := "abf318f8e8affe91eb16915769c309b02b954bf1c9e7cad528e34d308ed43a14", func := "giro/girolaw16.LimitNeverExceeded", spec := "limitNeverExceeded", inPlace := ["maps.clone"], unfollowed := true, recurses := true, plainKeys := false, apart := false }
def LimitNeverExceededSaid : Prop := limitNeverExceededRow.holds Try.pinned (OpenSpec.ofChange limitNeverExceededSpec)

/-- ITS FALSE NEIGHBOUR: 'it returns false'. Refute it at one input. -/
def limitNeverExceededWrong : ChangeSpec := { name := "limitNeverExceeded", fn := fun _ => fun
  | [d1, d2] => { results := [.lit (.bool false)], args := [d1, d2] }
  | _ => none }
def LimitNeverExceededWrongFalsely : Prop := limitNeverExceededRow.holds Try.pinned (OpenSpec.ofChange limitNeverExceededWrong)

/-- 'girolaw16.LimitOperations': WHATEVER THE INPUT: true; the input reads as it did. -/
def limitOperationsSpec : ChangeSpec := { name := "limitOperations", fn := fun _ => fun
  | [d1, d2] => { results := [.lit (.bool true)], args := [d1, d2] }
  | _ => none }
def limitOperationsRow : OpenClaim := { program := "ytenjmnpefmjdfaa", sum := "abf318f8e8affe91eb16915769c309b02b954bf1c9e7cad528e34d308ed43a14", func := "giro/girolaw16.LimitOperations", spec := "limitOperations", inPlace := ["maps.clone"], unfollowed := true, recurses := true, plainKeys := false, apart := false }
def LimitOperationsSaid : Prop := limitOperationsRow.holds Try.pinned (OpenSpec.ofChange limitOperationsSpec)

/-- ITS FALSE NEIGHBOUR: 'it returns false'. Refute it at one input. -/
def limitOperationsWrong : ChangeSpec := { name := "limitOperations", fn := fun _ => fun
  | [d1, d2] => { results := [.lit (.bool false)], args := [d1, d2] }
  | _ => none }
def LimitOperationsWrongFalsely : Prop := limitOperationsRow.holds Try.pinned (OpenSpec.ofChange limitOperationsWrong)

/-- 'girolaw16.LimitReset': WHATEVER THE INPUT: true; the input reads as it did. -/
def limitResetSpec : ChangeSpec := { name := "limitReset", fn := fun _ => fun
  | [d1, d2] => { results := [.lit (.bool true)], args := [d1, d2] }
  | _ => none }
def limitResetRow : OpenClaim := { program := "ytenjmnpefmjdfaa", sum := "abf318f8e8affe91eb16915769c309b02b954bf1c9e7cad528e34d308ed43a14", func := "giro/girolaw16.LimitReset", spec := "limitReset", inPlace := ["maps.clone"], unfollowed := true, recurses := true, plainKeys := false, apart := false }
def LimitResetSaid : Prop := limitResetRow.holds Try.pinned (OpenSpec.ofChange limitResetSpec)

/-- ITS FALSE NEIGHBOUR: 'it returns false'. Refute it at one input. -/
def limitResetWrong : ChangeSpec := { name := "limitReset", fn := fun _ => fun
  | [d1, d2] => { results := [.lit (.bool false)], args := [d1, d2] }
  | _ => none }
def LimitResetWrongFalsely : Prop := limitResetRow.holds Try.pinned (OpenSpec.ofChange limitResetWrong)

/-- 'girolaw16.LimitEqualNil': WHATEVER THE INPUT: true; the input reads as it did. -/
def limitEqualNilSpec : ChangeSpec := { name := "limitEqualNil", fn := fun _ => fun
  | [d1, d2, d3] => { results := [.lit (.bool true)], args := [d1, d2, d3] }
  | _ => none }
def limitEqualNilRow : OpenClaim := { program := "ytenjmnpefmjdfaa", sum := "abf318f8e8affe91eb16915769c309b02b954bf1c9e7cad528e34d308ed43a14", func := "giro/girolaw16.LimitEqualNil", spec := "limitEqualNil", inPlace := ["maps.clone"], unfollowed := true, recurses := true, plainKeys := false, apart := false }
def LimitEqualNilSaid : Prop := limitEqualNilRow.holds Try.pinned (OpenSpec.ofChange limitEqualNilSpec)

/-- ITS FALSE NEIGHBOUR: 'it returns false'. Refute it at one input. -/
def limitEqualNilWrong : ChangeSpec := { name := "limitEqualNil", fn := fun _ => fun
  | [d1, d2, d3] => { results := [.lit (.bool false)], args := [d1, d2, d3] }
  | _ => none }
def LimitEqualNilWrongFalsely : Prop := limitEqualNilRow.holds Try.pinned (OpenSpec.ofChange limitEqualNilWrong)

/- THE SECOND FORM. 'bulk': how many values and letters a reading holds, each counted each time it is reached (what is shared counts as often as it is met; a slice's spare places count too). A statement '..UptoSaid' is the law's where the arguments, and the package variables that the reading takes, are together of bulk at most 1048576: NARROWER than '..Said'. Prove '..Said' where nothing that the law and all that it calls make is longer than what came in: it says more and counts as full. Else prove '..UptoSaid'. A law counts once. -/
mutual
def uptoBulk {H : Type} : DataW H → Nat
  | .lit (.string bytes) => bytes.length + 1
  | .lit _ => 1
  | .nil => 1
  | .ptr d => uptoBulk d + 1
  | .slice elems spare => uptoBulkAll elems + uptoBulkAll spare + 1
  | .agg parts => uptoBulkAll parts + 1
  | .iface _ d => uptoBulk d + 1
  | .map entries => uptoBulkEntries entries + 1
  | .held _ => 1
def uptoBulkAll {H : Type} : List (DataW H) → Nat
  | [] => 0
  | d :: r => uptoBulk d + uptoBulkAll r
def uptoBulkEntries {H : Type} : List (Lit × DataW H) → Nat
  | [] => 0
  | x :: r => uptoBulkEntry x + uptoBulkEntries r
def uptoBulkEntry {H : Type} : Lit × DataW H → Nat
  | (.string bytes, d) => bytes.length + uptoBulk d + 1
  | (_, d) => uptoBulk d + 1
 end
def uptoSmall : (H : Type) → List (DataW H) → Bool := fun _ ds => decide (uptoBulkAll ds ≤ 1048576)
def OpenSpec.upto (s : _root_.Go.ChangeSpec) : _root_.Go.OpenSpec := { _root_.Go.OpenSpec.ofChange s with cond := some uptoSmall }

/-- 'girolaw16.LimitCapacity', WHERE WHAT IT READS IS OF BULK AT MOST 1048576: true; the input reads as it did. -/
def limitCapacityUptoRow : OpenClaim := { program := "ytenjmnpefmjdfaa", sum := "abf318f8e8affe91eb16915769c309b02b954bf1c9e7cad528e34d308ed43a14", func := "giro/girolaw16.LimitCapacity", spec := "limitCapacity", inPlace := ["maps.clone"], unfollowed := true, recurses := true, plainKeys := false, apart := false, narrowed := true }
def LimitCapacityUptoSaid : Prop := limitCapacityUptoRow.holds Try.pinned (OpenSpec.upto limitCapacitySpec)

/-- 'girolaw16.LimitAntisymmetry', WHERE WHAT IT READS IS OF BULK AT MOST 1048576: true; the input reads as it did. -/
def limitAntisymmetryUptoRow : OpenClaim := { program := "ytenjmnpefmjdfaa", sum := "abf318f8e8affe91eb16915769c309b02b954bf1c9e7cad528e34d308ed43a14", func := "giro/girolaw16.LimitAntisymmetry", spec := "limitAntisymmetry", inPlace := ["maps.clone"], unfollowed := true, recurses := true, plainKeys := false, apart := false, narrowed := true }
def LimitAntisymmetryUptoSaid : Prop := limitAntisymmetryUptoRow.holds Try.pinned (OpenSpec.upto limitAntisymmetrySpec)

/-- 'girolaw16.LimitErrors', WHERE WHAT IT READS IS OF BULK AT MOST 1048576: true; the input reads as it did. -/
def limitErrorsUptoRow : OpenClaim := { program := "ytenjmnpefmjdfaa", sum := "abf318f8e8affe91eb16915769c309b02b954bf1c9e7cad528e34d308ed43a14", func := "giro/girolaw16.LimitErrors", spec := "limitErrors", inPlace := ["maps.clone"], unfollowed := true, recurses := true, plainKeys := false, apart := false, narrowed := true }
def LimitErrorsUptoSaid : Prop := limitErrorsUptoRow.holds Try.pinned (OpenSpec.upto limitErrorsSpec)

/-- 'girolaw16.LimitOrder', WHERE WHAT IT READS IS OF BULK AT MOST 1048576: true; the input reads as it did. -/
def limitOrderUptoRow : OpenClaim := { program := "ytenjmnpefmjdfaa", sum := "abf318f8e8affe91eb16915769c309b02b954bf1c9e7cad528e34d308ed43a14", func := "giro/girolaw16.LimitOrder", spec := "limitOrder", inPlace := ["maps.clone"], unfollowed := true, recurses := true, plainKeys := false, apart := false, narrowed := true }
def LimitOrderUptoSaid : Prop := limitOrderUptoRow.holds Try.pinned (OpenSpec.upto limitOrderSpec)

/-- 'girolaw16.LimitNeverExceeded', WHERE WHAT IT READS IS OF BULK AT MOST 1048576: true; the input reads as it did. -/
def limitNeverExceededUptoRow : OpenClaim := { program := "ytenjmnpefmjdfaa", sum := "abf318f8e8affe91eb16915769c309b02b954bf1c9e7cad528e34d308ed43a14", func := "giro/girolaw16.LimitNeverExceeded", spec := "limitNeverExceeded", inPlace := ["maps.clone"], unfollowed := true, recurses := true, plainKeys := false, apart := false, narrowed := true }
def LimitNeverExceededUptoSaid : Prop := limitNeverExceededUptoRow.holds Try.pinned (OpenSpec.upto limitNeverExceededSpec)

/-- 'girolaw16.LimitOperations', WHERE WHAT IT READS IS OF BULK AT MOST 1048576: true; the input reads as it did. -/
def limitOperationsUptoRow : OpenClaim := { program := "ytenjmnpefmjdfaa", sum := "abf318f8e8affe91eb16915769c309b02b954bf1c9e7cad528e34d308ed43a14", func := "giro/girolaw16.LimitOperations", spec := "limitOperations", inPlace := ["maps.clone"], unfollowed := true, recurses := true, plainKeys := false, apart := false, narrowed := true }
def LimitOperationsUptoSaid : Prop := limitOperationsUptoRow.holds Try.pinned (OpenSpec.upto limitOperationsSpec)

/-- 'girolaw16.LimitReset', WHERE WHAT IT READS IS OF BULK AT MOST 1048576: true; the input reads as it did. -/
def limitResetUptoRow : OpenClaim := { program := "ytenjmnpefmjdfaa", sum := "abf318f8e8affe91eb16915769c309b02b954bf1c9e7cad528e34d308ed43a14", func := "giro/girolaw16.LimitReset", spec := "limitReset", inPlace := ["maps.clone"], unfollowed := true, recurses := true, plainKeys := false, apart := false, narrowed := true }
def LimitResetUptoSaid : Prop := limitResetUptoRow.holds Try.pinned (OpenSpec.upto limitResetSpec)

/-- 'girolaw16.LimitEqualNil', WHERE WHAT IT READS IS OF BULK AT MOST 1048576: true; the input reads as it did. -/
def limitEqualNilUptoRow : OpenClaim := { program := "ytenjmnpefmjdfaa", sum := "abf318f8e8affe91eb16915769c309b02b954bf1c9e7cad528e34d308ed43a14", func := "giro/girolaw16.LimitEqualNil", spec := "limitEqualNil", inPlace := ["maps.clone"], unfollowed := true, recurses := true, plainKeys := false, apart := false, narrowed := true }
def LimitEqualNilUptoSaid : Prop := limitEqualNilUptoRow.holds Try.pinned (OpenSpec.upto limitEqualNilSpec)

end Rows
end Go.Proofs.Ytenjmnpefmjdfaa

/-
  No cell of these rows narrows 'for every input' (looked for: loops, veiled, ifaces, maps, wideKeys, modest, calm, conditions, laid).
  DERIVED. THE GIVEN ROWS OF THIS SEAT. 8 by the template 'for every input the law returns true; each argument reads behind the call as it read before'; 0 by the template 'total and deterministic' (their statements: YtlmealnfkadndaaTotals.lean).
  GIVEN WITH THE SEED: the statements are not yours to turn. If you find one false, say at which input.
  Laid BY PROGRAM, IN A SANDBOX (cutbox-rows.mjs): the forced cells as the released guide's own fill.sh prints them over the translation 246b73f562f89092… (all of the seat's roots in one cut). By AI agents, Wed Nov 11 2026. No macro, syntax, notation, axiom, sorry.
-/
import Derived.Test.YtlmealnfkadndaaChecked
import GoSem.Claim
import GoSem.ClaimJoined
import GoSem.ClaimMapViews
import Derived.JoinedTies
import Derived.KernelRfl
namespace Go.Proofs.Ytlmealnfkadndaa
/- THE CELL 'sum', in the pinned program and in every row, IS THE sha256 OF THE DUMP (.gsa) THAT YtlmealnfkadndaaProg.lean LOADS. Nothing in Lean hashes anything: it is a label: what it is worth is what the hold of that sum in a sandbox is worth. -/
noncomputable def Try.pinned : Pinned := { name := "ytlmealnfkadndaa", sum := "246b73f562f890928d9236325046878885e53653ca83b179e05022c997c01c20", checked := Try.checked }
namespace Rows
def none {H : Type} : Left H := { results := [], args := [] }

/-- 'girolaw13.LedgerConservation': WHATEVER THE INPUT: true; the input reads as it did. -/
def ledgerConservationSpec : ChangeSpec := { name := "ledgerConservation", fn := fun _ => fun
  | [d1, d2] => { results := [.lit (.bool true)], args := [d1, d2] }
  | _ => none }
def ledgerConservationRow : OpenClaim := { program := "ytlmealnfkadndaa", sum := "246b73f562f890928d9236325046878885e53653ca83b179e05022c997c01c20", func := "giro/girolaw13.LedgerConservation", spec := "ledgerConservation", unfollowed := true, recurses := true, plainKeys := false, apart := false }
def LedgerConservationSaid : Prop := ledgerConservationRow.holds Try.pinned (OpenSpec.ofChange ledgerConservationSpec)

/-- ITS FALSE NEIGHBOUR: 'it returns false'. Refute it at one input. -/
def ledgerConservationWrong : ChangeSpec := { name := "ledgerConservation", fn := fun _ => fun
  | [d1, d2] => { results := [.lit (.bool false)], args := [d1, d2] }
  | _ => none }
def LedgerConservationWrongFalsely : Prop := ledgerConservationRow.holds Try.pinned (OpenSpec.ofChange ledgerConservationWrong)

/-- 'girolaw13.LedgerPermutation': WHATEVER THE INPUT: true; the input reads as it did. -/
def ledgerPermutationSpec : ChangeSpec := { name := "ledgerPermutation", fn := fun _ => fun
  | [d1, d2, d3] => { results := [.lit (.bool true)], args := [d1, d2, d3] }
  | _ => none }
def ledgerPermutationRow : OpenClaim := { program := "ytlmealnfkadndaa", sum := "246b73f562f890928d9236325046878885e53653ca83b179e05022c997c01c20", func := "giro/girolaw13.LedgerPermutation", spec := "ledgerPermutation", inPlace := ["maps.clone"], unfollowed := true, recurses := true, plainKeys := false, apart := false }
def LedgerPermutationSaid : Prop := ledgerPermutationRow.holds Try.pinned (OpenSpec.ofChange ledgerPermutationSpec)

/-- ITS FALSE NEIGHBOUR: 'it returns false'. Refute it at one input. -/
def ledgerPermutationWrong : ChangeSpec := { name := "ledgerPermutation", fn := fun _ => fun
  | [d1, d2, d3] => { results := [.lit (.bool false)], args := [d1, d2, d3] }
  | _ => none }
def LedgerPermutationWrongFalsely : Prop := ledgerPermutationRow.holds Try.pinned (OpenSpec.ofChange ledgerPermutationWrong)

/-- 'girolaw13.LedgerAtomicity': WHATEVER THE INPUT: true; the input reads as it did. -/
def ledgerAtomicitySpec : ChangeSpec := { name := "ledgerAtomicity", fn := fun _ => fun
  | [d1, d2] => { results := [.lit (.bool true)], args := [d1, d2] }
  | _ => none }
def ledgerAtomicityRow : OpenClaim := { program := "ytlmealnfkadndaa", sum := "246b73f562f890928d9236325046878885e53653ca83b179e05022c997c01c20", func := "giro/girolaw13.LedgerAtomicity", spec := "ledgerAtomicity", inPlace := ["maps.clone"], unfollowed := true, recurses := true, plainKeys := false, apart := false }
def LedgerAtomicitySaid : Prop := ledgerAtomicityRow.holds Try.pinned (OpenSpec.ofChange ledgerAtomicitySpec)

/-- ITS FALSE NEIGHBOUR: 'it returns false'. Refute it at one input. -/
def ledgerAtomicityWrong : ChangeSpec := { name := "ledgerAtomicity", fn := fun _ => fun
  | [d1, d2] => { results := [.lit (.bool false)], args := [d1, d2] }
  | _ => none }
def LedgerAtomicityWrongFalsely : Prop := ledgerAtomicityRow.holds Try.pinned (OpenSpec.ofChange ledgerAtomicityWrong)

/-- 'girolaw13.LedgerPost': WHATEVER THE INPUT: true; the input reads as it did. -/
def ledgerPostSpec : ChangeSpec := { name := "ledgerPost", fn := fun _ => fun
  | [d] => { results := [.lit (.bool true)], args := [d] }
  | _ => none }
def ledgerPostRow : OpenClaim := { program := "ytlmealnfkadndaa", sum := "246b73f562f890928d9236325046878885e53653ca83b179e05022c997c01c20", func := "giro/girolaw13.LedgerPost", spec := "ledgerPost", unfollowed := true, recurses := true, plainKeys := false, apart := false }
def LedgerPostSaid : Prop := ledgerPostRow.holds Try.pinned (OpenSpec.ofChange ledgerPostSpec)

/-- ITS FALSE NEIGHBOUR: 'it returns false'. Refute it at one input. -/
def ledgerPostWrong : ChangeSpec := { name := "ledgerPost", fn := fun _ => fun
  | [d] => { results := [.lit (.bool false)], args := [d] }
  | _ => none }
def LedgerPostWrongFalsely : Prop := ledgerPostRow.holds Try.pinned (OpenSpec.ofChange ledgerPostWrong)

/-- 'girolaw13.LedgerNetting': WHATEVER THE INPUT: true; the input reads as it did. -/
def ledgerNettingSpec : ChangeSpec := { name := "ledgerNetting", fn := fun _ => fun
  | [d1, d2] => { results := [.lit (.bool true)], args := [d1, d2] }
  | _ => none }
def ledgerNettingRow : OpenClaim := { program := "ytlmealnfkadndaa", sum := "246b73f562f890928d9236325046878885e53653ca83b179e05022c997c01c20", func := "giro/girolaw13.LedgerNetting", spec := "ledgerNetting", unfollowed := true, recurses := true, plainKeys := false, apart := false }
def LedgerNettingSaid : Prop := ledgerNettingRow.holds Try.pinned (OpenSpec.ofChange ledgerNettingSpec)

/-- ITS FALSE NEIGHBOUR: 'it returns false'. Refute it at one input. -/
def ledgerNettingWrong : ChangeSpec := { name := "ledgerNetting", fn := fun _ => fun
  | [d1, d2] => { results := [.lit (.bool false)], args := [d1, d2] }
  | _ => none }
def LedgerNettingWrongFalsely : Prop := ledgerNettingRow.holds Try.pinned (OpenSpec.ofChange ledgerNettingWrong)

/-- 'girolaw13.LedgerTwoBundles': WHATEVER THE INPUT: true; the input reads as it did. -/
def ledgerTwoBundlesSpec : ChangeSpec := { name := "ledgerTwoBundles", fn := fun _ => fun
  | [d1, d2, d3] => { results := [.lit (.bool true)], args := [d1, d2, d3] }
  | _ => none }
def ledgerTwoBundlesRow : OpenClaim := { program := "ytlmealnfkadndaa", sum := "246b73f562f890928d9236325046878885e53653ca83b179e05022c997c01c20", func := "giro/girolaw13.LedgerTwoBundles", spec := "ledgerTwoBundles", unfollowed := true, recurses := true, plainKeys := false, apart := false }
def LedgerTwoBundlesSaid : Prop := ledgerTwoBundlesRow.holds Try.pinned (OpenSpec.ofChange ledgerTwoBundlesSpec)

/-- ITS FALSE NEIGHBOUR: 'it returns false'. Refute it at one input. -/
def ledgerTwoBundlesWrong : ChangeSpec := { name := "ledgerTwoBundles", fn := fun _ => fun
  | [d1, d2, d3] => { results := [.lit (.bool false)], args := [d1, d2, d3] }
  | _ => none }
def LedgerTwoBundlesWrongFalsely : Prop := ledgerTwoBundlesRow.holds Try.pinned (OpenSpec.ofChange ledgerTwoBundlesWrong)

/-- 'girolaw13.LedgerBundle': WHATEVER THE INPUT: true; the input reads as it did. -/
def ledgerBundleSpec : ChangeSpec := { name := "ledgerBundle", fn := fun _ => fun
  | [d1, d2, d3] => { results := [.lit (.bool true)], args := [d1, d2, d3] }
  | _ => none }
def ledgerBundleRow : OpenClaim := { program := "ytlmealnfkadndaa", sum := "246b73f562f890928d9236325046878885e53653ca83b179e05022c997c01c20", func := "giro/girolaw13.LedgerBundle", spec := "ledgerBundle", unfollowed := true, recurses := true, plainKeys := false, apart := false }
def LedgerBundleSaid : Prop := ledgerBundleRow.holds Try.pinned (OpenSpec.ofChange ledgerBundleSpec)

/-- ITS FALSE NEIGHBOUR: 'it returns false'. Refute it at one input. -/
def ledgerBundleWrong : ChangeSpec := { name := "ledgerBundle", fn := fun _ => fun
  | [d1, d2, d3] => { results := [.lit (.bool false)], args := [d1, d2, d3] }
  | _ => none }
def LedgerBundleWrongFalsely : Prop := ledgerBundleRow.holds Try.pinned (OpenSpec.ofChange ledgerBundleWrong)

/-- 'girolaw13.LedgerNilClone': WHATEVER THE INPUT: true; the input reads as it did. -/
def ledgerNilCloneSpec : ChangeSpec := { name := "ledgerNilClone", fn := fun _ => fun
  | [d1, d2, d3, d4] => { results := [.lit (.bool true)], args := [d1, d2, d3, d4] }
  | _ => none }
def ledgerNilCloneRow : OpenClaim := { program := "ytlmealnfkadndaa", sum := "246b73f562f890928d9236325046878885e53653ca83b179e05022c997c01c20", func := "giro/girolaw13.LedgerNilClone", spec := "ledgerNilClone", inPlace := ["maps.clone"], unfollowed := true, recurses := true, plainKeys := false, apart := false }
def LedgerNilCloneSaid : Prop := ledgerNilCloneRow.holds Try.pinned (OpenSpec.ofChange ledgerNilCloneSpec)

/-- ITS FALSE NEIGHBOUR: 'it returns false'. Refute it at one input. -/
def ledgerNilCloneWrong : ChangeSpec := { name := "ledgerNilClone", fn := fun _ => fun
  | [d1, d2, d3, d4] => { results := [.lit (.bool false)], args := [d1, d2, d3, d4] }
  | _ => none }
def LedgerNilCloneWrongFalsely : Prop := ledgerNilCloneRow.holds Try.pinned (OpenSpec.ofChange ledgerNilCloneWrong)

/- THE SECOND FORM. 'bulk': how many values and letters a reading holds, each counted each time it is reached (what is shared counts as often as it is met; a slice's spare places count too). A statement '..UptoSaid' is the law's where the arguments, and the package variables that the reading takes, are together of bulk at most 1048576: NARROWER than '..Said'. Prove '..Said' where nothing that the law and all that it calls make is longer than what came in: it says more and counts as full. Else prove '..UptoSaid'. A law counts once. -/
mutual
def uptoBulk {H : Type} : DataW H → Nat
  | .lit (.string bytes) => bytes.length + 1
  | .lit _ => 1
  | .nil => 1
  | .ptr d => uptoBulk d + 1
  | .slice elems spare => uptoBulkAll elems + uptoBulkAll spare + 1
  | .agg parts => uptoBulkAll parts + 1
  | .iface _ d => uptoBulk d + 1
  | .map entries => uptoBulkEntries entries + 1
  | .held _ => 1
def uptoBulkAll {H : Type} : List (DataW H) → Nat
  | [] => 0
  | d :: r => uptoBulk d + uptoBulkAll r
def uptoBulkEntries {H : Type} : List (Lit × DataW H) → Nat
  | [] => 0
  | x :: r => uptoBulkEntry x + uptoBulkEntries r
def uptoBulkEntry {H : Type} : Lit × DataW H → Nat
  | (.string bytes, d) => bytes.length + uptoBulk d + 1
  | (_, d) => uptoBulk d + 1
 end
def uptoSmall : (H : Type) → List (DataW H) → Bool := fun _ ds => decide (uptoBulkAll ds ≤ 1048576)
def OpenSpec.upto (s : _root_.Go.ChangeSpec) : _root_.Go.OpenSpec := { _root_.Go.OpenSpec.ofChange s with cond := some uptoSmall }

/-- 'girolaw13.LedgerConservation', WHERE WHAT IT READS IS OF BULK AT MOST 1048576: true; the input reads as it did. -/
def ledgerConservationUptoRow : OpenClaim := { program := "ytlmealnfkadndaa", sum := "246b73f562f890928d9236325046878885e53653ca83b179e05022c997c01c20", func := "giro/girolaw13.LedgerConservation", spec := "ledgerConservation", unfollowed := true, recurses := true, plainKeys := false, apart := false, narrowed := true }
def LedgerConservationUptoSaid : Prop := ledgerConservationUptoRow.holds Try.pinned (OpenSpec.upto ledgerConservationSpec)

/-- 'girolaw13.LedgerPermutation', WHERE WHAT IT READS IS OF BULK AT MOST 1048576: true; the input reads as it did. -/
def ledgerPermutationUptoRow : OpenClaim := { program := "ytlmealnfkadndaa", sum := "246b73f562f890928d9236325046878885e53653ca83b179e05022c997c01c20", func := "giro/girolaw13.LedgerPermutation", spec := "ledgerPermutation", inPlace := ["maps.clone"], unfollowed := true, recurses := true, plainKeys := false, apart := false, narrowed := true }
def LedgerPermutationUptoSaid : Prop := ledgerPermutationUptoRow.holds Try.pinned (OpenSpec.upto ledgerPermutationSpec)

/-- 'girolaw13.LedgerAtomicity', WHERE WHAT IT READS IS OF BULK AT MOST 1048576: true; the input reads as it did. -/
def ledgerAtomicityUptoRow : OpenClaim := { program := "ytlmealnfkadndaa", sum := "246b73f562f890928d9236325046878885e53653ca83b179e05022c997c01c20", func := "giro/girolaw13.LedgerAtomicity", spec := "ledgerAtomicity", inPlace := ["maps.clone"], unfollowed := true, recurses := true, plainKeys := false, apart := false, narrowed := true }
def LedgerAtomicityUptoSaid : Prop := ledgerAtomicityUptoRow.holds Try.pinned (OpenSpec.upto ledgerAtomicitySpec)

/-- 'girolaw13.LedgerPost', WHERE WHAT IT READS IS OF BULK AT MOST 1048576: true; the input reads as it did. -/
def ledgerPostUptoRow : OpenClaim := { program := "ytlmealnfkadndaa", sum := "246b73f562f890928d9236325046878885e53653ca83b179e05022c997c01c20", func := "giro/girolaw13.LedgerPost", spec := "ledgerPost", unfollowed := true, recurses := true, plainKeys := false, apart := false, narrowed := true }
def LedgerPostUptoSaid : Prop := ledgerPostUptoRow.holds Try.pinned (OpenSpec.upto ledgerPostSpec)

/-- 'girolaw13.LedgerNetting', WHERE WHAT IT READS IS OF BULK AT MOST 1048576: true; the input reads as it did. -/
def ledgerNettingUptoRow : OpenClaim := { program := "ytlmealnfkadndaa", sum := "246b73f562f890928d9236325046878885e53653ca83b179e05022c997c01c20", func := "giro/girolaw13.LedgerNetting", spec := "ledgerNetting", unfollowed := true, recurses := true, plainKeys := false, apart := false, narrowed := true }
def LedgerNettingUptoSaid : Prop := ledgerNettingUptoRow.holds Try.pinned (OpenSpec.upto ledgerNettingSpec)

/-- 'girolaw13.LedgerTwoBundles', WHERE WHAT IT READS IS OF BULK AT MOST 1048576: true; the input reads as it did. -/
def ledgerTwoBundlesUptoRow : OpenClaim := { program := "ytlmealnfkadndaa", sum := "246b73f562f890928d9236325046878885e53653ca83b179e05022c997c01c20", func := "giro/girolaw13.LedgerTwoBundles", spec := "ledgerTwoBundles", unfollowed := true, recurses := true, plainKeys := false, apart := false, narrowed := true }
def LedgerTwoBundlesUptoSaid : Prop := ledgerTwoBundlesUptoRow.holds Try.pinned (OpenSpec.upto ledgerTwoBundlesSpec)

/-- 'girolaw13.LedgerBundle', WHERE WHAT IT READS IS OF BULK AT MOST 1048576: true; the input reads as it did. -/
def ledgerBundleUptoRow : OpenClaim := { program := "ytlmealnfkadndaa", sum := "246b73f562f890928d9236325046878885e53653ca83b179e05022c997c01c20", func := "giro/girolaw13.LedgerBundle", spec := "ledgerBundle", unfollowed := true, recurses := true, plainKeys := false, apart := false, narrowed := true }
def LedgerBundleUptoSaid : Prop := ledgerBundleUptoRow.holds Try.pinned (OpenSpec.upto ledgerBundleSpec)

/-- 'girolaw13.LedgerNilClone', WHERE WHAT IT READS IS OF BULK AT MOST 1048576: true; the input reads as it did. -/
def ledgerNilCloneUptoRow : OpenClaim := { program := "ytlmealnfkadndaa", sum := "246b73f562f890928d9236325046878885e53653ca83b179e05022c997c01c20", func := "giro/girolaw13.LedgerNilClone", spec := "ledgerNilClone", inPlace := ["maps.clone"], unfollowed := true, recurses := true, plainKeys := false, apart := false, narrowed := true }
def LedgerNilCloneUptoSaid : Prop := ledgerNilCloneUptoRow.holds Try.pinned (OpenSpec.upto ledgerNilCloneSpec)

end Rows
end Go.Proofs.Ytlmealnfkadndaa

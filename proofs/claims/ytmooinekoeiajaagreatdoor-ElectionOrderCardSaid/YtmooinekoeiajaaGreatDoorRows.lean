/-
  NARROWER THAN 'FOR EVERY INPUT', by the rows' own cells (each row's printed sentence says how): ElectionClone: laid · ElectionNil: laid · ElectionNew: laid · ElectionConservation: laid · ElectionProportion: laid · ElectionOrder: laid · ElectionOperations: laid.
  DERIVED. THE GIVEN ROWS OF THIS SEAT. 7 by the template 'for every input the law returns true; each argument reads behind the call as it read before'; 0 by the template 'total and deterministic' (their statements: YtmooinekoeiajaaGreatDoorTotals.lean).
  GIVEN WITH THE SEED: the statements are not yours to turn. If you find one false, say at which input.
  Laid BY PROGRAM, IN A SANDBOX (cutbox-rows.mjs): the forced cells as the released guide's own fill.sh prints them over the translation 08eb1cf0eaa79c36… (all of the seat's roots in one cut). By AI agents, Wed Nov 11 2026. No macro, syntax, notation, axiom, sorry.
-/
import Derived.Test.YtmooinekoeiajaaGreatDoorChecked
import GoSem.PinnedTables
import GoSem.Claim
import GoSem.ClaimJoined
import GoSem.ClaimMapViews
import Derived.JoinedTies
import Derived.KernelRfl
namespace Go.Proofs.YtmooinekoeiajaaGreatDoor
/- THE CELL 'sum', in the pinned program and in every row, IS THE sha256 OF THE DUMP (.gsa) THAT YtmooinekoeiajaaGreatDoorProg.lean LOADS. Nothing in Lean hashes anything: it is a label: what it is worth is what the hold of that sum in a sandbox is worth. -/
noncomputable def Tryz.pinned : Pinned := { name := "ytmooinekoeiajaagreatdoor", sum := "08eb1cf0eaa79c369310148e006b25ec74854485b413ecea0302004ab20a6106", checked := Tryz.checked }
namespace Rows
def none {H : Type} : Left H := { results := [], args := [] }

/- WHAT THE LISTED PACKAGE-LEVEL VARIABLES READ AS WHEN THE CALL BEGINS. Each datum BY PROGRAM (the guide's laid-datum.mjs) off the statement by which the dump's own 'gosem.cut.vars' lays the variable. In a bare row this is a premise. The card (YtmooinekoeiajaaGreatDoorCards.lean) ties it to the program's text. -/
def laid_unicode_utf8_acceptRanges {H : Type} : DataW H := .agg [.agg [.lit (.int .u8 128), .lit (.int .u8 191)], .agg [.lit (.int .u8 160), .lit (.int .u8 191)], .agg [.lit (.int .u8 128), .lit (.int .u8 159)], .agg [.lit (.int .u8 144), .lit (.int .u8 191)], .agg [.lit (.int .u8 128), .lit (.int .u8 143)], .agg [.lit (.int .u8 0), .lit (.int .u8 0)], .agg [.lit (.int .u8 0), .lit (.int .u8 0)], .agg [.lit (.int .u8 0), .lit (.int .u8 0)], .agg [.lit (.int .u8 0), .lit (.int .u8 0)], .agg [.lit (.int .u8 0), .lit (.int .u8 0)], .agg [.lit (.int .u8 0), .lit (.int .u8 0)], .agg [.lit (.int .u8 0), .lit (.int .u8 0)], .agg [.lit (.int .u8 0), .lit (.int .u8 0)], .agg [.lit (.int .u8 0), .lit (.int .u8 0)], .agg [.lit (.int .u8 0), .lit (.int .u8 0)], .agg [.lit (.int .u8 0), .lit (.int .u8 0)]]
/-- One of Go's own tables, pinned by name: the form's constant. -/
def laid_unicode_utf8_first : DataW Unit := Go.Pinned.utf8First

/-- 'girolaw44.ElectionClone': WHATEVER THE INPUT: true; the input reads as it did. -/
def electionCloneSpec : ChangeSpec := { name := "electionClone", fn := fun _ => fun
  | [d1, d2, d3, d4] => { results := [.lit (.bool true)], args := [d1, d2, d3, d4] }
  | _ => none }
def electionCloneRow : OpenClaim := { program := "ytmooinekoeiajaagreatdoor", sum := "08eb1cf0eaa79c369310148e006b25ec74854485b413ecea0302004ab20a6106", func := "giro/girolaw44.ElectionClone", spec := "electionClone", inPlace := ["internal/bytealg.IndexByteString", "internal/bytealg.IndexString", "maps.clone"], unfollowed := true, recurses := true, named := ["unicode/utf8.first", "unicode/utf8.acceptRanges", "math/bits.divideError", "math/bits.overflowError", "internal/bytealg.MaxLen"], plainKeys := false, apart := false, laid := [("unicode/utf8.acceptRanges", laid_unicode_utf8_acceptRanges), ("unicode/utf8.first", laid_unicode_utf8_first)] }
def ElectionCloneSaid : Prop := electionCloneRow.holds Tryz.pinned (OpenSpec.ofChange electionCloneSpec)

/-- ITS FALSE NEIGHBOUR: 'it returns false'. Refute it at one input. -/
def electionCloneWrong : ChangeSpec := { name := "electionClone", fn := fun _ => fun
  | [d1, d2, d3, d4] => { results := [.lit (.bool false)], args := [d1, d2, d3, d4] }
  | _ => none }
def ElectionCloneWrongFalsely : Prop := electionCloneRow.holds Tryz.pinned (OpenSpec.ofChange electionCloneWrong)

/-- 'girolaw44.ElectionNil': WHATEVER THE INPUT: true; the input reads as it did. -/
def electionNilSpec : ChangeSpec := { name := "electionNil", fn := fun _ => fun
  | [d] => { results := [.lit (.bool true)], args := [d] }
  | _ => none }
def electionNilRow : OpenClaim := { program := "ytmooinekoeiajaagreatdoor", sum := "08eb1cf0eaa79c369310148e006b25ec74854485b413ecea0302004ab20a6106", func := "giro/girolaw44.ElectionNil", spec := "electionNil", inPlace := ["internal/bytealg.IndexByteString", "internal/bytealg.IndexString", "maps.clone"], unfollowed := true, recurses := true, named := ["math/bits.divideError", "math/bits.overflowError", "unicode/utf8.first", "unicode/utf8.acceptRanges", "internal/bytealg.MaxLen"], plainKeys := false, apart := false, laid := [("unicode/utf8.acceptRanges", laid_unicode_utf8_acceptRanges), ("unicode/utf8.first", laid_unicode_utf8_first)] }
def ElectionNilSaid : Prop := electionNilRow.holds Tryz.pinned (OpenSpec.ofChange electionNilSpec)

/-- ITS FALSE NEIGHBOUR: 'it returns false'. Refute it at one input. -/
def electionNilWrong : ChangeSpec := { name := "electionNil", fn := fun _ => fun
  | [d] => { results := [.lit (.bool false)], args := [d] }
  | _ => none }
def ElectionNilWrongFalsely : Prop := electionNilRow.holds Tryz.pinned (OpenSpec.ofChange electionNilWrong)

/-- 'girolaw44.ElectionNew': WHATEVER THE INPUT: true; the input reads as it did. -/
def electionNewSpec : ChangeSpec := { name := "electionNew", fn := fun _ => fun
  | [d] => { results := [.lit (.bool true)], args := [d] }
  | _ => none }
def electionNewRow : OpenClaim := { program := "ytmooinekoeiajaagreatdoor", sum := "08eb1cf0eaa79c369310148e006b25ec74854485b413ecea0302004ab20a6106", func := "giro/girolaw44.ElectionNew", spec := "electionNew", inPlace := ["internal/bytealg.IndexByteString", "internal/bytealg.IndexString"], unfollowed := true, recurses := true, named := ["unicode/utf8.first", "unicode/utf8.acceptRanges", "math/bits.divideError", "math/bits.overflowError", "internal/bytealg.MaxLen"], plainKeys := false, apart := false, laid := [("unicode/utf8.acceptRanges", laid_unicode_utf8_acceptRanges), ("unicode/utf8.first", laid_unicode_utf8_first)] }
def ElectionNewSaid : Prop := electionNewRow.holds Tryz.pinned (OpenSpec.ofChange electionNewSpec)

/-- ITS FALSE NEIGHBOUR: 'it returns false'. Refute it at one input. -/
def electionNewWrong : ChangeSpec := { name := "electionNew", fn := fun _ => fun
  | [d] => { results := [.lit (.bool false)], args := [d] }
  | _ => none }
def ElectionNewWrongFalsely : Prop := electionNewRow.holds Tryz.pinned (OpenSpec.ofChange electionNewWrong)

/-- 'girolaw44.ElectionConservation': WHATEVER THE INPUT: true; the input reads as it did. -/
def electionConservationSpec : ChangeSpec := { name := "electionConservation", fn := fun _ => fun
  | [d1, d2] => { results := [.lit (.bool true)], args := [d1, d2] }
  | _ => none }
def electionConservationRow : OpenClaim := { program := "ytmooinekoeiajaagreatdoor", sum := "08eb1cf0eaa79c369310148e006b25ec74854485b413ecea0302004ab20a6106", func := "giro/girolaw44.ElectionConservation", spec := "electionConservation", inPlace := ["internal/bytealg.IndexByteString", "internal/bytealg.IndexString"], unfollowed := true, recurses := true, named := ["unicode/utf8.first", "unicode/utf8.acceptRanges", "math/bits.divideError", "math/bits.overflowError", "internal/bytealg.MaxLen"], plainKeys := false, apart := false, laid := [("unicode/utf8.acceptRanges", laid_unicode_utf8_acceptRanges), ("unicode/utf8.first", laid_unicode_utf8_first)] }
def ElectionConservationSaid : Prop := electionConservationRow.holds Tryz.pinned (OpenSpec.ofChange electionConservationSpec)

/-- ITS FALSE NEIGHBOUR: 'it returns false'. Refute it at one input. -/
def electionConservationWrong : ChangeSpec := { name := "electionConservation", fn := fun _ => fun
  | [d1, d2] => { results := [.lit (.bool false)], args := [d1, d2] }
  | _ => none }
def ElectionConservationWrongFalsely : Prop := electionConservationRow.holds Tryz.pinned (OpenSpec.ofChange electionConservationWrong)

/-- 'girolaw44.ElectionProportion': WHATEVER THE INPUT: true; the input reads as it did. -/
def electionProportionSpec : ChangeSpec := { name := "electionProportion", fn := fun _ => fun
  | [d1, d2] => { results := [.lit (.bool true)], args := [d1, d2] }
  | _ => none }
def electionProportionRow : OpenClaim := { program := "ytmooinekoeiajaagreatdoor", sum := "08eb1cf0eaa79c369310148e006b25ec74854485b413ecea0302004ab20a6106", func := "giro/girolaw44.ElectionProportion", spec := "electionProportion", inPlace := ["internal/bytealg.IndexByteString", "internal/bytealg.IndexString"], unfollowed := true, recurses := true, named := ["unicode/utf8.first", "unicode/utf8.acceptRanges", "math/bits.divideError", "math/bits.overflowError", "internal/bytealg.MaxLen"], plainKeys := false, apart := false, laid := [("unicode/utf8.acceptRanges", laid_unicode_utf8_acceptRanges), ("unicode/utf8.first", laid_unicode_utf8_first)] }
def ElectionProportionSaid : Prop := electionProportionRow.holds Tryz.pinned (OpenSpec.ofChange electionProportionSpec)

/-- ITS FALSE NEIGHBOUR: 'it returns false'. Refute it at one input. -/
def electionProportionWrong : ChangeSpec := { name := "electionProportion", fn := fun _ => fun
  | [d1, d2] => { results := [.lit (.bool false)], args := [d1, d2] }
  | _ => none }
def ElectionProportionWrongFalsely : Prop := electionProportionRow.holds Tryz.pinned (OpenSpec.ofChange electionProportionWrong)

/-- 'girolaw44.ElectionOrder': WHATEVER THE INPUT: true; the input reads as it did. -/
def electionOrderSpec : ChangeSpec := { name := "electionOrder", fn := fun _ => fun
  | [d1, d2] => { results := [.lit (.bool true)], args := [d1, d2] }
  | _ => none }
def electionOrderRow : OpenClaim := { program := "ytmooinekoeiajaagreatdoor", sum := "08eb1cf0eaa79c369310148e006b25ec74854485b413ecea0302004ab20a6106", func := "giro/girolaw44.ElectionOrder", spec := "electionOrder", inPlace := ["internal/bytealg.IndexByteString", "internal/bytealg.IndexString"], unfollowed := true, recurses := true, named := ["unicode/utf8.first", "unicode/utf8.acceptRanges", "math/bits.divideError", "math/bits.overflowError", "internal/bytealg.MaxLen"], plainKeys := false, apart := false, laid := [("unicode/utf8.acceptRanges", laid_unicode_utf8_acceptRanges), ("unicode/utf8.first", laid_unicode_utf8_first)] }
def ElectionOrderSaid : Prop := electionOrderRow.holds Tryz.pinned (OpenSpec.ofChange electionOrderSpec)

/-- ITS FALSE NEIGHBOUR: 'it returns false'. Refute it at one input. -/
def electionOrderWrong : ChangeSpec := { name := "electionOrder", fn := fun _ => fun
  | [d1, d2] => { results := [.lit (.bool false)], args := [d1, d2] }
  | _ => none }
def ElectionOrderWrongFalsely : Prop := electionOrderRow.holds Tryz.pinned (OpenSpec.ofChange electionOrderWrong)

/-- 'girolaw44.ElectionOperations': WHATEVER THE INPUT: true; the input reads as it did. -/
def electionOperationsSpec : ChangeSpec := { name := "electionOperations", fn := fun _ => fun
  | [d1, d2, d3, d4] => { results := [.lit (.bool true)], args := [d1, d2, d3, d4] }
  | _ => none }
def electionOperationsRow : OpenClaim := { program := "ytmooinekoeiajaagreatdoor", sum := "08eb1cf0eaa79c369310148e006b25ec74854485b413ecea0302004ab20a6106", func := "giro/girolaw44.ElectionOperations", spec := "electionOperations", inPlace := ["internal/bytealg.IndexByteString", "internal/bytealg.IndexString"], unfollowed := true, recurses := true, named := ["unicode/utf8.first", "unicode/utf8.acceptRanges", "math/bits.divideError", "math/bits.overflowError", "internal/bytealg.MaxLen"], plainKeys := false, apart := false, laid := [("unicode/utf8.acceptRanges", laid_unicode_utf8_acceptRanges), ("unicode/utf8.first", laid_unicode_utf8_first)] }
def ElectionOperationsSaid : Prop := electionOperationsRow.holds Tryz.pinned (OpenSpec.ofChange electionOperationsSpec)

/-- ITS FALSE NEIGHBOUR: 'it returns false'. Refute it at one input. -/
def electionOperationsWrong : ChangeSpec := { name := "electionOperations", fn := fun _ => fun
  | [d1, d2, d3, d4] => { results := [.lit (.bool false)], args := [d1, d2, d3, d4] }
  | _ => none }
def ElectionOperationsWrongFalsely : Prop := electionOperationsRow.holds Tryz.pinned (OpenSpec.ofChange electionOperationsWrong)

/- THE SECOND FORM. 'bulk': how many values and letters a reading holds, each counted each time it is reached (what is shared counts as often as it is met; a slice's spare places count too). A statement '..UptoSaid' is the law's where the arguments, and the package variables that the reading takes, are together of bulk at most 1048576: NARROWER than '..Said'. Prove '..Said' where nothing that the law and all that it calls make is longer than what came in: it says more and counts as full. Else prove '..UptoSaid'. A law counts once. -/
mutual
def uptoBulk {H : Type} : DataW H → Nat
  | .lit (.string bytes) => bytes.length + 1
  | .lit _ => 1
  | .nil => 1
  | .ptr d => uptoBulk d + 1
  | .slice elems spare => uptoBulkAll elems + uptoBulkAll spare + 1
  | .agg parts => uptoBulkAll parts + 1
  | .iface _ d => uptoBulk d + 1
  | .map entries => uptoBulkEntries entries + 1
  | .held _ => 1
def uptoBulkAll {H : Type} : List (DataW H) → Nat
  | [] => 0
  | d :: r => uptoBulk d + uptoBulkAll r
def uptoBulkEntries {H : Type} : List (Lit × DataW H) → Nat
  | [] => 0
  | x :: r => uptoBulkEntry x + uptoBulkEntries r
def uptoBulkEntry {H : Type} : Lit × DataW H → Nat
  | (.string bytes, d) => bytes.length + uptoBulk d + 1
  | (_, d) => uptoBulk d + 1
 end
def uptoSmall : (H : Type) → List (DataW H) → Bool := fun _ ds => decide (uptoBulkAll ds ≤ 1048576)
def OpenSpec.upto (s : _root_.Go.ChangeSpec) : _root_.Go.OpenSpec := { _root_.Go.OpenSpec.ofChange s with cond := some uptoSmall }

/-- 'girolaw44.ElectionClone', WHERE WHAT IT READS IS OF BULK AT MOST 1048576: true; the input reads as it did. -/
def electionCloneUptoRow : OpenClaim := { program := "ytmooinekoeiajaagreatdoor", sum := "08eb1cf0eaa79c369310148e006b25ec74854485b413ecea0302004ab20a6106", func := "giro/girolaw44.ElectionClone", spec := "electionClone", inPlace := ["internal/bytealg.IndexByteString", "internal/bytealg.IndexString", "maps.clone"], unfollowed := true, recurses := true, named := ["unicode/utf8.first", "unicode/utf8.acceptRanges", "math/bits.divideError", "math/bits.overflowError", "internal/bytealg.MaxLen"], plainKeys := false, apart := false, laid := [("unicode/utf8.acceptRanges", laid_unicode_utf8_acceptRanges), ("unicode/utf8.first", laid_unicode_utf8_first)], narrowed := true }
def ElectionCloneUptoSaid : Prop := electionCloneUptoRow.holds Tryz.pinned (OpenSpec.upto electionCloneSpec)

/-- 'girolaw44.ElectionNil', WHERE WHAT IT READS IS OF BULK AT MOST 1048576: true; the input reads as it did. -/
def electionNilUptoRow : OpenClaim := { program := "ytmooinekoeiajaagreatdoor", sum := "08eb1cf0eaa79c369310148e006b25ec74854485b413ecea0302004ab20a6106", func := "giro/girolaw44.ElectionNil", spec := "electionNil", inPlace := ["internal/bytealg.IndexByteString", "internal/bytealg.IndexString", "maps.clone"], unfollowed := true, recurses := true, named := ["math/bits.divideError", "math/bits.overflowError", "unicode/utf8.first", "unicode/utf8.acceptRanges", "internal/bytealg.MaxLen"], plainKeys := false, apart := false, laid := [("unicode/utf8.acceptRanges", laid_unicode_utf8_acceptRanges), ("unicode/utf8.first", laid_unicode_utf8_first)], narrowed := true }
def ElectionNilUptoSaid : Prop := electionNilUptoRow.holds Tryz.pinned (OpenSpec.upto electionNilSpec)

/-- 'girolaw44.ElectionNew', WHERE WHAT IT READS IS OF BULK AT MOST 1048576: true; the input reads as it did. -/
def electionNewUptoRow : OpenClaim := { program := "ytmooinekoeiajaagreatdoor", sum := "08eb1cf0eaa79c369310148e006b25ec74854485b413ecea0302004ab20a6106", func := "giro/girolaw44.ElectionNew", spec := "electionNew", inPlace := ["internal/bytealg.IndexByteString", "internal/bytealg.IndexString"], unfollowed := true, recurses := true, named := ["unicode/utf8.first", "unicode/utf8.acceptRanges", "math/bits.divideError", "math/bits.overflowError", "internal/bytealg.MaxLen"], plainKeys := false, apart := false, laid := [("unicode/utf8.acceptRanges", laid_unicode_utf8_acceptRanges), ("unicode/utf8.first", laid_unicode_utf8_first)], narrowed := true }
def ElectionNewUptoSaid : Prop := electionNewUptoRow.holds Tryz.pinned (OpenSpec.upto electionNewSpec)

/-- 'girolaw44.ElectionConservation', WHERE WHAT IT READS IS OF BULK AT MOST 1048576: true; the input reads as it did. -/
def electionConservationUptoRow : OpenClaim := { program := "ytmooinekoeiajaagreatdoor", sum := "08eb1cf0eaa79c369310148e006b25ec74854485b413ecea0302004ab20a6106", func := "giro/girolaw44.ElectionConservation", spec := "electionConservation", inPlace := ["internal/bytealg.IndexByteString", "internal/bytealg.IndexString"], unfollowed := true, recurses := true, named := ["unicode/utf8.first", "unicode/utf8.acceptRanges", "math/bits.divideError", "math/bits.overflowError", "internal/bytealg.MaxLen"], plainKeys := false, apart := false, laid := [("unicode/utf8.acceptRanges", laid_unicode_utf8_acceptRanges), ("unicode/utf8.first", laid_unicode_utf8_first)], narrowed := true }
def ElectionConservationUptoSaid : Prop := electionConservationUptoRow.holds Tryz.pinned (OpenSpec.upto electionConservationSpec)

/-- 'girolaw44.ElectionProportion', WHERE WHAT IT READS IS OF BULK AT MOST 1048576: true; the input reads as it did. -/
def electionProportionUptoRow : OpenClaim := { program := "ytmooinekoeiajaagreatdoor", sum := "08eb1cf0eaa79c369310148e006b25ec74854485b413ecea0302004ab20a6106", func := "giro/girolaw44.ElectionProportion", spec := "electionProportion", inPlace := ["internal/bytealg.IndexByteString", "internal/bytealg.IndexString"], unfollowed := true, recurses := true, named := ["unicode/utf8.first", "unicode/utf8.acceptRanges", "math/bits.divideError", "math/bits.overflowError", "internal/bytealg.MaxLen"], plainKeys := false, apart := false, laid := [("unicode/utf8.acceptRanges", laid_unicode_utf8_acceptRanges), ("unicode/utf8.first", laid_unicode_utf8_first)], narrowed := true }
def ElectionProportionUptoSaid : Prop := electionProportionUptoRow.holds Tryz.pinned (OpenSpec.upto electionProportionSpec)

/-- 'girolaw44.ElectionOrder', WHERE WHAT IT READS IS OF BULK AT MOST 1048576: true; the input reads as it did. -/
def electionOrderUptoRow : OpenClaim := { program := "ytmooinekoeiajaagreatdoor", sum := "08eb1cf0eaa79c369310148e006b25ec74854485b413ecea0302004ab20a6106", func := "giro/girolaw44.ElectionOrder", spec := "electionOrder", inPlace := ["internal/bytealg.IndexByteString", "internal/bytealg.IndexString"], unfollowed := true, recurses := true, named := ["unicode/utf8.first", "unicode/utf8.acceptRanges", "math/bits.divideError", "math/bits.overflowError", "internal/bytealg.MaxLen"], plainKeys := false, apart := false, laid := [("unicode/utf8.acceptRanges", laid_unicode_utf8_acceptRanges), ("unicode/utf8.first", laid_unicode_utf8_first)], narrowed := true }
def ElectionOrderUptoSaid : Prop := electionOrderUptoRow.holds Tryz.pinned (OpenSpec.upto electionOrderSpec)

/-- 'girolaw44.ElectionOperations', WHERE WHAT IT READS IS OF BULK AT MOST 1048576: true; the input reads as it did. -/
def electionOperationsUptoRow : OpenClaim := { program := "ytmooinekoeiajaagreatdoor", sum := "08eb1cf0eaa79c369310148e006b25ec74854485b413ecea0302004ab20a6106", func := "giro/girolaw44.ElectionOperations", spec := "electionOperations", inPlace := ["internal/bytealg.IndexByteString", "internal/bytealg.IndexString"], unfollowed := true, recurses := true, named := ["unicode/utf8.first", "unicode/utf8.acceptRanges", "math/bits.divideError", "math/bits.overflowError", "internal/bytealg.MaxLen"], plainKeys := false, apart := false, laid := [("unicode/utf8.acceptRanges", laid_unicode_utf8_acceptRanges), ("unicode/utf8.first", laid_unicode_utf8_first)], narrowed := true }
def ElectionOperationsUptoSaid : Prop := electionOperationsUptoRow.holds Tryz.pinned (OpenSpec.upto electionOperationsSpec)

end Rows
end Go.Proofs.YtmooinekoeiajaaGreatDoor

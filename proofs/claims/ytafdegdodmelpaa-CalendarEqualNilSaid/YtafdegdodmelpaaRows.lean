/-
  No cell of these rows narrows 'for every input' (looked for: loops, veiled, ifaces, maps, wideKeys, modest, calm, conditions, laid).
  DERIVED. THE GIVEN ROWS OF THIS SEAT. 9 by the template 'for every input the law returns true; each argument reads behind the call as it read before'; 0 by the template 'total and deterministic' (their statements: YtafdegdodmelpaaTotals.lean).
  GIVEN WITH THE SEED: the statements are not yours to turn. If you find one false, say at which input.
  Laid BY PROGRAM, IN A SANDBOX (cutbox-rows.mjs): the forced cells as the released guide's own fill.sh prints them over the translation 2a790b8d8b83b6b4… (all of the seat's roots in one cut). By AI agents, Wed Nov 11 2026. No macro, syntax, notation, axiom, sorry.
-/
import Derived.Test.YtafdegdodmelpaaChecked
import GoSem.Claim
import GoSem.ClaimJoined
import GoSem.ClaimMapViews
import Derived.JoinedTies
import Derived.KernelRfl
namespace Go.Proofs.Ytafdegdodmelpaa
/- THE CELL 'sum', in the pinned program and in every row, IS THE sha256 OF THE DUMP (.gsa) THAT YtafdegdodmelpaaProg.lean LOADS. Nothing in Lean hashes anything: it is a label: what it is worth is what the hold of that sum in a sandbox is worth. -/
noncomputable def Try.pinned : Pinned := { name := "ytafdegdodmelpaa", sum := "2a790b8d8b83b6b443f68a8513562c579d1f615ab33db2ecab8d30a489f12d65", checked := Try.checked }
namespace Rows
def none {H : Type} : Left H := { results := [], args := [] }

/-- 'girolaw04.CalendarAddBusiness': WHATEVER THE INPUT: true; the input reads as it did. -/
def calendarAddBusinessSpec : ChangeSpec := { name := "calendarAddBusiness", fn := fun _ => fun
  | [d1, d2, d3] => { results := [.lit (.bool true)], args := [d1, d2, d3] }
  | _ => none }
def calendarAddBusinessRow : OpenClaim := { program := "ytafdegdodmelpaa", sum := "2a790b8d8b83b6b443f68a8513562c579d1f615ab33db2ecab8d30a489f12d65", func := "giro/girolaw04.CalendarAddBusiness", spec := "calendarAddBusiness", unfollowed := true, recurses := true, apart := false }
def CalendarAddBusinessSaid : Prop := calendarAddBusinessRow.holds Try.pinned (OpenSpec.ofChange calendarAddBusinessSpec)

/-- ITS FALSE NEIGHBOUR: 'it returns false'. Refute it at one input. -/
def calendarAddBusinessWrong : ChangeSpec := { name := "calendarAddBusiness", fn := fun _ => fun
  | [d1, d2, d3] => { results := [.lit (.bool false)], args := [d1, d2, d3] }
  | _ => none }
def CalendarAddBusinessWrongFalsely : Prop := calendarAddBusinessRow.holds Try.pinned (OpenSpec.ofChange calendarAddBusinessWrong)

/-- 'girolaw04.CalendarNextPrevious': WHATEVER THE INPUT: true; the input reads as it did. -/
def calendarNextPreviousSpec : ChangeSpec := { name := "calendarNextPrevious", fn := fun _ => fun
  | [d1, d2] => { results := [.lit (.bool true)], args := [d1, d2] }
  | _ => none }
def calendarNextPreviousRow : OpenClaim := { program := "ytafdegdodmelpaa", sum := "2a790b8d8b83b6b443f68a8513562c579d1f615ab33db2ecab8d30a489f12d65", func := "giro/girolaw04.CalendarNextPrevious", spec := "calendarNextPrevious", unfollowed := true, recurses := true, apart := false }
def CalendarNextPreviousSaid : Prop := calendarNextPreviousRow.holds Try.pinned (OpenSpec.ofChange calendarNextPreviousSpec)

/-- ITS FALSE NEIGHBOUR: 'it returns false'. Refute it at one input. -/
def calendarNextPreviousWrong : ChangeSpec := { name := "calendarNextPrevious", fn := fun _ => fun
  | [d1, d2] => { results := [.lit (.bool false)], args := [d1, d2] }
  | _ => none }
def CalendarNextPreviousWrongFalsely : Prop := calendarNextPreviousRow.holds Try.pinned (OpenSpec.ofChange calendarNextPreviousWrong)

/-- 'girolaw04.CalendarInverse': WHATEVER THE INPUT: true; the input reads as it did. -/
def calendarInverseSpec : ChangeSpec := { name := "calendarInverse", fn := fun _ => fun
  | [d1, d2] => { results := [.lit (.bool true)], args := [d1, d2] }
  | _ => none }
def calendarInverseRow : OpenClaim := { program := "ytafdegdodmelpaa", sum := "2a790b8d8b83b6b443f68a8513562c579d1f615ab33db2ecab8d30a489f12d65", func := "giro/girolaw04.CalendarInverse", spec := "calendarInverse", unfollowed := true, recurses := true, apart := false }
def CalendarInverseSaid : Prop := calendarInverseRow.holds Try.pinned (OpenSpec.ofChange calendarInverseSpec)

/-- ITS FALSE NEIGHBOUR: 'it returns false'. Refute it at one input. -/
def calendarInverseWrong : ChangeSpec := { name := "calendarInverse", fn := fun _ => fun
  | [d1, d2] => { results := [.lit (.bool false)], args := [d1, d2] }
  | _ => none }
def CalendarInverseWrongFalsely : Prop := calendarInverseRow.holds Try.pinned (OpenSpec.ofChange calendarInverseWrong)

/-- 'girolaw04.CalendarAddition': WHATEVER THE INPUT: true; the input reads as it did. -/
def calendarAdditionSpec : ChangeSpec := { name := "calendarAddition", fn := fun _ => fun
  | [d1, d2, d3, d4, d5] => { results := [.lit (.bool true)], args := [d1, d2, d3, d4, d5] }
  | _ => none }
def calendarAdditionRow : OpenClaim := { program := "ytafdegdodmelpaa", sum := "2a790b8d8b83b6b443f68a8513562c579d1f615ab33db2ecab8d30a489f12d65", func := "giro/girolaw04.CalendarAddition", spec := "calendarAddition", unfollowed := true, recurses := true, apart := false }
def CalendarAdditionSaid : Prop := calendarAdditionRow.holds Try.pinned (OpenSpec.ofChange calendarAdditionSpec)

/-- ITS FALSE NEIGHBOUR: 'it returns false'. Refute it at one input. -/
def calendarAdditionWrong : ChangeSpec := { name := "calendarAddition", fn := fun _ => fun
  | [d1, d2, d3, d4, d5] => { results := [.lit (.bool false)], args := [d1, d2, d3, d4, d5] }
  | _ => none }
def CalendarAdditionWrongFalsely : Prop := calendarAdditionRow.holds Try.pinned (OpenSpec.ofChange calendarAdditionWrong)

/-- 'girolaw04.CalendarNew': WHATEVER THE INPUT: true; the input reads as it did. -/
def calendarNewSpec : ChangeSpec := { name := "calendarNew", fn := fun _ => fun
  | [d1, d2] => { results := [.lit (.bool true)], args := [d1, d2] }
  | _ => none }
def calendarNewRow : OpenClaim := { program := "ytafdegdodmelpaa", sum := "2a790b8d8b83b6b443f68a8513562c579d1f615ab33db2ecab8d30a489f12d65", func := "giro/girolaw04.CalendarNew", spec := "calendarNew", unfollowed := true, recurses := true, apart := false }
def CalendarNewSaid : Prop := calendarNewRow.holds Try.pinned (OpenSpec.ofChange calendarNewSpec)

/-- ITS FALSE NEIGHBOUR: 'it returns false'. Refute it at one input. -/
def calendarNewWrong : ChangeSpec := { name := "calendarNew", fn := fun _ => fun
  | [d1, d2] => { results := [.lit (.bool false)], args := [d1, d2] }
  | _ => none }
def CalendarNewWrongFalsely : Prop := calendarNewRow.holds Try.pinned (OpenSpec.ofChange calendarNewWrong)

/-- 'girolaw04.CalendarYearFraction': WHATEVER THE INPUT: true; the input reads as it did. -/
def calendarYearFractionSpec : ChangeSpec := { name := "calendarYearFraction", fn := fun _ => fun
  | [d1, d2, d3, d4] => { results := [.lit (.bool true)], args := [d1, d2, d3, d4] }
  | _ => none }
def calendarYearFractionRow : OpenClaim := { program := "ytafdegdodmelpaa", sum := "2a790b8d8b83b6b443f68a8513562c579d1f615ab33db2ecab8d30a489f12d65", func := "giro/girolaw04.CalendarYearFraction", spec := "calendarYearFraction", unfollowed := true, recurses := true, apart := false }
def CalendarYearFractionSaid : Prop := calendarYearFractionRow.holds Try.pinned (OpenSpec.ofChange calendarYearFractionSpec)

/-- ITS FALSE NEIGHBOUR: 'it returns false'. Refute it at one input. -/
def calendarYearFractionWrong : ChangeSpec := { name := "calendarYearFraction", fn := fun _ => fun
  | [d1, d2, d3, d4] => { results := [.lit (.bool false)], args := [d1, d2, d3, d4] }
  | _ => none }
def CalendarYearFractionWrongFalsely : Prop := calendarYearFractionRow.holds Try.pinned (OpenSpec.ofChange calendarYearFractionWrong)

/-- 'girolaw04.CalendarAdjust': WHATEVER THE INPUT: true; the input reads as it did. -/
def calendarAdjustSpec : ChangeSpec := { name := "calendarAdjust", fn := fun _ => fun
  | [d1, d2, d3] => { results := [.lit (.bool true)], args := [d1, d2, d3] }
  | _ => none }
def calendarAdjustRow : OpenClaim := { program := "ytafdegdodmelpaa", sum := "2a790b8d8b83b6b443f68a8513562c579d1f615ab33db2ecab8d30a489f12d65", func := "giro/girolaw04.CalendarAdjust", spec := "calendarAdjust", unfollowed := true, recurses := true, apart := false }
def CalendarAdjustSaid : Prop := calendarAdjustRow.holds Try.pinned (OpenSpec.ofChange calendarAdjustSpec)

/-- ITS FALSE NEIGHBOUR: 'it returns false'. Refute it at one input. -/
def calendarAdjustWrong : ChangeSpec := { name := "calendarAdjust", fn := fun _ => fun
  | [d1, d2, d3] => { results := [.lit (.bool false)], args := [d1, d2, d3] }
  | _ => none }
def CalendarAdjustWrongFalsely : Prop := calendarAdjustRow.holds Try.pinned (OpenSpec.ofChange calendarAdjustWrong)

/-- 'girolaw04.CalendarBetween': WHATEVER THE INPUT: true; the input reads as it did. -/
def calendarBetweenSpec : ChangeSpec := { name := "calendarBetween", fn := fun _ => fun
  | [d1, d2, d3] => { results := [.lit (.bool true)], args := [d1, d2, d3] }
  | _ => none }
def calendarBetweenRow : OpenClaim := { program := "ytafdegdodmelpaa", sum := "2a790b8d8b83b6b443f68a8513562c579d1f615ab33db2ecab8d30a489f12d65", func := "giro/girolaw04.CalendarBetween", spec := "calendarBetween", unfollowed := true, recurses := true, apart := false }
def CalendarBetweenSaid : Prop := calendarBetweenRow.holds Try.pinned (OpenSpec.ofChange calendarBetweenSpec)

/-- ITS FALSE NEIGHBOUR: 'it returns false'. Refute it at one input. -/
def calendarBetweenWrong : ChangeSpec := { name := "calendarBetween", fn := fun _ => fun
  | [d1, d2, d3] => { results := [.lit (.bool false)], args := [d1, d2, d3] }
  | _ => none }
def CalendarBetweenWrongFalsely : Prop := calendarBetweenRow.holds Try.pinned (OpenSpec.ofChange calendarBetweenWrong)

/-- 'girolaw04.CalendarEqualNil': WHATEVER THE INPUT: true; the input reads as it did. -/
def calendarEqualNilSpec : ChangeSpec := { name := "calendarEqualNil", fn := fun _ => fun
  | [d1, d2, d3, d4] => { results := [.lit (.bool true)], args := [d1, d2, d3, d4] }
  | _ => none }
def calendarEqualNilRow : OpenClaim := { program := "ytafdegdodmelpaa", sum := "2a790b8d8b83b6b443f68a8513562c579d1f615ab33db2ecab8d30a489f12d65", func := "giro/girolaw04.CalendarEqualNil", spec := "calendarEqualNil", unfollowed := true, recurses := true, apart := false }
def CalendarEqualNilSaid : Prop := calendarEqualNilRow.holds Try.pinned (OpenSpec.ofChange calendarEqualNilSpec)

/-- ITS FALSE NEIGHBOUR: 'it returns false'. Refute it at one input. -/
def calendarEqualNilWrong : ChangeSpec := { name := "calendarEqualNil", fn := fun _ => fun
  | [d1, d2, d3, d4] => { results := [.lit (.bool false)], args := [d1, d2, d3, d4] }
  | _ => none }
def CalendarEqualNilWrongFalsely : Prop := calendarEqualNilRow.holds Try.pinned (OpenSpec.ofChange calendarEqualNilWrong)

/- THE SECOND FORM. 'bulk': how many values and letters a reading holds, each counted each time it is reached (what is shared counts as often as it is met; a slice's spare places count too). A statement '..UptoSaid' is the law's where the arguments, and the package variables that the reading takes, are together of bulk at most 1048576: NARROWER than '..Said'. Prove '..Said' where nothing that the law and all that it calls make is longer than what came in: it says more and counts as full. Else prove '..UptoSaid'. A law counts once. -/
mutual
def uptoBulk {H : Type} : DataW H → Nat
  | .lit (.string bytes) => bytes.length + 1
  | .lit _ => 1
  | .nil => 1
  | .ptr d => uptoBulk d + 1
  | .slice elems spare => uptoBulkAll elems + uptoBulkAll spare + 1
  | .agg parts => uptoBulkAll parts + 1
  | .iface _ d => uptoBulk d + 1
  | .map entries => uptoBulkEntries entries + 1
  | .held _ => 1
def uptoBulkAll {H : Type} : List (DataW H) → Nat
  | [] => 0
  | d :: r => uptoBulk d + uptoBulkAll r
def uptoBulkEntries {H : Type} : List (Lit × DataW H) → Nat
  | [] => 0
  | x :: r => uptoBulkEntry x + uptoBulkEntries r
def uptoBulkEntry {H : Type} : Lit × DataW H → Nat
  | (.string bytes, d) => bytes.length + uptoBulk d + 1
  | (_, d) => uptoBulk d + 1
 end
def uptoSmall : (H : Type) → List (DataW H) → Bool := fun _ ds => decide (uptoBulkAll ds ≤ 1048576)
def OpenSpec.upto (s : _root_.Go.ChangeSpec) : _root_.Go.OpenSpec := { _root_.Go.OpenSpec.ofChange s with cond := some uptoSmall }

/-- 'girolaw04.CalendarAddBusiness', WHERE WHAT IT READS IS OF BULK AT MOST 1048576: true; the input reads as it did. -/
def calendarAddBusinessUptoRow : OpenClaim := { program := "ytafdegdodmelpaa", sum := "2a790b8d8b83b6b443f68a8513562c579d1f615ab33db2ecab8d30a489f12d65", func := "giro/girolaw04.CalendarAddBusiness", spec := "calendarAddBusiness", unfollowed := true, recurses := true, apart := false, narrowed := true }
def CalendarAddBusinessUptoSaid : Prop := calendarAddBusinessUptoRow.holds Try.pinned (OpenSpec.upto calendarAddBusinessSpec)

/-- 'girolaw04.CalendarNextPrevious', WHERE WHAT IT READS IS OF BULK AT MOST 1048576: true; the input reads as it did. -/
def calendarNextPreviousUptoRow : OpenClaim := { program := "ytafdegdodmelpaa", sum := "2a790b8d8b83b6b443f68a8513562c579d1f615ab33db2ecab8d30a489f12d65", func := "giro/girolaw04.CalendarNextPrevious", spec := "calendarNextPrevious", unfollowed := true, recurses := true, apart := false, narrowed := true }
def CalendarNextPreviousUptoSaid : Prop := calendarNextPreviousUptoRow.holds Try.pinned (OpenSpec.upto calendarNextPreviousSpec)

/-- 'girolaw04.CalendarInverse', WHERE WHAT IT READS IS OF BULK AT MOST 1048576: true; the input reads as it did. -/
def calendarInverseUptoRow : OpenClaim := { program := "ytafdegdodmelpaa", sum := "2a790b8d8b83b6b443f68a8513562c579d1f615ab33db2ecab8d30a489f12d65", func := "giro/girolaw04.CalendarInverse", spec := "calendarInverse", unfollowed := true, recurses := true, apart := false, narrowed := true }
def CalendarInverseUptoSaid : Prop := calendarInverseUptoRow.holds Try.pinned (OpenSpec.upto calendarInverseSpec)

/-- 'girolaw04.CalendarAddition', WHERE WHAT IT READS IS OF BULK AT MOST 1048576: true; the input reads as it did. -/
def calendarAdditionUptoRow : OpenClaim := { program := "ytafdegdodmelpaa", sum := "2a790b8d8b83b6b443f68a8513562c579d1f615ab33db2ecab8d30a489f12d65", func := "giro/girolaw04.CalendarAddition", spec := "calendarAddition", unfollowed := true, recurses := true, apart := false, narrowed := true }
def CalendarAdditionUptoSaid : Prop := calendarAdditionUptoRow.holds Try.pinned (OpenSpec.upto calendarAdditionSpec)

/-- 'girolaw04.CalendarNew', WHERE WHAT IT READS IS OF BULK AT MOST 1048576: true; the input reads as it did. -/
def calendarNewUptoRow : OpenClaim := { program := "ytafdegdodmelpaa", sum := "2a790b8d8b83b6b443f68a8513562c579d1f615ab33db2ecab8d30a489f12d65", func := "giro/girolaw04.CalendarNew", spec := "calendarNew", unfollowed := true, recurses := true, apart := false, narrowed := true }
def CalendarNewUptoSaid : Prop := calendarNewUptoRow.holds Try.pinned (OpenSpec.upto calendarNewSpec)

/-- 'girolaw04.CalendarYearFraction', WHERE WHAT IT READS IS OF BULK AT MOST 1048576: true; the input reads as it did. -/
def calendarYearFractionUptoRow : OpenClaim := { program := "ytafdegdodmelpaa", sum := "2a790b8d8b83b6b443f68a8513562c579d1f615ab33db2ecab8d30a489f12d65", func := "giro/girolaw04.CalendarYearFraction", spec := "calendarYearFraction", unfollowed := true, recurses := true, apart := false, narrowed := true }
def CalendarYearFractionUptoSaid : Prop := calendarYearFractionUptoRow.holds Try.pinned (OpenSpec.upto calendarYearFractionSpec)

/-- 'girolaw04.CalendarAdjust', WHERE WHAT IT READS IS OF BULK AT MOST 1048576: true; the input reads as it did. -/
def calendarAdjustUptoRow : OpenClaim := { program := "ytafdegdodmelpaa", sum := "2a790b8d8b83b6b443f68a8513562c579d1f615ab33db2ecab8d30a489f12d65", func := "giro/girolaw04.CalendarAdjust", spec := "calendarAdjust", unfollowed := true, recurses := true, apart := false, narrowed := true }
def CalendarAdjustUptoSaid : Prop := calendarAdjustUptoRow.holds Try.pinned (OpenSpec.upto calendarAdjustSpec)

/-- 'girolaw04.CalendarBetween', WHERE WHAT IT READS IS OF BULK AT MOST 1048576: true; the input reads as it did. -/
def calendarBetweenUptoRow : OpenClaim := { program := "ytafdegdodmelpaa", sum := "2a790b8d8b83b6b443f68a8513562c579d1f615ab33db2ecab8d30a489f12d65", func := "giro/girolaw04.CalendarBetween", spec := "calendarBetween", unfollowed := true, recurses := true, apart := false, narrowed := true }
def CalendarBetweenUptoSaid : Prop := calendarBetweenUptoRow.holds Try.pinned (OpenSpec.upto calendarBetweenSpec)

/-- 'girolaw04.CalendarEqualNil', WHERE WHAT IT READS IS OF BULK AT MOST 1048576: true; the input reads as it did. -/
def calendarEqualNilUptoRow : OpenClaim := { program := "ytafdegdodmelpaa", sum := "2a790b8d8b83b6b443f68a8513562c579d1f615ab33db2ecab8d30a489f12d65", func := "giro/girolaw04.CalendarEqualNil", spec := "calendarEqualNil", unfollowed := true, recurses := true, apart := false, narrowed := true }
def CalendarEqualNilUptoSaid : Prop := calendarEqualNilUptoRow.holds Try.pinned (OpenSpec.upto calendarEqualNilSpec)

end Rows
end Go.Proofs.Ytafdegdodmelpaa

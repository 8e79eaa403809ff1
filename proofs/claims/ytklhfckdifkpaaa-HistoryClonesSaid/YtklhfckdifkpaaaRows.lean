/-
  No cell of these rows narrows 'for every input' (looked for: loops, veiled, ifaces, maps, wideKeys, modest, calm, conditions, laid).
  DERIVED. THE GIVEN ROWS OF THIS SEAT. 9 by the template 'for every input the law returns true; each argument reads behind the call as it read before'; 0 by the template 'total and deterministic' (their statements: YtklhfckdifkpaaaTotals.lean).
  GIVEN WITH THE SEED: the statements are not yours to turn. If you find one false, say at which input.
  Laid BY PROGRAM, IN A SANDBOX (cutbox-rows.mjs): the forced cells as the released guide's own fill.sh prints them over the translation 25235253e9cff8fd… (all of the seat's roots in one cut). By AI agents, Wed Nov 11 2026. No macro, syntax, notation, axiom, sorry.
-/
import Derived.Test.YtklhfckdifkpaaaChecked
import GoSem.Claim
import GoSem.ClaimJoined
import GoSem.ClaimMapViews
import Derived.JoinedTies
import Derived.KernelRfl
namespace Go.Proofs.Ytklhfckdifkpaaa
/- THE CELL 'sum', in the pinned program and in every row, IS THE sha256 OF THE DUMP (.gsa) THAT YtklhfckdifkpaaaProg.lean LOADS. Nothing in Lean hashes anything: it is a label: what it is worth is what the hold of that sum in a sandbox is worth. -/
noncomputable def Try.pinned : Pinned := { name := "ytklhfckdifkpaaa", sum := "25235253e9cff8fd26c8de6a9fe371265b9ce07c56008b80dc9ab3a98d21b9da", checked := Try.checked }
namespace Rows
def none {H : Type} : Left H := { results := [], args := [] }

/-- 'girolaw14.HistoryBalances': WHATEVER THE INPUT: true; the input reads as it did. -/
def historyBalancesSpec : ChangeSpec := { name := "historyBalances", fn := fun _ => fun
  | [d1, d2, d3] => { results := [.lit (.bool true)], args := [d1, d2, d3] }
  | _ => none }
def historyBalancesRow : OpenClaim := { program := "ytklhfckdifkpaaa", sum := "25235253e9cff8fd26c8de6a9fe371265b9ce07c56008b80dc9ab3a98d21b9da", func := "giro/girolaw14.HistoryBalances", spec := "historyBalances", unfollowed := true, recurses := true, plainKeys := false, apart := false }
def HistoryBalancesSaid : Prop := historyBalancesRow.holds Try.pinned (OpenSpec.ofChange historyBalancesSpec)

/-- ITS FALSE NEIGHBOUR: 'it returns false'. Refute it at one input. -/
def historyBalancesWrong : ChangeSpec := { name := "historyBalances", fn := fun _ => fun
  | [d1, d2, d3] => { results := [.lit (.bool false)], args := [d1, d2, d3] }
  | _ => none }
def HistoryBalancesWrongFalsely : Prop := historyBalancesRow.holds Try.pinned (OpenSpec.ofChange historyBalancesWrong)

/-- 'girolaw14.HistoryTime': WHATEVER THE INPUT: true; the input reads as it did. -/
def historyTimeSpec : ChangeSpec := { name := "historyTime", fn := fun _ => fun
  | [d1, d2, d3] => { results := [.lit (.bool true)], args := [d1, d2, d3] }
  | _ => none }
def historyTimeRow : OpenClaim := { program := "ytklhfckdifkpaaa", sum := "25235253e9cff8fd26c8de6a9fe371265b9ce07c56008b80dc9ab3a98d21b9da", func := "giro/girolaw14.HistoryTime", spec := "historyTime", unfollowed := true, recurses := true, plainKeys := false, apart := false }
def HistoryTimeSaid : Prop := historyTimeRow.holds Try.pinned (OpenSpec.ofChange historyTimeSpec)

/-- ITS FALSE NEIGHBOUR: 'it returns false'. Refute it at one input. -/
def historyTimeWrong : ChangeSpec := { name := "historyTime", fn := fun _ => fun
  | [d1, d2, d3] => { results := [.lit (.bool false)], args := [d1, d2, d3] }
  | _ => none }
def HistoryTimeWrongFalsely : Prop := historyTimeRow.holds Try.pinned (OpenSpec.ofChange historyTimeWrong)

/-- 'girolaw14.HistoryTurnover': WHATEVER THE INPUT: true; the input reads as it did. -/
def historyTurnoverSpec : ChangeSpec := { name := "historyTurnover", fn := fun _ => fun
  | [d1, d2, d3] => { results := [.lit (.bool true)], args := [d1, d2, d3] }
  | _ => none }
def historyTurnoverRow : OpenClaim := { program := "ytklhfckdifkpaaa", sum := "25235253e9cff8fd26c8de6a9fe371265b9ce07c56008b80dc9ab3a98d21b9da", func := "giro/girolaw14.HistoryTurnover", spec := "historyTurnover", unfollowed := true, recurses := true, plainKeys := false, apart := false }
def HistoryTurnoverSaid : Prop := historyTurnoverRow.holds Try.pinned (OpenSpec.ofChange historyTurnoverSpec)

/-- ITS FALSE NEIGHBOUR: 'it returns false'. Refute it at one input. -/
def historyTurnoverWrong : ChangeSpec := { name := "historyTurnover", fn := fun _ => fun
  | [d1, d2, d3] => { results := [.lit (.bool false)], args := [d1, d2, d3] }
  | _ => none }
def HistoryTurnoverWrongFalsely : Prop := historyTurnoverRow.holds Try.pinned (OpenSpec.ofChange historyTurnoverWrong)

/-- 'girolaw14.HistoryAppend': WHATEVER THE INPUT: true; the input reads as it did. -/
def historyAppendSpec : ChangeSpec := { name := "historyAppend", fn := fun _ => fun
  | [d] => { results := [.lit (.bool true)], args := [d] }
  | _ => none }
def historyAppendRow : OpenClaim := { program := "ytklhfckdifkpaaa", sum := "25235253e9cff8fd26c8de6a9fe371265b9ce07c56008b80dc9ab3a98d21b9da", func := "giro/girolaw14.HistoryAppend", spec := "historyAppend", unfollowed := true, recurses := true, plainKeys := false, apart := false }
def HistoryAppendSaid : Prop := historyAppendRow.holds Try.pinned (OpenSpec.ofChange historyAppendSpec)

/-- ITS FALSE NEIGHBOUR: 'it returns false'. Refute it at one input. -/
def historyAppendWrong : ChangeSpec := { name := "historyAppend", fn := fun _ => fun
  | [d] => { results := [.lit (.bool false)], args := [d] }
  | _ => none }
def HistoryAppendWrongFalsely : Prop := historyAppendRow.holds Try.pinned (OpenSpec.ofChange historyAppendWrong)

/-- 'girolaw14.HistoryIterators': WHATEVER THE INPUT: true; the input reads as it did. -/
def historyIteratorsSpec : ChangeSpec := { name := "historyIterators", fn := fun _ => fun
  | [d1, d2, d3, d4] => { results := [.lit (.bool true)], args := [d1, d2, d3, d4] }
  | _ => none }
def historyIteratorsRow : OpenClaim := { program := "ytklhfckdifkpaaa", sum := "25235253e9cff8fd26c8de6a9fe371265b9ce07c56008b80dc9ab3a98d21b9da", func := "giro/girolaw14.HistoryIterators", spec := "historyIterators", unfollowed := true, recurses := true, plainKeys := false, apart := false }
def HistoryIteratorsSaid : Prop := historyIteratorsRow.holds Try.pinned (OpenSpec.ofChange historyIteratorsSpec)

/-- ITS FALSE NEIGHBOUR: 'it returns false'. Refute it at one input. -/
def historyIteratorsWrong : ChangeSpec := { name := "historyIterators", fn := fun _ => fun
  | [d1, d2, d3, d4] => { results := [.lit (.bool false)], args := [d1, d2, d3, d4] }
  | _ => none }
def HistoryIteratorsWrongFalsely : Prop := historyIteratorsRow.holds Try.pinned (OpenSpec.ofChange historyIteratorsWrong)

/-- 'girolaw14.HistoryClones': WHATEVER THE INPUT: true; the input reads as it did. -/
def historyClonesSpec : ChangeSpec := { name := "historyClones", fn := fun _ => fun
  | [d1, d2] => { results := [.lit (.bool true)], args := [d1, d2] }
  | _ => none }
def historyClonesRow : OpenClaim := { program := "ytklhfckdifkpaaa", sum := "25235253e9cff8fd26c8de6a9fe371265b9ce07c56008b80dc9ab3a98d21b9da", func := "giro/girolaw14.HistoryClones", spec := "historyClones", unfollowed := true, recurses := true, plainKeys := false, apart := false }
def HistoryClonesSaid : Prop := historyClonesRow.holds Try.pinned (OpenSpec.ofChange historyClonesSpec)

/-- ITS FALSE NEIGHBOUR: 'it returns false'. Refute it at one input. -/
def historyClonesWrong : ChangeSpec := { name := "historyClones", fn := fun _ => fun
  | [d1, d2] => { results := [.lit (.bool false)], args := [d1, d2] }
  | _ => none }
def HistoryClonesWrongFalsely : Prop := historyClonesRow.holds Try.pinned (OpenSpec.ofChange historyClonesWrong)

/-- 'girolaw14.HistoryConservation': WHATEVER THE INPUT: true; the input reads as it did. -/
def historyConservationSpec : ChangeSpec := { name := "historyConservation", fn := fun _ => fun
  | [d] => { results := [.lit (.bool true)], args := [d] }
  | _ => none }
def historyConservationRow : OpenClaim := { program := "ytklhfckdifkpaaa", sum := "25235253e9cff8fd26c8de6a9fe371265b9ce07c56008b80dc9ab3a98d21b9da", func := "giro/girolaw14.HistoryConservation", spec := "historyConservation", inPlace := ["internal/bytealg.abigen_runtime_cmpstring"], unfollowed := true, recurses := true, plainKeys := false, apart := false }
def HistoryConservationSaid : Prop := historyConservationRow.holds Try.pinned (OpenSpec.ofChange historyConservationSpec)

/-- ITS FALSE NEIGHBOUR: 'it returns false'. Refute it at one input. -/
def historyConservationWrong : ChangeSpec := { name := "historyConservation", fn := fun _ => fun
  | [d] => { results := [.lit (.bool false)], args := [d] }
  | _ => none }
def HistoryConservationWrongFalsely : Prop := historyConservationRow.holds Try.pinned (OpenSpec.ofChange historyConservationWrong)

/-- 'girolaw14.HistoryAccounts': WHATEVER THE INPUT: true; the input reads as it did. -/
def historyAccountsSpec : ChangeSpec := { name := "historyAccounts", fn := fun _ => fun
  | [d1, d2, d3, d4] => { results := [.lit (.bool true)], args := [d1, d2, d3, d4] }
  | _ => none }
def historyAccountsRow : OpenClaim := { program := "ytklhfckdifkpaaa", sum := "25235253e9cff8fd26c8de6a9fe371265b9ce07c56008b80dc9ab3a98d21b9da", func := "giro/girolaw14.HistoryAccounts", spec := "historyAccounts", inPlace := ["internal/bytealg.abigen_runtime_cmpstring"], unfollowed := true, recurses := true, plainKeys := false, apart := false }
def HistoryAccountsSaid : Prop := historyAccountsRow.holds Try.pinned (OpenSpec.ofChange historyAccountsSpec)

/-- ITS FALSE NEIGHBOUR: 'it returns false'. Refute it at one input. -/
def historyAccountsWrong : ChangeSpec := { name := "historyAccounts", fn := fun _ => fun
  | [d1, d2, d3, d4] => { results := [.lit (.bool false)], args := [d1, d2, d3, d4] }
  | _ => none }
def HistoryAccountsWrongFalsely : Prop := historyAccountsRow.holds Try.pinned (OpenSpec.ofChange historyAccountsWrong)

/-- 'girolaw14.HistoryNil': WHATEVER THE INPUT: true; the input reads as it did. -/
def historyNilSpec : ChangeSpec := { name := "historyNil", fn := fun _ => fun
  | [d1, d2] => { results := [.lit (.bool true)], args := [d1, d2] }
  | _ => none }
def historyNilRow : OpenClaim := { program := "ytklhfckdifkpaaa", sum := "25235253e9cff8fd26c8de6a9fe371265b9ce07c56008b80dc9ab3a98d21b9da", func := "giro/girolaw14.HistoryNil", spec := "historyNil", inPlace := ["internal/bytealg.abigen_runtime_cmpstring"], unfollowed := true, recurses := true, plainKeys := false, apart := false }
def HistoryNilSaid : Prop := historyNilRow.holds Try.pinned (OpenSpec.ofChange historyNilSpec)

/-- ITS FALSE NEIGHBOUR: 'it returns false'. Refute it at one input. -/
def historyNilWrong : ChangeSpec := { name := "historyNil", fn := fun _ => fun
  | [d1, d2] => { results := [.lit (.bool false)], args := [d1, d2] }
  | _ => none }
def HistoryNilWrongFalsely : Prop := historyNilRow.holds Try.pinned (OpenSpec.ofChange historyNilWrong)

/- THE SECOND FORM. 'bulk': how many values and letters a reading holds, each counted each time it is reached (what is shared counts as often as it is met; a slice's spare places count too). A statement '..UptoSaid' is the law's where the arguments, and the package variables that the reading takes, are together of bulk at most 1048576: NARROWER than '..Said'. Prove '..Said' where nothing that the law and all that it calls make is longer than what came in: it says more and counts as full. Else prove '..UptoSaid'. A law counts once. -/
mutual
def uptoBulk {H : Type} : DataW H → Nat
  | .lit (.string bytes) => bytes.length + 1
  | .lit _ => 1
  | .nil => 1
  | .ptr d => uptoBulk d + 1
  | .slice elems spare => uptoBulkAll elems + uptoBulkAll spare + 1
  | .agg parts => uptoBulkAll parts + 1
  | .iface _ d => uptoBulk d + 1
  | .map entries => uptoBulkEntries entries + 1
  | .held _ => 1
def uptoBulkAll {H : Type} : List (DataW H) → Nat
  | [] => 0
  | d :: r => uptoBulk d + uptoBulkAll r
def uptoBulkEntries {H : Type} : List (Lit × DataW H) → Nat
  | [] => 0
  | x :: r => uptoBulkEntry x + uptoBulkEntries r
def uptoBulkEntry {H : Type} : Lit × DataW H → Nat
  | (.string bytes, d) => bytes.length + uptoBulk d + 1
  | (_, d) => uptoBulk d + 1
 end
def uptoSmall : (H : Type) → List (DataW H) → Bool := fun _ ds => decide (uptoBulkAll ds ≤ 1048576)
def OpenSpec.upto (s : _root_.Go.ChangeSpec) : _root_.Go.OpenSpec := { _root_.Go.OpenSpec.ofChange s with cond := some uptoSmall }

/-- 'girolaw14.HistoryBalances', WHERE WHAT IT READS IS OF BULK AT MOST 1048576: true; the input reads as it did. -/
def historyBalancesUptoRow : OpenClaim := { program := "ytklhfckdifkpaaa", sum := "25235253e9cff8fd26c8de6a9fe371265b9ce07c56008b80dc9ab3a98d21b9da", func := "giro/girolaw14.HistoryBalances", spec := "historyBalances", unfollowed := true, recurses := true, plainKeys := false, apart := false, narrowed := true }
def HistoryBalancesUptoSaid : Prop := historyBalancesUptoRow.holds Try.pinned (OpenSpec.upto historyBalancesSpec)

/-- 'girolaw14.HistoryTime', WHERE WHAT IT READS IS OF BULK AT MOST 1048576: true; the input reads as it did. -/
def historyTimeUptoRow : OpenClaim := { program := "ytklhfckdifkpaaa", sum := "25235253e9cff8fd26c8de6a9fe371265b9ce07c56008b80dc9ab3a98d21b9da", func := "giro/girolaw14.HistoryTime", spec := "historyTime", unfollowed := true, recurses := true, plainKeys := false, apart := false, narrowed := true }
def HistoryTimeUptoSaid : Prop := historyTimeUptoRow.holds Try.pinned (OpenSpec.upto historyTimeSpec)

/-- 'girolaw14.HistoryTurnover', WHERE WHAT IT READS IS OF BULK AT MOST 1048576: true; the input reads as it did. -/
def historyTurnoverUptoRow : OpenClaim := { program := "ytklhfckdifkpaaa", sum := "25235253e9cff8fd26c8de6a9fe371265b9ce07c56008b80dc9ab3a98d21b9da", func := "giro/girolaw14.HistoryTurnover", spec := "historyTurnover", unfollowed := true, recurses := true, plainKeys := false, apart := false, narrowed := true }
def HistoryTurnoverUptoSaid : Prop := historyTurnoverUptoRow.holds Try.pinned (OpenSpec.upto historyTurnoverSpec)

/-- 'girolaw14.HistoryAppend', WHERE WHAT IT READS IS OF BULK AT MOST 1048576: true; the input reads as it did. -/
def historyAppendUptoRow : OpenClaim := { program := "ytklhfckdifkpaaa", sum := "25235253e9cff8fd26c8de6a9fe371265b9ce07c56008b80dc9ab3a98d21b9da", func := "giro/girolaw14.HistoryAppend", spec := "historyAppend", unfollowed := true, recurses := true, plainKeys := false, apart := false, narrowed := true }
def HistoryAppendUptoSaid : Prop := historyAppendUptoRow.holds Try.pinned (OpenSpec.upto historyAppendSpec)

/-- 'girolaw14.HistoryIterators', WHERE WHAT IT READS IS OF BULK AT MOST 1048576: true; the input reads as it did. -/
def historyIteratorsUptoRow : OpenClaim := { program := "ytklhfckdifkpaaa", sum := "25235253e9cff8fd26c8de6a9fe371265b9ce07c56008b80dc9ab3a98d21b9da", func := "giro/girolaw14.HistoryIterators", spec := "historyIterators", unfollowed := true, recurses := true, plainKeys := false, apart := false, narrowed := true }
def HistoryIteratorsUptoSaid : Prop := historyIteratorsUptoRow.holds Try.pinned (OpenSpec.upto historyIteratorsSpec)

/-- 'girolaw14.HistoryClones', WHERE WHAT IT READS IS OF BULK AT MOST 1048576: true; the input reads as it did. -/
def historyClonesUptoRow : OpenClaim := { program := "ytklhfckdifkpaaa", sum := "25235253e9cff8fd26c8de6a9fe371265b9ce07c56008b80dc9ab3a98d21b9da", func := "giro/girolaw14.HistoryClones", spec := "historyClones", unfollowed := true, recurses := true, plainKeys := false, apart := false, narrowed := true }
def HistoryClonesUptoSaid : Prop := historyClonesUptoRow.holds Try.pinned (OpenSpec.upto historyClonesSpec)

/-- 'girolaw14.HistoryConservation', WHERE WHAT IT READS IS OF BULK AT MOST 1048576: true; the input reads as it did. -/
def historyConservationUptoRow : OpenClaim := { program := "ytklhfckdifkpaaa", sum := "25235253e9cff8fd26c8de6a9fe371265b9ce07c56008b80dc9ab3a98d21b9da", func := "giro/girolaw14.HistoryConservation", spec := "historyConservation", inPlace := ["internal/bytealg.abigen_runtime_cmpstring"], unfollowed := true, recurses := true, plainKeys := false, apart := false, narrowed := true }
def HistoryConservationUptoSaid : Prop := historyConservationUptoRow.holds Try.pinned (OpenSpec.upto historyConservationSpec)

/-- 'girolaw14.HistoryAccounts', WHERE WHAT IT READS IS OF BULK AT MOST 1048576: true; the input reads as it did. -/
def historyAccountsUptoRow : OpenClaim := { program := "ytklhfckdifkpaaa", sum := "25235253e9cff8fd26c8de6a9fe371265b9ce07c56008b80dc9ab3a98d21b9da", func := "giro/girolaw14.HistoryAccounts", spec := "historyAccounts", inPlace := ["internal/bytealg.abigen_runtime_cmpstring"], unfollowed := true, recurses := true, plainKeys := false, apart := false, narrowed := true }
def HistoryAccountsUptoSaid : Prop := historyAccountsUptoRow.holds Try.pinned (OpenSpec.upto historyAccountsSpec)

/-- 'girolaw14.HistoryNil', WHERE WHAT IT READS IS OF BULK AT MOST 1048576: true; the input reads as it did. -/
def historyNilUptoRow : OpenClaim := { program := "ytklhfckdifkpaaa", sum := "25235253e9cff8fd26c8de6a9fe371265b9ce07c56008b80dc9ab3a98d21b9da", func := "giro/girolaw14.HistoryNil", spec := "historyNil", inPlace := ["internal/bytealg.abigen_runtime_cmpstring"], unfollowed := true, recurses := true, plainKeys := false, apart := false, narrowed := true }
def HistoryNilUptoSaid : Prop := historyNilUptoRow.holds Try.pinned (OpenSpec.upto historyNilSpec)

end Rows
end Go.Proofs.Ytklhfckdifkpaaa

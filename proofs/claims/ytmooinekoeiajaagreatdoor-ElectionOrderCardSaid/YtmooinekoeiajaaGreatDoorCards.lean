/-
  DERIVED. GIVEN WITH THE SEED: THE CARDS: each row of YtmooinekoeiajaaGreatDoorRows.lean that lists a variable, with what it lists TIED to the program's text (the seventh form; the later family's looks); each row that meets fmt, with fmt's text TOLD by the authors' own Lean function (tested against real Go, not proved from fmt's source: count such statements apart). THE CARD IS WHAT COUNTS. Prove the row's statement (the work); the ties are given (YtmooinekoeiajaaGreatDoorTie.lean); close each card by the builder's one call (the guide's Derived/Test/ToyasCard.lean, 'card_holds'). Laid BY PROGRAM, IN A SANDBOX (cutbox-door.mjs). By AI agents, Wed Nov 11 2026. No macro, syntax, notation, axiom, sorry.
-/
import Derived.Test.YtmooinekoeiajaaGreatDoorRows
import GoSem.ClaimSeven
namespace Go.Proofs.YtmooinekoeiajaaGreatDoor
namespace Rows

/-- THE TIED CARD OF 'girolaw44.ElectionClone'. -/
def electionCloneCard : Claim7 := { stood := { row := electionCloneRow, standIns := [], harness := (true, "432ba5930207515d71965132727d0ce340d9dfecd27b298c3f46f89b49a71a5e"), looks := true }, kinds := [], alts := [], laidByText := true, laidKinds := [.data, .pinned], laidTests := true, laidLooks := .later }
def ElectionCloneCardSaid : Prop := Claim7.holds Tryz.pinned (.plain (OpenSpec.ofChange electionCloneSpec)) electionCloneCard

/-- THE TIED CARD OF 'girolaw44.ElectionNil'. -/
def electionNilCard : Claim7 := { stood := { row := electionNilRow, standIns := [], harness := (true, "432ba5930207515d71965132727d0ce340d9dfecd27b298c3f46f89b49a71a5e"), looks := true }, kinds := [], alts := [], laidByText := true, laidKinds := [.data, .pinned], laidTests := true, laidLooks := .later }
def ElectionNilCardSaid : Prop := Claim7.holds Tryz.pinned (.plain (OpenSpec.ofChange electionNilSpec)) electionNilCard

/-- THE TIED CARD OF 'girolaw44.ElectionNew'. -/
def electionNewCard : Claim7 := { stood := { row := electionNewRow, standIns := [], harness := (true, "432ba5930207515d71965132727d0ce340d9dfecd27b298c3f46f89b49a71a5e"), looks := true }, kinds := [], alts := [], laidByText := true, laidKinds := [.data, .pinned], laidTests := true, laidLooks := .later }
def ElectionNewCardSaid : Prop := Claim7.holds Tryz.pinned (.plain (OpenSpec.ofChange electionNewSpec)) electionNewCard

/-- THE TIED CARD OF 'girolaw44.ElectionConservation'. -/
def electionConservationCard : Claim7 := { stood := { row := electionConservationRow, standIns := [], harness := (true, "432ba5930207515d71965132727d0ce340d9dfecd27b298c3f46f89b49a71a5e"), looks := true }, kinds := [], alts := [], laidByText := true, laidKinds := [.data, .pinned], laidTests := true, laidLooks := .later }
def ElectionConservationCardSaid : Prop := Claim7.holds Tryz.pinned (.plain (OpenSpec.ofChange electionConservationSpec)) electionConservationCard

/-- THE TIED CARD OF 'girolaw44.ElectionProportion'. -/
def electionProportionCard : Claim7 := { stood := { row := electionProportionRow, standIns := [], harness := (true, "432ba5930207515d71965132727d0ce340d9dfecd27b298c3f46f89b49a71a5e"), looks := true }, kinds := [], alts := [], laidByText := true, laidKinds := [.data, .pinned], laidTests := true, laidLooks := .later }
def ElectionProportionCardSaid : Prop := Claim7.holds Tryz.pinned (.plain (OpenSpec.ofChange electionProportionSpec)) electionProportionCard

/-- THE TIED CARD OF 'girolaw44.ElectionOrder'. -/
def electionOrderCard : Claim7 := { stood := { row := electionOrderRow, standIns := [], harness := (true, "432ba5930207515d71965132727d0ce340d9dfecd27b298c3f46f89b49a71a5e"), looks := true }, kinds := [], alts := [], laidByText := true, laidKinds := [.data, .pinned], laidTests := true, laidLooks := .later }
def ElectionOrderCardSaid : Prop := Claim7.holds Tryz.pinned (.plain (OpenSpec.ofChange electionOrderSpec)) electionOrderCard

/-- THE TIED CARD OF 'girolaw44.ElectionOperations'. -/
def electionOperationsCard : Claim7 := { stood := { row := electionOperationsRow, standIns := [], harness := (true, "432ba5930207515d71965132727d0ce340d9dfecd27b298c3f46f89b49a71a5e"), looks := true }, kinds := [], alts := [], laidByText := true, laidKinds := [.data, .pinned], laidTests := true, laidLooks := .later }
def ElectionOperationsCardSaid : Prop := Claim7.holds Tryz.pinned (.plain (OpenSpec.ofChange electionOperationsSpec)) electionOperationsCard

/-- THE SECOND FORM's CARD OF 'girolaw44.ElectionClone'. -/
def electionCloneUptoCard : Claim7 := { stood := { row := electionCloneUptoRow, standIns := [], harness := (true, "432ba5930207515d71965132727d0ce340d9dfecd27b298c3f46f89b49a71a5e"), looks := true }, kinds := [], alts := [], laidByText := true, laidKinds := [.data, .pinned], laidTests := true, laidLooks := .later }
def ElectionCloneUptoCardSaid : Prop := Claim7.holds Tryz.pinned (.plain (OpenSpec.upto electionCloneSpec)) electionCloneUptoCard

/-- THE SECOND FORM's CARD OF 'girolaw44.ElectionNil'. -/
def electionNilUptoCard : Claim7 := { stood := { row := electionNilUptoRow, standIns := [], harness := (true, "432ba5930207515d71965132727d0ce340d9dfecd27b298c3f46f89b49a71a5e"), looks := true }, kinds := [], alts := [], laidByText := true, laidKinds := [.data, .pinned], laidTests := true, laidLooks := .later }
def ElectionNilUptoCardSaid : Prop := Claim7.holds Tryz.pinned (.plain (OpenSpec.upto electionNilSpec)) electionNilUptoCard

/-- THE SECOND FORM's CARD OF 'girolaw44.ElectionNew'. -/
def electionNewUptoCard : Claim7 := { stood := { row := electionNewUptoRow, standIns := [], harness := (true, "432ba5930207515d71965132727d0ce340d9dfecd27b298c3f46f89b49a71a5e"), looks := true }, kinds := [], alts := [], laidByText := true, laidKinds := [.data, .pinned], laidTests := true, laidLooks := .later }
def ElectionNewUptoCardSaid : Prop := Claim7.holds Tryz.pinned (.plain (OpenSpec.upto electionNewSpec)) electionNewUptoCard

/-- THE SECOND FORM's CARD OF 'girolaw44.ElectionConservation'. -/
def electionConservationUptoCard : Claim7 := { stood := { row := electionConservationUptoRow, standIns := [], harness := (true, "432ba5930207515d71965132727d0ce340d9dfecd27b298c3f46f89b49a71a5e"), looks := true }, kinds := [], alts := [], laidByText := true, laidKinds := [.data, .pinned], laidTests := true, laidLooks := .later }
def ElectionConservationUptoCardSaid : Prop := Claim7.holds Tryz.pinned (.plain (OpenSpec.upto electionConservationSpec)) electionConservationUptoCard

/-- THE SECOND FORM's CARD OF 'girolaw44.ElectionProportion'. -/
def electionProportionUptoCard : Claim7 := { stood := { row := electionProportionUptoRow, standIns := [], harness := (true, "432ba5930207515d71965132727d0ce340d9dfecd27b298c3f46f89b49a71a5e"), looks := true }, kinds := [], alts := [], laidByText := true, laidKinds := [.data, .pinned], laidTests := true, laidLooks := .later }
def ElectionProportionUptoCardSaid : Prop := Claim7.holds Tryz.pinned (.plain (OpenSpec.upto electionProportionSpec)) electionProportionUptoCard

/-- THE SECOND FORM's CARD OF 'girolaw44.ElectionOrder'. -/
def electionOrderUptoCard : Claim7 := { stood := { row := electionOrderUptoRow, standIns := [], harness := (true, "432ba5930207515d71965132727d0ce340d9dfecd27b298c3f46f89b49a71a5e"), looks := true }, kinds := [], alts := [], laidByText := true, laidKinds := [.data, .pinned], laidTests := true, laidLooks := .later }
def ElectionOrderUptoCardSaid : Prop := Claim7.holds Tryz.pinned (.plain (OpenSpec.upto electionOrderSpec)) electionOrderUptoCard

/-- THE SECOND FORM's CARD OF 'girolaw44.ElectionOperations'. -/
def electionOperationsUptoCard : Claim7 := { stood := { row := electionOperationsUptoRow, standIns := [], harness := (true, "432ba5930207515d71965132727d0ce340d9dfecd27b298c3f46f89b49a71a5e"), looks := true }, kinds := [], alts := [], laidByText := true, laidKinds := [.data, .pinned], laidTests := true, laidLooks := .later }
def ElectionOperationsUptoCardSaid : Prop := Claim7.holds Tryz.pinned (.plain (OpenSpec.upto electionOperationsSpec)) electionOperationsUptoCard
end Rows
end Go.Proofs.YtmooinekoeiajaaGreatDoor

/-
  DERIVED. GIVEN WITH THE SEED: THE CARDS: each row of YtjalppojdomcoaaDoorRows.lean that lists a variable, with what it lists TIED to the program's text (the seventh form; the later family's looks); each row that meets fmt, with fmt's text TOLD by the authors' own Lean function (tested against real Go, not proved from fmt's source: count such statements apart). THE CARD IS WHAT COUNTS. Prove the row's statement (the work); the ties are given (YtjalppojdomcoaaDoorTie.lean); close each card by the builder's one call (the guide's Derived/Test/ToyasCard.lean, 'card_holds'). Laid BY PROGRAM, IN A SANDBOX (cutbox-door.mjs). By AI agents, Wed Nov 11 2026. No macro, syntax, notation, axiom, sorry.
-/
import Derived.Test.YtjalppojdomcoaaDoorRows
import GoSem.ClaimSeven
namespace Go.Proofs.YtjalppojdomcoaaDoor
namespace Rows

/-- THE TIED CARD OF 'laws.FnBytesStep'. -/
def fnBytesStepCard : Claim7 := { stood := { row := fnBytesStepRow, standIns := [], harness := (true, "5879b2c7bbbd9ba41205dd4227439f8c376372f0e4f55f9dcb2643ec983b85fb"), looks := true }, kinds := [], alts := [], laidByText := true, laidKinds := [.sentinel, .sentinel, .sentinel, .sentinel, .sentinel], laidTests := true, laidLooks := .later }
def FnBytesStepCardSaid : Prop := Claim7.holds Tryd.pinned (.plain (OpenSpec.ofChange fnBytesStepSpec)) fnBytesStepCard

/-- THE TIED CARD OF 'laws.FnBytes'. -/
def fnBytesCard : Claim7 := { stood := { row := fnBytesRow, standIns := [], harness := (true, "5879b2c7bbbd9ba41205dd4227439f8c376372f0e4f55f9dcb2643ec983b85fb"), looks := true }, kinds := [], alts := [], laidByText := true, laidKinds := [.sentinel, .sentinel, .sentinel, .sentinel, .sentinel, .sentinel, .sentinel, .sentinel, .sentinel], laidTests := true, laidLooks := .later }
def FnBytesCardSaid : Prop := Claim7.holds Tryd.pinned (.plain (OpenSpec.ofChange fnBytesSpec)) fnBytesCard

/-- THE TIED CARD OF 'laws.FnBytesJoined'. -/
def fnBytesJoinedCard : Claim7 := { stood := { row := fnBytesJoinedRow, standIns := [], harness := (true, "5879b2c7bbbd9ba41205dd4227439f8c376372f0e4f55f9dcb2643ec983b85fb"), looks := true }, kinds := [], alts := [], laidByText := true, laidKinds := [.sentinel, .sentinel, .sentinel, .sentinel, .sentinel, .sentinel, .sentinel, .sentinel, .sentinel], laidTests := true, laidLooks := .later }
def FnBytesJoinedCardSaid : Prop := Claim7.holds Tryd.pinned (.plain (OpenSpec.ofChange fnBytesJoinedSpec)) fnBytesJoinedCard

/-- THE TIED CARD OF 'laws.FnRuns'. -/
def fnRunsCard : Claim7 := { stood := { row := fnRunsRow, standIns := [], harness := (true, "5879b2c7bbbd9ba41205dd4227439f8c376372f0e4f55f9dcb2643ec983b85fb"), looks := true }, kinds := [], alts := [], laidByText := true, laidKinds := [.sentinel, .sentinel, .sentinel, .sentinel, .sentinel, .sentinel, .sentinel, .sentinel, .sentinel], laidTests := true, laidLooks := .later }
def FnRunsCardSaid : Prop := Claim7.holds Tryd.pinned (.plain (OpenSpec.ofChange fnRunsSpec)) fnRunsCard

/-- THE TIED CARD OF 'laws.FnRunsDoubled'. -/
def fnRunsDoubledCard : Claim7 := { stood := { row := fnRunsDoubledRow, standIns := [], harness := (true, "5879b2c7bbbd9ba41205dd4227439f8c376372f0e4f55f9dcb2643ec983b85fb"), looks := true }, kinds := [], alts := [], laidByText := true, laidKinds := [.sentinel, .sentinel, .sentinel, .sentinel, .sentinel, .sentinel, .sentinel, .sentinel, .sentinel], laidTests := true, laidLooks := .later }
def FnRunsDoubledCardSaid : Prop := Claim7.holds Tryd.pinned (.plain (OpenSpec.ofChange fnRunsDoubledSpec)) fnRunsDoubledCard

/-- THE TIED CARD OF 'laws.FnRunsJoined'. -/
def fnRunsJoinedCard : Claim7 := { stood := { row := fnRunsJoinedRow, standIns := [], harness := (true, "5879b2c7bbbd9ba41205dd4227439f8c376372f0e4f55f9dcb2643ec983b85fb"), looks := true }, kinds := [], alts := [], laidByText := true, laidKinds := [.sentinel, .sentinel, .sentinel, .sentinel, .sentinel, .sentinel, .sentinel, .sentinel, .sentinel], laidTests := true, laidLooks := .later }
def FnRunsJoinedCardSaid : Prop := Claim7.holds Tryd.pinned (.plain (OpenSpec.ofChange fnRunsJoinedSpec)) fnRunsJoinedCard

/-- THE TIED CARD OF 'laws.FnRunsTooLong'. -/
def fnRunsTooLongCard : Claim7 := { stood := { row := fnRunsTooLongRow, standIns := [], harness := (true, "5879b2c7bbbd9ba41205dd4227439f8c376372f0e4f55f9dcb2643ec983b85fb"), looks := true }, kinds := [], alts := [], laidByText := true, laidKinds := [.sentinel, .sentinel, .sentinel, .sentinel, .sentinel, .sentinel, .sentinel, .sentinel, .sentinel], laidTests := true, laidLooks := .later }
def FnRunsTooLongCardSaid : Prop := Claim7.holds Tryd.pinned (.plain (OpenSpec.ofChange fnRunsTooLongSpec)) fnRunsTooLongCard

/-- THE TIED CARD OF 'laws.FnBlocks'. -/
def fnBlocksCard : Claim7 := { stood := { row := fnBlocksRow, standIns := [], harness := (true, "5879b2c7bbbd9ba41205dd4227439f8c376372f0e4f55f9dcb2643ec983b85fb"), looks := true }, kinds := [], alts := [], laidByText := true, laidKinds := [.sentinel, .sentinel, .sentinel, .sentinel, .sentinel, .sentinel, .sentinel, .sentinel, .sentinel], laidTests := true, laidLooks := .later }
def FnBlocksCardSaid : Prop := Claim7.holds Tryd.pinned (.plain (OpenSpec.ofChange fnBlocksSpec)) fnBlocksCard

/-- THE TIED CARD OF 'laws.FnBlocksJoined'. -/
def fnBlocksJoinedCard : Claim7 := { stood := { row := fnBlocksJoinedRow, standIns := [], harness := (true, "5879b2c7bbbd9ba41205dd4227439f8c376372f0e4f55f9dcb2643ec983b85fb"), looks := true }, kinds := [], alts := [], laidByText := true, laidKinds := [.sentinel, .sentinel, .sentinel, .sentinel, .sentinel, .sentinel, .sentinel, .sentinel, .sentinel], laidTests := true, laidLooks := .later }
def FnBlocksJoinedCardSaid : Prop := Claim7.holds Tryd.pinned (.plain (OpenSpec.ofChange fnBlocksJoinedSpec)) fnBlocksJoinedCard

/-- THE TIED CARD OF 'laws.FnBlocksOfBlocks'. -/
def fnBlocksOfBlocksCard : Claim7 := { stood := { row := fnBlocksOfBlocksRow, standIns := [], harness := (true, "5879b2c7bbbd9ba41205dd4227439f8c376372f0e4f55f9dcb2643ec983b85fb"), looks := true }, kinds := [], alts := [], laidByText := true, laidKinds := [.sentinel, .sentinel, .sentinel, .sentinel, .sentinel, .sentinel, .sentinel, .sentinel, .sentinel], laidTests := true, laidLooks := .later }
def FnBlocksOfBlocksCardSaid : Prop := Claim7.holds Tryd.pinned (.plain (OpenSpec.ofChange fnBlocksOfBlocksSpec)) fnBlocksOfBlocksCard

/-- THE TIED CARD OF 'laws.FnBlocksTooLong'. -/
def fnBlocksTooLongCard : Claim7 := { stood := { row := fnBlocksTooLongRow, standIns := [], harness := (true, "5879b2c7bbbd9ba41205dd4227439f8c376372f0e4f55f9dcb2643ec983b85fb"), looks := true }, kinds := [], alts := [], laidByText := true, laidKinds := [.sentinel, .sentinel, .sentinel, .sentinel, .sentinel, .sentinel, .sentinel, .sentinel, .sentinel], laidTests := true, laidLooks := .later }
def FnBlocksTooLongCardSaid : Prop := Claim7.holds Tryd.pinned (.plain (OpenSpec.ofChange fnBlocksTooLongSpec)) fnBlocksTooLongCard

/-- THE TIED CARD OF 'laws.FnBytesAreBlocks'. -/
def fnBytesAreBlocksCard : Claim7 := { stood := { row := fnBytesAreBlocksRow, standIns := [], harness := (true, "5879b2c7bbbd9ba41205dd4227439f8c376372f0e4f55f9dcb2643ec983b85fb"), looks := true }, kinds := [], alts := [], laidByText := true, laidKinds := [.sentinel, .sentinel, .sentinel, .sentinel, .sentinel, .sentinel, .sentinel, .sentinel, .sentinel], laidTests := true, laidLooks := .later }
def FnBytesAreBlocksCardSaid : Prop := Claim7.holds Tryd.pinned (.plain (OpenSpec.ofChange fnBytesAreBlocksSpec)) fnBytesAreBlocksCard

/-- THE SECOND FORM's CARD OF 'laws.FnBytesStep'. -/
def fnBytesStepUptoCard : Claim7 := { stood := { row := fnBytesStepUptoRow, standIns := [], harness := (true, "5879b2c7bbbd9ba41205dd4227439f8c376372f0e4f55f9dcb2643ec983b85fb"), looks := true }, kinds := [], alts := [], laidByText := true, laidKinds := [.sentinel, .sentinel, .sentinel, .sentinel, .sentinel], laidTests := true, laidLooks := .later }
def FnBytesStepUptoCardSaid : Prop := Claim7.holds Tryd.pinned (.plain (OpenSpec.upto fnBytesStepSpec)) fnBytesStepUptoCard

/-- THE SECOND FORM's CARD OF 'laws.FnBytes'. -/
def fnBytesUptoCard : Claim7 := { stood := { row := fnBytesUptoRow, standIns := [], harness := (true, "5879b2c7bbbd9ba41205dd4227439f8c376372f0e4f55f9dcb2643ec983b85fb"), looks := true }, kinds := [], alts := [], laidByText := true, laidKinds := [.sentinel, .sentinel, .sentinel, .sentinel, .sentinel, .sentinel, .sentinel, .sentinel, .sentinel], laidTests := true, laidLooks := .later }
def FnBytesUptoCardSaid : Prop := Claim7.holds Tryd.pinned (.plain (OpenSpec.upto fnBytesSpec)) fnBytesUptoCard

/-- THE SECOND FORM's CARD OF 'laws.FnBytesJoined'. -/
def fnBytesJoinedUptoCard : Claim7 := { stood := { row := fnBytesJoinedUptoRow, standIns := [], harness := (true, "5879b2c7bbbd9ba41205dd4227439f8c376372f0e4f55f9dcb2643ec983b85fb"), looks := true }, kinds := [], alts := [], laidByText := true, laidKinds := [.sentinel, .sentinel, .sentinel, .sentinel, .sentinel, .sentinel, .sentinel, .sentinel, .sentinel], laidTests := true, laidLooks := .later }
def FnBytesJoinedUptoCardSaid : Prop := Claim7.holds Tryd.pinned (.plain (OpenSpec.upto fnBytesJoinedSpec)) fnBytesJoinedUptoCard

/-- THE SECOND FORM's CARD OF 'laws.FnRuns'. -/
def fnRunsUptoCard : Claim7 := { stood := { row := fnRunsUptoRow, standIns := [], harness := (true, "5879b2c7bbbd9ba41205dd4227439f8c376372f0e4f55f9dcb2643ec983b85fb"), looks := true }, kinds := [], alts := [], laidByText := true, laidKinds := [.sentinel, .sentinel, .sentinel, .sentinel, .sentinel, .sentinel, .sentinel, .sentinel, .sentinel], laidTests := true, laidLooks := .later }
def FnRunsUptoCardSaid : Prop := Claim7.holds Tryd.pinned (.plain (OpenSpec.upto fnRunsSpec)) fnRunsUptoCard

/-- THE SECOND FORM's CARD OF 'laws.FnRunsDoubled'. -/
def fnRunsDoubledUptoCard : Claim7 := { stood := { row := fnRunsDoubledUptoRow, standIns := [], harness := (true, "5879b2c7bbbd9ba41205dd4227439f8c376372f0e4f55f9dcb2643ec983b85fb"), looks := true }, kinds := [], alts := [], laidByText := true, laidKinds := [.sentinel, .sentinel, .sentinel, .sentinel, .sentinel, .sentinel, .sentinel, .sentinel, .sentinel], laidTests := true, laidLooks := .later }
def FnRunsDoubledUptoCardSaid : Prop := Claim7.holds Tryd.pinned (.plain (OpenSpec.upto fnRunsDoubledSpec)) fnRunsDoubledUptoCard

/-- THE SECOND FORM's CARD OF 'laws.FnRunsJoined'. -/
def fnRunsJoinedUptoCard : Claim7 := { stood := { row := fnRunsJoinedUptoRow, standIns := [], harness := (true, "5879b2c7bbbd9ba41205dd4227439f8c376372f0e4f55f9dcb2643ec983b85fb"), looks := true }, kinds := [], alts := [], laidByText := true, laidKinds := [.sentinel, .sentinel, .sentinel, .sentinel, .sentinel, .sentinel, .sentinel, .sentinel, .sentinel], laidTests := true, laidLooks := .later }
def FnRunsJoinedUptoCardSaid : Prop := Claim7.holds Tryd.pinned (.plain (OpenSpec.upto fnRunsJoinedSpec)) fnRunsJoinedUptoCard

/-- THE SECOND FORM's CARD OF 'laws.FnRunsTooLong'. -/
def fnRunsTooLongUptoCard : Claim7 := { stood := { row := fnRunsTooLongUptoRow, standIns := [], harness := (true, "5879b2c7bbbd9ba41205dd4227439f8c376372f0e4f55f9dcb2643ec983b85fb"), looks := true }, kinds := [], alts := [], laidByText := true, laidKinds := [.sentinel, .sentinel, .sentinel, .sentinel, .sentinel, .sentinel, .sentinel, .sentinel, .sentinel], laidTests := true, laidLooks := .later }
def FnRunsTooLongUptoCardSaid : Prop := Claim7.holds Tryd.pinned (.plain (OpenSpec.upto fnRunsTooLongSpec)) fnRunsTooLongUptoCard

/-- THE SECOND FORM's CARD OF 'laws.FnBlocks'. -/
def fnBlocksUptoCard : Claim7 := { stood := { row := fnBlocksUptoRow, standIns := [], harness := (true, "5879b2c7bbbd9ba41205dd4227439f8c376372f0e4f55f9dcb2643ec983b85fb"), looks := true }, kinds := [], alts := [], laidByText := true, laidKinds := [.sentinel, .sentinel, .sentinel, .sentinel, .sentinel, .sentinel, .sentinel, .sentinel, .sentinel], laidTests := true, laidLooks := .later }
def FnBlocksUptoCardSaid : Prop := Claim7.holds Tryd.pinned (.plain (OpenSpec.upto fnBlocksSpec)) fnBlocksUptoCard

/-- THE SECOND FORM's CARD OF 'laws.FnBlocksJoined'. -/
def fnBlocksJoinedUptoCard : Claim7 := { stood := { row := fnBlocksJoinedUptoRow, standIns := [], harness := (true, "5879b2c7bbbd9ba41205dd4227439f8c376372f0e4f55f9dcb2643ec983b85fb"), looks := true }, kinds := [], alts := [], laidByText := true, laidKinds := [.sentinel, .sentinel, .sentinel, .sentinel, .sentinel, .sentinel, .sentinel, .sentinel, .sentinel], laidTests := true, laidLooks := .later }
def FnBlocksJoinedUptoCardSaid : Prop := Claim7.holds Tryd.pinned (.plain (OpenSpec.upto fnBlocksJoinedSpec)) fnBlocksJoinedUptoCard

/-- THE SECOND FORM's CARD OF 'laws.FnBlocksOfBlocks'. -/
def fnBlocksOfBlocksUptoCard : Claim7 := { stood := { row := fnBlocksOfBlocksUptoRow, standIns := [], harness := (true, "5879b2c7bbbd9ba41205dd4227439f8c376372f0e4f55f9dcb2643ec983b85fb"), looks := true }, kinds := [], alts := [], laidByText := true, laidKinds := [.sentinel, .sentinel, .sentinel, .sentinel, .sentinel, .sentinel, .sentinel, .sentinel, .sentinel], laidTests := true, laidLooks := .later }
def FnBlocksOfBlocksUptoCardSaid : Prop := Claim7.holds Tryd.pinned (.plain (OpenSpec.upto fnBlocksOfBlocksSpec)) fnBlocksOfBlocksUptoCard

/-- THE SECOND FORM's CARD OF 'laws.FnBlocksTooLong'. -/
def fnBlocksTooLongUptoCard : Claim7 := { stood := { row := fnBlocksTooLongUptoRow, standIns := [], harness := (true, "5879b2c7bbbd9ba41205dd4227439f8c376372f0e4f55f9dcb2643ec983b85fb"), looks := true }, kinds := [], alts := [], laidByText := true, laidKinds := [.sentinel, .sentinel, .sentinel, .sentinel, .sentinel, .sentinel, .sentinel, .sentinel, .sentinel], laidTests := true, laidLooks := .later }
def FnBlocksTooLongUptoCardSaid : Prop := Claim7.holds Tryd.pinned (.plain (OpenSpec.upto fnBlocksTooLongSpec)) fnBlocksTooLongUptoCard

/-- THE SECOND FORM's CARD OF 'laws.FnBytesAreBlocks'. -/
def fnBytesAreBlocksUptoCard : Claim7 := { stood := { row := fnBytesAreBlocksUptoRow, standIns := [], harness := (true, "5879b2c7bbbd9ba41205dd4227439f8c376372f0e4f55f9dcb2643ec983b85fb"), looks := true }, kinds := [], alts := [], laidByText := true, laidKinds := [.sentinel, .sentinel, .sentinel, .sentinel, .sentinel, .sentinel, .sentinel, .sentinel, .sentinel], laidTests := true, laidLooks := .later }
def FnBytesAreBlocksUptoCardSaid : Prop := Claim7.holds Tryd.pinned (.plain (OpenSpec.upto fnBytesAreBlocksSpec)) fnBytesAreBlocksUptoCard
end Rows
end Go.Proofs.YtjalppojdomcoaaDoor

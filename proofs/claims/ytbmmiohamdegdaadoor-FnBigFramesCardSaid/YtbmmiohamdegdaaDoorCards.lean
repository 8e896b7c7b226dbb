/-
  DERIVED. GIVEN WITH THE SEED: THE CARDS: each row of YtbmmiohamdegdaaDoorRows.lean that lists a variable, with what it lists TIED to the program's text (the seventh form; the later family's looks); each row that meets fmt, with fmt's text TOLD by the authors' own Lean function (tested against real Go, not proved from fmt's source: count such statements apart). THE CARD IS WHAT COUNTS. Prove the row's statement (the work); the ties are given (YtbmmiohamdegdaaDoorTie.lean); close each card by the builder's one call (the guide's Derived/Test/ToyasCard.lean, 'card_holds'). Laid BY PROGRAM, IN A SANDBOX (cutbox-door.mjs). By AI agents, Wed Nov 11 2026. No macro, syntax, notation, axiom, sorry.
-/
import Derived.Test.YtbmmiohamdegdaaDoorRows
import GoSem.ClaimSeven
namespace Go.Proofs.YtbmmiohamdegdaaDoor
namespace Rows

/-- THE TIED CARD OF 'laws.FnFrames'. -/
def fnFramesCard : Claim7 := { stood := { row := fnFramesRow, standIns := [], harness := (true, "27dc9677dd7d6ea3e308ead58009f0cecfe15fd0ddfa64eb96e04c47beac48d7"), looks := true }, kinds := [], alts := [], laidByText := true, laidKinds := [.sentinel, .sentinel, .sentinel, .sentinel, .sentinel, .sentinel, .sentinel, .sentinel, .sentinel], laidTests := true, laidLooks := .later }
def FnFramesCardSaid : Prop := Claim7.holds Tryd.pinned (.plain (OpenSpec.ofChange fnFramesSpec)) fnFramesCard

/-- THE TIED CARD OF 'laws.FnFramesAgain'. -/
def fnFramesAgainCard : Claim7 := { stood := { row := fnFramesAgainRow, standIns := [], harness := (true, "27dc9677dd7d6ea3e308ead58009f0cecfe15fd0ddfa64eb96e04c47beac48d7"), looks := true }, kinds := [], alts := [], laidByText := true, laidKinds := [.sentinel, .sentinel, .sentinel, .sentinel, .sentinel, .sentinel, .sentinel, .sentinel, .sentinel], laidTests := true, laidLooks := .later }
def FnFramesAgainCardSaid : Prop := Claim7.holds Tryd.pinned (.plain (OpenSpec.ofChange fnFramesAgainSpec)) fnFramesAgainCard

/-- THE TIED CARD OF 'laws.FnFramesEmpty'. -/
def fnFramesEmptyCard : Claim7 := { stood := { row := fnFramesEmptyRow, standIns := [], harness := (true, "27dc9677dd7d6ea3e308ead58009f0cecfe15fd0ddfa64eb96e04c47beac48d7"), looks := true }, kinds := [], alts := [], laidByText := true, laidKinds := [.sentinel, .sentinel, .sentinel, .sentinel, .sentinel, .sentinel, .sentinel, .sentinel, .sentinel], laidTests := true, laidLooks := .later }
def FnFramesEmptyCardSaid : Prop := Claim7.holds Tryd.pinned (.plain (OpenSpec.ofChange fnFramesEmptySpec)) fnFramesEmptyCard

/-- THE TIED CARD OF 'laws.FnFramesTooLong'. -/
def fnFramesTooLongCard : Claim7 := { stood := { row := fnFramesTooLongRow, standIns := [], harness := (true, "27dc9677dd7d6ea3e308ead58009f0cecfe15fd0ddfa64eb96e04c47beac48d7"), looks := true }, kinds := [], alts := [], laidByText := true, laidKinds := [.sentinel, .sentinel, .sentinel, .sentinel, .sentinel, .sentinel, .sentinel, .sentinel, .sentinel], laidTests := true, laidLooks := .later }
def FnFramesTooLongCardSaid : Prop := Claim7.holds Tryd.pinned (.plain (OpenSpec.ofChange fnFramesTooLongSpec)) fnFramesTooLongCard

/-- THE TIED CARD OF 'laws.FnNested'. -/
def fnNestedCard : Claim7 := { stood := { row := fnNestedRow, standIns := [], harness := (true, "27dc9677dd7d6ea3e308ead58009f0cecfe15fd0ddfa64eb96e04c47beac48d7"), looks := true }, kinds := [], alts := [], laidByText := true, laidKinds := [.sentinel, .sentinel, .sentinel, .sentinel, .sentinel, .sentinel, .sentinel, .sentinel, .sentinel], laidTests := true, laidLooks := .later }
def FnNestedCardSaid : Prop := Claim7.holds Tryd.pinned (.plain (OpenSpec.ofChange fnNestedSpec)) fnNestedCard

/-- THE TIED CARD OF 'laws.FnNestedAgain'. -/
def fnNestedAgainCard : Claim7 := { stood := { row := fnNestedAgainRow, standIns := [], harness := (true, "27dc9677dd7d6ea3e308ead58009f0cecfe15fd0ddfa64eb96e04c47beac48d7"), looks := true }, kinds := [], alts := [], laidByText := true, laidKinds := [.sentinel, .sentinel, .sentinel, .sentinel, .sentinel, .sentinel, .sentinel, .sentinel, .sentinel], laidTests := true, laidLooks := .later }
def FnNestedAgainCardSaid : Prop := Claim7.holds Tryd.pinned (.plain (OpenSpec.ofChange fnNestedAgainSpec)) fnNestedAgainCard

/-- THE TIED CARD OF 'laws.FnBigFrames'. -/
def fnBigFramesCard : Claim7 := { stood := { row := fnBigFramesRow, standIns := [], harness := (true, "27dc9677dd7d6ea3e308ead58009f0cecfe15fd0ddfa64eb96e04c47beac48d7"), looks := true }, kinds := [], alts := [], laidByText := true, laidKinds := [.sentinel, .sentinel, .sentinel, .sentinel, .sentinel, .sentinel, .sentinel, .sentinel, .sentinel], laidTests := true, laidLooks := .later }
def FnBigFramesCardSaid : Prop := Claim7.holds Tryd.pinned (.plain (OpenSpec.ofChange fnBigFramesSpec)) fnBigFramesCard

/-- THE SECOND FORM's CARD OF 'laws.FnFrames'. -/
def fnFramesUptoCard : Claim7 := { stood := { row := fnFramesUptoRow, standIns := [], harness := (true, "27dc9677dd7d6ea3e308ead58009f0cecfe15fd0ddfa64eb96e04c47beac48d7"), looks := true }, kinds := [], alts := [], laidByText := true, laidKinds := [.sentinel, .sentinel, .sentinel, .sentinel, .sentinel, .sentinel, .sentinel, .sentinel, .sentinel], laidTests := true, laidLooks := .later }
def FnFramesUptoCardSaid : Prop := Claim7.holds Tryd.pinned (.plain (OpenSpec.upto fnFramesSpec)) fnFramesUptoCard

/-- THE SECOND FORM's CARD OF 'laws.FnFramesAgain'. -/
def fnFramesAgainUptoCard : Claim7 := { stood := { row := fnFramesAgainUptoRow, standIns := [], harness := (true, "27dc9677dd7d6ea3e308ead58009f0cecfe15fd0ddfa64eb96e04c47beac48d7"), looks := true }, kinds := [], alts := [], laidByText := true, laidKinds := [.sentinel, .sentinel, .sentinel, .sentinel, .sentinel, .sentinel, .sentinel, .sentinel, .sentinel], laidTests := true, laidLooks := .later }
def FnFramesAgainUptoCardSaid : Prop := Claim7.holds Tryd.pinned (.plain (OpenSpec.upto fnFramesAgainSpec)) fnFramesAgainUptoCard

/-- THE SECOND FORM's CARD OF 'laws.FnFramesEmpty'. -/
def fnFramesEmptyUptoCard : Claim7 := { stood := { row := fnFramesEmptyUptoRow, standIns := [], harness := (true, "27dc9677dd7d6ea3e308ead58009f0cecfe15fd0ddfa64eb96e04c47beac48d7"), looks := true }, kinds := [], alts := [], laidByText := true, laidKinds := [.sentinel, .sentinel, .sentinel, .sentinel, .sentinel, .sentinel, .sentinel, .sentinel, .sentinel], laidTests := true, laidLooks := .later }
def FnFramesEmptyUptoCardSaid : Prop := Claim7.holds Tryd.pinned (.plain (OpenSpec.upto fnFramesEmptySpec)) fnFramesEmptyUptoCard

/-- THE SECOND FORM's CARD OF 'laws.FnFramesTooLong'. -/
def fnFramesTooLongUptoCard : Claim7 := { stood := { row := fnFramesTooLongUptoRow, standIns := [], harness := (true, "27dc9677dd7d6ea3e308ead58009f0cecfe15fd0ddfa64eb96e04c47beac48d7"), looks := true }, kinds := [], alts := [], laidByText := true, laidKinds := [.sentinel, .sentinel, .sentinel, .sentinel, .sentinel, .sentinel, .sentinel, .sentinel, .sentinel], laidTests := true, laidLooks := .later }
def FnFramesTooLongUptoCardSaid : Prop := Claim7.holds Tryd.pinned (.plain (OpenSpec.upto fnFramesTooLongSpec)) fnFramesTooLongUptoCard

/-- THE SECOND FORM's CARD OF 'laws.FnNested'. -/
def fnNestedUptoCard : Claim7 := { stood := { row := fnNestedUptoRow, standIns := [], harness := (true, "27dc9677dd7d6ea3e308ead58009f0cecfe15fd0ddfa64eb96e04c47beac48d7"), looks := true }, kinds := [], alts := [], laidByText := true, laidKinds := [.sentinel, .sentinel, .sentinel, .sentinel, .sentinel, .sentinel, .sentinel, .sentinel, .sentinel], laidTests := true, laidLooks := .later }
def FnNestedUptoCardSaid : Prop := Claim7.holds Tryd.pinned (.plain (OpenSpec.upto fnNestedSpec)) fnNestedUptoCard

/-- THE SECOND FORM's CARD OF 'laws.FnNestedAgain'. -/
def fnNestedAgainUptoCard : Claim7 := { stood := { row := fnNestedAgainUptoRow, standIns := [], harness := (true, "27dc9677dd7d6ea3e308ead58009f0cecfe15fd0ddfa64eb96e04c47beac48d7"), looks := true }, kinds := [], alts := [], laidByText := true, laidKinds := [.sentinel, .sentinel, .sentinel, .sentinel, .sentinel, .sentinel, .sentinel, .sentinel, .sentinel], laidTests := true, laidLooks := .later }
def FnNestedAgainUptoCardSaid : Prop := Claim7.holds Tryd.pinned (.plain (OpenSpec.upto fnNestedAgainSpec)) fnNestedAgainUptoCard

/-- THE SECOND FORM's CARD OF 'laws.FnBigFrames'. -/
def fnBigFramesUptoCard : Claim7 := { stood := { row := fnBigFramesUptoRow, standIns := [], harness := (true, "27dc9677dd7d6ea3e308ead58009f0cecfe15fd0ddfa64eb96e04c47beac48d7"), looks := true }, kinds := [], alts := [], laidByText := true, laidKinds := [.sentinel, .sentinel, .sentinel, .sentinel, .sentinel, .sentinel, .sentinel, .sentinel, .sentinel], laidTests := true, laidLooks := .later }
def FnBigFramesUptoCardSaid : Prop := Claim7.holds Tryd.pinned (.plain (OpenSpec.upto fnBigFramesSpec)) fnBigFramesUptoCard
end Rows
end Go.Proofs.YtbmmiohamdegdaaDoor

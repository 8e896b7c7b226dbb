/-
  DERIVED. GIVEN WITH THE SEED: THE CARDS: each row of YtmiioacpejmndaaDoorRows.lean that lists a variable, with what it lists TIED to the program's text (the seventh form; the later family's looks); each row that meets fmt, with fmt's text TOLD by the authors' own Lean function (tested against real Go, not proved from fmt's source: count such statements apart). THE CARD IS WHAT COUNTS. Prove the row's statement (the work); the ties are given (YtmiioacpejmndaaDoorTie.lean); close each card by the builder's one call (the guide's Derived/Test/ToyasCard.lean, 'card_holds'). Laid BY PROGRAM, IN A SANDBOX (cutbox-door.mjs). By AI agents, Wed Nov 11 2026. No macro, syntax, notation, axiom, sorry.
-/
import Derived.Test.YtmiioacpejmndaaDoorRows
import GoSem.ClaimSeven
namespace Go.Proofs.YtmiioacpejmndaaDoor
namespace Rows

/-- THE TIED CARD OF 'laws.FnParts'. -/
def fnPartsCard : Claim7 := { stood := { row := fnPartsRow, standIns := [], harness := (true, "8fb7825bad804aabb9c44659591e2d1222e3155683309c348a4fc3f033a45864"), looks := true }, kinds := [], alts := [], laidByText := true, laidKinds := [.sentinel, .sentinel, .sentinel, .sentinel, .sentinel, .sentinel, .sentinel, .sentinel, .sentinel], laidTests := true, laidLooks := .later }
def FnPartsCardSaid : Prop := Claim7.holds Tryd.pinned (.plain (OpenSpec.ofChange fnPartsSpec)) fnPartsCard

/-- THE TIED CARD OF 'laws.FnPartsAgain'. -/
def fnPartsAgainCard : Claim7 := { stood := { row := fnPartsAgainRow, standIns := [], harness := (true, "8fb7825bad804aabb9c44659591e2d1222e3155683309c348a4fc3f033a45864"), looks := true }, kinds := [], alts := [], laidByText := true, laidKinds := [.sentinel, .sentinel, .sentinel, .sentinel, .sentinel, .sentinel, .sentinel, .sentinel, .sentinel], laidTests := true, laidLooks := .later }
def FnPartsAgainCardSaid : Prop := Claim7.holds Tryd.pinned (.plain (OpenSpec.ofChange fnPartsAgainSpec)) fnPartsAgainCard

/-- THE TIED CARD OF 'laws.FnPartsConcat'. -/
def fnPartsConcatCard : Claim7 := { stood := { row := fnPartsConcatRow, standIns := [], harness := (true, "8fb7825bad804aabb9c44659591e2d1222e3155683309c348a4fc3f033a45864"), looks := true }, kinds := [], alts := [], laidByText := true, laidKinds := [.sentinel, .sentinel, .sentinel, .sentinel, .sentinel, .sentinel, .sentinel, .sentinel, .sentinel], laidTests := true, laidLooks := .later }
def FnPartsConcatCardSaid : Prop := Claim7.holds Tryd.pinned (.plain (OpenSpec.ofChange fnPartsConcatSpec)) fnPartsConcatCard

/-- THE TIED CARD OF 'laws.FnPartsJoined'. -/
def fnPartsJoinedCard : Claim7 := { stood := { row := fnPartsJoinedRow, standIns := [], harness := (true, "8fb7825bad804aabb9c44659591e2d1222e3155683309c348a4fc3f033a45864"), looks := true }, kinds := [], alts := [], laidByText := true, laidKinds := [.sentinel, .sentinel, .sentinel, .sentinel, .sentinel, .sentinel, .sentinel, .sentinel, .sentinel], laidTests := true, laidLooks := .later }
def FnPartsJoinedCardSaid : Prop := Claim7.holds Tryd.pinned (.plain (OpenSpec.ofChange fnPartsJoinedSpec)) fnPartsJoinedCard

/-- THE TIED CARD OF 'laws.FnPartsTooLong'. -/
def fnPartsTooLongCard : Claim7 := { stood := { row := fnPartsTooLongRow, standIns := [], harness := (true, "8fb7825bad804aabb9c44659591e2d1222e3155683309c348a4fc3f033a45864"), looks := true }, kinds := [], alts := [], laidByText := true, laidKinds := [.sentinel, .sentinel, .sentinel, .sentinel, .sentinel, .sentinel, .sentinel, .sentinel, .sentinel], laidTests := true, laidLooks := .later }
def FnPartsTooLongCardSaid : Prop := Claim7.holds Tryd.pinned (.plain (OpenSpec.ofChange fnPartsTooLongSpec)) fnPartsTooLongCard

/-- THE TIED CARD OF 'laws.FnFields'. -/
def fnFieldsCard : Claim7 := { stood := { row := fnFieldsRow, standIns := [], harness := (true, "8fb7825bad804aabb9c44659591e2d1222e3155683309c348a4fc3f033a45864"), looks := true }, kinds := [], alts := [], laidByText := true, laidKinds := [.sentinel, .sentinel, .sentinel, .sentinel, .sentinel, .sentinel, .sentinel, .sentinel, .sentinel], laidTests := true, laidLooks := .later }
def FnFieldsCardSaid : Prop := Claim7.holds Tryd.pinned (.plain (OpenSpec.ofChange fnFieldsSpec)) fnFieldsCard

/-- THE TIED CARD OF 'laws.FnFieldsAgain'. -/
def fnFieldsAgainCard : Claim7 := { stood := { row := fnFieldsAgainRow, standIns := [], harness := (true, "8fb7825bad804aabb9c44659591e2d1222e3155683309c348a4fc3f033a45864"), looks := true }, kinds := [], alts := [], laidByText := true, laidKinds := [.sentinel, .sentinel, .sentinel, .sentinel, .sentinel, .sentinel, .sentinel, .sentinel, .sentinel], laidTests := true, laidLooks := .later }
def FnFieldsAgainCardSaid : Prop := Claim7.holds Tryd.pinned (.plain (OpenSpec.ofChange fnFieldsAgainSpec)) fnFieldsAgainCard

/-- THE TIED CARD OF 'laws.FnFieldsPlain'. -/
def fnFieldsPlainCard : Claim7 := { stood := { row := fnFieldsPlainRow, standIns := [], harness := (true, "8fb7825bad804aabb9c44659591e2d1222e3155683309c348a4fc3f033a45864"), looks := true }, kinds := [], alts := [], laidByText := true, laidKinds := [.sentinel, .sentinel, .sentinel, .sentinel, .sentinel, .sentinel, .sentinel, .sentinel, .sentinel], laidTests := true, laidLooks := .later }
def FnFieldsPlainCardSaid : Prop := Claim7.holds Tryd.pinned (.plain (OpenSpec.ofChange fnFieldsPlainSpec)) fnFieldsPlainCard

/-- THE TIED CARD OF 'laws.FnMunch'. -/
def fnMunchCard : Claim7 := { stood := { row := fnMunchRow, standIns := [], harness := (true, "8fb7825bad804aabb9c44659591e2d1222e3155683309c348a4fc3f033a45864"), looks := true }, kinds := [], alts := [], laidByText := true, laidKinds := [.sentinel, .sentinel, .sentinel, .sentinel, .sentinel, .sentinel, .sentinel, .sentinel, .sentinel], laidTests := true, laidLooks := .later }
def FnMunchCardSaid : Prop := Claim7.holds Tryd.pinned (.plain (OpenSpec.ofChange fnMunchSpec)) fnMunchCard

/-- THE TIED CARD OF 'laws.FnMunchJoined'. -/
def fnMunchJoinedCard : Claim7 := { stood := { row := fnMunchJoinedRow, standIns := [], harness := (true, "8fb7825bad804aabb9c44659591e2d1222e3155683309c348a4fc3f033a45864"), looks := true }, kinds := [], alts := [], laidByText := true, laidKinds := [.sentinel, .sentinel, .sentinel, .sentinel, .sentinel, .sentinel, .sentinel, .sentinel, .sentinel], laidTests := true, laidLooks := .later }
def FnMunchJoinedCardSaid : Prop := Claim7.holds Tryd.pinned (.plain (OpenSpec.ofChange fnMunchJoinedSpec)) fnMunchJoinedCard

/-- THE TIED CARD OF 'laws.FnMunchLongest'. -/
def fnMunchLongestCard : Claim7 := { stood := { row := fnMunchLongestRow, standIns := [], harness := (true, "8fb7825bad804aabb9c44659591e2d1222e3155683309c348a4fc3f033a45864"), looks := true }, kinds := [], alts := [], laidByText := true, laidKinds := [.sentinel, .sentinel, .sentinel, .sentinel, .sentinel, .sentinel, .sentinel, .sentinel, .sentinel], laidTests := true, laidLooks := .later }
def FnMunchLongestCardSaid : Prop := Claim7.holds Tryd.pinned (.plain (OpenSpec.ofChange fnMunchLongestSpec)) fnMunchLongestCard

/-- THE SECOND FORM's CARD OF 'laws.FnParts'. -/
def fnPartsUptoCard : Claim7 := { stood := { row := fnPartsUptoRow, standIns := [], harness := (true, "8fb7825bad804aabb9c44659591e2d1222e3155683309c348a4fc3f033a45864"), looks := true }, kinds := [], alts := [], laidByText := true, laidKinds := [.sentinel, .sentinel, .sentinel, .sentinel, .sentinel, .sentinel, .sentinel, .sentinel, .sentinel], laidTests := true, laidLooks := .later }
def FnPartsUptoCardSaid : Prop := Claim7.holds Tryd.pinned (.plain (OpenSpec.upto fnPartsSpec)) fnPartsUptoCard

/-- THE SECOND FORM's CARD OF 'laws.FnPartsAgain'. -/
def fnPartsAgainUptoCard : Claim7 := { stood := { row := fnPartsAgainUptoRow, standIns := [], harness := (true, "8fb7825bad804aabb9c44659591e2d1222e3155683309c348a4fc3f033a45864"), looks := true }, kinds := [], alts := [], laidByText := true, laidKinds := [.sentinel, .sentinel, .sentinel, .sentinel, .sentinel, .sentinel, .sentinel, .sentinel, .sentinel], laidTests := true, laidLooks := .later }
def FnPartsAgainUptoCardSaid : Prop := Claim7.holds Tryd.pinned (.plain (OpenSpec.upto fnPartsAgainSpec)) fnPartsAgainUptoCard

/-- THE SECOND FORM's CARD OF 'laws.FnPartsConcat'. -/
def fnPartsConcatUptoCard : Claim7 := { stood := { row := fnPartsConcatUptoRow, standIns := [], harness := (true, "8fb7825bad804aabb9c44659591e2d1222e3155683309c348a4fc3f033a45864"), looks := true }, kinds := [], alts := [], laidByText := true, laidKinds := [.sentinel, .sentinel, .sentinel, .sentinel, .sentinel, .sentinel, .sentinel, .sentinel, .sentinel], laidTests := true, laidLooks := .later }
def FnPartsConcatUptoCardSaid : Prop := Claim7.holds Tryd.pinned (.plain (OpenSpec.upto fnPartsConcatSpec)) fnPartsConcatUptoCard

/-- THE SECOND FORM's CARD OF 'laws.FnPartsJoined'. -/
def fnPartsJoinedUptoCard : Claim7 := { stood := { row := fnPartsJoinedUptoRow, standIns := [], harness := (true, "8fb7825bad804aabb9c44659591e2d1222e3155683309c348a4fc3f033a45864"), looks := true }, kinds := [], alts := [], laidByText := true, laidKinds := [.sentinel, .sentinel, .sentinel, .sentinel, .sentinel, .sentinel, .sentinel, .sentinel, .sentinel], laidTests := true, laidLooks := .later }
def FnPartsJoinedUptoCardSaid : Prop := Claim7.holds Tryd.pinned (.plain (OpenSpec.upto fnPartsJoinedSpec)) fnPartsJoinedUptoCard

/-- THE SECOND FORM's CARD OF 'laws.FnPartsTooLong'. -/
def fnPartsTooLongUptoCard : Claim7 := { stood := { row := fnPartsTooLongUptoRow, standIns := [], harness := (true, "8fb7825bad804aabb9c44659591e2d1222e3155683309c348a4fc3f033a45864"), looks := true }, kinds := [], alts := [], laidByText := true, laidKinds := [.sentinel, .sentinel, .sentinel, .sentinel, .sentinel, .sentinel, .sentinel, .sentinel, .sentinel], laidTests := true, laidLooks := .later }
def FnPartsTooLongUptoCardSaid : Prop := Claim7.holds Tryd.pinned (.plain (OpenSpec.upto fnPartsTooLongSpec)) fnPartsTooLongUptoCard

/-- THE SECOND FORM's CARD OF 'laws.FnFields'. -/
def fnFieldsUptoCard : Claim7 := { stood := { row := fnFieldsUptoRow, standIns := [], harness := (true, "8fb7825bad804aabb9c44659591e2d1222e3155683309c348a4fc3f033a45864"), looks := true }, kinds := [], alts := [], laidByText := true, laidKinds := [.sentinel, .sentinel, .sentinel, .sentinel, .sentinel, .sentinel, .sentinel, .sentinel, .sentinel], laidTests := true, laidLooks := .later }
def FnFieldsUptoCardSaid : Prop := Claim7.holds Tryd.pinned (.plain (OpenSpec.upto fnFieldsSpec)) fnFieldsUptoCard

/-- THE SECOND FORM's CARD OF 'laws.FnFieldsAgain'. -/
def fnFieldsAgainUptoCard : Claim7 := { stood := { row := fnFieldsAgainUptoRow, standIns := [], harness := (true, "8fb7825bad804aabb9c44659591e2d1222e3155683309c348a4fc3f033a45864"), looks := true }, kinds := [], alts := [], laidByText := true, laidKinds := [.sentinel, .sentinel, .sentinel, .sentinel, .sentinel, .sentinel, .sentinel, .sentinel, .sentinel], laidTests := true, laidLooks := .later }
def FnFieldsAgainUptoCardSaid : Prop := Claim7.holds Tryd.pinned (.plain (OpenSpec.upto fnFieldsAgainSpec)) fnFieldsAgainUptoCard

/-- THE SECOND FORM's CARD OF 'laws.FnFieldsPlain'. -/
def fnFieldsPlainUptoCard : Claim7 := { stood := { row := fnFieldsPlainUptoRow, standIns := [], harness := (true, "8fb7825bad804aabb9c44659591e2d1222e3155683309c348a4fc3f033a45864"), looks := true }, kinds := [], alts := [], laidByText := true, laidKinds := [.sentinel, .sentinel, .sentinel, .sentinel, .sentinel, .sentinel, .sentinel, .sentinel, .sentinel], laidTests := true, laidLooks := .later }
def FnFieldsPlainUptoCardSaid : Prop := Claim7.holds Tryd.pinned (.plain (OpenSpec.upto fnFieldsPlainSpec)) fnFieldsPlainUptoCard

/-- THE SECOND FORM's CARD OF 'laws.FnMunch'. -/
def fnMunchUptoCard : Claim7 := { stood := { row := fnMunchUptoRow, standIns := [], harness := (true, "8fb7825bad804aabb9c44659591e2d1222e3155683309c348a4fc3f033a45864"), looks := true }, kinds := [], alts := [], laidByText := true, laidKinds := [.sentinel, .sentinel, .sentinel, .sentinel, .sentinel, .sentinel, .sentinel, .sentinel, .sentinel], laidTests := true, laidLooks := .later }
def FnMunchUptoCardSaid : Prop := Claim7.holds Tryd.pinned (.plain (OpenSpec.upto fnMunchSpec)) fnMunchUptoCard

/-- THE SECOND FORM's CARD OF 'laws.FnMunchJoined'. -/
def fnMunchJoinedUptoCard : Claim7 := { stood := { row := fnMunchJoinedUptoRow, standIns := [], harness := (true, "8fb7825bad804aabb9c44659591e2d1222e3155683309c348a4fc3f033a45864"), looks := true }, kinds := [], alts := [], laidByText := true, laidKinds := [.sentinel, .sentinel, .sentinel, .sentinel, .sentinel, .sentinel, .sentinel, .sentinel, .sentinel], laidTests := true, laidLooks := .later }
def FnMunchJoinedUptoCardSaid : Prop := Claim7.holds Tryd.pinned (.plain (OpenSpec.upto fnMunchJoinedSpec)) fnMunchJoinedUptoCard

/-- THE SECOND FORM's CARD OF 'laws.FnMunchLongest'. -/
def fnMunchLongestUptoCard : Claim7 := { stood := { row := fnMunchLongestUptoRow, standIns := [], harness := (true, "8fb7825bad804aabb9c44659591e2d1222e3155683309c348a4fc3f033a45864"), looks := true }, kinds := [], alts := [], laidByText := true, laidKinds := [.sentinel, .sentinel, .sentinel, .sentinel, .sentinel, .sentinel, .sentinel, .sentinel, .sentinel], laidTests := true, laidLooks := .later }
def FnMunchLongestUptoCardSaid : Prop := Claim7.holds Tryd.pinned (.plain (OpenSpec.upto fnMunchLongestSpec)) fnMunchLongestUptoCard
end Rows
end Go.Proofs.YtmiioacpejmndaaDoor

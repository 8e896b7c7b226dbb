/-
  DERIVED. GIVEN WITH THE SEED: THE CARDS: each row of YtkaomlklllinlaaDoorRows.lean that lists a variable, with what it lists TIED to the program's text (the seventh form; the later family's looks); each row that meets fmt, with fmt's text TOLD by the authors' own Lean function (tested against real Go, not proved from fmt's source: count such statements apart). THE CARD IS WHAT COUNTS. Prove the row's statement (the work); the ties are given (YtkaomlklllinlaaDoorTie.lean); close each card by the builder's one call (the guide's Derived/Test/ToyasCard.lean, 'card_holds'). Laid BY PROGRAM, IN A SANDBOX (cutbox-door.mjs). By AI agents, Wed Nov 11 2026. No macro, syntax, notation, axiom, sorry.
-/
import Derived.Test.YtkaomlklllinlaaDoorRows
import GoSem.ClaimSeven
namespace Go.Proofs.YtkaomlklllinlaaDoor
namespace Rows

/-- THE TIED CARD OF 'laws.FnTakeTake'. -/
def fnTakeTakeCard : Claim7 := { stood := { row := fnTakeTakeRow, standIns := [], harness := (true, "4a727e693bf0daf6bced90496f610e5512b285789306d6450c512791a5c465c4"), looks := true }, kinds := [], alts := [], laidByText := true, laidKinds := [.data, .sentinel, .sentinel, .sentinel, .sentinel, .sentinel, .sentinel, .sentinel, .sentinel, .sentinel, .pinned], laidTests := true, laidLooks := .later }
def FnTakeTakeCardSaid : Prop := Claim7.holds Tryd.pinned (.plain (OpenSpec.ofChange fnTakeTakeSpec)) fnTakeTakeCard

/-- THE TIED CARD OF 'laws.FnCalls'. -/
def fnCallsCard : Claim7 := { stood := { row := fnCallsRow, standIns := [], harness := (true, "4a727e693bf0daf6bced90496f610e5512b285789306d6450c512791a5c465c4"), looks := true }, kinds := [], alts := [], laidByText := true, laidKinds := [.data, .sentinel, .sentinel, .sentinel, .sentinel, .sentinel, .sentinel, .sentinel, .sentinel, .sentinel, .pinned], laidTests := true, laidLooks := .later }
def FnCallsCardSaid : Prop := Claim7.holds Tryd.pinned (.plain (OpenSpec.ofChange fnCallsSpec)) fnCallsCard

/-- THE TIED CARD OF 'laws.FnHeadIsBlocks'. -/
def fnHeadIsBlocksCard : Claim7 := { stood := { row := fnHeadIsBlocksRow, standIns := [], harness := (true, "4a727e693bf0daf6bced90496f610e5512b285789306d6450c512791a5c465c4"), looks := true }, kinds := [], alts := [], laidByText := true, laidKinds := [.data, .sentinel, .sentinel, .sentinel, .sentinel, .sentinel, .sentinel, .sentinel, .sentinel, .sentinel, .pinned], laidTests := true, laidLooks := .later }
def FnHeadIsBlocksCardSaid : Prop := Claim7.holds Tryd.pinned (.plain (OpenSpec.ofChange fnHeadIsBlocksSpec)) fnHeadIsBlocksCard

/-- THE TIED CARD OF 'laws.FnBroken'. -/
def fnBrokenCard : Claim7 := { stood := { row := fnBrokenRow, standIns := [], harness := (true, "4a727e693bf0daf6bced90496f610e5512b285789306d6450c512791a5c465c4"), looks := true }, kinds := [], alts := [], laidByText := true, laidKinds := [.data, .sentinel, .sentinel, .sentinel, .sentinel, .sentinel, .sentinel, .sentinel, .sentinel, .sentinel, .pinned], laidTests := true, laidLooks := .later }
def FnBrokenCardSaid : Prop := Claim7.holds Tryd.pinned (.plain (OpenSpec.ofChange fnBrokenSpec)) fnBrokenCard

/-- THE TIED CARD OF 'laws.FnLayered'. -/
def fnLayeredCard : Claim7 := { stood := { row := fnLayeredRow, standIns := [], harness := (true, "4a727e693bf0daf6bced90496f610e5512b285789306d6450c512791a5c465c4"), looks := true }, kinds := [], alts := [], laidByText := true, laidKinds := [.data, .sentinel, .sentinel, .sentinel, .sentinel, .sentinel, .sentinel, .sentinel, .sentinel, .sentinel, .pinned], laidTests := true, laidLooks := .later }
def FnLayeredCardSaid : Prop := Claim7.holds Tryd.pinned (.plain (OpenSpec.ofChange fnLayeredSpec)) fnLayeredCard

/-- THE TIED CARD OF 'laws.FnBackBack'. -/
def fnBackBackCard : Claim7 := { stood := { row := fnBackBackRow, standIns := [], harness := (true, "4a727e693bf0daf6bced90496f610e5512b285789306d6450c512791a5c465c4"), looks := true }, kinds := [], alts := [], laidByText := true, laidKinds := [.data, .sentinel, .sentinel, .sentinel, .sentinel, .sentinel, .sentinel, .sentinel, .sentinel, .sentinel, .pinned], laidTests := true, laidLooks := .later }
def FnBackBackCardSaid : Prop := Claim7.holds Tryd.pinned (.plain (OpenSpec.ofChange fnBackBackSpec)) fnBackBackCard

/-- THE TIED CARD OF 'laws.FnDropDrop'. -/
def fnDropDropCard : Claim7 := { stood := { row := fnDropDropRow, standIns := [], harness := (true, "4a727e693bf0daf6bced90496f610e5512b285789306d6450c512791a5c465c4"), looks := true }, kinds := [], alts := [], laidByText := true, laidKinds := [.data, .sentinel, .sentinel, .sentinel, .sentinel, .sentinel, .sentinel, .sentinel, .sentinel, .sentinel, .pinned], laidTests := true, laidLooks := .later }
def FnDropDropCardSaid : Prop := Claim7.holds Tryd.pinned (.plain (OpenSpec.ofChange fnDropDropSpec)) fnDropDropCard

/-- THE TIED CARD OF 'laws.FnPieces'. -/
def fnPiecesCard : Claim7 := { stood := { row := fnPiecesRow, standIns := [], harness := (true, "4a727e693bf0daf6bced90496f610e5512b285789306d6450c512791a5c465c4"), looks := true }, kinds := [], alts := [], laidByText := true, laidKinds := [.data, .sentinel, .sentinel, .sentinel, .sentinel, .sentinel, .sentinel, .sentinel, .sentinel, .sentinel, .pinned], laidTests := true, laidLooks := .later }
def FnPiecesCardSaid : Prop := Claim7.holds Tryd.pinned (.plain (OpenSpec.ofChange fnPiecesSpec)) fnPiecesCard

/-- THE TIED CARD OF 'laws.FnStopIsTake'. -/
def fnStopIsTakeCard : Claim7 := { stood := { row := fnStopIsTakeRow, standIns := [], harness := (true, "4a727e693bf0daf6bced90496f610e5512b285789306d6450c512791a5c465c4"), looks := true }, kinds := [], alts := [], laidByText := true, laidKinds := [.data, .sentinel, .sentinel, .sentinel, .sentinel, .sentinel, .sentinel, .sentinel, .sentinel, .sentinel, .pinned], laidTests := true, laidLooks := .later }
def FnStopIsTakeCardSaid : Prop := Claim7.holds Tryd.pinned (.plain (OpenSpec.ofChange fnStopIsTakeSpec)) fnStopIsTakeCard

/-- THE TIED CARD OF 'laws.FnStray'. -/
def fnStrayCard : Claim7 := { stood := { row := fnStrayRow, standIns := [], harness := (true, "4a727e693bf0daf6bced90496f610e5512b285789306d6450c512791a5c465c4"), looks := true }, kinds := [], alts := [], laidByText := true, laidKinds := [.data, .sentinel, .sentinel, .sentinel, .sentinel, .sentinel, .sentinel, .sentinel, .sentinel, .sentinel, .pinned], laidTests := true, laidLooks := .later }
def FnStrayCardSaid : Prop := Claim7.holds Tryd.pinned (.plain (OpenSpec.ofChange fnStraySpec)) fnStrayCard

/-- THE SECOND FORM's CARD OF 'laws.FnTakeTake'. -/
def fnTakeTakeUptoCard : Claim7 := { stood := { row := fnTakeTakeUptoRow, standIns := [], harness := (true, "4a727e693bf0daf6bced90496f610e5512b285789306d6450c512791a5c465c4"), looks := true }, kinds := [], alts := [], laidByText := true, laidKinds := [.data, .sentinel, .sentinel, .sentinel, .sentinel, .sentinel, .sentinel, .sentinel, .sentinel, .sentinel, .pinned], laidTests := true, laidLooks := .later }
def FnTakeTakeUptoCardSaid : Prop := Claim7.holds Tryd.pinned (.plain (OpenSpec.upto fnTakeTakeSpec)) fnTakeTakeUptoCard

/-- THE SECOND FORM's CARD OF 'laws.FnCalls'. -/
def fnCallsUptoCard : Claim7 := { stood := { row := fnCallsUptoRow, standIns := [], harness := (true, "4a727e693bf0daf6bced90496f610e5512b285789306d6450c512791a5c465c4"), looks := true }, kinds := [], alts := [], laidByText := true, laidKinds := [.data, .sentinel, .sentinel, .sentinel, .sentinel, .sentinel, .sentinel, .sentinel, .sentinel, .sentinel, .pinned], laidTests := true, laidLooks := .later }
def FnCallsUptoCardSaid : Prop := Claim7.holds Tryd.pinned (.plain (OpenSpec.upto fnCallsSpec)) fnCallsUptoCard

/-- THE SECOND FORM's CARD OF 'laws.FnHeadIsBlocks'. -/
def fnHeadIsBlocksUptoCard : Claim7 := { stood := { row := fnHeadIsBlocksUptoRow, standIns := [], harness := (true, "4a727e693bf0daf6bced90496f610e5512b285789306d6450c512791a5c465c4"), looks := true }, kinds := [], alts := [], laidByText := true, laidKinds := [.data, .sentinel, .sentinel, .sentinel, .sentinel, .sentinel, .sentinel, .sentinel, .sentinel, .sentinel, .pinned], laidTests := true, laidLooks := .later }
def FnHeadIsBlocksUptoCardSaid : Prop := Claim7.holds Tryd.pinned (.plain (OpenSpec.upto fnHeadIsBlocksSpec)) fnHeadIsBlocksUptoCard

/-- THE SECOND FORM's CARD OF 'laws.FnBroken'. -/
def fnBrokenUptoCard : Claim7 := { stood := { row := fnBrokenUptoRow, standIns := [], harness := (true, "4a727e693bf0daf6bced90496f610e5512b285789306d6450c512791a5c465c4"), looks := true }, kinds := [], alts := [], laidByText := true, laidKinds := [.data, .sentinel, .sentinel, .sentinel, .sentinel, .sentinel, .sentinel, .sentinel, .sentinel, .sentinel, .pinned], laidTests := true, laidLooks := .later }
def FnBrokenUptoCardSaid : Prop := Claim7.holds Tryd.pinned (.plain (OpenSpec.upto fnBrokenSpec)) fnBrokenUptoCard

/-- THE SECOND FORM's CARD OF 'laws.FnLayered'. -/
def fnLayeredUptoCard : Claim7 := { stood := { row := fnLayeredUptoRow, standIns := [], harness := (true, "4a727e693bf0daf6bced90496f610e5512b285789306d6450c512791a5c465c4"), looks := true }, kinds := [], alts := [], laidByText := true, laidKinds := [.data, .sentinel, .sentinel, .sentinel, .sentinel, .sentinel, .sentinel, .sentinel, .sentinel, .sentinel, .pinned], laidTests := true, laidLooks := .later }
def FnLayeredUptoCardSaid : Prop := Claim7.holds Tryd.pinned (.plain (OpenSpec.upto fnLayeredSpec)) fnLayeredUptoCard

/-- THE SECOND FORM's CARD OF 'laws.FnBackBack'. -/
def fnBackBackUptoCard : Claim7 := { stood := { row := fnBackBackUptoRow, standIns := [], harness := (true, "4a727e693bf0daf6bced90496f610e5512b285789306d6450c512791a5c465c4"), looks := true }, kinds := [], alts := [], laidByText := true, laidKinds := [.data, .sentinel, .sentinel, .sentinel, .sentinel, .sentinel, .sentinel, .sentinel, .sentinel, .sentinel, .pinned], laidTests := true, laidLooks := .later }
def FnBackBackUptoCardSaid : Prop := Claim7.holds Tryd.pinned (.plain (OpenSpec.upto fnBackBackSpec)) fnBackBackUptoCard

/-- THE SECOND FORM's CARD OF 'laws.FnDropDrop'. -/
def fnDropDropUptoCard : Claim7 := { stood := { row := fnDropDropUptoRow, standIns := [], harness := (true, "4a727e693bf0daf6bced90496f610e5512b285789306d6450c512791a5c465c4"), looks := true }, kinds := [], alts := [], laidByText := true, laidKinds := [.data, .sentinel, .sentinel, .sentinel, .sentinel, .sentinel, .sentinel, .sentinel, .sentinel, .sentinel, .pinned], laidTests := true, laidLooks := .later }
def FnDropDropUptoCardSaid : Prop := Claim7.holds Tryd.pinned (.plain (OpenSpec.upto fnDropDropSpec)) fnDropDropUptoCard

/-- THE SECOND FORM's CARD OF 'laws.FnPieces'. -/
def fnPiecesUptoCard : Claim7 := { stood := { row := fnPiecesUptoRow, standIns := [], harness := (true, "4a727e693bf0daf6bced90496f610e5512b285789306d6450c512791a5c465c4"), looks := true }, kinds := [], alts := [], laidByText := true, laidKinds := [.data, .sentinel, .sentinel, .sentinel, .sentinel, .sentinel, .sentinel, .sentinel, .sentinel, .sentinel, .pinned], laidTests := true, laidLooks := .later }
def FnPiecesUptoCardSaid : Prop := Claim7.holds Tryd.pinned (.plain (OpenSpec.upto fnPiecesSpec)) fnPiecesUptoCard

/-- THE SECOND FORM's CARD OF 'laws.FnStopIsTake'. -/
def fnStopIsTakeUptoCard : Claim7 := { stood := { row := fnStopIsTakeUptoRow, standIns := [], harness := (true, "4a727e693bf0daf6bced90496f610e5512b285789306d6450c512791a5c465c4"), looks := true }, kinds := [], alts := [], laidByText := true, laidKinds := [.data, .sentinel, .sentinel, .sentinel, .sentinel, .sentinel, .sentinel, .sentinel, .sentinel, .sentinel, .pinned], laidTests := true, laidLooks := .later }
def FnStopIsTakeUptoCardSaid : Prop := Claim7.holds Tryd.pinned (.plain (OpenSpec.upto fnStopIsTakeSpec)) fnStopIsTakeUptoCard

/-- THE SECOND FORM's CARD OF 'laws.FnStray'. -/
def fnStrayUptoCard : Claim7 := { stood := { row := fnStrayUptoRow, standIns := [], harness := (true, "4a727e693bf0daf6bced90496f610e5512b285789306d6450c512791a5c465c4"), looks := true }, kinds := [], alts := [], laidByText := true, laidKinds := [.data, .sentinel, .sentinel, .sentinel, .sentinel, .sentinel, .sentinel, .sentinel, .sentinel, .sentinel, .pinned], laidTests := true, laidLooks := .later }
def FnStrayUptoCardSaid : Prop := Claim7.holds Tryd.pinned (.plain (OpenSpec.upto fnStraySpec)) fnStrayUptoCard
end Rows
end Go.Proofs.YtkaomlklllinlaaDoor

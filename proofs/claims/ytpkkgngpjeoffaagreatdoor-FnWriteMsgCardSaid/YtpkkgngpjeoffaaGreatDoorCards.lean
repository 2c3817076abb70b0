/-
  DERIVED. GIVEN WITH THE SEED: THE CARDS: each row of YtpkkgngpjeoffaaGreatDoorRows.lean that lists a variable, with what it lists TIED to the program's text (the seventh form; the later family's looks); each row that meets fmt, with fmt's text TOLD by the authors' own Lean function (tested against real Go, not proved from fmt's source: count such statements apart). THE CARD IS WHAT COUNTS. Prove the row's statement (the work); the ties are given (YtpkkgngpjeoffaaGreatDoorTie.lean); close each card by the builder's one call (the guide's Derived/Test/ToyasCard.lean, 'card_holds'). Laid BY PROGRAM, IN A SANDBOX (cutbox-door.mjs). By AI agents, Wed Nov 11 2026. No macro, syntax, notation, axiom, sorry.
-/
import Derived.Test.YtpkkgngpjeoffaaGreatDoorRows
import GoSem.ClaimSeven
namespace Go.Proofs.YtpkkgngpjeoffaaGreatDoor
namespace Rows

/-- THE TIED CARD OF 'laws.FnStreamWrite'. -/
def fnStreamWriteCard : Claim7 := { stood := { row := fnStreamWriteRow, standIns := [], harness := (true, "99dc93ef578a16b8b0acd5db8b4b94e718a5d506aa5ff2604b2cf741b65c5509"), looks := true }, kinds := [], alts := [], laidByText := true, laidKinds := [.data, .data, .widerDeep, .widerDeep, .data, .data, .data, .data, .data, .sentinel, .sentinel, .sentinel, .pinned, .pinned], laidTests := true, laidLooks := .later }
def FnStreamWriteCardSaid : Prop := Claim7.holds Tryz.pinned (.plain (OpenSpec.ofChange fnStreamWriteSpec)) fnStreamWriteCard

/-- THE TIED CARD OF 'laws.FnWrite'. -/
def fnWriteCard : Claim7 := { stood := { row := fnWriteRow, standIns := [], harness := (true, "99dc93ef578a16b8b0acd5db8b4b94e718a5d506aa5ff2604b2cf741b65c5509"), looks := true }, kinds := [], alts := [], laidByText := true, laidKinds := [.data, .data, .data, .data, .sentinel, .sentinel, .sentinel, .pinned, .pinned], laidTests := true, laidLooks := .later }
def FnWriteCardSaid : Prop := Claim7.holds Tryz.pinned (.plain (OpenSpec.ofChange fnWriteSpec)) fnWriteCard

/-- THE TIED CARD OF 'laws.FnWriteMsg'. -/
def fnWriteMsgCard : Claim7 := { stood := { row := fnWriteMsgRow, standIns := [], harness := (true, "99dc93ef578a16b8b0acd5db8b4b94e718a5d506aa5ff2604b2cf741b65c5509"), looks := true }, kinds := [], alts := [], laidByText := true, laidKinds := [.data, .data, .data, .data, .sentinel, .sentinel, .sentinel, .pinned, .pinned], laidTests := true, laidLooks := .later }
def FnWriteMsgCardSaid : Prop := Claim7.holds Tryz.pinned (.plain (OpenSpec.ofChange fnWriteMsgSpec)) fnWriteMsgCard

/-- THE SECOND FORM's CARD OF 'laws.FnStreamWrite'. -/
def fnStreamWriteUptoCard : Claim7 := { stood := { row := fnStreamWriteUptoRow, standIns := [], harness := (true, "99dc93ef578a16b8b0acd5db8b4b94e718a5d506aa5ff2604b2cf741b65c5509"), looks := true }, kinds := [], alts := [], laidByText := true, laidKinds := [.data, .data, .widerDeep, .widerDeep, .data, .data, .data, .data, .data, .sentinel, .sentinel, .sentinel, .pinned, .pinned], laidTests := true, laidLooks := .later }
def FnStreamWriteUptoCardSaid : Prop := Claim7.holds Tryz.pinned (.plain (OpenSpec.upto fnStreamWriteSpec)) fnStreamWriteUptoCard

/-- THE SECOND FORM's CARD OF 'laws.FnWrite'. -/
def fnWriteUptoCard : Claim7 := { stood := { row := fnWriteUptoRow, standIns := [], harness := (true, "99dc93ef578a16b8b0acd5db8b4b94e718a5d506aa5ff2604b2cf741b65c5509"), looks := true }, kinds := [], alts := [], laidByText := true, laidKinds := [.data, .data, .data, .data, .sentinel, .sentinel, .sentinel, .pinned, .pinned], laidTests := true, laidLooks := .later }
def FnWriteUptoCardSaid : Prop := Claim7.holds Tryz.pinned (.plain (OpenSpec.upto fnWriteSpec)) fnWriteUptoCard

/-- THE SECOND FORM's CARD OF 'laws.FnWriteMsg'. -/
def fnWriteMsgUptoCard : Claim7 := { stood := { row := fnWriteMsgUptoRow, standIns := [], harness := (true, "99dc93ef578a16b8b0acd5db8b4b94e718a5d506aa5ff2604b2cf741b65c5509"), looks := true }, kinds := [], alts := [], laidByText := true, laidKinds := [.data, .data, .data, .data, .sentinel, .sentinel, .sentinel, .pinned, .pinned], laidTests := true, laidLooks := .later }
def FnWriteMsgUptoCardSaid : Prop := Claim7.holds Tryz.pinned (.plain (OpenSpec.upto fnWriteMsgSpec)) fnWriteMsgUptoCard
end Rows
end Go.Proofs.YtpkkgngpjeoffaaGreatDoor

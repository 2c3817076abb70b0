/-
  DERIVED. GIVEN WITH THE SEED: THE CARDS: each row of YtaaogjhaokaggaaGreatDoorRows.lean that lists a variable, with what it lists TIED to the program's text (the seventh form; the later family's looks); each row that meets fmt, with fmt's text TOLD by the authors' own Lean function (tested against real Go, not proved from fmt's source: count such statements apart). THE CARD IS WHAT COUNTS. Prove the row's statement (the work); the ties are given (YtaaogjhaokaggaaGreatDoorTie.lean); close each card by the builder's one call (the guide's Derived/Test/ToyasCard.lean, 'card_holds'). Laid BY PROGRAM, IN A SANDBOX (cutbox-door.mjs). By AI agents, Wed Nov 11 2026. No macro, syntax, notation, axiom, sorry.
-/
import Derived.Test.YtaaogjhaokaggaaGreatDoorRows
import GoSem.ClaimSeven
namespace Go.Proofs.YtaaogjhaokaggaaGreatDoor
namespace Rows

/-- THE TIED CARD OF 'laws.FnValueEqualText'. -/
def fnValueEqualTextCard : Claim7 := { stood := { row := fnValueEqualTextRow, standIns := [], harness := (true, "dfe5c0e3f43fbf57086c48fda6ae417ac652150c029ce6579978b0021020a072"), looks := true }, kinds := [], alts := [], laidByText := true, laidKinds := [.data, .data, .data, .data, .data, .pinned, .pinned, .pinned, .pinned, .pinned, .pinned, .pinned, .pinned], laidTests := true, laidLooks := .later }
def FnValueEqualTextCardSaid : Prop := Claim7.holds Tryz.pinned (.plain (OpenSpec.ofChange fnValueEqualTextSpec)) fnValueEqualTextCard

/-- THE TIED CARD OF 'laws.FnValueText'. -/
def fnValueTextCard : Claim7 := { stood := { row := fnValueTextRow, standIns := [], harness := (true, "dfe5c0e3f43fbf57086c48fda6ae417ac652150c029ce6579978b0021020a072"), looks := true }, kinds := [], alts := [], laidByText := true, laidKinds := [.data, .data, .data, .data, .data, .pinned, .pinned, .pinned, .pinned, .pinned, .pinned, .pinned, .pinned], laidTests := true, laidLooks := .later }
def FnValueTextCardSaid : Prop := Claim7.holds Tryz.pinned (.plain (OpenSpec.ofChange fnValueTextSpec)) fnValueTextCard

/-- THE TIED CARD OF 'laws.FnEncodeBuffer'. -/
def fnEncodeBufferCard : Claim7 := { stood := { row := fnEncodeBufferRow, standIns := [], harness := (true, "dfe5c0e3f43fbf57086c48fda6ae417ac652150c029ce6579978b0021020a072"), looks := true }, kinds := [], alts := [], laidByText := true, laidKinds := [.data, .data, .data, .data, .data, .sentinel, .pinned, .pinned, .pinned, .pinned, .pinned, .pinned, .pinned, .pinned], laidTests := true, laidLooks := .later }
def FnEncodeBufferCardSaid : Prop := Claim7.holds Tryz.pinned (.plain (OpenSpec.ofChange fnEncodeBufferSpec)) fnEncodeBufferCard

/-- THE TIED CARD OF 'laws.FnEncodeClear'. -/
def fnEncodeClearCard : Claim7 := { stood := { row := fnEncodeClearRow, standIns := [], harness := (true, "dfe5c0e3f43fbf57086c48fda6ae417ac652150c029ce6579978b0021020a072"), looks := true }, kinds := [], alts := [], laidByText := true, laidKinds := [.data, .data, .data, .data, .data, .sentinel, .pinned, .pinned, .pinned, .pinned, .pinned, .pinned, .pinned, .pinned], laidTests := true, laidLooks := .later }
def FnEncodeClearCardSaid : Prop := Claim7.holds Tryz.pinned (.plain (OpenSpec.ofChange fnEncodeClearSpec)) fnEncodeClearCard

/-- THE TIED CARD OF 'laws.FnEncodeEach'. -/
def fnEncodeEachCard : Claim7 := { stood := { row := fnEncodeEachRow, standIns := [], harness := (true, "dfe5c0e3f43fbf57086c48fda6ae417ac652150c029ce6579978b0021020a072"), looks := true }, kinds := [], alts := [], laidByText := true, laidKinds := [.data, .data, .data, .data, .data, .sentinel, .pinned, .pinned, .pinned, .pinned, .pinned, .pinned, .pinned, .pinned], laidTests := true, laidLooks := .later }
def FnEncodeEachCardSaid : Prop := Claim7.holds Tryz.pinned (.plain (OpenSpec.ofChange fnEncodeEachSpec)) fnEncodeEachCard

/-- THE TIED CARD OF 'laws.FnEncodeLax'. -/
def fnEncodeLaxCard : Claim7 := { stood := { row := fnEncodeLaxRow, standIns := [], harness := (true, "dfe5c0e3f43fbf57086c48fda6ae417ac652150c029ce6579978b0021020a072"), looks := true }, kinds := [], alts := [], laidByText := true, laidKinds := [.data, .data, .data, .data, .data, .sentinel, .pinned, .pinned, .pinned, .pinned, .pinned, .pinned, .pinned, .pinned], laidTests := true, laidLooks := .later }
def FnEncodeLaxCardSaid : Prop := Claim7.holds Tryz.pinned (.plain (OpenSpec.ofChange fnEncodeLaxSpec)) fnEncodeLaxCard

/-- THE TIED CARD OF 'laws.FnEncodeSum'. -/
def fnEncodeSumCard : Claim7 := { stood := { row := fnEncodeSumRow, standIns := [], harness := (true, "dfe5c0e3f43fbf57086c48fda6ae417ac652150c029ce6579978b0021020a072"), looks := true }, kinds := [], alts := [], laidByText := true, laidKinds := [.data, .data, .data, .data, .data, .sentinel, .pinned, .pinned, .pinned, .pinned, .pinned, .pinned, .pinned, .pinned], laidTests := true, laidLooks := .later }
def FnEncodeSumCardSaid : Prop := Claim7.holds Tryz.pinned (.plain (OpenSpec.ofChange fnEncodeSumSpec)) fnEncodeSumCard

/-- THE TIED CARD OF 'laws.FnValidKeyEncodes'. -/
def fnValidKeyEncodesCard : Claim7 := { stood := { row := fnValidKeyEncodesRow, standIns := [], harness := (true, "dfe5c0e3f43fbf57086c48fda6ae417ac652150c029ce6579978b0021020a072"), looks := true }, kinds := [], alts := [], laidByText := true, laidKinds := [.data, .data, .data, .data, .data, .sentinel, .pinned, .pinned, .pinned, .pinned, .pinned, .pinned, .pinned, .pinned], laidTests := true, laidLooks := .later }
def FnValidKeyEncodesCardSaid : Prop := Claim7.holds Tryz.pinned (.plain (OpenSpec.ofChange fnValidKeyEncodesSpec)) fnValidKeyEncodesCard

/-- THE TIED CARD OF 'laws.FnEncode'. -/
def fnEncodeCard : Claim7 := { stood := { row := fnEncodeRow, standIns := [], harness := (true, "dfe5c0e3f43fbf57086c48fda6ae417ac652150c029ce6579978b0021020a072"), looks := true }, kinds := [], alts := [], laidByText := true, laidKinds := [.data, .data, .data, .data, .data, .sentinel, .pinned, .pinned, .pinned, .pinned, .pinned, .pinned, .pinned, .pinned], laidTests := true, laidLooks := .later }
def FnEncodeCardSaid : Prop := Claim7.holds Tryz.pinned (.plain (OpenSpec.ofChange fnEncodeSpec)) fnEncodeCard

/-- THE TIED CARD OF 'laws.FnEncodeRaw'. -/
def fnEncodeRawCard : Claim7 := { stood := { row := fnEncodeRawRow, standIns := [], harness := (true, "dfe5c0e3f43fbf57086c48fda6ae417ac652150c029ce6579978b0021020a072"), looks := true }, kinds := [], alts := [], laidByText := true, laidKinds := [.data, .data, .data, .data, .data, .sentinel, .pinned, .pinned, .pinned, .pinned, .pinned, .pinned, .pinned, .pinned], laidTests := true, laidLooks := .later }
def FnEncodeRawCardSaid : Prop := Claim7.holds Tryz.pinned (.plain (OpenSpec.ofChange fnEncodeRawSpec)) fnEncodeRawCard

/-- THE TIED CARD OF 'laws.FnEncodeText'. -/
def fnEncodeTextCard : Claim7 := { stood := { row := fnEncodeTextRow, standIns := [], harness := (true, "dfe5c0e3f43fbf57086c48fda6ae417ac652150c029ce6579978b0021020a072"), looks := true }, kinds := [], alts := [], laidByText := true, laidKinds := [.data, .data, .data, .data, .data, .sentinel, .pinned, .pinned, .pinned, .pinned, .pinned, .pinned, .pinned, .pinned], laidTests := true, laidLooks := .later }
def FnEncodeTextCardSaid : Prop := Claim7.holds Tryz.pinned (.plain (OpenSpec.ofChange fnEncodeTextSpec)) fnEncodeTextCard

/-- THE SECOND FORM's CARD OF 'laws.FnValueEqualText'. -/
def fnValueEqualTextUptoCard : Claim7 := { stood := { row := fnValueEqualTextUptoRow, standIns := [], harness := (true, "dfe5c0e3f43fbf57086c48fda6ae417ac652150c029ce6579978b0021020a072"), looks := true }, kinds := [], alts := [], laidByText := true, laidKinds := [.data, .data, .data, .data, .data, .pinned, .pinned, .pinned, .pinned, .pinned, .pinned, .pinned, .pinned], laidTests := true, laidLooks := .later }
def FnValueEqualTextUptoCardSaid : Prop := Claim7.holds Tryz.pinned (.plain (OpenSpec.upto fnValueEqualTextSpec)) fnValueEqualTextUptoCard

/-- THE SECOND FORM's CARD OF 'laws.FnValueText'. -/
def fnValueTextUptoCard : Claim7 := { stood := { row := fnValueTextUptoRow, standIns := [], harness := (true, "dfe5c0e3f43fbf57086c48fda6ae417ac652150c029ce6579978b0021020a072"), looks := true }, kinds := [], alts := [], laidByText := true, laidKinds := [.data, .data, .data, .data, .data, .pinned, .pinned, .pinned, .pinned, .pinned, .pinned, .pinned, .pinned], laidTests := true, laidLooks := .later }
def FnValueTextUptoCardSaid : Prop := Claim7.holds Tryz.pinned (.plain (OpenSpec.upto fnValueTextSpec)) fnValueTextUptoCard

/-- THE SECOND FORM's CARD OF 'laws.FnEncodeBuffer'. -/
def fnEncodeBufferUptoCard : Claim7 := { stood := { row := fnEncodeBufferUptoRow, standIns := [], harness := (true, "dfe5c0e3f43fbf57086c48fda6ae417ac652150c029ce6579978b0021020a072"), looks := true }, kinds := [], alts := [], laidByText := true, laidKinds := [.data, .data, .data, .data, .data, .sentinel, .pinned, .pinned, .pinned, .pinned, .pinned, .pinned, .pinned, .pinned], laidTests := true, laidLooks := .later }
def FnEncodeBufferUptoCardSaid : Prop := Claim7.holds Tryz.pinned (.plain (OpenSpec.upto fnEncodeBufferSpec)) fnEncodeBufferUptoCard

/-- THE SECOND FORM's CARD OF 'laws.FnEncodeClear'. -/
def fnEncodeClearUptoCard : Claim7 := { stood := { row := fnEncodeClearUptoRow, standIns := [], harness := (true, "dfe5c0e3f43fbf57086c48fda6ae417ac652150c029ce6579978b0021020a072"), looks := true }, kinds := [], alts := [], laidByText := true, laidKinds := [.data, .data, .data, .data, .data, .sentinel, .pinned, .pinned, .pinned, .pinned, .pinned, .pinned, .pinned, .pinned], laidTests := true, laidLooks := .later }
def FnEncodeClearUptoCardSaid : Prop := Claim7.holds Tryz.pinned (.plain (OpenSpec.upto fnEncodeClearSpec)) fnEncodeClearUptoCard

/-- THE SECOND FORM's CARD OF 'laws.FnEncodeEach'. -/
def fnEncodeEachUptoCard : Claim7 := { stood := { row := fnEncodeEachUptoRow, standIns := [], harness := (true, "dfe5c0e3f43fbf57086c48fda6ae417ac652150c029ce6579978b0021020a072"), looks := true }, kinds := [], alts := [], laidByText := true, laidKinds := [.data, .data, .data, .data, .data, .sentinel, .pinned, .pinned, .pinned, .pinned, .pinned, .pinned, .pinned, .pinned], laidTests := true, laidLooks := .later }
def FnEncodeEachUptoCardSaid : Prop := Claim7.holds Tryz.pinned (.plain (OpenSpec.upto fnEncodeEachSpec)) fnEncodeEachUptoCard

/-- THE SECOND FORM's CARD OF 'laws.FnEncodeLax'. -/
def fnEncodeLaxUptoCard : Claim7 := { stood := { row := fnEncodeLaxUptoRow, standIns := [], harness := (true, "dfe5c0e3f43fbf57086c48fda6ae417ac652150c029ce6579978b0021020a072"), looks := true }, kinds := [], alts := [], laidByText := true, laidKinds := [.data, .data, .data, .data, .data, .sentinel, .pinned, .pinned, .pinned, .pinned, .pinned, .pinned, .pinned, .pinned], laidTests := true, laidLooks := .later }
def FnEncodeLaxUptoCardSaid : Prop := Claim7.holds Tryz.pinned (.plain (OpenSpec.upto fnEncodeLaxSpec)) fnEncodeLaxUptoCard

/-- THE SECOND FORM's CARD OF 'laws.FnEncodeSum'. -/
def fnEncodeSumUptoCard : Claim7 := { stood := { row := fnEncodeSumUptoRow, standIns := [], harness := (true, "dfe5c0e3f43fbf57086c48fda6ae417ac652150c029ce6579978b0021020a072"), looks := true }, kinds := [], alts := [], laidByText := true, laidKinds := [.data, .data, .data, .data, .data, .sentinel, .pinned, .pinned, .pinned, .pinned, .pinned, .pinned, .pinned, .pinned], laidTests := true, laidLooks := .later }
def FnEncodeSumUptoCardSaid : Prop := Claim7.holds Tryz.pinned (.plain (OpenSpec.upto fnEncodeSumSpec)) fnEncodeSumUptoCard

/-- THE SECOND FORM's CARD OF 'laws.FnValidKeyEncodes'. -/
def fnValidKeyEncodesUptoCard : Claim7 := { stood := { row := fnValidKeyEncodesUptoRow, standIns := [], harness := (true, "dfe5c0e3f43fbf57086c48fda6ae417ac652150c029ce6579978b0021020a072"), looks := true }, kinds := [], alts := [], laidByText := true, laidKinds := [.data, .data, .data, .data, .data, .sentinel, .pinned, .pinned, .pinned, .pinned, .pinned, .pinned, .pinned, .pinned], laidTests := true, laidLooks := .later }
def FnValidKeyEncodesUptoCardSaid : Prop := Claim7.holds Tryz.pinned (.plain (OpenSpec.upto fnValidKeyEncodesSpec)) fnValidKeyEncodesUptoCard

/-- THE SECOND FORM's CARD OF 'laws.FnEncode'. -/
def fnEncodeUptoCard : Claim7 := { stood := { row := fnEncodeUptoRow, standIns := [], harness := (true, "dfe5c0e3f43fbf57086c48fda6ae417ac652150c029ce6579978b0021020a072"), looks := true }, kinds := [], alts := [], laidByText := true, laidKinds := [.data, .data, .data, .data, .data, .sentinel, .pinned, .pinned, .pinned, .pinned, .pinned, .pinned, .pinned, .pinned], laidTests := true, laidLooks := .later }
def FnEncodeUptoCardSaid : Prop := Claim7.holds Tryz.pinned (.plain (OpenSpec.upto fnEncodeSpec)) fnEncodeUptoCard

/-- THE SECOND FORM's CARD OF 'laws.FnEncodeRaw'. -/
def fnEncodeRawUptoCard : Claim7 := { stood := { row := fnEncodeRawUptoRow, standIns := [], harness := (true, "dfe5c0e3f43fbf57086c48fda6ae417ac652150c029ce6579978b0021020a072"), looks := true }, kinds := [], alts := [], laidByText := true, laidKinds := [.data, .data, .data, .data, .data, .sentinel, .pinned, .pinned, .pinned, .pinned, .pinned, .pinned, .pinned, .pinned], laidTests := true, laidLooks := .later }
def FnEncodeRawUptoCardSaid : Prop := Claim7.holds Tryz.pinned (.plain (OpenSpec.upto fnEncodeRawSpec)) fnEncodeRawUptoCard

/-- THE SECOND FORM's CARD OF 'laws.FnEncodeText'. -/
def fnEncodeTextUptoCard : Claim7 := { stood := { row := fnEncodeTextUptoRow, standIns := [], harness := (true, "dfe5c0e3f43fbf57086c48fda6ae417ac652150c029ce6579978b0021020a072"), looks := true }, kinds := [], alts := [], laidByText := true, laidKinds := [.data, .data, .data, .data, .data, .sentinel, .pinned, .pinned, .pinned, .pinned, .pinned, .pinned, .pinned, .pinned], laidTests := true, laidLooks := .later }
def FnEncodeTextUptoCardSaid : Prop := Claim7.holds Tryz.pinned (.plain (OpenSpec.upto fnEncodeTextSpec)) fnEncodeTextUptoCard
end Rows
end Go.Proofs.YtaaogjhaokaggaaGreatDoor

/-
  DERIVED. GIVEN WITH THE SEED: THE CARDS: each row of YtmogecodjiofeaaDoorRows.lean that lists a variable, with what it lists TIED to the program's text (the seventh form; the later family's looks); each row that meets fmt, with fmt's text TOLD by the authors' own Lean function (tested against real Go, not proved from fmt's source: count such statements apart). THE CARD IS WHAT COUNTS. Prove the row's statement (the work); the ties are given (YtmogecodjiofeaaDoorTie.lean); close each card by the builder's one call (the guide's Derived/Test/ToyasCard.lean, 'card_holds'). Laid BY PROGRAM, IN A SANDBOX (cutbox-door.mjs). By AI agents, Wed Nov 11 2026. No macro, syntax, notation, axiom, sorry.
-/
import Derived.Test.YtmogecodjiofeaaDoorRows
import GoSem.ClaimSeven
namespace Go.Proofs.YtmogecodjiofeaaDoor
namespace Rows

/-- THE TIED CARD OF 'laws.FnParseMarker'. -/
def fnParseMarkerCard : Claim7 := { stood := { row := fnParseMarkerRow, standIns := [], harness := (true, "d4fb582019c7ec0cc24ffa53c67939c290fa482d902119c25ab853fcaab8b1b0"), looks := false }, kinds := [], alts := [], laidByText := true, laidKinds := [.data, .listed, .data, .pinned], laidTests := true, laidLooks := .later }
def FnParseMarkerCardSaid : Prop := Claim7.holds Tryd.pinned (.plain (OpenSpec.ofChange fnParseMarkerSpec)) fnParseMarkerCard

/-- THE TIED CARD OF 'laws.FnParseNames'. -/
def fnParseNamesCard : Claim7 := { stood := { row := fnParseNamesRow, standIns := [], harness := (true, "d4fb582019c7ec0cc24ffa53c67939c290fa482d902119c25ab853fcaab8b1b0"), looks := false }, kinds := [], alts := [], laidByText := true, laidKinds := [.data, .listed, .data, .pinned], laidTests := true, laidLooks := .later }
def FnParseNamesCardSaid : Prop := Claim7.holds Tryd.pinned (.plain (OpenSpec.ofChange fnParseNamesSpec)) fnParseNamesCard

/-- THE TIED CARD OF 'laws.FnParseNewline'. -/
def fnParseNewlineCard : Claim7 := { stood := { row := fnParseNewlineRow, standIns := [], harness := (true, "d4fb582019c7ec0cc24ffa53c67939c290fa482d902119c25ab853fcaab8b1b0"), looks := false }, kinds := [], alts := [], laidByText := true, laidKinds := [.data, .listed, .data, .pinned], laidTests := true, laidLooks := .later }
def FnParseNewlineCardSaid : Prop := Claim7.holds Tryd.pinned (.plain (OpenSpec.ofChange fnParseNewlineSpec)) fnParseNewlineCard

/-- THE TIED CARD OF 'laws.FnParseNoMarker'. -/
def fnParseNoMarkerCard : Claim7 := { stood := { row := fnParseNoMarkerRow, standIns := [], harness := (true, "d4fb582019c7ec0cc24ffa53c67939c290fa482d902119c25ab853fcaab8b1b0"), looks := false }, kinds := [], alts := [], laidByText := true, laidKinds := [.data, .listed, .data, .pinned], laidTests := true, laidLooks := .later }
def FnParseNoMarkerCardSaid : Prop := Claim7.holds Tryd.pinned (.plain (OpenSpec.ofChange fnParseNoMarkerSpec)) fnParseNoMarkerCard

/-- THE TIED CARD OF 'laws.FnParsePart'. -/
def fnParsePartCard : Claim7 := { stood := { row := fnParsePartRow, standIns := [], harness := (true, "d4fb582019c7ec0cc24ffa53c67939c290fa482d902119c25ab853fcaab8b1b0"), looks := false }, kinds := [], alts := [], laidByText := true, laidKinds := [.data, .listed, .data, .pinned], laidTests := true, laidLooks := .later }
def FnParsePartCardSaid : Prop := Claim7.holds Tryd.pinned (.plain (OpenSpec.ofChange fnParsePartSpec)) fnParsePartCard

/-- THE TIED CARD OF 'laws.FnParseSize'. -/
def fnParseSizeCard : Claim7 := { stood := { row := fnParseSizeRow, standIns := [], harness := (true, "d4fb582019c7ec0cc24ffa53c67939c290fa482d902119c25ab853fcaab8b1b0"), looks := false }, kinds := [], alts := [], laidByText := true, laidKinds := [.data, .listed, .data, .pinned], laidTests := true, laidLooks := .later }
def FnParseSizeCardSaid : Prop := Claim7.holds Tryd.pinned (.plain (OpenSpec.ofChange fnParseSizeSpec)) fnParseSizeCard

/-- THE TIED CARD OF 'laws.FnIsMarker'. -/
def fnIsMarkerCard : Claim7 := { stood := { row := fnIsMarkerRow, standIns := [], harness := (true, "d4fb582019c7ec0cc24ffa53c67939c290fa482d902119c25ab853fcaab8b1b0"), looks := false }, kinds := [], alts := [], laidByText := true, laidKinds := [.data, .listed, .data, .pinned], laidTests := true, laidLooks := .later }
def FnIsMarkerCardSaid : Prop := Claim7.holds Tryd.pinned (.plain (OpenSpec.ofChange fnIsMarkerSpec)) fnIsMarkerCard

/-- THE TIED CARD OF 'laws.FnFindParse'. -/
def fnFindParseCard : Claim7 := { stood := { row := fnFindParseRow, standIns := [], harness := (true, "d4fb582019c7ec0cc24ffa53c67939c290fa482d902119c25ab853fcaab8b1b0"), looks := false }, kinds := [], alts := [], laidByText := true, laidKinds := [.data, .listed, .data, .pinned], laidTests := true, laidLooks := .later }
def FnFindParseCardSaid : Prop := Claim7.holds Tryd.pinned (.plain (OpenSpec.ofChange fnFindParseSpec)) fnFindParseCard

/-- THE SECOND FORM's CARD OF 'laws.FnParseMarker'. -/
def fnParseMarkerUptoCard : Claim7 := { stood := { row := fnParseMarkerUptoRow, standIns := [], harness := (true, "d4fb582019c7ec0cc24ffa53c67939c290fa482d902119c25ab853fcaab8b1b0"), looks := false }, kinds := [], alts := [], laidByText := true, laidKinds := [.data, .listed, .data, .pinned], laidTests := true, laidLooks := .later }
def FnParseMarkerUptoCardSaid : Prop := Claim7.holds Tryd.pinned (.plain (OpenSpec.upto fnParseMarkerSpec)) fnParseMarkerUptoCard

/-- THE SECOND FORM's CARD OF 'laws.FnParseNames'. -/
def fnParseNamesUptoCard : Claim7 := { stood := { row := fnParseNamesUptoRow, standIns := [], harness := (true, "d4fb582019c7ec0cc24ffa53c67939c290fa482d902119c25ab853fcaab8b1b0"), looks := false }, kinds := [], alts := [], laidByText := true, laidKinds := [.data, .listed, .data, .pinned], laidTests := true, laidLooks := .later }
def FnParseNamesUptoCardSaid : Prop := Claim7.holds Tryd.pinned (.plain (OpenSpec.upto fnParseNamesSpec)) fnParseNamesUptoCard

/-- THE SECOND FORM's CARD OF 'laws.FnParseNewline'. -/
def fnParseNewlineUptoCard : Claim7 := { stood := { row := fnParseNewlineUptoRow, standIns := [], harness := (true, "d4fb582019c7ec0cc24ffa53c67939c290fa482d902119c25ab853fcaab8b1b0"), looks := false }, kinds := [], alts := [], laidByText := true, laidKinds := [.data, .listed, .data, .pinned], laidTests := true, laidLooks := .later }
def FnParseNewlineUptoCardSaid : Prop := Claim7.holds Tryd.pinned (.plain (OpenSpec.upto fnParseNewlineSpec)) fnParseNewlineUptoCard

/-- THE SECOND FORM's CARD OF 'laws.FnParseNoMarker'. -/
def fnParseNoMarkerUptoCard : Claim7 := { stood := { row := fnParseNoMarkerUptoRow, standIns := [], harness := (true, "d4fb582019c7ec0cc24ffa53c67939c290fa482d902119c25ab853fcaab8b1b0"), looks := false }, kinds := [], alts := [], laidByText := true, laidKinds := [.data, .listed, .data, .pinned], laidTests := true, laidLooks := .later }
def FnParseNoMarkerUptoCardSaid : Prop := Claim7.holds Tryd.pinned (.plain (OpenSpec.upto fnParseNoMarkerSpec)) fnParseNoMarkerUptoCard

/-- THE SECOND FORM's CARD OF 'laws.FnParsePart'. -/
def fnParsePartUptoCard : Claim7 := { stood := { row := fnParsePartUptoRow, standIns := [], harness := (true, "d4fb582019c7ec0cc24ffa53c67939c290fa482d902119c25ab853fcaab8b1b0"), looks := false }, kinds := [], alts := [], laidByText := true, laidKinds := [.data, .listed, .data, .pinned], laidTests := true, laidLooks := .later }
def FnParsePartUptoCardSaid : Prop := Claim7.holds Tryd.pinned (.plain (OpenSpec.upto fnParsePartSpec)) fnParsePartUptoCard

/-- THE SECOND FORM's CARD OF 'laws.FnParseSize'. -/
def fnParseSizeUptoCard : Claim7 := { stood := { row := fnParseSizeUptoRow, standIns := [], harness := (true, "d4fb582019c7ec0cc24ffa53c67939c290fa482d902119c25ab853fcaab8b1b0"), looks := false }, kinds := [], alts := [], laidByText := true, laidKinds := [.data, .listed, .data, .pinned], laidTests := true, laidLooks := .later }
def FnParseSizeUptoCardSaid : Prop := Claim7.holds Tryd.pinned (.plain (OpenSpec.upto fnParseSizeSpec)) fnParseSizeUptoCard

/-- THE SECOND FORM's CARD OF 'laws.FnIsMarker'. -/
def fnIsMarkerUptoCard : Claim7 := { stood := { row := fnIsMarkerUptoRow, standIns := [], harness := (true, "d4fb582019c7ec0cc24ffa53c67939c290fa482d902119c25ab853fcaab8b1b0"), looks := false }, kinds := [], alts := [], laidByText := true, laidKinds := [.data, .listed, .data, .pinned], laidTests := true, laidLooks := .later }
def FnIsMarkerUptoCardSaid : Prop := Claim7.holds Tryd.pinned (.plain (OpenSpec.upto fnIsMarkerSpec)) fnIsMarkerUptoCard

/-- THE SECOND FORM's CARD OF 'laws.FnFindParse'. -/
def fnFindParseUptoCard : Claim7 := { stood := { row := fnFindParseUptoRow, standIns := [], harness := (true, "d4fb582019c7ec0cc24ffa53c67939c290fa482d902119c25ab853fcaab8b1b0"), looks := false }, kinds := [], alts := [], laidByText := true, laidKinds := [.data, .listed, .data, .pinned], laidTests := true, laidLooks := .later }
def FnFindParseUptoCardSaid : Prop := Claim7.holds Tryd.pinned (.plain (OpenSpec.upto fnFindParseSpec)) fnFindParseUptoCard
end Rows
end Go.Proofs.YtmogecodjiofeaaDoor

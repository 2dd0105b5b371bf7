/-
  DERIVED. GIVEN WITH THE SEED: THE CARDS: each row of YtapnkeonffbmoaaDoorRows.lean that lists a variable, with what it lists TIED to the program's text (the seventh form; the later family's looks); each row that meets fmt, with fmt's text TOLD by the authors' own Lean function (tested against real Go, not proved from fmt's source: count such statements apart). THE CARD IS WHAT COUNTS. Prove the row's statement (the work); the ties are given (YtapnkeonffbmoaaDoorTie.lean); close each card by the builder's one call (the guide's Derived/Test/ToyasCard.lean, 'card_holds'). Laid BY PROGRAM, IN A SANDBOX (cutbox-door.mjs). By AI agents, Wed Nov 11 2026. No macro, syntax, notation, axiom, sorry.
-/
import Derived.Test.YtapnkeonffbmoaaDoorRows
import GoSem.ClaimSeven
namespace Go.Proofs.YtapnkeonffbmoaaDoor
namespace Rows

/-- THE TIED CARD OF 'laws.FnIsMarkerNot'. -/
def fnIsMarkerNotCard : Claim7 := { stood := { row := fnIsMarkerNotRow, standIns := [], harness := (true, "b5f31fdae563c5909bc5594f9ad2365d99742dea0a04e468e3bd06098a8ffb65"), looks := false }, kinds := [], alts := [], laidByText := true, laidKinds := [.data, .listed, .data, .pinned], laidTests := true, laidLooks := .later }
def FnIsMarkerNotCardSaid : Prop := Claim7.holds Tryd.pinned (.plain (OpenSpec.ofChange fnIsMarkerNotSpec)) fnIsMarkerNotCard

/-- THE TIED CARD OF 'laws.FnExactFind'. -/
def fnExactFindCard : Claim7 := { stood := { row := fnExactFindRow, standIns := [], harness := (true, "b5f31fdae563c5909bc5594f9ad2365d99742dea0a04e468e3bd06098a8ffb65"), looks := false }, kinds := [], alts := [], laidByText := true, laidKinds := [.data, .listed, .data, .pinned], laidTests := true, laidLooks := .later }
def FnExactFindCardSaid : Prop := Claim7.holds Tryd.pinned (.plain (OpenSpec.ofChange fnExactFindSpec)) fnExactFindCard

/-- THE TIED CARD OF 'laws.FnExactParse'. -/
def fnExactParseCard : Claim7 := { stood := { row := fnExactParseRow, standIns := [], harness := (true, "b5f31fdae563c5909bc5594f9ad2365d99742dea0a04e468e3bd06098a8ffb65"), looks := false }, kinds := [], alts := [], laidByText := true, laidKinds := [.data, .listed, .data, .pinned], laidTests := true, laidLooks := .later }
def FnExactParseCardSaid : Prop := Claim7.holds Tryd.pinned (.plain (OpenSpec.ofChange fnExactParseSpec)) fnExactParseCard

/-- THE TIED CARD OF 'laws.FnParseComment'. -/
def fnParseCommentCard : Claim7 := { stood := { row := fnParseCommentRow, standIns := [], harness := (true, "b5f31fdae563c5909bc5594f9ad2365d99742dea0a04e468e3bd06098a8ffb65"), looks := false }, kinds := [], alts := [], laidByText := true, laidKinds := [.data, .listed, .data, .pinned], laidTests := true, laidLooks := .later }
def FnParseCommentCardSaid : Prop := Claim7.holds Tryd.pinned (.plain (OpenSpec.ofChange fnParseCommentSpec)) fnParseCommentCard

/-- THE TIED CARD OF 'laws.FnParseCount'. -/
def fnParseCountCard : Claim7 := { stood := { row := fnParseCountRow, standIns := [], harness := (true, "b5f31fdae563c5909bc5594f9ad2365d99742dea0a04e468e3bd06098a8ffb65"), looks := false }, kinds := [], alts := [], laidByText := true, laidKinds := [.data, .listed, .data, .pinned], laidTests := true, laidLooks := .later }
def FnParseCountCardSaid : Prop := Claim7.holds Tryd.pinned (.plain (OpenSpec.ofChange fnParseCountSpec)) fnParseCountCard

/-- THE TIED CARD OF 'laws.FnParseEnds'. -/
def fnParseEndsCard : Claim7 := { stood := { row := fnParseEndsRow, standIns := [], harness := (true, "b5f31fdae563c5909bc5594f9ad2365d99742dea0a04e468e3bd06098a8ffb65"), looks := false }, kinds := [], alts := [], laidByText := true, laidKinds := [.data, .listed, .data, .pinned], laidTests := true, laidLooks := .later }
def FnParseEndsCardSaid : Prop := Claim7.holds Tryd.pinned (.plain (OpenSpec.ofChange fnParseEndsSpec)) fnParseEndsCard

/-- THE TIED CARD OF 'laws.FnParseJoin'. -/
def fnParseJoinCard : Claim7 := { stood := { row := fnParseJoinRow, standIns := [], harness := (true, "b5f31fdae563c5909bc5594f9ad2365d99742dea0a04e468e3bd06098a8ffb65"), looks := false }, kinds := [], alts := [], laidByText := true, laidKinds := [.data, .listed, .data, .pinned], laidTests := true, laidLooks := .later }
def FnParseJoinCardSaid : Prop := Claim7.holds Tryd.pinned (.plain (OpenSpec.ofChange fnParseJoinSpec)) fnParseJoinCard

/-- THE TIED CARD OF 'laws.FnParseLines'. -/
def fnParseLinesCard : Claim7 := { stood := { row := fnParseLinesRow, standIns := [], harness := (true, "b5f31fdae563c5909bc5594f9ad2365d99742dea0a04e468e3bd06098a8ffb65"), looks := false }, kinds := [], alts := [], laidByText := true, laidKinds := [.data, .listed, .data, .pinned], laidTests := true, laidLooks := .later }
def FnParseLinesCardSaid : Prop := Claim7.holds Tryd.pinned (.plain (OpenSpec.ofChange fnParseLinesSpec)) fnParseLinesCard

/-- THE SECOND FORM's CARD OF 'laws.FnIsMarkerNot'. -/
def fnIsMarkerNotUptoCard : Claim7 := { stood := { row := fnIsMarkerNotUptoRow, standIns := [], harness := (true, "b5f31fdae563c5909bc5594f9ad2365d99742dea0a04e468e3bd06098a8ffb65"), looks := false }, kinds := [], alts := [], laidByText := true, laidKinds := [.data, .listed, .data, .pinned], laidTests := true, laidLooks := .later }
def FnIsMarkerNotUptoCardSaid : Prop := Claim7.holds Tryd.pinned (.plain (OpenSpec.upto fnIsMarkerNotSpec)) fnIsMarkerNotUptoCard

/-- THE SECOND FORM's CARD OF 'laws.FnExactFind'. -/
def fnExactFindUptoCard : Claim7 := { stood := { row := fnExactFindUptoRow, standIns := [], harness := (true, "b5f31fdae563c5909bc5594f9ad2365d99742dea0a04e468e3bd06098a8ffb65"), looks := false }, kinds := [], alts := [], laidByText := true, laidKinds := [.data, .listed, .data, .pinned], laidTests := true, laidLooks := .later }
def FnExactFindUptoCardSaid : Prop := Claim7.holds Tryd.pinned (.plain (OpenSpec.upto fnExactFindSpec)) fnExactFindUptoCard

/-- THE SECOND FORM's CARD OF 'laws.FnExactParse'. -/
def fnExactParseUptoCard : Claim7 := { stood := { row := fnExactParseUptoRow, standIns := [], harness := (true, "b5f31fdae563c5909bc5594f9ad2365d99742dea0a04e468e3bd06098a8ffb65"), looks := false }, kinds := [], alts := [], laidByText := true, laidKinds := [.data, .listed, .data, .pinned], laidTests := true, laidLooks := .later }
def FnExactParseUptoCardSaid : Prop := Claim7.holds Tryd.pinned (.plain (OpenSpec.upto fnExactParseSpec)) fnExactParseUptoCard

/-- THE SECOND FORM's CARD OF 'laws.FnParseComment'. -/
def fnParseCommentUptoCard : Claim7 := { stood := { row := fnParseCommentUptoRow, standIns := [], harness := (true, "b5f31fdae563c5909bc5594f9ad2365d99742dea0a04e468e3bd06098a8ffb65"), looks := false }, kinds := [], alts := [], laidByText := true, laidKinds := [.data, .listed, .data, .pinned], laidTests := true, laidLooks := .later }
def FnParseCommentUptoCardSaid : Prop := Claim7.holds Tryd.pinned (.plain (OpenSpec.upto fnParseCommentSpec)) fnParseCommentUptoCard

/-- THE SECOND FORM's CARD OF 'laws.FnParseCount'. -/
def fnParseCountUptoCard : Claim7 := { stood := { row := fnParseCountUptoRow, standIns := [], harness := (true, "b5f31fdae563c5909bc5594f9ad2365d99742dea0a04e468e3bd06098a8ffb65"), looks := false }, kinds := [], alts := [], laidByText := true, laidKinds := [.data, .listed, .data, .pinned], laidTests := true, laidLooks := .later }
def FnParseCountUptoCardSaid : Prop := Claim7.holds Tryd.pinned (.plain (OpenSpec.upto fnParseCountSpec)) fnParseCountUptoCard

/-- THE SECOND FORM's CARD OF 'laws.FnParseEnds'. -/
def fnParseEndsUptoCard : Claim7 := { stood := { row := fnParseEndsUptoRow, standIns := [], harness := (true, "b5f31fdae563c5909bc5594f9ad2365d99742dea0a04e468e3bd06098a8ffb65"), looks := false }, kinds := [], alts := [], laidByText := true, laidKinds := [.data, .listed, .data, .pinned], laidTests := true, laidLooks := .later }
def FnParseEndsUptoCardSaid : Prop := Claim7.holds Tryd.pinned (.plain (OpenSpec.upto fnParseEndsSpec)) fnParseEndsUptoCard

/-- THE SECOND FORM's CARD OF 'laws.FnParseJoin'. -/
def fnParseJoinUptoCard : Claim7 := { stood := { row := fnParseJoinUptoRow, standIns := [], harness := (true, "b5f31fdae563c5909bc5594f9ad2365d99742dea0a04e468e3bd06098a8ffb65"), looks := false }, kinds := [], alts := [], laidByText := true, laidKinds := [.data, .listed, .data, .pinned], laidTests := true, laidLooks := .later }
def FnParseJoinUptoCardSaid : Prop := Claim7.holds Tryd.pinned (.plain (OpenSpec.upto fnParseJoinSpec)) fnParseJoinUptoCard

/-- THE SECOND FORM's CARD OF 'laws.FnParseLines'. -/
def fnParseLinesUptoCard : Claim7 := { stood := { row := fnParseLinesUptoRow, standIns := [], harness := (true, "b5f31fdae563c5909bc5594f9ad2365d99742dea0a04e468e3bd06098a8ffb65"), looks := false }, kinds := [], alts := [], laidByText := true, laidKinds := [.data, .listed, .data, .pinned], laidTests := true, laidLooks := .later }
def FnParseLinesUptoCardSaid : Prop := Claim7.holds Tryd.pinned (.plain (OpenSpec.upto fnParseLinesSpec)) fnParseLinesUptoCard
end Rows
end Go.Proofs.YtapnkeonffbmoaaDoor

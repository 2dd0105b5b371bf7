/-
  DERIVED. GIVEN WITH THE SEED: THE CARDS: each row of YtoojofakgjmagaaDoorRows.lean that lists a variable, with what it lists TIED to the program's text (the seventh form; the later family's looks); each row that meets fmt, with fmt's text TOLD by the authors' own Lean function (tested against real Go, not proved from fmt's source: count such statements apart). THE CARD IS WHAT COUNTS. Prove the row's statement (the work); the ties are given (YtoojofakgjmagaaDoorTie.lean); close each card by the builder's one call (the guide's Derived/Test/ToyasCard.lean, 'card_holds'). Laid BY PROGRAM, IN A SANDBOX (cutbox-door.mjs). By AI agents, Wed Nov 11 2026. No macro, syntax, notation, axiom, sorry.
-/
import Derived.Test.YtoojofakgjmagaaDoorRows
import GoSem.ClaimSeven
namespace Go.Proofs.YtoojofakgjmagaaDoor
namespace Rows

/-- THE TIED CARD OF 'laws.FnExactFormat'. -/
def fnExactFormatCard : Claim7 := { stood := { row := fnExactFormatRow, standIns := [], harness := (true, "c178b3c51b223757658cef3cae8a1ab7490e6156168874967d963619ee42dd0a"), looks := false }, kinds := [], alts := [], laidByText := true, laidKinds := [.sentinel], laidTests := true, laidLooks := .later }
def FnExactFormatCardSaid : Prop := Claim7.holds Tryd.pinned (.plain (OpenSpec.ofChange fnExactFormatSpec)) fnExactFormatCard

/-- THE TIED CARD OF 'laws.FnFormatStraight'. -/
def fnFormatStraightCard : Claim7 := { stood := { row := fnFormatStraightRow, standIns := [], harness := (true, "c178b3c51b223757658cef3cae8a1ab7490e6156168874967d963619ee42dd0a"), looks := false }, kinds := [], alts := [], laidByText := true, laidKinds := [.data, .listed, .sentinel, .data, .pinned], laidTests := true, laidLooks := .later }
def FnFormatStraightCardSaid : Prop := Claim7.holds Tryd.pinned (.plain (OpenSpec.ofChange fnFormatStraightSpec)) fnFormatStraightCard

/-- THE TIED CARD OF 'laws.FnFormatAny'. -/
def fnFormatAnyCard : Claim7 := { stood := { row := fnFormatAnyRow, standIns := [], harness := (true, "c178b3c51b223757658cef3cae8a1ab7490e6156168874967d963619ee42dd0a"), looks := false }, kinds := [], alts := [], laidByText := true, laidKinds := [.sentinel], laidTests := true, laidLooks := .later }
def FnFormatAnyCardSaid : Prop := Claim7.holds Tryd.pinned (.plain (OpenSpec.ofChange fnFormatAnySpec)) fnFormatAnyCard

/-- THE TIED CARD OF 'laws.FnFormatComment'. -/
def fnFormatCommentCard : Claim7 := { stood := { row := fnFormatCommentRow, standIns := [], harness := (true, "c178b3c51b223757658cef3cae8a1ab7490e6156168874967d963619ee42dd0a"), looks := false }, kinds := [], alts := [], laidByText := true, laidKinds := [.sentinel], laidTests := true, laidLooks := .later }
def FnFormatCommentCardSaid : Prop := Claim7.holds Tryd.pinned (.plain (OpenSpec.ofChange fnFormatCommentSpec)) fnFormatCommentCard

/-- THE TIED CARD OF 'laws.FnFormatJoin'. -/
def fnFormatJoinCard : Claim7 := { stood := { row := fnFormatJoinRow, standIns := [], harness := (true, "c178b3c51b223757658cef3cae8a1ab7490e6156168874967d963619ee42dd0a"), looks := false }, kinds := [], alts := [], laidByText := true, laidKinds := [.sentinel], laidTests := true, laidLooks := .later }
def FnFormatJoinCardSaid : Prop := Claim7.holds Tryd.pinned (.plain (OpenSpec.ofChange fnFormatJoinSpec)) fnFormatJoinCard

/-- THE TIED CARD OF 'laws.FnFormatTwice'. -/
def fnFormatTwiceCard : Claim7 := { stood := { row := fnFormatTwiceRow, standIns := [], harness := (true, "c178b3c51b223757658cef3cae8a1ab7490e6156168874967d963619ee42dd0a"), looks := false }, kinds := [], alts := [], laidByText := true, laidKinds := [.data, .listed, .sentinel, .data, .pinned], laidTests := true, laidLooks := .later }
def FnFormatTwiceCardSaid : Prop := Claim7.holds Tryd.pinned (.plain (OpenSpec.ofChange fnFormatTwiceSpec)) fnFormatTwiceCard

/-- THE TIED CARD OF 'laws.FnParseFormat'. -/
def fnParseFormatCard : Claim7 := { stood := { row := fnParseFormatRow, standIns := [], harness := (true, "c178b3c51b223757658cef3cae8a1ab7490e6156168874967d963619ee42dd0a"), looks := false }, kinds := [], alts := [], laidByText := true, laidKinds := [.data, .listed, .sentinel, .data, .pinned], laidTests := true, laidLooks := .later }
def FnParseFormatCardSaid : Prop := Claim7.holds Tryd.pinned (.plain (OpenSpec.ofChange fnParseFormatSpec)) fnParseFormatCard

/-- THE TIED CARD OF 'laws.FnFormatOrder'. -/
def fnFormatOrderCard : Claim7 := { stood := { row := fnFormatOrderRow, standIns := [], harness := (true, "c178b3c51b223757658cef3cae8a1ab7490e6156168874967d963619ee42dd0a"), looks := false }, kinds := [], alts := [], laidByText := true, laidKinds := [.data, .listed, .sentinel, .data, .pinned], laidTests := true, laidLooks := .later }
def FnFormatOrderCardSaid : Prop := Claim7.holds Tryd.pinned (.plain (OpenSpec.ofChange fnFormatOrderSpec)) fnFormatOrderCard

/-- THE TIED CARD OF 'laws.FnFormatParse'. -/
def fnFormatParseCard : Claim7 := { stood := { row := fnFormatParseRow, standIns := [], harness := (true, "c178b3c51b223757658cef3cae8a1ab7490e6156168874967d963619ee42dd0a"), looks := false }, kinds := [], alts := [], laidByText := true, laidKinds := [.data, .listed, .sentinel, .data, .pinned], laidTests := true, laidLooks := .later }
def FnFormatParseCardSaid : Prop := Claim7.holds Tryd.pinned (.plain (OpenSpec.ofChange fnFormatParseSpec)) fnFormatParseCard

/-- THE SECOND FORM's CARD OF 'laws.FnExactFormat'. -/
def fnExactFormatUptoCard : Claim7 := { stood := { row := fnExactFormatUptoRow, standIns := [], harness := (true, "c178b3c51b223757658cef3cae8a1ab7490e6156168874967d963619ee42dd0a"), looks := false }, kinds := [], alts := [], laidByText := true, laidKinds := [.sentinel], laidTests := true, laidLooks := .later }
def FnExactFormatUptoCardSaid : Prop := Claim7.holds Tryd.pinned (.plain (OpenSpec.upto fnExactFormatSpec)) fnExactFormatUptoCard

/-- THE SECOND FORM's CARD OF 'laws.FnFormatStraight'. -/
def fnFormatStraightUptoCard : Claim7 := { stood := { row := fnFormatStraightUptoRow, standIns := [], harness := (true, "c178b3c51b223757658cef3cae8a1ab7490e6156168874967d963619ee42dd0a"), looks := false }, kinds := [], alts := [], laidByText := true, laidKinds := [.data, .listed, .sentinel, .data, .pinned], laidTests := true, laidLooks := .later }
def FnFormatStraightUptoCardSaid : Prop := Claim7.holds Tryd.pinned (.plain (OpenSpec.upto fnFormatStraightSpec)) fnFormatStraightUptoCard

/-- THE SECOND FORM's CARD OF 'laws.FnFormatAny'. -/
def fnFormatAnyUptoCard : Claim7 := { stood := { row := fnFormatAnyUptoRow, standIns := [], harness := (true, "c178b3c51b223757658cef3cae8a1ab7490e6156168874967d963619ee42dd0a"), looks := false }, kinds := [], alts := [], laidByText := true, laidKinds := [.sentinel], laidTests := true, laidLooks := .later }
def FnFormatAnyUptoCardSaid : Prop := Claim7.holds Tryd.pinned (.plain (OpenSpec.upto fnFormatAnySpec)) fnFormatAnyUptoCard

/-- THE SECOND FORM's CARD OF 'laws.FnFormatComment'. -/
def fnFormatCommentUptoCard : Claim7 := { stood := { row := fnFormatCommentUptoRow, standIns := [], harness := (true, "c178b3c51b223757658cef3cae8a1ab7490e6156168874967d963619ee42dd0a"), looks := false }, kinds := [], alts := [], laidByText := true, laidKinds := [.sentinel], laidTests := true, laidLooks := .later }
def FnFormatCommentUptoCardSaid : Prop := Claim7.holds Tryd.pinned (.plain (OpenSpec.upto fnFormatCommentSpec)) fnFormatCommentUptoCard

/-- THE SECOND FORM's CARD OF 'laws.FnFormatJoin'. -/
def fnFormatJoinUptoCard : Claim7 := { stood := { row := fnFormatJoinUptoRow, standIns := [], harness := (true, "c178b3c51b223757658cef3cae8a1ab7490e6156168874967d963619ee42dd0a"), looks := false }, kinds := [], alts := [], laidByText := true, laidKinds := [.sentinel], laidTests := true, laidLooks := .later }
def FnFormatJoinUptoCardSaid : Prop := Claim7.holds Tryd.pinned (.plain (OpenSpec.upto fnFormatJoinSpec)) fnFormatJoinUptoCard

/-- THE SECOND FORM's CARD OF 'laws.FnFormatTwice'. -/
def fnFormatTwiceUptoCard : Claim7 := { stood := { row := fnFormatTwiceUptoRow, standIns := [], harness := (true, "c178b3c51b223757658cef3cae8a1ab7490e6156168874967d963619ee42dd0a"), looks := false }, kinds := [], alts := [], laidByText := true, laidKinds := [.data, .listed, .sentinel, .data, .pinned], laidTests := true, laidLooks := .later }
def FnFormatTwiceUptoCardSaid : Prop := Claim7.holds Tryd.pinned (.plain (OpenSpec.upto fnFormatTwiceSpec)) fnFormatTwiceUptoCard

/-- THE SECOND FORM's CARD OF 'laws.FnParseFormat'. -/
def fnParseFormatUptoCard : Claim7 := { stood := { row := fnParseFormatUptoRow, standIns := [], harness := (true, "c178b3c51b223757658cef3cae8a1ab7490e6156168874967d963619ee42dd0a"), looks := false }, kinds := [], alts := [], laidByText := true, laidKinds := [.data, .listed, .sentinel, .data, .pinned], laidTests := true, laidLooks := .later }
def FnParseFormatUptoCardSaid : Prop := Claim7.holds Tryd.pinned (.plain (OpenSpec.upto fnParseFormatSpec)) fnParseFormatUptoCard

/-- THE SECOND FORM's CARD OF 'laws.FnFormatOrder'. -/
def fnFormatOrderUptoCard : Claim7 := { stood := { row := fnFormatOrderUptoRow, standIns := [], harness := (true, "c178b3c51b223757658cef3cae8a1ab7490e6156168874967d963619ee42dd0a"), looks := false }, kinds := [], alts := [], laidByText := true, laidKinds := [.data, .listed, .sentinel, .data, .pinned], laidTests := true, laidLooks := .later }
def FnFormatOrderUptoCardSaid : Prop := Claim7.holds Tryd.pinned (.plain (OpenSpec.upto fnFormatOrderSpec)) fnFormatOrderUptoCard

/-- THE SECOND FORM's CARD OF 'laws.FnFormatParse'. -/
def fnFormatParseUptoCard : Claim7 := { stood := { row := fnFormatParseUptoRow, standIns := [], harness := (true, "c178b3c51b223757658cef3cae8a1ab7490e6156168874967d963619ee42dd0a"), looks := false }, kinds := [], alts := [], laidByText := true, laidKinds := [.data, .listed, .sentinel, .data, .pinned], laidTests := true, laidLooks := .later }
def FnFormatParseUptoCardSaid : Prop := Claim7.holds Tryd.pinned (.plain (OpenSpec.upto fnFormatParseSpec)) fnFormatParseUptoCard
end Rows
end Go.Proofs.YtoojofakgjmagaaDoor

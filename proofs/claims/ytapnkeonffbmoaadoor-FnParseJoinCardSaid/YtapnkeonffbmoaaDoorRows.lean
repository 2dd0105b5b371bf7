/-
  NARROWER THAN 'FOR EVERY INPUT', by the rows' own cells (each row's printed sentence says how): FnIsMarkerNot: laid · FnExactFind: laid · FnExactParse: laid · FnParseComment: laid · FnParseCount: laid · FnParseEnds: laid · FnParseJoin: laid · FnParseLines: laid.
  DERIVED. THE GIVEN ROWS OF THIS SEAT. 8 by the template 'for every input the law returns true; each argument reads behind the call as it read before'; 0 by the template 'total and deterministic' (their statements: YtapnkeonffbmoaaDoorTotals.lean).
  GIVEN WITH THE SEED: the statements are not yours to turn. If you find one false, say at which input.
  Laid BY PROGRAM, IN A SANDBOX (cutbox-rows.mjs): the forced cells as the released guide's own fill.sh prints them over the translation 2f03c8de6f1d579e… (all of the seat's roots in one cut). By AI agents, Wed Nov 11 2026. No macro, syntax, notation, axiom, sorry.
-/
import Derived.Test.YtapnkeonffbmoaaDoorChecked
import GoSem.PinnedTables
import GoSem.Claim
import GoSem.ClaimJoined
import GoSem.ClaimMapViews
import Derived.JoinedTies
import Derived.KernelRfl
namespace Go.Proofs.YtapnkeonffbmoaaDoor
/- THE CELL 'sum', in the pinned program and in every row, IS THE sha256 OF THE DUMP (.gsa) THAT YtapnkeonffbmoaaDoorProg.lean LOADS. Nothing in Lean hashes anything: it is a label: what it is worth is what the hold of that sum in a sandbox is worth. -/
noncomputable def Tryd.pinned : Pinned := { name := "ytapnkeonffbmoaadoor", sum := "2f03c8de6f1d579e7b97733edd4864fbfbf716e4ff3cd99910f6f391b605ec08", checked := Tryd.checked }
namespace Rows
def none {H : Type} : Left H := { results := [], args := [] }

/- WHAT THE LISTED PACKAGE-LEVEL VARIABLES READ AS WHEN THE CALL BEGINS. Each datum BY PROGRAM (the guide's laid-datum.mjs) off the statement by which the dump's own 'gosem.cut.vars' lays the variable. In a bare row this is a premise. The card (YtapnkeonffbmoaaDoorCards.lean) ties it to the program's text. -/
def laid_unicode_utf8_acceptRanges {H : Type} : DataW H := .agg [.agg [.lit (.int .u8 128), .lit (.int .u8 191)], .agg [.lit (.int .u8 160), .lit (.int .u8 191)], .agg [.lit (.int .u8 128), .lit (.int .u8 159)], .agg [.lit (.int .u8 144), .lit (.int .u8 191)], .agg [.lit (.int .u8 128), .lit (.int .u8 143)], .agg [.lit (.int .u8 0), .lit (.int .u8 0)], .agg [.lit (.int .u8 0), .lit (.int .u8 0)], .agg [.lit (.int .u8 0), .lit (.int .u8 0)], .agg [.lit (.int .u8 0), .lit (.int .u8 0)], .agg [.lit (.int .u8 0), .lit (.int .u8 0)], .agg [.lit (.int .u8 0), .lit (.int .u8 0)], .agg [.lit (.int .u8 0), .lit (.int .u8 0)], .agg [.lit (.int .u8 0), .lit (.int .u8 0)], .agg [.lit (.int .u8 0), .lit (.int .u8 0)], .agg [.lit (.int .u8 0), .lit (.int .u8 0)], .agg [.lit (.int .u8 0), .lit (.int .u8 0)]]
def laid_unicode_White_Space {H : Type} : DataW H := .ptr (.agg [.slice [.agg [.lit (.int .u16 9), .lit (.int .u16 13), .lit (.int .u16 1)], .agg [.lit (.int .u16 32), .lit (.int .u16 133), .lit (.int .u16 101)], .agg [.lit (.int .u16 160), .lit (.int .u16 5760), .lit (.int .u16 5600)], .agg [.lit (.int .u16 8192), .lit (.int .u16 8202), .lit (.int .u16 1)], .agg [.lit (.int .u16 8232), .lit (.int .u16 8233), .lit (.int .u16 1)], .agg [.lit (.int .u16 8239), .lit (.int .u16 8287), .lit (.int .u16 48)], .agg [.lit (.int .u16 12288), .lit (.int .u16 12288), .lit (.int .u16 1)]] [], .nil, .lit (.int .i64 2)])
def laid_strings_asciiSpace {H : Type} : DataW H := .agg [.lit (.int .u8 0), .lit (.int .u8 0), .lit (.int .u8 0), .lit (.int .u8 0), .lit (.int .u8 0), .lit (.int .u8 0), .lit (.int .u8 0), .lit (.int .u8 0), .lit (.int .u8 0), .lit (.int .u8 1), .lit (.int .u8 1), .lit (.int .u8 1), .lit (.int .u8 1), .lit (.int .u8 1), .lit (.int .u8 0), .lit (.int .u8 0), .lit (.int .u8 0), .lit (.int .u8 0), .lit (.int .u8 0), .lit (.int .u8 0), .lit (.int .u8 0), .lit (.int .u8 0), .lit (.int .u8 0), .lit (.int .u8 0), .lit (.int .u8 0), .lit (.int .u8 0), .lit (.int .u8 0), .lit (.int .u8 0), .lit (.int .u8 0), .lit (.int .u8 0), .lit (.int .u8 0), .lit (.int .u8 0), .lit (.int .u8 1), .lit (.int .u8 0), .lit (.int .u8 0), .lit (.int .u8 0), .lit (.int .u8 0), .lit (.int .u8 0), .lit (.int .u8 0), .lit (.int .u8 0), .lit (.int .u8 0), .lit (.int .u8 0), .lit (.int .u8 0), .lit (.int .u8 0), .lit (.int .u8 0), .lit (.int .u8 0), .lit (.int .u8 0), .lit (.int .u8 0), .lit (.int .u8 0), .lit (.int .u8 0), .lit (.int .u8 0), .lit (.int .u8 0), .lit (.int .u8 0), .lit (.int .u8 0), .lit (.int .u8 0), .lit (.int .u8 0), .lit (.int .u8 0), .lit (.int .u8 0), .lit (.int .u8 0), .lit (.int .u8 0), .lit (.int .u8 0), .lit (.int .u8 0), .lit (.int .u8 0), .lit (.int .u8 0), .lit (.int .u8 0), .lit (.int .u8 0), .lit (.int .u8 0), .lit (.int .u8 0), .lit (.int .u8 0), .lit (.int .u8 0), .lit (.int .u8 0), .lit (.int .u8 0), .lit (.int .u8 0), .lit (.int .u8 0), .lit (.int .u8 0), .lit (.int .u8 0), .lit (.int .u8 0), .lit (.int .u8 0), .lit (.int .u8 0), .lit (.int .u8 0), .lit (.int .u8 0), .lit (.int .u8 0), .lit (.int .u8 0), .lit (.int .u8 0), .lit (.int .u8 0), .lit (.int .u8 0), .lit (.int .u8 0), .lit (.int .u8 0), .lit (.int .u8 0), .lit (.int .u8 0), .lit (.int .u8 0), .lit (.int .u8 0), .lit (.int .u8 0), .lit (.int .u8 0), .lit (.int .u8 0), .lit (.int .u8 0), .lit (.int .u8 0), .lit (.int .u8 0), .lit (.int .u8 0), .lit (.int .u8 0), .lit (.int .u8 0), .lit (.int .u8 0), .lit (.int .u8 0), .lit (.int .u8 0), .lit (.int .u8 0), .lit (.int .u8 0), .lit (.int .u8 0), .lit (.int .u8 0), .lit (.int .u8 0), .lit (.int .u8 0), .lit (.int .u8 0), .lit (.int .u8 0), .lit (.int .u8 0), .lit (.int .u8 0), .lit (.int .u8 0), .lit (.int .u8 0), .lit (.int .u8 0), .lit (.int .u8 0), .lit (.int .u8 0), .lit (.int .u8 0), .lit (.int .u8 0), .lit (.int .u8 0), .lit (.int .u8 0), .lit (.int .u8 0), .lit (.int .u8 0), .lit (.int .u8 0), .lit (.int .u8 0), .lit (.int .u8 0), .lit (.int .u8 0), .lit (.int .u8 0), .lit (.int .u8 0), .lit (.int .u8 0), .lit (.int .u8 0), .lit (.int .u8 0), .lit (.int .u8 0), .lit (.int .u8 0), .lit (.int .u8 0), .lit (.int .u8 0), .lit (.int .u8 0), .lit (.int .u8 0), .lit (.int .u8 0), .lit (.int .u8 0), .lit (.int .u8 0), .lit (.int .u8 0), .lit (.int .u8 0), .lit (.int .u8 0), .lit (.int .u8 0), .lit (.int .u8 0), .lit (.int .u8 0), .lit (.int .u8 0), .lit (.int .u8 0), .lit (.int .u8 0), .lit (.int .u8 0), .lit (.int .u8 0), .lit (.int .u8 0), .lit (.int .u8 0), .lit (.int .u8 0), .lit (.int .u8 0), .lit (.int .u8 0), .lit (.int .u8 0), .lit (.int .u8 0), .lit (.int .u8 0), .lit (.int .u8 0), .lit (.int .u8 0), .lit (.int .u8 0), .lit (.int .u8 0), .lit (.int .u8 0), .lit (.int .u8 0), .lit (.int .u8 0), .lit (.int .u8 0), .lit (.int .u8 0), .lit (.int .u8 0), .lit (.int .u8 0), .lit (.int .u8 0), .lit (.int .u8 0), .lit (.int .u8 0), .lit (.int .u8 0), .lit (.int .u8 0), .lit (.int .u8 0), .lit (.int .u8 0), .lit (.int .u8 0), .lit (.int .u8 0), .lit (.int .u8 0), .lit (.int .u8 0), .lit (.int .u8 0), .lit (.int .u8 0), .lit (.int .u8 0), .lit (.int .u8 0), .lit (.int .u8 0), .lit (.int .u8 0), .lit (.int .u8 0), .lit (.int .u8 0), .lit (.int .u8 0), .lit (.int .u8 0), .lit (.int .u8 0), .lit (.int .u8 0), .lit (.int .u8 0), .lit (.int .u8 0), .lit (.int .u8 0), .lit (.int .u8 0), .lit (.int .u8 0), .lit (.int .u8 0), .lit (.int .u8 0), .lit (.int .u8 0), .lit (.int .u8 0), .lit (.int .u8 0), .lit (.int .u8 0), .lit (.int .u8 0), .lit (.int .u8 0), .lit (.int .u8 0), .lit (.int .u8 0), .lit (.int .u8 0), .lit (.int .u8 0), .lit (.int .u8 0), .lit (.int .u8 0), .lit (.int .u8 0), .lit (.int .u8 0), .lit (.int .u8 0), .lit (.int .u8 0), .lit (.int .u8 0), .lit (.int .u8 0), .lit (.int .u8 0), .lit (.int .u8 0), .lit (.int .u8 0), .lit (.int .u8 0), .lit (.int .u8 0), .lit (.int .u8 0), .lit (.int .u8 0), .lit (.int .u8 0), .lit (.int .u8 0), .lit (.int .u8 0), .lit (.int .u8 0), .lit (.int .u8 0), .lit (.int .u8 0), .lit (.int .u8 0), .lit (.int .u8 0), .lit (.int .u8 0), .lit (.int .u8 0), .lit (.int .u8 0), .lit (.int .u8 0), .lit (.int .u8 0), .lit (.int .u8 0), .lit (.int .u8 0), .lit (.int .u8 0), .lit (.int .u8 0), .lit (.int .u8 0), .lit (.int .u8 0), .lit (.int .u8 0), .lit (.int .u8 0), .lit (.int .u8 0), .lit (.int .u8 0), .lit (.int .u8 0), .lit (.int .u8 0), .lit (.int .u8 0), .lit (.int .u8 0), .lit (.int .u8 0)]
/-- One of Go's own tables, pinned by name: the form's constant. -/
def laid_unicode_utf8_first : DataW Unit := Go.Pinned.utf8First

/-- 'laws.FnIsMarkerNot': WHATEVER THE INPUT: true; the input reads as it did. -/
def fnIsMarkerNotSpec : ChangeSpec := { name := "fnIsMarkerNot", fn := fun _ => fun
  | [d] => { results := [.lit (.bool true)], args := [d] }
  | _ => none }
def fnIsMarkerNotRow : OpenClaim := { program := "ytapnkeonffbmoaadoor", sum := "2f03c8de6f1d579e7b97733edd4864fbfbf716e4ff3cd99910f6f391b605ec08", func := "loop.example/pub-textarchives/laws.FnIsMarkerNot", spec := "fnIsMarkerNot", inPlace := ["internal/bytealg.IndexByte"], unfollowed := true, recurses := true, named := ["strings.asciiSpace", "unicode/utf8.first", "unicode/utf8.acceptRanges", "unicode.White_Space"], apart := false, laid := [("unicode/utf8.acceptRanges", laid_unicode_utf8_acceptRanges), ("unicode.White_Space", laid_unicode_White_Space), ("strings.asciiSpace", laid_strings_asciiSpace), ("unicode/utf8.first", laid_unicode_utf8_first)] }
def FnIsMarkerNotSaid : Prop := fnIsMarkerNotRow.holds Tryd.pinned (OpenSpec.ofChange fnIsMarkerNotSpec)

/-- ITS FALSE NEIGHBOUR: 'it returns false'. Refute it at one input. -/
def fnIsMarkerNotWrong : ChangeSpec := { name := "fnIsMarkerNot", fn := fun _ => fun
  | [d] => { results := [.lit (.bool false)], args := [d] }
  | _ => none }
def FnIsMarkerNotWrongFalsely : Prop := fnIsMarkerNotRow.holds Tryd.pinned (OpenSpec.ofChange fnIsMarkerNotWrong)

/-- 'laws.FnExactFind': WHATEVER THE INPUT: true; the input reads as it did. -/
def fnExactFindSpec : ChangeSpec := { name := "fnExactFind", fn := fun _ => fun
  | [d] => { results := [.lit (.bool true)], args := [d] }
  | _ => none }
def fnExactFindRow : OpenClaim := { program := "ytapnkeonffbmoaadoor", sum := "2f03c8de6f1d579e7b97733edd4864fbfbf716e4ff3cd99910f6f391b605ec08", func := "loop.example/pub-textarchives/laws.FnExactFind", spec := "fnExactFind", inPlace := ["internal/bytealg.IndexByte"], unfollowed := true, recurses := true, named := ["strings.asciiSpace", "unicode/utf8.first", "unicode/utf8.acceptRanges", "unicode.White_Space"], apart := false, laid := [("unicode/utf8.acceptRanges", laid_unicode_utf8_acceptRanges), ("unicode.White_Space", laid_unicode_White_Space), ("strings.asciiSpace", laid_strings_asciiSpace), ("unicode/utf8.first", laid_unicode_utf8_first)] }
def FnExactFindSaid : Prop := fnExactFindRow.holds Tryd.pinned (OpenSpec.ofChange fnExactFindSpec)

/-- ITS FALSE NEIGHBOUR: 'it returns false'. Refute it at one input. -/
def fnExactFindWrong : ChangeSpec := { name := "fnExactFind", fn := fun _ => fun
  | [d] => { results := [.lit (.bool false)], args := [d] }
  | _ => none }
def FnExactFindWrongFalsely : Prop := fnExactFindRow.holds Tryd.pinned (OpenSpec.ofChange fnExactFindWrong)

/-- 'laws.FnExactParse': WHATEVER THE INPUT: true; the input reads as it did. -/
def fnExactParseSpec : ChangeSpec := { name := "fnExactParse", fn := fun _ => fun
  | [d] => { results := [.lit (.bool true)], args := [d] }
  | _ => none }
def fnExactParseRow : OpenClaim := { program := "ytapnkeonffbmoaadoor", sum := "2f03c8de6f1d579e7b97733edd4864fbfbf716e4ff3cd99910f6f391b605ec08", func := "loop.example/pub-textarchives/laws.FnExactParse", spec := "fnExactParse", inPlace := ["internal/bytealg.IndexByte"], unfollowed := true, recurses := true, named := ["strings.asciiSpace", "unicode/utf8.first", "unicode/utf8.acceptRanges", "unicode.White_Space"], apart := false, laid := [("unicode/utf8.acceptRanges", laid_unicode_utf8_acceptRanges), ("unicode.White_Space", laid_unicode_White_Space), ("strings.asciiSpace", laid_strings_asciiSpace), ("unicode/utf8.first", laid_unicode_utf8_first)] }
def FnExactParseSaid : Prop := fnExactParseRow.holds Tryd.pinned (OpenSpec.ofChange fnExactParseSpec)

/-- ITS FALSE NEIGHBOUR: 'it returns false'. Refute it at one input. -/
def fnExactParseWrong : ChangeSpec := { name := "fnExactParse", fn := fun _ => fun
  | [d] => { results := [.lit (.bool false)], args := [d] }
  | _ => none }
def FnExactParseWrongFalsely : Prop := fnExactParseRow.holds Tryd.pinned (OpenSpec.ofChange fnExactParseWrong)

/-- 'laws.FnParseComment': WHATEVER THE INPUT: true; the input reads as it did. -/
def fnParseCommentSpec : ChangeSpec := { name := "fnParseComment", fn := fun _ => fun
  | [d] => { results := [.lit (.bool true)], args := [d] }
  | _ => none }
def fnParseCommentRow : OpenClaim := { program := "ytapnkeonffbmoaadoor", sum := "2f03c8de6f1d579e7b97733edd4864fbfbf716e4ff3cd99910f6f391b605ec08", func := "loop.example/pub-textarchives/laws.FnParseComment", spec := "fnParseComment", inPlace := ["internal/bytealg.IndexByte"], unfollowed := true, recurses := true, named := ["strings.asciiSpace", "unicode/utf8.first", "unicode/utf8.acceptRanges", "unicode.White_Space"], apart := false, laid := [("unicode/utf8.acceptRanges", laid_unicode_utf8_acceptRanges), ("unicode.White_Space", laid_unicode_White_Space), ("strings.asciiSpace", laid_strings_asciiSpace), ("unicode/utf8.first", laid_unicode_utf8_first)] }
def FnParseCommentSaid : Prop := fnParseCommentRow.holds Tryd.pinned (OpenSpec.ofChange fnParseCommentSpec)

/-- ITS FALSE NEIGHBOUR: 'it returns false'. Refute it at one input. -/
def fnParseCommentWrong : ChangeSpec := { name := "fnParseComment", fn := fun _ => fun
  | [d] => { results := [.lit (.bool false)], args := [d] }
  | _ => none }
def FnParseCommentWrongFalsely : Prop := fnParseCommentRow.holds Tryd.pinned (OpenSpec.ofChange fnParseCommentWrong)

/-- 'laws.FnParseCount': WHATEVER THE INPUT: true; the input reads as it did. -/
def fnParseCountSpec : ChangeSpec := { name := "fnParseCount", fn := fun _ => fun
  | [d] => { results := [.lit (.bool true)], args := [d] }
  | _ => none }
def fnParseCountRow : OpenClaim := { program := "ytapnkeonffbmoaadoor", sum := "2f03c8de6f1d579e7b97733edd4864fbfbf716e4ff3cd99910f6f391b605ec08", func := "loop.example/pub-textarchives/laws.FnParseCount", spec := "fnParseCount", inPlace := ["internal/bytealg.IndexByte"], unfollowed := true, recurses := true, named := ["strings.asciiSpace", "unicode/utf8.first", "unicode/utf8.acceptRanges", "unicode.White_Space"], apart := false, laid := [("unicode/utf8.acceptRanges", laid_unicode_utf8_acceptRanges), ("unicode.White_Space", laid_unicode_White_Space), ("strings.asciiSpace", laid_strings_asciiSpace), ("unicode/utf8.first", laid_unicode_utf8_first)] }
def FnParseCountSaid : Prop := fnParseCountRow.holds Tryd.pinned (OpenSpec.ofChange fnParseCountSpec)

/-- ITS FALSE NEIGHBOUR: 'it returns false'. Refute it at one input. -/
def fnParseCountWrong : ChangeSpec := { name := "fnParseCount", fn := fun _ => fun
  | [d] => { results := [.lit (.bool false)], args := [d] }
  | _ => none }
def FnParseCountWrongFalsely : Prop := fnParseCountRow.holds Tryd.pinned (OpenSpec.ofChange fnParseCountWrong)

/-- 'laws.FnParseEnds': WHATEVER THE INPUT: true; the input reads as it did. -/
def fnParseEndsSpec : ChangeSpec := { name := "fnParseEnds", fn := fun _ => fun
  | [d] => { results := [.lit (.bool true)], args := [d] }
  | _ => none }
def fnParseEndsRow : OpenClaim := { program := "ytapnkeonffbmoaadoor", sum := "2f03c8de6f1d579e7b97733edd4864fbfbf716e4ff3cd99910f6f391b605ec08", func := "loop.example/pub-textarchives/laws.FnParseEnds", spec := "fnParseEnds", inPlace := ["internal/bytealg.IndexByte"], unfollowed := true, recurses := true, named := ["strings.asciiSpace", "unicode/utf8.first", "unicode/utf8.acceptRanges", "unicode.White_Space"], apart := false, laid := [("unicode/utf8.acceptRanges", laid_unicode_utf8_acceptRanges), ("unicode.White_Space", laid_unicode_White_Space), ("strings.asciiSpace", laid_strings_asciiSpace), ("unicode/utf8.first", laid_unicode_utf8_first)] }
def FnParseEndsSaid : Prop := fnParseEndsRow.holds Tryd.pinned (OpenSpec.ofChange fnParseEndsSpec)

/-- ITS FALSE NEIGHBOUR: 'it returns false'. Refute it at one input. -/
def fnParseEndsWrong : ChangeSpec := { name := "fnParseEnds", fn := fun _ => fun
  | [d] => { results := [.lit (.bool false)], args := [d] }
  | _ => none }
def FnParseEndsWrongFalsely : Prop := fnParseEndsRow.holds Tryd.pinned (OpenSpec.ofChange fnParseEndsWrong)

/-- 'laws.FnParseJoin': WHATEVER THE INPUT: true; the input reads as it did. -/
def fnParseJoinSpec : ChangeSpec := { name := "fnParseJoin", fn := fun _ => fun
  | [d1, d2, d3] => { results := [.lit (.bool true)], args := [d1, d2, d3] }
  | _ => none }
def fnParseJoinRow : OpenClaim := { program := "ytapnkeonffbmoaadoor", sum := "2f03c8de6f1d579e7b97733edd4864fbfbf716e4ff3cd99910f6f391b605ec08", func := "loop.example/pub-textarchives/laws.FnParseJoin", spec := "fnParseJoin", inPlace := ["internal/bytealg.IndexByte"], unfollowed := true, recurses := true, named := ["strings.asciiSpace", "unicode/utf8.first", "unicode/utf8.acceptRanges", "unicode.White_Space"], apart := false, laid := [("unicode/utf8.acceptRanges", laid_unicode_utf8_acceptRanges), ("unicode.White_Space", laid_unicode_White_Space), ("strings.asciiSpace", laid_strings_asciiSpace), ("unicode/utf8.first", laid_unicode_utf8_first)] }
def FnParseJoinSaid : Prop := fnParseJoinRow.holds Tryd.pinned (OpenSpec.ofChange fnParseJoinSpec)

/-- ITS FALSE NEIGHBOUR: 'it returns false'. Refute it at one input. -/
def fnParseJoinWrong : ChangeSpec := { name := "fnParseJoin", fn := fun _ => fun
  | [d1, d2, d3] => { results := [.lit (.bool false)], args := [d1, d2, d3] }
  | _ => none }
def FnParseJoinWrongFalsely : Prop := fnParseJoinRow.holds Tryd.pinned (OpenSpec.ofChange fnParseJoinWrong)

/-- 'laws.FnParseLines': WHATEVER THE INPUT: true; the input reads as it did. -/
def fnParseLinesSpec : ChangeSpec := { name := "fnParseLines", fn := fun _ => fun
  | [d] => { results := [.lit (.bool true)], args := [d] }
  | _ => none }
def fnParseLinesRow : OpenClaim := { program := "ytapnkeonffbmoaadoor", sum := "2f03c8de6f1d579e7b97733edd4864fbfbf716e4ff3cd99910f6f391b605ec08", func := "loop.example/pub-textarchives/laws.FnParseLines", spec := "fnParseLines", inPlace := ["internal/bytealg.IndexByte"], unfollowed := true, recurses := true, named := ["strings.asciiSpace", "unicode/utf8.first", "unicode/utf8.acceptRanges", "unicode.White_Space"], apart := false, laid := [("unicode/utf8.acceptRanges", laid_unicode_utf8_acceptRanges), ("unicode.White_Space", laid_unicode_White_Space), ("strings.asciiSpace", laid_strings_asciiSpace), ("unicode/utf8.first", laid_unicode_utf8_first)] }
def FnParseLinesSaid : Prop := fnParseLinesRow.holds Tryd.pinned (OpenSpec.ofChange fnParseLinesSpec)

/-- ITS FALSE NEIGHBOUR: 'it returns false'. Refute it at one input. -/
def fnParseLinesWrong : ChangeSpec := { name := "fnParseLines", fn := fun _ => fun
  | [d] => { results := [.lit (.bool false)], args := [d] }
  | _ => none }
def FnParseLinesWrongFalsely : Prop := fnParseLinesRow.holds Tryd.pinned (OpenSpec.ofChange fnParseLinesWrong)

/- THE SECOND FORM. 'bulk': how many values and letters a reading holds, each counted each time it is reached (what is shared counts as often as it is met; a slice's spare places count too). A statement '..UptoSaid' is the law's where the arguments, and the package variables that the reading takes, are together of bulk at most 1048576: NARROWER than '..Said'. Prove '..Said' where nothing that the law and all that it calls make is longer than what came in: it says more and counts as full. Else prove '..UptoSaid'. A law counts once. -/
mutual
def uptoBulk {H : Type} : DataW H → Nat
  | .lit (.string bytes) => bytes.length + 1
  | .lit _ => 1
  | .nil => 1
  | .ptr d => uptoBulk d + 1
  | .slice elems spare => uptoBulkAll elems + uptoBulkAll spare + 1
  | .agg parts => uptoBulkAll parts + 1
  | .iface _ d => uptoBulk d + 1
  | .map entries => uptoBulkEntries entries + 1
  | .held _ => 1
def uptoBulkAll {H : Type} : List (DataW H) → Nat
  | [] => 0
  | d :: r => uptoBulk d + uptoBulkAll r
def uptoBulkEntries {H : Type} : List (Lit × DataW H) → Nat
  | [] => 0
  | x :: r => uptoBulkEntry x + uptoBulkEntries r
def uptoBulkEntry {H : Type} : Lit × DataW H → Nat
  | (.string bytes, d) => bytes.length + uptoBulk d + 1
  | (_, d) => uptoBulk d + 1
 end
def uptoSmall : (H : Type) → List (DataW H) → Bool := fun _ ds => decide (uptoBulkAll ds ≤ 1048576)
def OpenSpec.upto (s : _root_.Go.ChangeSpec) : _root_.Go.OpenSpec := { _root_.Go.OpenSpec.ofChange s with cond := some uptoSmall }

/-- 'laws.FnIsMarkerNot', WHERE WHAT IT READS IS OF BULK AT MOST 1048576: true; the input reads as it did. -/
def fnIsMarkerNotUptoRow : OpenClaim := { program := "ytapnkeonffbmoaadoor", sum := "2f03c8de6f1d579e7b97733edd4864fbfbf716e4ff3cd99910f6f391b605ec08", func := "loop.example/pub-textarchives/laws.FnIsMarkerNot", spec := "fnIsMarkerNot", inPlace := ["internal/bytealg.IndexByte"], unfollowed := true, recurses := true, named := ["strings.asciiSpace", "unicode/utf8.first", "unicode/utf8.acceptRanges", "unicode.White_Space"], apart := false, laid := [("unicode/utf8.acceptRanges", laid_unicode_utf8_acceptRanges), ("unicode.White_Space", laid_unicode_White_Space), ("strings.asciiSpace", laid_strings_asciiSpace), ("unicode/utf8.first", laid_unicode_utf8_first)], narrowed := true }
def FnIsMarkerNotUptoSaid : Prop := fnIsMarkerNotUptoRow.holds Tryd.pinned (OpenSpec.upto fnIsMarkerNotSpec)

/-- 'laws.FnExactFind', WHERE WHAT IT READS IS OF BULK AT MOST 1048576: true; the input reads as it did. -/
def fnExactFindUptoRow : OpenClaim := { program := "ytapnkeonffbmoaadoor", sum := "2f03c8de6f1d579e7b97733edd4864fbfbf716e4ff3cd99910f6f391b605ec08", func := "loop.example/pub-textarchives/laws.FnExactFind", spec := "fnExactFind", inPlace := ["internal/bytealg.IndexByte"], unfollowed := true, recurses := true, named := ["strings.asciiSpace", "unicode/utf8.first", "unicode/utf8.acceptRanges", "unicode.White_Space"], apart := false, laid := [("unicode/utf8.acceptRanges", laid_unicode_utf8_acceptRanges), ("unicode.White_Space", laid_unicode_White_Space), ("strings.asciiSpace", laid_strings_asciiSpace), ("unicode/utf8.first", laid_unicode_utf8_first)], narrowed := true }
def FnExactFindUptoSaid : Prop := fnExactFindUptoRow.holds Tryd.pinned (OpenSpec.upto fnExactFindSpec)

/-- 'laws.FnExactParse', WHERE WHAT IT READS IS OF BULK AT MOST 1048576: true; the input reads as it did. -/
def fnExactParseUptoRow : OpenClaim := { program := "ytapnkeonffbmoaadoor", sum := "2f03c8de6f1d579e7b97733edd4864fbfbf716e4ff3cd99910f6f391b605ec08", func := "loop.example/pub-textarchives/laws.FnExactParse", spec := "fnExactParse", inPlace := ["internal/bytealg.IndexByte"], unfollowed := true, recurses := true, named := ["strings.asciiSpace", "unicode/utf8.first", "unicode/utf8.acceptRanges", "unicode.White_Space"], apart := false, laid := [("unicode/utf8.acceptRanges", laid_unicode_utf8_acceptRanges), ("unicode.White_Space", laid_unicode_White_Space), ("strings.asciiSpace", laid_strings_asciiSpace), ("unicode/utf8.first", laid_unicode_utf8_first)], narrowed := true }
def FnExactParseUptoSaid : Prop := fnExactParseUptoRow.holds Tryd.pinned (OpenSpec.upto fnExactParseSpec)

/-- 'laws.FnParseComment', WHERE WHAT IT READS IS OF BULK AT MOST 1048576: true; the input reads as it did. -/
def fnParseCommentUptoRow : OpenClaim := { program := "ytapnkeonffbmoaadoor", sum := "2f03c8de6f1d579e7b97733edd4864fbfbf716e4ff3cd99910f6f391b605ec08", func := "loop.example/pub-textarchives/laws.FnParseComment", spec := "fnParseComment", inPlace := ["internal/bytealg.IndexByte"], unfollowed := true, recurses := true, named := ["strings.asciiSpace", "unicode/utf8.first", "unicode/utf8.acceptRanges", "unicode.White_Space"], apart := false, laid := [("unicode/utf8.acceptRanges", laid_unicode_utf8_acceptRanges), ("unicode.White_Space", laid_unicode_White_Space), ("strings.asciiSpace", laid_strings_asciiSpace), ("unicode/utf8.first", laid_unicode_utf8_first)], narrowed := true }
def FnParseCommentUptoSaid : Prop := fnParseCommentUptoRow.holds Tryd.pinned (OpenSpec.upto fnParseCommentSpec)

/-- 'laws.FnParseCount', WHERE WHAT IT READS IS OF BULK AT MOST 1048576: true; the input reads as it did. -/
def fnParseCountUptoRow : OpenClaim := { program := "ytapnkeonffbmoaadoor", sum := "2f03c8de6f1d579e7b97733edd4864fbfbf716e4ff3cd99910f6f391b605ec08", func := "loop.example/pub-textarchives/laws.FnParseCount", spec := "fnParseCount", inPlace := ["internal/bytealg.IndexByte"], unfollowed := true, recurses := true, named := ["strings.asciiSpace", "unicode/utf8.first", "unicode/utf8.acceptRanges", "unicode.White_Space"], apart := false, laid := [("unicode/utf8.acceptRanges", laid_unicode_utf8_acceptRanges), ("unicode.White_Space", laid_unicode_White_Space), ("strings.asciiSpace", laid_strings_asciiSpace), ("unicode/utf8.first", laid_unicode_utf8_first)], narrowed := true }
def FnParseCountUptoSaid : Prop := fnParseCountUptoRow.holds Tryd.pinned (OpenSpec.upto fnParseCountSpec)

/-- 'laws.FnParseEnds', WHERE WHAT IT READS IS OF BULK AT MOST 1048576: true; the input reads as it did. -/
def fnParseEndsUptoRow : OpenClaim := { program := "ytapnkeonffbmoaadoor", sum := "2f03c8de6f1d579e7b97733edd4864fbfbf716e4ff3cd99910f6f391b605ec08", func := "loop.example/pub-textarchives/laws.FnParseEnds", spec := "fnParseEnds", inPlace := ["internal/bytealg.IndexByte"], unfollowed := true, recurses := true, named := ["strings.asciiSpace", "unicode/utf8.first", "unicode/utf8.acceptRanges", "unicode.White_Space"], apart := false, laid := [("unicode/utf8.acceptRanges", laid_unicode_utf8_acceptRanges), ("unicode.White_Space", laid_unicode_White_Space), ("strings.asciiSpace", laid_strings_asciiSpace), ("unicode/utf8.first", laid_unicode_utf8_first)], narrowed := true }
def FnParseEndsUptoSaid : Prop := fnParseEndsUptoRow.holds Tryd.pinned (OpenSpec.upto fnParseEndsSpec)

/-- 'laws.FnParseJoin', WHERE WHAT IT READS IS OF BULK AT MOST 1048576: true; the input reads as it did. -/
def fnParseJoinUptoRow : OpenClaim := { program := "ytapnkeonffbmoaadoor", sum := "2f03c8de6f1d579e7b97733edd4864fbfbf716e4ff3cd99910f6f391b605ec08", func := "loop.example/pub-textarchives/laws.FnParseJoin", spec := "fnParseJoin", inPlace := ["internal/bytealg.IndexByte"], unfollowed := true, recurses := true, named := ["strings.asciiSpace", "unicode/utf8.first", "unicode/utf8.acceptRanges", "unicode.White_Space"], apart := false, laid := [("unicode/utf8.acceptRanges", laid_unicode_utf8_acceptRanges), ("unicode.White_Space", laid_unicode_White_Space), ("strings.asciiSpace", laid_strings_asciiSpace), ("unicode/utf8.first", laid_unicode_utf8_first)], narrowed := true }
def FnParseJoinUptoSaid : Prop := fnParseJoinUptoRow.holds Tryd.pinned (OpenSpec.upto fnParseJoinSpec)

/-- 'laws.FnParseLines', WHERE WHAT IT READS IS OF BULK AT MOST 1048576: true; the input reads as it did. -/
def fnParseLinesUptoRow : OpenClaim := { program := "ytapnkeonffbmoaadoor", sum := "2f03c8de6f1d579e7b97733edd4864fbfbf716e4ff3cd99910f6f391b605ec08", func := "loop.example/pub-textarchives/laws.FnParseLines", spec := "fnParseLines", inPlace := ["internal/bytealg.IndexByte"], unfollowed := true, recurses := true, named := ["strings.asciiSpace", "unicode/utf8.first", "unicode/utf8.acceptRanges", "unicode.White_Space"], apart := false, laid := [("unicode/utf8.acceptRanges", laid_unicode_utf8_acceptRanges), ("unicode.White_Space", laid_unicode_White_Space), ("strings.asciiSpace", laid_strings_asciiSpace), ("unicode/utf8.first", laid_unicode_utf8_first)], narrowed := true }
def FnParseLinesUptoSaid : Prop := fnParseLinesUptoRow.holds Tryd.pinned (OpenSpec.upto fnParseLinesSpec)

end Rows
end Go.Proofs.YtapnkeonffbmoaaDoor

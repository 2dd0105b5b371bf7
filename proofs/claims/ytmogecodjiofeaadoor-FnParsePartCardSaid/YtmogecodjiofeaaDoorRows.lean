/-
  NARROWER THAN 'FOR EVERY INPUT', by the rows' own cells (each row's printed sentence says how): FnParseMarker: laid · FnParseNames: laid · FnParseNewline: laid · FnParseNoMarker: laid · FnParsePart: laid · FnParseSize: laid · FnIsMarker: laid · FnFindParse: laid.
  DERIVED. THE GIVEN ROWS OF THIS SEAT. 8 by the template 'for every input the law returns true; each argument reads behind the call as it read before'; 0 by the template 'total and deterministic' (their statements: YtmogecodjiofeaaDoorTotals.lean).
  GIVEN WITH THE SEED: the statements are not yours to turn. If you find one false, say at which input.
  Laid BY PROGRAM, IN A SANDBOX (cutbox-rows.mjs): the forced cells as the released guide's own fill.sh prints them over the translation 0ffbed16aa5f0574… (all of the seat's roots in one cut). By AI agents, Wed Nov 11 2026. No macro, syntax, notation, axiom, sorry.
-/
import Derived.Test.YtmogecodjiofeaaDoorChecked
import GoSem.PinnedTables
import GoSem.Claim
import GoSem.ClaimJoined
import GoSem.ClaimMapViews
import Derived.JoinedTies
import Derived.KernelRfl
namespace Go.Proofs.YtmogecodjiofeaaDoor
/- THE CELL 'sum', in the pinned program and in every row, IS THE sha256 OF THE DUMP (.gsa) THAT YtmogecodjiofeaaDoorProg.lean LOADS. Nothing in Lean hashes anything: it is a label: what it is worth is what the hold of that sum in a sandbox is worth. -/
noncomputable def Tryd.pinned : Pinned := { name := "ytmogecodjiofeaadoor", sum := "0ffbed16aa5f0574235b9674469ec416c33dbd451f87de1e2d70fac1798b67a4", checked := Tryd.checked }
namespace Rows
def none {H : Type} : Left H := { results := [], args := [] }

/- WHAT THE LISTED PACKAGE-LEVEL VARIABLES READ AS WHEN THE CALL BEGINS. Each datum BY PROGRAM (the guide's laid-datum.mjs) off the statement by which the dump's own 'gosem.cut.vars' lays the variable. In a bare row this is a premise. The card (YtmogecodjiofeaaDoorCards.lean) ties it to the program's text. -/
def laid_unicode_utf8_acceptRanges {H : Type} : DataW H := .agg [.agg [.lit (.int .u8 128), .lit (.int .u8 191)], .agg [.lit (.int .u8 160), .lit (.int .u8 191)], .agg [.lit (.int .u8 128), .lit (.int .u8 159)], .agg [.lit (.int .u8 144), .lit (.int .u8 191)], .agg [.lit (.int .u8 128), .lit (.int .u8 143)], .agg [.lit (.int .u8 0), .lit (.int .u8 0)], .agg [.lit (.int .u8 0), .lit (.int .u8 0)], .agg [.lit (.int .u8 0), .lit (.int .u8 0)], .agg [.lit (.int .u8 0), .lit (.int .u8 0)], .agg [.lit (.int .u8 0), .lit (.int .u8 0)], .agg [.lit (.int .u8 0), .lit (.int .u8 0)], .agg [.lit (.int .u8 0), .lit (.int .u8 0)], .agg [.lit (.int .u8 0), .lit (.int .u8 0)], .agg [.lit (.int .u8 0), .lit (.int .u8 0)], .agg [.lit (.int .u8 0), .lit (.int .u8 0)], .agg [.lit (.int .u8 0), .lit (.int .u8 0)]]
def laid_unicode_White_Space {H : Type} : DataW H := .ptr (.agg [.slice [.agg [.lit (.int .u16 9), .lit (.int .u16 13), .lit (.int .u16 1)], .agg [.lit (.int .u16 32), .lit (.int .u16 133), .lit (.int .u16 101)], .agg [.lit (.int .u16 160), .lit (.int .u16 5760), .lit (.int .u16 5600)], .agg [.lit (.int .u16 8192), .lit (.int .u16 8202), .lit (.int .u16 1)], .agg [.lit (.int .u16 8232), .lit (.int .u16 8233), .lit (.int .u16 1)], .agg [.lit (.int .u16 8239), .lit (.int .u16 8287), .lit (.int .u16 48)], .agg [.lit (.int .u16 12288), .lit (.int .u16 12288), .lit (.int .u16 1)]] [], .nil, .lit (.int .i64 2)])
def laid_strings_asciiSpace {H : Type} : DataW H := .agg [.lit (.int .u8 0), .lit (.int .u8 0), .lit (.int .u8 0), .lit (.int .u8 0), .lit (.int .u8 0), .lit (.int .u8 0), .lit (.int .u8 0), .lit (.int .u8 0), .lit (.int .u8 0), .lit (.int .u8 1), .lit (.int .u8 1), .lit (.int .u8 1), .lit (.int .u8 1), .lit (.int .u8 1), .lit (.int .u8 0), .lit (.int .u8 0), .lit (.int .u8 0), .lit (.int .u8 0), .lit (.int .u8 0), .lit (.int .u8 0), .lit (.int .u8 0), .lit (.int .u8 0), .lit (.int .u8 0), .lit (.int .u8 0), .lit (.int .u8 0), .lit (.int .u8 0), .lit (.int .u8 0), .lit (.int .u8 0), .lit (.int .u8 0), .lit (.int .u8 0), .lit (.int .u8 0), .lit (.int .u8 0), .lit (.int .u8 1), .lit (.int .u8 0), .lit (.int .u8 0), .lit (.int .u8 0), .lit (.int .u8 0), .lit (.int .u8 0), .lit (.int .u8 0), .lit (.int .u8 0), .lit (.int .u8 0), .lit (.int .u8 0), .lit (.int .u8 0), .lit (.int .u8 0), .lit (.int .u8 0), .lit (.int .u8 0), .lit (.int .u8 0), .lit (.int .u8 0), .lit (.int .u8 0), .lit (.int .u8 0), .lit (.int .u8 0), .lit (.int .u8 0), .lit (.int .u8 0), .lit (.int .u8 0), .lit (.int .u8 0), .lit (.int .u8 0), .lit (.int .u8 0), .lit (.int .u8 0), .lit (.int .u8 0), .lit (.int .u8 0), .lit (.int .u8 0), .lit (.int .u8 0), .lit (.int .u8 0), .lit (.int .u8 0), .lit (.int .u8 0), .lit (.int .u8 0), .lit (.int .u8 0), .lit (.int .u8 0), .lit (.int .u8 0), .lit (.int .u8 0), .lit (.int .u8 0), .lit (.int .u8 0), .lit (.int .u8 0), .lit (.int .u8 0), .lit (.int .u8 0), .lit (.int .u8 0), .lit (.int .u8 0), .lit (.int .u8 0), .lit (.int .u8 0), .lit (.int .u8 0), .lit (.int .u8 0), .lit (.int .u8 0), .lit (.int .u8 0), .lit (.int .u8 0), .lit (.int .u8 0), .lit (.int .u8 0), .lit (.int .u8 0), .lit (.int .u8 0), .lit (.int .u8 0), .lit (.int .u8 0), .lit (.int .u8 0), .lit (.int .u8 0), .lit (.int .u8 0), .lit (.int .u8 0), .lit (.int .u8 0), .lit (.int .u8 0), .lit (.int .u8 0), .lit (.int .u8 0), .lit (.int .u8 0), .lit (.int .u8 0), .lit (.int .u8 0), .lit (.int .u8 0), .lit (.int .u8 0), .lit (.int .u8 0), .lit (.int .u8 0), .lit (.int .u8 0), .lit (.int .u8 0), .lit (.int .u8 0), .lit (.int .u8 0), .lit (.int .u8 0), .lit (.int .u8 0), .lit (.int .u8 0), .lit (.int .u8 0), .lit (.int .u8 0), .lit (.int .u8 0), .lit (.int .u8 0), .lit (.int .u8 0), .lit (.int .u8 0), .lit (.int .u8 0), .lit (.int .u8 0), .lit (.int .u8 0), .lit (.int .u8 0), .lit (.int .u8 0), .lit (.int .u8 0), .lit (.int .u8 0), .lit (.int .u8 0), .lit (.int .u8 0), .lit (.int .u8 0), .lit (.int .u8 0), .lit (.int .u8 0), .lit (.int .u8 0), .lit (.int .u8 0), .lit (.int .u8 0), .lit (.int .u8 0), .lit (.int .u8 0), .lit (.int .u8 0), .lit (.int .u8 0), .lit (.int .u8 0), .lit (.int .u8 0), .lit (.int .u8 0), .lit (.int .u8 0), .lit (.int .u8 0), .lit (.int .u8 0), .lit (.int .u8 0), .lit (.int .u8 0), .lit (.int .u8 0), .lit (.int .u8 0), .lit (.int .u8 0), .lit (.int .u8 0), .lit (.int .u8 0), .lit (.int .u8 0), .lit (.int .u8 0), .lit (.int .u8 0), .lit (.int .u8 0), .lit (.int .u8 0), .lit (.int .u8 0), .lit (.int .u8 0), .lit (.int .u8 0), .lit (.int .u8 0), .lit (.int .u8 0), .lit (.int .u8 0), .lit (.int .u8 0), .lit (.int .u8 0), .lit (.int .u8 0), .lit (.int .u8 0), .lit (.int .u8 0), .lit (.int .u8 0), .lit (.int .u8 0), .lit (.int .u8 0), .lit (.int .u8 0), .lit (.int .u8 0), .lit (.int .u8 0), .lit (.int .u8 0), .lit (.int .u8 0), .lit (.int .u8 0), .lit (.int .u8 0), .lit (.int .u8 0), .lit (.int .u8 0), .lit (.int .u8 0), .lit (.int .u8 0), .lit (.int .u8 0), .lit (.int .u8 0), .lit (.int .u8 0), .lit (.int .u8 0), .lit (.int .u8 0), .lit (.int .u8 0), .lit (.int .u8 0), .lit (.int .u8 0), .lit (.int .u8 0), .lit (.int .u8 0), .lit (.int .u8 0), .lit (.int .u8 0), .lit (.int .u8 0), .lit (.int .u8 0), .lit (.int .u8 0), .lit (.int .u8 0), .lit (.int .u8 0), .lit (.int .u8 0), .lit (.int .u8 0), .lit (.int .u8 0), .lit (.int .u8 0), .lit (.int .u8 0), .lit (.int .u8 0), .lit (.int .u8 0), .lit (.int .u8 0), .lit (.int .u8 0), .lit (.int .u8 0), .lit (.int .u8 0), .lit (.int .u8 0), .lit (.int .u8 0), .lit (.int .u8 0), .lit (.int .u8 0), .lit (.int .u8 0), .lit (.int .u8 0), .lit (.int .u8 0), .lit (.int .u8 0), .lit (.int .u8 0), .lit (.int .u8 0), .lit (.int .u8 0), .lit (.int .u8 0), .lit (.int .u8 0), .lit (.int .u8 0), .lit (.int .u8 0), .lit (.int .u8 0), .lit (.int .u8 0), .lit (.int .u8 0), .lit (.int .u8 0), .lit (.int .u8 0), .lit (.int .u8 0), .lit (.int .u8 0), .lit (.int .u8 0), .lit (.int .u8 0), .lit (.int .u8 0), .lit (.int .u8 0), .lit (.int .u8 0), .lit (.int .u8 0), .lit (.int .u8 0), .lit (.int .u8 0), .lit (.int .u8 0), .lit (.int .u8 0), .lit (.int .u8 0), .lit (.int .u8 0), .lit (.int .u8 0), .lit (.int .u8 0), .lit (.int .u8 0), .lit (.int .u8 0), .lit (.int .u8 0), .lit (.int .u8 0), .lit (.int .u8 0), .lit (.int .u8 0), .lit (.int .u8 0), .lit (.int .u8 0), .lit (.int .u8 0), .lit (.int .u8 0), .lit (.int .u8 0), .lit (.int .u8 0)]
/-- One of Go's own tables, pinned by name: the form's constant. -/
def laid_unicode_utf8_first : DataW Unit := Go.Pinned.utf8First

/-- 'laws.FnParseMarker': WHATEVER THE INPUT: true; the input reads as it did. -/
def fnParseMarkerSpec : ChangeSpec := { name := "fnParseMarker", fn := fun _ => fun
  | [d1, d2, d3, d4] => { results := [.lit (.bool true)], args := [d1, d2, d3, d4] }
  | _ => none }
def fnParseMarkerRow : OpenClaim := { program := "ytmogecodjiofeaadoor", sum := "0ffbed16aa5f0574235b9674469ec416c33dbd451f87de1e2d70fac1798b67a4", func := "loop.example/pub-textarchives/laws.FnParseMarker", spec := "fnParseMarker", inPlace := ["internal/bytealg.IndexByte"], unfollowed := true, recurses := true, named := ["strings.asciiSpace", "unicode/utf8.first", "unicode/utf8.acceptRanges", "unicode.White_Space"], apart := false, laid := [("unicode/utf8.acceptRanges", laid_unicode_utf8_acceptRanges), ("unicode.White_Space", laid_unicode_White_Space), ("strings.asciiSpace", laid_strings_asciiSpace), ("unicode/utf8.first", laid_unicode_utf8_first)] }
def FnParseMarkerSaid : Prop := fnParseMarkerRow.holds Tryd.pinned (OpenSpec.ofChange fnParseMarkerSpec)

/-- ITS FALSE NEIGHBOUR: 'it returns false'. Refute it at one input. -/
def fnParseMarkerWrong : ChangeSpec := { name := "fnParseMarker", fn := fun _ => fun
  | [d1, d2, d3, d4] => { results := [.lit (.bool false)], args := [d1, d2, d3, d4] }
  | _ => none }
def FnParseMarkerWrongFalsely : Prop := fnParseMarkerRow.holds Tryd.pinned (OpenSpec.ofChange fnParseMarkerWrong)

/-- 'laws.FnParseNames': WHATEVER THE INPUT: true; the input reads as it did. -/
def fnParseNamesSpec : ChangeSpec := { name := "fnParseNames", fn := fun _ => fun
  | [d] => { results := [.lit (.bool true)], args := [d] }
  | _ => none }
def fnParseNamesRow : OpenClaim := { program := "ytmogecodjiofeaadoor", sum := "0ffbed16aa5f0574235b9674469ec416c33dbd451f87de1e2d70fac1798b67a4", func := "loop.example/pub-textarchives/laws.FnParseNames", spec := "fnParseNames", inPlace := ["internal/bytealg.IndexByte"], unfollowed := true, recurses := true, named := ["strings.asciiSpace", "unicode/utf8.first", "unicode/utf8.acceptRanges", "unicode.White_Space"], apart := false, laid := [("unicode/utf8.acceptRanges", laid_unicode_utf8_acceptRanges), ("unicode.White_Space", laid_unicode_White_Space), ("strings.asciiSpace", laid_strings_asciiSpace), ("unicode/utf8.first", laid_unicode_utf8_first)] }
def FnParseNamesSaid : Prop := fnParseNamesRow.holds Tryd.pinned (OpenSpec.ofChange fnParseNamesSpec)

/-- ITS FALSE NEIGHBOUR: 'it returns false'. Refute it at one input. -/
def fnParseNamesWrong : ChangeSpec := { name := "fnParseNames", fn := fun _ => fun
  | [d] => { results := [.lit (.bool false)], args := [d] }
  | _ => none }
def FnParseNamesWrongFalsely : Prop := fnParseNamesRow.holds Tryd.pinned (OpenSpec.ofChange fnParseNamesWrong)

/-- 'laws.FnParseNewline': WHATEVER THE INPUT: true; the input reads as it did. -/
def fnParseNewlineSpec : ChangeSpec := { name := "fnParseNewline", fn := fun _ => fun
  | [d] => { results := [.lit (.bool true)], args := [d] }
  | _ => none }
def fnParseNewlineRow : OpenClaim := { program := "ytmogecodjiofeaadoor", sum := "0ffbed16aa5f0574235b9674469ec416c33dbd451f87de1e2d70fac1798b67a4", func := "loop.example/pub-textarchives/laws.FnParseNewline", spec := "fnParseNewline", inPlace := ["internal/bytealg.IndexByte"], unfollowed := true, recurses := true, named := ["strings.asciiSpace", "unicode/utf8.first", "unicode/utf8.acceptRanges", "unicode.White_Space"], apart := false, laid := [("unicode/utf8.acceptRanges", laid_unicode_utf8_acceptRanges), ("unicode.White_Space", laid_unicode_White_Space), ("strings.asciiSpace", laid_strings_asciiSpace), ("unicode/utf8.first", laid_unicode_utf8_first)] }
def FnParseNewlineSaid : Prop := fnParseNewlineRow.holds Tryd.pinned (OpenSpec.ofChange fnParseNewlineSpec)

/-- ITS FALSE NEIGHBOUR: 'it returns false'. Refute it at one input. -/
def fnParseNewlineWrong : ChangeSpec := { name := "fnParseNewline", fn := fun _ => fun
  | [d] => { results := [.lit (.bool false)], args := [d] }
  | _ => none }
def FnParseNewlineWrongFalsely : Prop := fnParseNewlineRow.holds Tryd.pinned (OpenSpec.ofChange fnParseNewlineWrong)

/-- 'laws.FnParseNoMarker': WHATEVER THE INPUT: true; the input reads as it did. -/
def fnParseNoMarkerSpec : ChangeSpec := { name := "fnParseNoMarker", fn := fun _ => fun
  | [d] => { results := [.lit (.bool true)], args := [d] }
  | _ => none }
def fnParseNoMarkerRow : OpenClaim := { program := "ytmogecodjiofeaadoor", sum := "0ffbed16aa5f0574235b9674469ec416c33dbd451f87de1e2d70fac1798b67a4", func := "loop.example/pub-textarchives/laws.FnParseNoMarker", spec := "fnParseNoMarker", inPlace := ["internal/bytealg.IndexByte"], unfollowed := true, recurses := true, named := ["strings.asciiSpace", "unicode/utf8.first", "unicode/utf8.acceptRanges", "unicode.White_Space"], apart := false, laid := [("unicode/utf8.acceptRanges", laid_unicode_utf8_acceptRanges), ("unicode.White_Space", laid_unicode_White_Space), ("strings.asciiSpace", laid_strings_asciiSpace), ("unicode/utf8.first", laid_unicode_utf8_first)] }
def FnParseNoMarkerSaid : Prop := fnParseNoMarkerRow.holds Tryd.pinned (OpenSpec.ofChange fnParseNoMarkerSpec)

/-- ITS FALSE NEIGHBOUR: 'it returns false'. Refute it at one input. -/
def fnParseNoMarkerWrong : ChangeSpec := { name := "fnParseNoMarker", fn := fun _ => fun
  | [d] => { results := [.lit (.bool false)], args := [d] }
  | _ => none }
def FnParseNoMarkerWrongFalsely : Prop := fnParseNoMarkerRow.holds Tryd.pinned (OpenSpec.ofChange fnParseNoMarkerWrong)

/-- 'laws.FnParsePart': WHATEVER THE INPUT: true; the input reads as it did. -/
def fnParsePartSpec : ChangeSpec := { name := "fnParsePart", fn := fun _ => fun
  | [d1, d2] => { results := [.lit (.bool true)], args := [d1, d2] }
  | _ => none }
def fnParsePartRow : OpenClaim := { program := "ytmogecodjiofeaadoor", sum := "0ffbed16aa5f0574235b9674469ec416c33dbd451f87de1e2d70fac1798b67a4", func := "loop.example/pub-textarchives/laws.FnParsePart", spec := "fnParsePart", inPlace := ["internal/bytealg.IndexByte"], unfollowed := true, recurses := true, named := ["strings.asciiSpace", "unicode/utf8.first", "unicode/utf8.acceptRanges", "unicode.White_Space"], apart := false, laid := [("unicode/utf8.acceptRanges", laid_unicode_utf8_acceptRanges), ("unicode.White_Space", laid_unicode_White_Space), ("strings.asciiSpace", laid_strings_asciiSpace), ("unicode/utf8.first", laid_unicode_utf8_first)] }
def FnParsePartSaid : Prop := fnParsePartRow.holds Tryd.pinned (OpenSpec.ofChange fnParsePartSpec)

/-- ITS FALSE NEIGHBOUR: 'it returns false'. Refute it at one input. -/
def fnParsePartWrong : ChangeSpec := { name := "fnParsePart", fn := fun _ => fun
  | [d1, d2] => { results := [.lit (.bool false)], args := [d1, d2] }
  | _ => none }
def FnParsePartWrongFalsely : Prop := fnParsePartRow.holds Tryd.pinned (OpenSpec.ofChange fnParsePartWrong)

/-- 'laws.FnParseSize': WHATEVER THE INPUT: true; the input reads as it did. -/
def fnParseSizeSpec : ChangeSpec := { name := "fnParseSize", fn := fun _ => fun
  | [d] => { results := [.lit (.bool true)], args := [d] }
  | _ => none }
def fnParseSizeRow : OpenClaim := { program := "ytmogecodjiofeaadoor", sum := "0ffbed16aa5f0574235b9674469ec416c33dbd451f87de1e2d70fac1798b67a4", func := "loop.example/pub-textarchives/laws.FnParseSize", spec := "fnParseSize", inPlace := ["internal/bytealg.IndexByte"], unfollowed := true, recurses := true, named := ["strings.asciiSpace", "unicode/utf8.first", "unicode/utf8.acceptRanges", "unicode.White_Space"], apart := false, laid := [("unicode/utf8.acceptRanges", laid_unicode_utf8_acceptRanges), ("unicode.White_Space", laid_unicode_White_Space), ("strings.asciiSpace", laid_strings_asciiSpace), ("unicode/utf8.first", laid_unicode_utf8_first)] }
def FnParseSizeSaid : Prop := fnParseSizeRow.holds Tryd.pinned (OpenSpec.ofChange fnParseSizeSpec)

/-- ITS FALSE NEIGHBOUR: 'it returns false'. Refute it at one input. -/
def fnParseSizeWrong : ChangeSpec := { name := "fnParseSize", fn := fun _ => fun
  | [d] => { results := [.lit (.bool false)], args := [d] }
  | _ => none }
def FnParseSizeWrongFalsely : Prop := fnParseSizeRow.holds Tryd.pinned (OpenSpec.ofChange fnParseSizeWrong)

/-- 'laws.FnIsMarker': WHATEVER THE INPUT: true; the input reads as it did. -/
def fnIsMarkerSpec : ChangeSpec := { name := "fnIsMarker", fn := fun _ => fun
  | [d1, d2, d3, d4] => { results := [.lit (.bool true)], args := [d1, d2, d3, d4] }
  | _ => none }
def fnIsMarkerRow : OpenClaim := { program := "ytmogecodjiofeaadoor", sum := "0ffbed16aa5f0574235b9674469ec416c33dbd451f87de1e2d70fac1798b67a4", func := "loop.example/pub-textarchives/laws.FnIsMarker", spec := "fnIsMarker", inPlace := ["internal/bytealg.IndexByte"], unfollowed := true, recurses := true, named := ["strings.asciiSpace", "unicode/utf8.first", "unicode/utf8.acceptRanges", "unicode.White_Space"], apart := false, laid := [("unicode/utf8.acceptRanges", laid_unicode_utf8_acceptRanges), ("unicode.White_Space", laid_unicode_White_Space), ("strings.asciiSpace", laid_strings_asciiSpace), ("unicode/utf8.first", laid_unicode_utf8_first)] }
def FnIsMarkerSaid : Prop := fnIsMarkerRow.holds Tryd.pinned (OpenSpec.ofChange fnIsMarkerSpec)

/-- ITS FALSE NEIGHBOUR: 'it returns false'. Refute it at one input. -/
def fnIsMarkerWrong : ChangeSpec := { name := "fnIsMarker", fn := fun _ => fun
  | [d1, d2, d3, d4] => { results := [.lit (.bool false)], args := [d1, d2, d3, d4] }
  | _ => none }
def FnIsMarkerWrongFalsely : Prop := fnIsMarkerRow.holds Tryd.pinned (OpenSpec.ofChange fnIsMarkerWrong)

/-- 'laws.FnFindParse': WHATEVER THE INPUT: true; the input reads as it did. -/
def fnFindParseSpec : ChangeSpec := { name := "fnFindParse", fn := fun _ => fun
  | [d] => { results := [.lit (.bool true)], args := [d] }
  | _ => none }
def fnFindParseRow : OpenClaim := { program := "ytmogecodjiofeaadoor", sum := "0ffbed16aa5f0574235b9674469ec416c33dbd451f87de1e2d70fac1798b67a4", func := "loop.example/pub-textarchives/laws.FnFindParse", spec := "fnFindParse", inPlace := ["internal/bytealg.IndexByte"], unfollowed := true, recurses := true, named := ["strings.asciiSpace", "unicode/utf8.first", "unicode/utf8.acceptRanges", "unicode.White_Space"], apart := false, laid := [("unicode/utf8.acceptRanges", laid_unicode_utf8_acceptRanges), ("unicode.White_Space", laid_unicode_White_Space), ("strings.asciiSpace", laid_strings_asciiSpace), ("unicode/utf8.first", laid_unicode_utf8_first)] }
def FnFindParseSaid : Prop := fnFindParseRow.holds Tryd.pinned (OpenSpec.ofChange fnFindParseSpec)

/-- ITS FALSE NEIGHBOUR: 'it returns false'. Refute it at one input. -/
def fnFindParseWrong : ChangeSpec := { name := "fnFindParse", fn := fun _ => fun
  | [d] => { results := [.lit (.bool false)], args := [d] }
  | _ => none }
def FnFindParseWrongFalsely : Prop := fnFindParseRow.holds Tryd.pinned (OpenSpec.ofChange fnFindParseWrong)

/- THE SECOND FORM. 'bulk': how many values and letters a reading holds, each counted each time it is reached (what is shared counts as often as it is met; a slice's spare places count too). A statement '..UptoSaid' is the law's where the arguments, and the package variables that the reading takes, are together of bulk at most 1048576: NARROWER than '..Said'. Prove '..Said' where nothing that the law and all that it calls make is longer than what came in: it says more and counts as full. Else prove '..UptoSaid'. A law counts once. -/
mutual
def uptoBulk {H : Type} : DataW H → Nat
  | .lit (.string bytes) => bytes.length + 1
  | .lit _ => 1
  | .nil => 1
  | .ptr d => uptoBulk d + 1
  | .slice elems spare => uptoBulkAll elems + uptoBulkAll spare + 1
  | .agg parts => uptoBulkAll parts + 1
  | .iface _ d => uptoBulk d + 1
  | .map entries => uptoBulkEntries entries + 1
  | .held _ => 1
def uptoBulkAll {H : Type} : List (DataW H) → Nat
  | [] => 0
  | d :: r => uptoBulk d + uptoBulkAll r
def uptoBulkEntries {H : Type} : List (Lit × DataW H) → Nat
  | [] => 0
  | x :: r => uptoBulkEntry x + uptoBulkEntries r
def uptoBulkEntry {H : Type} : Lit × DataW H → Nat
  | (.string bytes, d) => bytes.length + uptoBulk d + 1
  | (_, d) => uptoBulk d + 1
 end
def uptoSmall : (H : Type) → List (DataW H) → Bool := fun _ ds => decide (uptoBulkAll ds ≤ 1048576)
def OpenSpec.upto (s : _root_.Go.ChangeSpec) : _root_.Go.OpenSpec := { _root_.Go.OpenSpec.ofChange s with cond := some uptoSmall }

/-- 'laws.FnParseMarker', WHERE WHAT IT READS IS OF BULK AT MOST 1048576: true; the input reads as it did. -/
def fnParseMarkerUptoRow : OpenClaim := { program := "ytmogecodjiofeaadoor", sum := "0ffbed16aa5f0574235b9674469ec416c33dbd451f87de1e2d70fac1798b67a4", func := "loop.example/pub-textarchives/laws.FnParseMarker", spec := "fnParseMarker", inPlace := ["internal/bytealg.IndexByte"], unfollowed := true, recurses := true, named := ["strings.asciiSpace", "unicode/utf8.first", "unicode/utf8.acceptRanges", "unicode.White_Space"], apart := false, laid := [("unicode/utf8.acceptRanges", laid_unicode_utf8_acceptRanges), ("unicode.White_Space", laid_unicode_White_Space), ("strings.asciiSpace", laid_strings_asciiSpace), ("unicode/utf8.first", laid_unicode_utf8_first)], narrowed := true }
def FnParseMarkerUptoSaid : Prop := fnParseMarkerUptoRow.holds Tryd.pinned (OpenSpec.upto fnParseMarkerSpec)

/-- 'laws.FnParseNames', WHERE WHAT IT READS IS OF BULK AT MOST 1048576: true; the input reads as it did. -/
def fnParseNamesUptoRow : OpenClaim := { program := "ytmogecodjiofeaadoor", sum := "0ffbed16aa5f0574235b9674469ec416c33dbd451f87de1e2d70fac1798b67a4", func := "loop.example/pub-textarchives/laws.FnParseNames", spec := "fnParseNames", inPlace := ["internal/bytealg.IndexByte"], unfollowed := true, recurses := true, named := ["strings.asciiSpace", "unicode/utf8.first", "unicode/utf8.acceptRanges", "unicode.White_Space"], apart := false, laid := [("unicode/utf8.acceptRanges", laid_unicode_utf8_acceptRanges), ("unicode.White_Space", laid_unicode_White_Space), ("strings.asciiSpace", laid_strings_asciiSpace), ("unicode/utf8.first", laid_unicode_utf8_first)], narrowed := true }
def FnParseNamesUptoSaid : Prop := fnParseNamesUptoRow.holds Tryd.pinned (OpenSpec.upto fnParseNamesSpec)

/-- 'laws.FnParseNewline', WHERE WHAT IT READS IS OF BULK AT MOST 1048576: true; the input reads as it did. -/
def fnParseNewlineUptoRow : OpenClaim := { program := "ytmogecodjiofeaadoor", sum := "0ffbed16aa5f0574235b9674469ec416c33dbd451f87de1e2d70fac1798b67a4", func := "loop.example/pub-textarchives/laws.FnParseNewline", spec := "fnParseNewline", inPlace := ["internal/bytealg.IndexByte"], unfollowed := true, recurses := true, named := ["strings.asciiSpace", "unicode/utf8.first", "unicode/utf8.acceptRanges", "unicode.White_Space"], apart := false, laid := [("unicode/utf8.acceptRanges", laid_unicode_utf8_acceptRanges), ("unicode.White_Space", laid_unicode_White_Space), ("strings.asciiSpace", laid_strings_asciiSpace), ("unicode/utf8.first", laid_unicode_utf8_first)], narrowed := true }
def FnParseNewlineUptoSaid : Prop := fnParseNewlineUptoRow.holds Tryd.pinned (OpenSpec.upto fnParseNewlineSpec)

/-- 'laws.FnParseNoMarker', WHERE WHAT IT READS IS OF BULK AT MOST 1048576: true; the input reads as it did. -/
def fnParseNoMarkerUptoRow : OpenClaim := { program := "ytmogecodjiofeaadoor", sum := "0ffbed16aa5f0574235b9674469ec416c33dbd451f87de1e2d70fac1798b67a4", func := "loop.example/pub-textarchives/laws.FnParseNoMarker", spec := "fnParseNoMarker", inPlace := ["internal/bytealg.IndexByte"], unfollowed := true, recurses := true, named := ["strings.asciiSpace", "unicode/utf8.first", "unicode/utf8.acceptRanges", "unicode.White_Space"], apart := false, laid := [("unicode/utf8.acceptRanges", laid_unicode_utf8_acceptRanges), ("unicode.White_Space", laid_unicode_White_Space), ("strings.asciiSpace", laid_strings_asciiSpace), ("unicode/utf8.first", laid_unicode_utf8_first)], narrowed := true }
def FnParseNoMarkerUptoSaid : Prop := fnParseNoMarkerUptoRow.holds Tryd.pinned (OpenSpec.upto fnParseNoMarkerSpec)

/-- 'laws.FnParsePart', WHERE WHAT IT READS IS OF BULK AT MOST 1048576: true; the input reads as it did. -/
def fnParsePartUptoRow : OpenClaim := { program := "ytmogecodjiofeaadoor", sum := "0ffbed16aa5f0574235b9674469ec416c33dbd451f87de1e2d70fac1798b67a4", func := "loop.example/pub-textarchives/laws.FnParsePart", spec := "fnParsePart", inPlace := ["internal/bytealg.IndexByte"], unfollowed := true, recurses := true, named := ["strings.asciiSpace", "unicode/utf8.first", "unicode/utf8.acceptRanges", "unicode.White_Space"], apart := false, laid := [("unicode/utf8.acceptRanges", laid_unicode_utf8_acceptRanges), ("unicode.White_Space", laid_unicode_White_Space), ("strings.asciiSpace", laid_strings_asciiSpace), ("unicode/utf8.first", laid_unicode_utf8_first)], narrowed := true }
def FnParsePartUptoSaid : Prop := fnParsePartUptoRow.holds Tryd.pinned (OpenSpec.upto fnParsePartSpec)

/-- 'laws.FnParseSize', WHERE WHAT IT READS IS OF BULK AT MOST 1048576: true; the input reads as it did. -/
def fnParseSizeUptoRow : OpenClaim := { program := "ytmogecodjiofeaadoor", sum := "0ffbed16aa5f0574235b9674469ec416c33dbd451f87de1e2d70fac1798b67a4", func := "loop.example/pub-textarchives/laws.FnParseSize", spec := "fnParseSize", inPlace := ["internal/bytealg.IndexByte"], unfollowed := true, recurses := true, named := ["strings.asciiSpace", "unicode/utf8.first", "unicode/utf8.acceptRanges", "unicode.White_Space"], apart := false, laid := [("unicode/utf8.acceptRanges", laid_unicode_utf8_acceptRanges), ("unicode.White_Space", laid_unicode_White_Space), ("strings.asciiSpace", laid_strings_asciiSpace), ("unicode/utf8.first", laid_unicode_utf8_first)], narrowed := true }
def FnParseSizeUptoSaid : Prop := fnParseSizeUptoRow.holds Tryd.pinned (OpenSpec.upto fnParseSizeSpec)

/-- 'laws.FnIsMarker', WHERE WHAT IT READS IS OF BULK AT MOST 1048576: true; the input reads as it did. -/
def fnIsMarkerUptoRow : OpenClaim := { program := "ytmogecodjiofeaadoor", sum := "0ffbed16aa5f0574235b9674469ec416c33dbd451f87de1e2d70fac1798b67a4", func := "loop.example/pub-textarchives/laws.FnIsMarker", spec := "fnIsMarker", inPlace := ["internal/bytealg.IndexByte"], unfollowed := true, recurses := true, named := ["strings.asciiSpace", "unicode/utf8.first", "unicode/utf8.acceptRanges", "unicode.White_Space"], apart := false, laid := [("unicode/utf8.acceptRanges", laid_unicode_utf8_acceptRanges), ("unicode.White_Space", laid_unicode_White_Space), ("strings.asciiSpace", laid_strings_asciiSpace), ("unicode/utf8.first", laid_unicode_utf8_first)], narrowed := true }
def FnIsMarkerUptoSaid : Prop := fnIsMarkerUptoRow.holds Tryd.pinned (OpenSpec.upto fnIsMarkerSpec)

/-- 'laws.FnFindParse', WHERE WHAT IT READS IS OF BULK AT MOST 1048576: true; the input reads as it did. -/
def fnFindParseUptoRow : OpenClaim := { program := "ytmogecodjiofeaadoor", sum := "0ffbed16aa5f0574235b9674469ec416c33dbd451f87de1e2d70fac1798b67a4", func := "loop.example/pub-textarchives/laws.FnFindParse", spec := "fnFindParse", inPlace := ["internal/bytealg.IndexByte"], unfollowed := true, recurses := true, named := ["strings.asciiSpace", "unicode/utf8.first", "unicode/utf8.acceptRanges", "unicode.White_Space"], apart := false, laid := [("unicode/utf8.acceptRanges", laid_unicode_utf8_acceptRanges), ("unicode.White_Space", laid_unicode_White_Space), ("strings.asciiSpace", laid_strings_asciiSpace), ("unicode/utf8.first", laid_unicode_utf8_first)], narrowed := true }
def FnFindParseUptoSaid : Prop := fnFindParseUptoRow.holds Tryd.pinned (OpenSpec.upto fnFindParseSpec)

end Rows
end Go.Proofs.YtmogecodjiofeaaDoor

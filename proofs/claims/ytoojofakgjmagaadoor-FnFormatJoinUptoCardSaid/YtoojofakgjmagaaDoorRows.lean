/-
  NARROWER THAN 'FOR EVERY INPUT', by the rows' own cells (each row's printed sentence says how): FnExactFormat: laid · FnFormatStraight: laid · FnFormatAny: laid · FnFormatComment: laid · FnFormatJoin: laid · FnFormatTwice: laid · FnParseFormat: laid · FnFormatOrder: laid · FnFormatParse: laid.
  DERIVED. THE GIVEN ROWS OF THIS SEAT. 9 by the template 'for every input the law returns true; each argument reads behind the call as it read before'; 0 by the template 'total and deterministic' (their statements: YtoojofakgjmagaaDoorTotals.lean).
  GIVEN WITH THE SEED: the statements are not yours to turn. If you find one false, say at which input.
  Laid BY PROGRAM, IN A SANDBOX (cutbox-rows.mjs): the forced cells as the released guide's own fill.sh prints them over the translation e827a9796b4e8b8c… (all of the seat's roots in one cut). By AI agents, Wed Nov 11 2026. No macro, syntax, notation, axiom, sorry.
-/
import Derived.Test.YtoojofakgjmagaaDoorChecked
import GoSem.PinnedTables
import GoSem.Claim
import GoSem.ClaimJoined
import GoSem.ClaimMapViews
import Derived.JoinedTies
import Derived.KernelRfl
namespace Go.Proofs.YtoojofakgjmagaaDoor
/- THE CELL 'sum', in the pinned program and in every row, IS THE sha256 OF THE DUMP (.gsa) THAT YtoojofakgjmagaaDoorProg.lean LOADS. Nothing in Lean hashes anything: it is a label: what it is worth is what the hold of that sum in a sandbox is worth. -/
noncomputable def Tryd.pinned : Pinned := { name := "ytoojofakgjmagaadoor", sum := "e827a9796b4e8b8c27876d8650e00400ab53ff778681bd00372e9d6f56a02d1b", checked := Tryd.checked }
namespace Rows
def none {H : Type} : Left H := { results := [], args := [] }

/- WHAT THE LISTED PACKAGE-LEVEL VARIABLES READ AS WHEN THE CALL BEGINS. Each datum BY PROGRAM (the guide's laid-datum.mjs) off the statement by which the dump's own 'gosem.cut.vars' lays the variable. In a bare row this is a premise. The card (YtoojofakgjmagaaDoorCards.lean) ties it to the program's text. -/
def laid_bytes_ErrTooLarge {H : Type} : DataW H := .iface "*errors.errorString" (.ptr (.agg [.lit (.string [98, 121, 116, 101, 115, 46, 66, 117, 102, 102, 101, 114, 58, 32, 116, 111, 111, 32, 108, 97, 114, 103, 101])]))
def laid_unicode_utf8_acceptRanges {H : Type} : DataW H := .agg [.agg [.lit (.int .u8 128), .lit (.int .u8 191)], .agg [.lit (.int .u8 160), .lit (.int .u8 191)], .agg [.lit (.int .u8 128), .lit (.int .u8 159)], .agg [.lit (.int .u8 144), .lit (.int .u8 191)], .agg [.lit (.int .u8 128), .lit (.int .u8 143)], .agg [.lit (.int .u8 0), .lit (.int .u8 0)], .agg [.lit (.int .u8 0), .lit (.int .u8 0)], .agg [.lit (.int .u8 0), .lit (.int .u8 0)], .agg [.lit (.int .u8 0), .lit (.int .u8 0)], .agg [.lit (.int .u8 0), .lit (.int .u8 0)], .agg [.lit (.int .u8 0), .lit (.int .u8 0)], .agg [.lit (.int .u8 0), .lit (.int .u8 0)], .agg [.lit (.int .u8 0), .lit (.int .u8 0)], .agg [.lit (.int .u8 0), .lit (.int .u8 0)], .agg [.lit (.int .u8 0), .lit (.int .u8 0)], .agg [.lit (.int .u8 0), .lit (.int .u8 0)]]
def laid_unicode_White_Space {H : Type} : DataW H := .ptr (.agg [.slice [.agg [.lit (.int .u16 9), .lit (.int .u16 13), .lit (.int .u16 1)], .agg [.lit (.int .u16 32), .lit (.int .u16 133), .lit (.int .u16 101)], .agg [.lit (.int .u16 160), .lit (.int .u16 5760), .lit (.int .u16 5600)], .agg [.lit (.int .u16 8192), .lit (.int .u16 8202), .lit (.int .u16 1)], .agg [.lit (.int .u16 8232), .lit (.int .u16 8233), .lit (.int .u16 1)], .agg [.lit (.int .u16 8239), .lit (.int .u16 8287), .lit (.int .u16 48)], .agg [.lit (.int .u16 12288), .lit (.int .u16 12288), .lit (.int .u16 1)]] [], .nil, .lit (.int .i64 2)])
def laid_strings_asciiSpace {H : Type} : DataW H := .agg [.lit (.int .u8 0), .lit (.int .u8 0), .lit (.int .u8 0), .lit (.int .u8 0), .lit (.int .u8 0), .lit (.int .u8 0), .lit (.int .u8 0), .lit (.int .u8 0), .lit (.int .u8 0), .lit (.int .u8 1), .lit (.int .u8 1), .lit (.int .u8 1), .lit (.int .u8 1), .lit (.int .u8 1), .lit (.int .u8 0), .lit (.int .u8 0), .lit (.int .u8 0), .lit (.int .u8 0), .lit (.int .u8 0), .lit (.int .u8 0), .lit (.int .u8 0), .lit (.int .u8 0), .lit (.int .u8 0), .lit (.int .u8 0), .lit (.int .u8 0), .lit (.int .u8 0), .lit (.int .u8 0), .lit (.int .u8 0), .lit (.int .u8 0), .lit (.int .u8 0), .lit (.int .u8 0), .lit (.int .u8 0), .lit (.int .u8 1), .lit (.int .u8 0), .lit (.int .u8 0), .lit (.int .u8 0), .lit (.int .u8 0), .lit (.int .u8 0), .lit (.int .u8 0), .lit (.int .u8 0), .lit (.int .u8 0), .lit (.int .u8 0), .lit (.int .u8 0), .lit (.int .u8 0), .lit (.int .u8 0), .lit (.int .u8 0), .lit (.int .u8 0), .lit (.int .u8 0), .lit (.int .u8 0), .lit (.int .u8 0), .lit (.int .u8 0), .lit (.int .u8 0), .lit (.int .u8 0), .lit (.int .u8 0), .lit (.int .u8 0), .lit (.int .u8 0), .lit (.int .u8 0), .lit (.int .u8 0), .lit (.int .u8 0), .lit (.int .u8 0), .lit (.int .u8 0), .lit (.int .u8 0), .lit (.int .u8 0), .lit (.int .u8 0), .lit (.int .u8 0), .lit (.int .u8 0), .lit (.int .u8 0), .lit (.int .u8 0), .lit (.int .u8 0), .lit (.int .u8 0), .lit (.int .u8 0), .lit (.int .u8 0), .lit (.int .u8 0), .lit (.int .u8 0), .lit (.int .u8 0), .lit (.int .u8 0), .lit (.int .u8 0), .lit (.int .u8 0), .lit (.int .u8 0), .lit (.int .u8 0), .lit (.int .u8 0), .lit (.int .u8 0), .lit (.int .u8 0), .lit (.int .u8 0), .lit (.int .u8 0), .lit (.int .u8 0), .lit (.int .u8 0), .lit (.int .u8 0), .lit (.int .u8 0), .lit (.int .u8 0), .lit (.int .u8 0), .lit (.int .u8 0), .lit (.int .u8 0), .lit (.int .u8 0), .lit (.int .u8 0), .lit (.int .u8 0), .lit (.int .u8 0), .lit (.int .u8 0), .lit (.int .u8 0), .lit (.int .u8 0), .lit (.int .u8 0), .lit (.int .u8 0), .lit (.int .u8 0), .lit (.int .u8 0), .lit (.int .u8 0), .lit (.int .u8 0), .lit (.int .u8 0), .lit (.int .u8 0), .lit (.int .u8 0), .lit (.int .u8 0), .lit (.int .u8 0), .lit (.int .u8 0), .lit (.int .u8 0), .lit (.int .u8 0), .lit (.int .u8 0), .lit (.int .u8 0), .lit (.int .u8 0), .lit (.int .u8 0), .lit (.int .u8 0), .lit (.int .u8 0), .lit (.int .u8 0), .lit (.int .u8 0), .lit (.int .u8 0), .lit (.int .u8 0), .lit (.int .u8 0), .lit (.int .u8 0), .lit (.int .u8 0), .lit (.int .u8 0), .lit (.int .u8 0), .lit (.int .u8 0), .lit (.int .u8 0), .lit (.int .u8 0), .lit (.int .u8 0), .lit (.int .u8 0), .lit (.int .u8 0), .lit (.int .u8 0), .lit (.int .u8 0), .lit (.int .u8 0), .lit (.int .u8 0), .lit (.int .u8 0), .lit (.int .u8 0), .lit (.int .u8 0), .lit (.int .u8 0), .lit (.int .u8 0), .lit (.int .u8 0), .lit (.int .u8 0), .lit (.int .u8 0), .lit (.int .u8 0), .lit (.int .u8 0), .lit (.int .u8 0), .lit (.int .u8 0), .lit (.int .u8 0), .lit (.int .u8 0), .lit (.int .u8 0), .lit (.int .u8 0), .lit (.int .u8 0), .lit (.int .u8 0), .lit (.int .u8 0), .lit (.int .u8 0), .lit (.int .u8 0), .lit (.int .u8 0), .lit (.int .u8 0), .lit (.int .u8 0), .lit (.int .u8 0), .lit (.int .u8 0), .lit (.int .u8 0), .lit (.int .u8 0), .lit (.int .u8 0), .lit (.int .u8 0), .lit (.int .u8 0), .lit (.int .u8 0), .lit (.int .u8 0), .lit (.int .u8 0), .lit (.int .u8 0), .lit (.int .u8 0), .lit (.int .u8 0), .lit (.int .u8 0), .lit (.int .u8 0), .lit (.int .u8 0), .lit (.int .u8 0), .lit (.int .u8 0), .lit (.int .u8 0), .lit (.int .u8 0), .lit (.int .u8 0), .lit (.int .u8 0), .lit (.int .u8 0), .lit (.int .u8 0), .lit (.int .u8 0), .lit (.int .u8 0), .lit (.int .u8 0), .lit (.int .u8 0), .lit (.int .u8 0), .lit (.int .u8 0), .lit (.int .u8 0), .lit (.int .u8 0), .lit (.int .u8 0), .lit (.int .u8 0), .lit (.int .u8 0), .lit (.int .u8 0), .lit (.int .u8 0), .lit (.int .u8 0), .lit (.int .u8 0), .lit (.int .u8 0), .lit (.int .u8 0), .lit (.int .u8 0), .lit (.int .u8 0), .lit (.int .u8 0), .lit (.int .u8 0), .lit (.int .u8 0), .lit (.int .u8 0), .lit (.int .u8 0), .lit (.int .u8 0), .lit (.int .u8 0), .lit (.int .u8 0), .lit (.int .u8 0), .lit (.int .u8 0), .lit (.int .u8 0), .lit (.int .u8 0), .lit (.int .u8 0), .lit (.int .u8 0), .lit (.int .u8 0), .lit (.int .u8 0), .lit (.int .u8 0), .lit (.int .u8 0), .lit (.int .u8 0), .lit (.int .u8 0), .lit (.int .u8 0), .lit (.int .u8 0), .lit (.int .u8 0), .lit (.int .u8 0), .lit (.int .u8 0), .lit (.int .u8 0), .lit (.int .u8 0), .lit (.int .u8 0), .lit (.int .u8 0), .lit (.int .u8 0), .lit (.int .u8 0), .lit (.int .u8 0), .lit (.int .u8 0), .lit (.int .u8 0), .lit (.int .u8 0), .lit (.int .u8 0), .lit (.int .u8 0), .lit (.int .u8 0), .lit (.int .u8 0), .lit (.int .u8 0), .lit (.int .u8 0), .lit (.int .u8 0), .lit (.int .u8 0), .lit (.int .u8 0), .lit (.int .u8 0), .lit (.int .u8 0), .lit (.int .u8 0), .lit (.int .u8 0), .lit (.int .u8 0), .lit (.int .u8 0)]
/-- One of Go's own tables, pinned by name: the form's constant. -/
def laid_unicode_utf8_first : DataW Unit := Go.Pinned.utf8First

/-- 'laws.FnExactFormat': WHATEVER THE INPUT: true; the input reads as it did. -/
def fnExactFormatSpec : ChangeSpec := { name := "fnExactFormat", fn := fun _ => fun
  | [d] => { results := [.lit (.bool true)], args := [d] }
  | _ => none }
def fnExactFormatRow : OpenClaim := { program := "ytoojofakgjmagaadoor", sum := "e827a9796b4e8b8c27876d8650e00400ab53ff778681bd00372e9d6f56a02d1b", func := "loop.example/pub-textarchives/laws.FnExactFormat", spec := "fnExactFormat", named := ["bytes.ErrTooLarge"], apart := false, laid := [("bytes.ErrTooLarge", laid_bytes_ErrTooLarge)] }
def FnExactFormatSaid : Prop := fnExactFormatRow.holds Tryd.pinned (OpenSpec.ofChange fnExactFormatSpec)

/-- ITS FALSE NEIGHBOUR: 'it returns false'. Refute it at one input. -/
def fnExactFormatWrong : ChangeSpec := { name := "fnExactFormat", fn := fun _ => fun
  | [d] => { results := [.lit (.bool false)], args := [d] }
  | _ => none }
def FnExactFormatWrongFalsely : Prop := fnExactFormatRow.holds Tryd.pinned (OpenSpec.ofChange fnExactFormatWrong)

/-- 'laws.FnFormatStraight': WHATEVER THE INPUT: true; the input reads as it did. -/
def fnFormatStraightSpec : ChangeSpec := { name := "fnFormatStraight", fn := fun _ => fun
  | [d] => { results := [.lit (.bool true)], args := [d] }
  | _ => none }
def fnFormatStraightRow : OpenClaim := { program := "ytoojofakgjmagaadoor", sum := "e827a9796b4e8b8c27876d8650e00400ab53ff778681bd00372e9d6f56a02d1b", func := "loop.example/pub-textarchives/laws.FnFormatStraight", spec := "fnFormatStraight", inPlace := ["internal/bytealg.IndexByte"], unfollowed := true, recurses := true, named := ["strings.asciiSpace", "unicode/utf8.first", "unicode/utf8.acceptRanges", "unicode.White_Space", "bytes.ErrTooLarge"], apart := false, laid := [("unicode/utf8.acceptRanges", laid_unicode_utf8_acceptRanges), ("unicode.White_Space", laid_unicode_White_Space), ("bytes.ErrTooLarge", laid_bytes_ErrTooLarge), ("strings.asciiSpace", laid_strings_asciiSpace), ("unicode/utf8.first", laid_unicode_utf8_first)] }
def FnFormatStraightSaid : Prop := fnFormatStraightRow.holds Tryd.pinned (OpenSpec.ofChange fnFormatStraightSpec)

/-- ITS FALSE NEIGHBOUR: 'it returns false'. Refute it at one input. -/
def fnFormatStraightWrong : ChangeSpec := { name := "fnFormatStraight", fn := fun _ => fun
  | [d] => { results := [.lit (.bool false)], args := [d] }
  | _ => none }
def FnFormatStraightWrongFalsely : Prop := fnFormatStraightRow.holds Tryd.pinned (OpenSpec.ofChange fnFormatStraightWrong)

/-- 'laws.FnFormatAny': WHATEVER THE INPUT: true; the input reads as it did. -/
def fnFormatAnySpec : ChangeSpec := { name := "fnFormatAny", fn := fun _ => fun
  | [d] => { results := [.lit (.bool true)], args := [d] }
  | _ => none }
def fnFormatAnyRow : OpenClaim := { program := "ytoojofakgjmagaadoor", sum := "e827a9796b4e8b8c27876d8650e00400ab53ff778681bd00372e9d6f56a02d1b", func := "loop.example/pub-textarchives/laws.FnFormatAny", spec := "fnFormatAny", named := ["bytes.ErrTooLarge"], apart := false, laid := [("bytes.ErrTooLarge", laid_bytes_ErrTooLarge)] }
def FnFormatAnySaid : Prop := fnFormatAnyRow.holds Tryd.pinned (OpenSpec.ofChange fnFormatAnySpec)

/-- ITS FALSE NEIGHBOUR: 'it returns false'. Refute it at one input. -/
def fnFormatAnyWrong : ChangeSpec := { name := "fnFormatAny", fn := fun _ => fun
  | [d] => { results := [.lit (.bool false)], args := [d] }
  | _ => none }
def FnFormatAnyWrongFalsely : Prop := fnFormatAnyRow.holds Tryd.pinned (OpenSpec.ofChange fnFormatAnyWrong)

/-- 'laws.FnFormatComment': WHATEVER THE INPUT: true; the input reads as it did. -/
def fnFormatCommentSpec : ChangeSpec := { name := "fnFormatComment", fn := fun _ => fun
  | [d] => { results := [.lit (.bool true)], args := [d] }
  | _ => none }
def fnFormatCommentRow : OpenClaim := { program := "ytoojofakgjmagaadoor", sum := "e827a9796b4e8b8c27876d8650e00400ab53ff778681bd00372e9d6f56a02d1b", func := "loop.example/pub-textarchives/laws.FnFormatComment", spec := "fnFormatComment", named := ["bytes.ErrTooLarge"], apart := false, laid := [("bytes.ErrTooLarge", laid_bytes_ErrTooLarge)] }
def FnFormatCommentSaid : Prop := fnFormatCommentRow.holds Tryd.pinned (OpenSpec.ofChange fnFormatCommentSpec)

/-- ITS FALSE NEIGHBOUR: 'it returns false'. Refute it at one input. -/
def fnFormatCommentWrong : ChangeSpec := { name := "fnFormatComment", fn := fun _ => fun
  | [d] => { results := [.lit (.bool false)], args := [d] }
  | _ => none }
def FnFormatCommentWrongFalsely : Prop := fnFormatCommentRow.holds Tryd.pinned (OpenSpec.ofChange fnFormatCommentWrong)

/-- 'laws.FnFormatJoin': WHATEVER THE INPUT: true; the input reads as it did. -/
def fnFormatJoinSpec : ChangeSpec := { name := "fnFormatJoin", fn := fun _ => fun
  | [d1, d2] => { results := [.lit (.bool true)], args := [d1, d2] }
  | _ => none }
def fnFormatJoinRow : OpenClaim := { program := "ytoojofakgjmagaadoor", sum := "e827a9796b4e8b8c27876d8650e00400ab53ff778681bd00372e9d6f56a02d1b", func := "loop.example/pub-textarchives/laws.FnFormatJoin", spec := "fnFormatJoin", named := ["bytes.ErrTooLarge"], apart := false, laid := [("bytes.ErrTooLarge", laid_bytes_ErrTooLarge)] }
def FnFormatJoinSaid : Prop := fnFormatJoinRow.holds Tryd.pinned (OpenSpec.ofChange fnFormatJoinSpec)

/-- ITS FALSE NEIGHBOUR: 'it returns false'. Refute it at one input. -/
def fnFormatJoinWrong : ChangeSpec := { name := "fnFormatJoin", fn := fun _ => fun
  | [d1, d2] => { results := [.lit (.bool false)], args := [d1, d2] }
  | _ => none }
def FnFormatJoinWrongFalsely : Prop := fnFormatJoinRow.holds Tryd.pinned (OpenSpec.ofChange fnFormatJoinWrong)

/-- 'laws.FnFormatTwice': WHATEVER THE INPUT: true; the input reads as it did. -/
def fnFormatTwiceSpec : ChangeSpec := { name := "fnFormatTwice", fn := fun _ => fun
  | [d] => { results := [.lit (.bool true)], args := [d] }
  | _ => none }
def fnFormatTwiceRow : OpenClaim := { program := "ytoojofakgjmagaadoor", sum := "e827a9796b4e8b8c27876d8650e00400ab53ff778681bd00372e9d6f56a02d1b", func := "loop.example/pub-textarchives/laws.FnFormatTwice", spec := "fnFormatTwice", inPlace := ["internal/bytealg.IndexByte"], unfollowed := true, recurses := true, named := ["strings.asciiSpace", "unicode/utf8.first", "unicode/utf8.acceptRanges", "unicode.White_Space", "bytes.ErrTooLarge"], apart := false, laid := [("unicode/utf8.acceptRanges", laid_unicode_utf8_acceptRanges), ("unicode.White_Space", laid_unicode_White_Space), ("bytes.ErrTooLarge", laid_bytes_ErrTooLarge), ("strings.asciiSpace", laid_strings_asciiSpace), ("unicode/utf8.first", laid_unicode_utf8_first)] }
def FnFormatTwiceSaid : Prop := fnFormatTwiceRow.holds Tryd.pinned (OpenSpec.ofChange fnFormatTwiceSpec)

/-- ITS FALSE NEIGHBOUR: 'it returns false'. Refute it at one input. -/
def fnFormatTwiceWrong : ChangeSpec := { name := "fnFormatTwice", fn := fun _ => fun
  | [d] => { results := [.lit (.bool false)], args := [d] }
  | _ => none }
def FnFormatTwiceWrongFalsely : Prop := fnFormatTwiceRow.holds Tryd.pinned (OpenSpec.ofChange fnFormatTwiceWrong)

/-- 'laws.FnParseFormat': WHATEVER THE INPUT: true; the input reads as it did. -/
def fnParseFormatSpec : ChangeSpec := { name := "fnParseFormat", fn := fun _ => fun
  | [d] => { results := [.lit (.bool true)], args := [d] }
  | _ => none }
def fnParseFormatRow : OpenClaim := { program := "ytoojofakgjmagaadoor", sum := "e827a9796b4e8b8c27876d8650e00400ab53ff778681bd00372e9d6f56a02d1b", func := "loop.example/pub-textarchives/laws.FnParseFormat", spec := "fnParseFormat", inPlace := ["internal/bytealg.IndexByte"], unfollowed := true, recurses := true, named := ["bytes.ErrTooLarge", "strings.asciiSpace", "unicode/utf8.first", "unicode/utf8.acceptRanges", "unicode.White_Space"], apart := false, laid := [("unicode/utf8.acceptRanges", laid_unicode_utf8_acceptRanges), ("unicode.White_Space", laid_unicode_White_Space), ("bytes.ErrTooLarge", laid_bytes_ErrTooLarge), ("strings.asciiSpace", laid_strings_asciiSpace), ("unicode/utf8.first", laid_unicode_utf8_first)] }
def FnParseFormatSaid : Prop := fnParseFormatRow.holds Tryd.pinned (OpenSpec.ofChange fnParseFormatSpec)

/-- ITS FALSE NEIGHBOUR: 'it returns false'. Refute it at one input. -/
def fnParseFormatWrong : ChangeSpec := { name := "fnParseFormat", fn := fun _ => fun
  | [d] => { results := [.lit (.bool false)], args := [d] }
  | _ => none }
def FnParseFormatWrongFalsely : Prop := fnParseFormatRow.holds Tryd.pinned (OpenSpec.ofChange fnParseFormatWrong)

/-- 'laws.FnFormatOrder': WHATEVER THE INPUT: true; the input reads as it did. -/
def fnFormatOrderSpec : ChangeSpec := { name := "fnFormatOrder", fn := fun _ => fun
  | [d1, d2, d3] => { results := [.lit (.bool true)], args := [d1, d2, d3] }
  | _ => none }
def fnFormatOrderRow : OpenClaim := { program := "ytoojofakgjmagaadoor", sum := "e827a9796b4e8b8c27876d8650e00400ab53ff778681bd00372e9d6f56a02d1b", func := "loop.example/pub-textarchives/laws.FnFormatOrder", spec := "fnFormatOrder", inPlace := ["internal/bytealg.IndexByte"], unfollowed := true, recurses := true, named := ["bytes.ErrTooLarge", "strings.asciiSpace", "unicode/utf8.first", "unicode/utf8.acceptRanges", "unicode.White_Space"], apart := false, laid := [("unicode/utf8.acceptRanges", laid_unicode_utf8_acceptRanges), ("unicode.White_Space", laid_unicode_White_Space), ("bytes.ErrTooLarge", laid_bytes_ErrTooLarge), ("strings.asciiSpace", laid_strings_asciiSpace), ("unicode/utf8.first", laid_unicode_utf8_first)] }
def FnFormatOrderSaid : Prop := fnFormatOrderRow.holds Tryd.pinned (OpenSpec.ofChange fnFormatOrderSpec)

/-- ITS FALSE NEIGHBOUR: 'it returns false'. Refute it at one input. -/
def fnFormatOrderWrong : ChangeSpec := { name := "fnFormatOrder", fn := fun _ => fun
  | [d1, d2, d3] => { results := [.lit (.bool false)], args := [d1, d2, d3] }
  | _ => none }
def FnFormatOrderWrongFalsely : Prop := fnFormatOrderRow.holds Tryd.pinned (OpenSpec.ofChange fnFormatOrderWrong)

/-- 'laws.FnFormatParse': WHATEVER THE INPUT: true; the input reads as it did. -/
def fnFormatParseSpec : ChangeSpec := { name := "fnFormatParse", fn := fun _ => fun
  | [d] => { results := [.lit (.bool true)], args := [d] }
  | _ => none }
def fnFormatParseRow : OpenClaim := { program := "ytoojofakgjmagaadoor", sum := "e827a9796b4e8b8c27876d8650e00400ab53ff778681bd00372e9d6f56a02d1b", func := "loop.example/pub-textarchives/laws.FnFormatParse", spec := "fnFormatParse", inPlace := ["internal/bytealg.IndexByte"], unfollowed := true, recurses := true, named := ["strings.asciiSpace", "unicode/utf8.first", "unicode/utf8.acceptRanges", "unicode.White_Space", "bytes.ErrTooLarge"], apart := false, laid := [("unicode/utf8.acceptRanges", laid_unicode_utf8_acceptRanges), ("unicode.White_Space", laid_unicode_White_Space), ("bytes.ErrTooLarge", laid_bytes_ErrTooLarge), ("strings.asciiSpace", laid_strings_asciiSpace), ("unicode/utf8.first", laid_unicode_utf8_first)] }
def FnFormatParseSaid : Prop := fnFormatParseRow.holds Tryd.pinned (OpenSpec.ofChange fnFormatParseSpec)

/-- ITS FALSE NEIGHBOUR: 'it returns false'. Refute it at one input. -/
def fnFormatParseWrong : ChangeSpec := { name := "fnFormatParse", fn := fun _ => fun
  | [d] => { results := [.lit (.bool false)], args := [d] }
  | _ => none }
def FnFormatParseWrongFalsely : Prop := fnFormatParseRow.holds Tryd.pinned (OpenSpec.ofChange fnFormatParseWrong)

/- THE SECOND FORM. 'bulk': how many values and letters a reading holds, each counted each time it is reached (what is shared counts as often as it is met; a slice's spare places count too). A statement '..UptoSaid' is the law's where the arguments, and the package variables that the reading takes, are together of bulk at most 1048576: NARROWER than '..Said'. Prove '..Said' where nothing that the law and all that it calls make is longer than what came in: it says more and counts as full. Else prove '..UptoSaid'. A law counts once. -/
mutual
def uptoBulk {H : Type} : DataW H → Nat
  | .lit (.string bytes) => bytes.length + 1
  | .lit _ => 1
  | .nil => 1
  | .ptr d => uptoBulk d + 1
  | .slice elems spare => uptoBulkAll elems + uptoBulkAll spare + 1
  | .agg parts => uptoBulkAll parts + 1
  | .iface _ d => uptoBulk d + 1
  | .map entries => uptoBulkEntries entries + 1
  | .held _ => 1
def uptoBulkAll {H : Type} : List (DataW H) → Nat
  | [] => 0
  | d :: r => uptoBulk d + uptoBulkAll r
def uptoBulkEntries {H : Type} : List (Lit × DataW H) → Nat
  | [] => 0
  | x :: r => uptoBulkEntry x + uptoBulkEntries r
def uptoBulkEntry {H : Type} : Lit × DataW H → Nat
  | (.string bytes, d) => bytes.length + uptoBulk d + 1
  | (_, d) => uptoBulk d + 1
 end
def uptoSmall : (H : Type) → List (DataW H) → Bool := fun _ ds => decide (uptoBulkAll ds ≤ 1048576)
def OpenSpec.upto (s : _root_.Go.ChangeSpec) : _root_.Go.OpenSpec := { _root_.Go.OpenSpec.ofChange s with cond := some uptoSmall }

/-- 'laws.FnExactFormat', WHERE WHAT IT READS IS OF BULK AT MOST 1048576: true; the input reads as it did. -/
def fnExactFormatUptoRow : OpenClaim := { program := "ytoojofakgjmagaadoor", sum := "e827a9796b4e8b8c27876d8650e00400ab53ff778681bd00372e9d6f56a02d1b", func := "loop.example/pub-textarchives/laws.FnExactFormat", spec := "fnExactFormat", named := ["bytes.ErrTooLarge"], apart := false, laid := [("bytes.ErrTooLarge", laid_bytes_ErrTooLarge)], narrowed := true }
def FnExactFormatUptoSaid : Prop := fnExactFormatUptoRow.holds Tryd.pinned (OpenSpec.upto fnExactFormatSpec)

/-- 'laws.FnFormatStraight', WHERE WHAT IT READS IS OF BULK AT MOST 1048576: true; the input reads as it did. -/
def fnFormatStraightUptoRow : OpenClaim := { program := "ytoojofakgjmagaadoor", sum := "e827a9796b4e8b8c27876d8650e00400ab53ff778681bd00372e9d6f56a02d1b", func := "loop.example/pub-textarchives/laws.FnFormatStraight", spec := "fnFormatStraight", inPlace := ["internal/bytealg.IndexByte"], unfollowed := true, recurses := true, named := ["strings.asciiSpace", "unicode/utf8.first", "unicode/utf8.acceptRanges", "unicode.White_Space", "bytes.ErrTooLarge"], apart := false, laid := [("unicode/utf8.acceptRanges", laid_unicode_utf8_acceptRanges), ("unicode.White_Space", laid_unicode_White_Space), ("bytes.ErrTooLarge", laid_bytes_ErrTooLarge), ("strings.asciiSpace", laid_strings_asciiSpace), ("unicode/utf8.first", laid_unicode_utf8_first)], narrowed := true }
def FnFormatStraightUptoSaid : Prop := fnFormatStraightUptoRow.holds Tryd.pinned (OpenSpec.upto fnFormatStraightSpec)

/-- 'laws.FnFormatAny', WHERE WHAT IT READS IS OF BULK AT MOST 1048576: true; the input reads as it did. -/
def fnFormatAnyUptoRow : OpenClaim := { program := "ytoojofakgjmagaadoor", sum := "e827a9796b4e8b8c27876d8650e00400ab53ff778681bd00372e9d6f56a02d1b", func := "loop.example/pub-textarchives/laws.FnFormatAny", spec := "fnFormatAny", named := ["bytes.ErrTooLarge"], apart := false, laid := [("bytes.ErrTooLarge", laid_bytes_ErrTooLarge)], narrowed := true }
def FnFormatAnyUptoSaid : Prop := fnFormatAnyUptoRow.holds Tryd.pinned (OpenSpec.upto fnFormatAnySpec)

/-- 'laws.FnFormatComment', WHERE WHAT IT READS IS OF BULK AT MOST 1048576: true; the input reads as it did. -/
def fnFormatCommentUptoRow : OpenClaim := { program := "ytoojofakgjmagaadoor", sum := "e827a9796b4e8b8c27876d8650e00400ab53ff778681bd00372e9d6f56a02d1b", func := "loop.example/pub-textarchives/laws.FnFormatComment", spec := "fnFormatComment", named := ["bytes.ErrTooLarge"], apart := false, laid := [("bytes.ErrTooLarge", laid_bytes_ErrTooLarge)], narrowed := true }
def FnFormatCommentUptoSaid : Prop := fnFormatCommentUptoRow.holds Tryd.pinned (OpenSpec.upto fnFormatCommentSpec)

/-- 'laws.FnFormatJoin', WHERE WHAT IT READS IS OF BULK AT MOST 1048576: true; the input reads as it did. -/
def fnFormatJoinUptoRow : OpenClaim := { program := "ytoojofakgjmagaadoor", sum := "e827a9796b4e8b8c27876d8650e00400ab53ff778681bd00372e9d6f56a02d1b", func := "loop.example/pub-textarchives/laws.FnFormatJoin", spec := "fnFormatJoin", named := ["bytes.ErrTooLarge"], apart := false, laid := [("bytes.ErrTooLarge", laid_bytes_ErrTooLarge)], narrowed := true }
def FnFormatJoinUptoSaid : Prop := fnFormatJoinUptoRow.holds Tryd.pinned (OpenSpec.upto fnFormatJoinSpec)

/-- 'laws.FnFormatTwice', WHERE WHAT IT READS IS OF BULK AT MOST 1048576: true; the input reads as it did. -/
def fnFormatTwiceUptoRow : OpenClaim := { program := "ytoojofakgjmagaadoor", sum := "e827a9796b4e8b8c27876d8650e00400ab53ff778681bd00372e9d6f56a02d1b", func := "loop.example/pub-textarchives/laws.FnFormatTwice", spec := "fnFormatTwice", inPlace := ["internal/bytealg.IndexByte"], unfollowed := true, recurses := true, named := ["strings.asciiSpace", "unicode/utf8.first", "unicode/utf8.acceptRanges", "unicode.White_Space", "bytes.ErrTooLarge"], apart := false, laid := [("unicode/utf8.acceptRanges", laid_unicode_utf8_acceptRanges), ("unicode.White_Space", laid_unicode_White_Space), ("bytes.ErrTooLarge", laid_bytes_ErrTooLarge), ("strings.asciiSpace", laid_strings_asciiSpace), ("unicode/utf8.first", laid_unicode_utf8_first)], narrowed := true }
def FnFormatTwiceUptoSaid : Prop := fnFormatTwiceUptoRow.holds Tryd.pinned (OpenSpec.upto fnFormatTwiceSpec)

/-- 'laws.FnParseFormat', WHERE WHAT IT READS IS OF BULK AT MOST 1048576: true; the input reads as it did. -/
def fnParseFormatUptoRow : OpenClaim := { program := "ytoojofakgjmagaadoor", sum := "e827a9796b4e8b8c27876d8650e00400ab53ff778681bd00372e9d6f56a02d1b", func := "loop.example/pub-textarchives/laws.FnParseFormat", spec := "fnParseFormat", inPlace := ["internal/bytealg.IndexByte"], unfollowed := true, recurses := true, named := ["bytes.ErrTooLarge", "strings.asciiSpace", "unicode/utf8.first", "unicode/utf8.acceptRanges", "unicode.White_Space"], apart := false, laid := [("unicode/utf8.acceptRanges", laid_unicode_utf8_acceptRanges), ("unicode.White_Space", laid_unicode_White_Space), ("bytes.ErrTooLarge", laid_bytes_ErrTooLarge), ("strings.asciiSpace", laid_strings_asciiSpace), ("unicode/utf8.first", laid_unicode_utf8_first)], narrowed := true }
def FnParseFormatUptoSaid : Prop := fnParseFormatUptoRow.holds Tryd.pinned (OpenSpec.upto fnParseFormatSpec)

/-- 'laws.FnFormatOrder', WHERE WHAT IT READS IS OF BULK AT MOST 1048576: true; the input reads as it did. -/
def fnFormatOrderUptoRow : OpenClaim := { program := "ytoojofakgjmagaadoor", sum := "e827a9796b4e8b8c27876d8650e00400ab53ff778681bd00372e9d6f56a02d1b", func := "loop.example/pub-textarchives/laws.FnFormatOrder", spec := "fnFormatOrder", inPlace := ["internal/bytealg.IndexByte"], unfollowed := true, recurses := true, named := ["bytes.ErrTooLarge", "strings.asciiSpace", "unicode/utf8.first", "unicode/utf8.acceptRanges", "unicode.White_Space"], apart := false, laid := [("unicode/utf8.acceptRanges", laid_unicode_utf8_acceptRanges), ("unicode.White_Space", laid_unicode_White_Space), ("bytes.ErrTooLarge", laid_bytes_ErrTooLarge), ("strings.asciiSpace", laid_strings_asciiSpace), ("unicode/utf8.first", laid_unicode_utf8_first)], narrowed := true }
def FnFormatOrderUptoSaid : Prop := fnFormatOrderUptoRow.holds Tryd.pinned (OpenSpec.upto fnFormatOrderSpec)

/-- 'laws.FnFormatParse', WHERE WHAT IT READS IS OF BULK AT MOST 1048576: true; the input reads as it did. -/
def fnFormatParseUptoRow : OpenClaim := { program := "ytoojofakgjmagaadoor", sum := "e827a9796b4e8b8c27876d8650e00400ab53ff778681bd00372e9d6f56a02d1b", func := "loop.example/pub-textarchives/laws.FnFormatParse", spec := "fnFormatParse", inPlace := ["internal/bytealg.IndexByte"], unfollowed := true, recurses := true, named := ["strings.asciiSpace", "unicode/utf8.first", "unicode/utf8.acceptRanges", "unicode.White_Space", "bytes.ErrTooLarge"], apart := false, laid := [("unicode/utf8.acceptRanges", laid_unicode_utf8_acceptRanges), ("unicode.White_Space", laid_unicode_White_Space), ("bytes.ErrTooLarge", laid_bytes_ErrTooLarge), ("strings.asciiSpace", laid_strings_asciiSpace), ("unicode/utf8.first", laid_unicode_utf8_first)], narrowed := true }
def FnFormatParseUptoSaid : Prop := fnFormatParseUptoRow.holds Tryd.pinned (OpenSpec.upto fnFormatParseSpec)

end Rows
end Go.Proofs.YtoojofakgjmagaaDoor

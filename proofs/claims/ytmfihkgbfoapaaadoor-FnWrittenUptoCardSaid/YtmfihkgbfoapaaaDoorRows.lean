/-
  NARROWER THAN 'FOR EVERY INPUT', by the rows' own cells (each row's printed sentence says how): FnBOM: laid · FnCover: laid · FnErrors: laid · FnInvalid: laid · FnJoined: laid · FnLines: laid · FnNUL: laid · FnScan: laid · FnSingle: laid · FnSizes: laid · FnSkip: laid · FnSpace: laid · FnWritten: laid · FnDefault: laid · FnRunes: laid · FnPeek: laid · FnScript: laid.
  DERIVED. THE GIVEN ROWS OF THIS SEAT. 17 by the template 'for every input the law returns true; each argument reads behind the call as it read before'; 0 by the template 'total and deterministic' (their statements: YtmfihkgbfoapaaaDoorTotals.lean).
  GIVEN WITH THE SEED: the statements are not yours to turn. If you find one false, say at which input.
  Laid BY PROGRAM, IN A SANDBOX (cutbox-rows.mjs): the forced cells as the released guide's own fill.sh prints them over the translation a0b49e0964598524… (all of the seat's roots in one cut). By AI agents, Wed Nov 11 2026. No macro, syntax, notation, axiom, sorry.
-/
import Derived.Test.YtmfihkgbfoapaaaDoorChecked
import GoSem.PinnedTables
import GoSem.Claim
import GoSem.ClaimJoined
import GoSem.ClaimMapViews
import Derived.JoinedTies
import Derived.KernelRfl
namespace Go.Proofs.YtmfihkgbfoapaaaDoor
/- THE CELL 'sum', in the pinned program and in every row, IS THE sha256 OF THE DUMP (.gsa) THAT YtmfihkgbfoapaaaDoorProg.lean LOADS. Nothing in Lean hashes anything: it is a label: what it is worth is what the hold of that sum in a sandbox is worth. -/
noncomputable def Tryd.pinned : Pinned := { name := "ytmfihkgbfoapaaadoor", sum := "a0b49e0964598524b162177ecb41ee7ba61fb00546acb63e5b331fb753440e7a", checked := Tryd.checked }
namespace Rows
def none {H : Type} : Left H := { results := [], args := [] }

/- WHAT THE LISTED PACKAGE-LEVEL VARIABLES READ AS WHEN THE CALL BEGINS. Each datum BY PROGRAM (the guide's laid-datum.mjs) off the statement by which the dump's own 'gosem.cut.vars' lays the variable. In a bare row this is a premise. The card (YtmfihkgbfoapaaaDoorCards.lean) ties it to the program's text. -/
def laid_unicode_utf8_acceptRanges {H : Type} : DataW H := .agg [.agg [.lit (.int .u8 128), .lit (.int .u8 191)], .agg [.lit (.int .u8 160), .lit (.int .u8 191)], .agg [.lit (.int .u8 128), .lit (.int .u8 159)], .agg [.lit (.int .u8 144), .lit (.int .u8 191)], .agg [.lit (.int .u8 128), .lit (.int .u8 143)], .agg [.lit (.int .u8 0), .lit (.int .u8 0)], .agg [.lit (.int .u8 0), .lit (.int .u8 0)], .agg [.lit (.int .u8 0), .lit (.int .u8 0)], .agg [.lit (.int .u8 0), .lit (.int .u8 0)], .agg [.lit (.int .u8 0), .lit (.int .u8 0)], .agg [.lit (.int .u8 0), .lit (.int .u8 0)], .agg [.lit (.int .u8 0), .lit (.int .u8 0)], .agg [.lit (.int .u8 0), .lit (.int .u8 0)], .agg [.lit (.int .u8 0), .lit (.int .u8 0)], .agg [.lit (.int .u8 0), .lit (.int .u8 0)], .agg [.lit (.int .u8 0), .lit (.int .u8 0)]]
def laid_io_EOF {H : Type} : DataW H := .iface "*errors.errorString" (.ptr (.agg [.lit (.string [69, 79, 70])]))
def laid_unicode_properties {H : Type} : DataW H := .agg [.lit (.int .u8 1), .lit (.int .u8 1), .lit (.int .u8 1), .lit (.int .u8 1), .lit (.int .u8 1), .lit (.int .u8 1), .lit (.int .u8 1), .lit (.int .u8 1), .lit (.int .u8 1), .lit (.int .u8 1), .lit (.int .u8 1), .lit (.int .u8 1), .lit (.int .u8 1), .lit (.int .u8 1), .lit (.int .u8 1), .lit (.int .u8 1), .lit (.int .u8 1), .lit (.int .u8 1), .lit (.int .u8 1), .lit (.int .u8 1), .lit (.int .u8 1), .lit (.int .u8 1), .lit (.int .u8 1), .lit (.int .u8 1), .lit (.int .u8 1), .lit (.int .u8 1), .lit (.int .u8 1), .lit (.int .u8 1), .lit (.int .u8 1), .lit (.int .u8 1), .lit (.int .u8 1), .lit (.int .u8 1), .lit (.int .u8 144), .lit (.int .u8 130), .lit (.int .u8 130), .lit (.int .u8 130), .lit (.int .u8 136), .lit (.int .u8 130), .lit (.int .u8 130), .lit (.int .u8 130), .lit (.int .u8 130), .lit (.int .u8 130), .lit (.int .u8 130), .lit (.int .u8 136), .lit (.int .u8 130), .lit (.int .u8 130), .lit (.int .u8 130), .lit (.int .u8 130), .lit (.int .u8 132), .lit (.int .u8 132), .lit (.int .u8 132), .lit (.int .u8 132), .lit (.int .u8 132), .lit (.int .u8 132), .lit (.int .u8 132), .lit (.int .u8 132), .lit (.int .u8 132), .lit (.int .u8 132), .lit (.int .u8 130), .lit (.int .u8 130), .lit (.int .u8 136), .lit (.int .u8 136), .lit (.int .u8 136), .lit (.int .u8 130), .lit (.int .u8 130), .lit (.int .u8 160), .lit (.int .u8 160), .lit (.int .u8 160), .lit (.int .u8 160), .lit (.int .u8 160), .lit (.int .u8 160), .lit (.int .u8 160), .lit (.int .u8 160), .lit (.int .u8 160), .lit (.int .u8 160), .lit (.int .u8 160), .lit (.int .u8 160), .lit (.int .u8 160), .lit (.int .u8 160), .lit (.int .u8 160), .lit (.int .u8 160), .lit (.int .u8 160), .lit (.int .u8 160), .lit (.int .u8 160), .lit (.int .u8 160), .lit (.int .u8 160), .lit (.int .u8 160), .lit (.int .u8 160), .lit (.int .u8 160), .lit (.int .u8 160), .lit (.int .u8 160), .lit (.int .u8 130), .lit (.int .u8 130), .lit (.int .u8 130), .lit (.int .u8 136), .lit (.int .u8 130), .lit (.int .u8 136), .lit (.int .u8 192), .lit (.int .u8 192), .lit (.int .u8 192), .lit (.int .u8 192), .lit (.int .u8 192), .lit (.int .u8 192), .lit (.int .u8 192), .lit (.int .u8 192), .lit (.int .u8 192), .lit (.int .u8 192), .lit (.int .u8 192), .lit (.int .u8 192), .lit (.int .u8 192), .lit (.int .u8 192), .lit (.int .u8 192), .lit (.int .u8 192), .lit (.int .u8 192), .lit (.int .u8 192), .lit (.int .u8 192), .lit (.int .u8 192), .lit (.int .u8 192), .lit (.int .u8 192), .lit (.int .u8 192), .lit (.int .u8 192), .lit (.int .u8 192), .lit (.int .u8 192), .lit (.int .u8 130), .lit (.int .u8 136), .lit (.int .u8 130), .lit (.int .u8 136), .lit (.int .u8 1), .lit (.int .u8 1), .lit (.int .u8 1), .lit (.int .u8 1), .lit (.int .u8 1), .lit (.int .u8 1), .lit (.int .u8 1), .lit (.int .u8 1), .lit (.int .u8 1), .lit (.int .u8 1), .lit (.int .u8 1), .lit (.int .u8 1), .lit (.int .u8 1), .lit (.int .u8 1), .lit (.int .u8 1), .lit (.int .u8 1), .lit (.int .u8 1), .lit (.int .u8 1), .lit (.int .u8 1), .lit (.int .u8 1), .lit (.int .u8 1), .lit (.int .u8 1), .lit (.int .u8 1), .lit (.int .u8 1), .lit (.int .u8 1), .lit (.int .u8 1), .lit (.int .u8 1), .lit (.int .u8 1), .lit (.int .u8 1), .lit (.int .u8 1), .lit (.int .u8 1), .lit (.int .u8 1), .lit (.int .u8 1), .lit (.int .u8 16), .lit (.int .u8 130), .lit (.int .u8 136), .lit (.int .u8 136), .lit (.int .u8 136), .lit (.int .u8 136), .lit (.int .u8 136), .lit (.int .u8 130), .lit (.int .u8 136), .lit (.int .u8 136), .lit (.int .u8 224), .lit (.int .u8 130), .lit (.int .u8 136), .lit (.int .u8 0), .lit (.int .u8 136), .lit (.int .u8 136), .lit (.int .u8 136), .lit (.int .u8 136), .lit (.int .u8 132), .lit (.int .u8 132), .lit (.int .u8 136), .lit (.int .u8 192), .lit (.int .u8 130), .lit (.int .u8 130), .lit (.int .u8 136), .lit (.int .u8 132), .lit (.int .u8 224), .lit (.int .u8 130), .lit (.int .u8 132), .lit (.int .u8 132), .lit (.int .u8 132), .lit (.int .u8 130), .lit (.int .u8 160), .lit (.int .u8 160), .lit (.int .u8 160), .lit (.int .u8 160), .lit (.int .u8 160), .lit (.int .u8 160), .lit (.int .u8 160), .lit (.int .u8 160), .lit (.int .u8 160), .lit (.int .u8 160), .lit (.int .u8 160), .lit (.int .u8 160), .lit (.int .u8 160), .lit (.int .u8 160), .lit (.int .u8 160), .lit (.int .u8 160), .lit (.int .u8 160), .lit (.int .u8 160), .lit (.int .u8 160), .lit (.int .u8 160), .lit (.int .u8 160), .lit (.int .u8 160), .lit (.int .u8 160), .lit (.int .u8 136), .lit (.int .u8 160), .lit (.int .u8 160), .lit (.int .u8 160), .lit (.int .u8 160), .lit (.int .u8 160), .lit (.int .u8 160), .lit (.int .u8 160), .lit (.int .u8 192), .lit (.int .u8 192), .lit (.int .u8 192), .lit (.int .u8 192), .lit (.int .u8 192), .lit (.int .u8 192), .lit (.int .u8 192), .lit (.int .u8 192), .lit (.int .u8 192), .lit (.int .u8 192), .lit (.int .u8 192), .lit (.int .u8 192), .lit (.int .u8 192), .lit (.int .u8 192), .lit (.int .u8 192), .lit (.int .u8 192), .lit (.int .u8 192), .lit (.int .u8 192), .lit (.int .u8 192), .lit (.int .u8 192), .lit (.int .u8 192), .lit (.int .u8 192), .lit (.int .u8 192), .lit (.int .u8 192), .lit (.int .u8 136), .lit (.int .u8 192), .lit (.int .u8 192), .lit (.int .u8 192), .lit (.int .u8 192), .lit (.int .u8 192), .lit (.int .u8 192), .lit (.int .u8 192), .lit (.int .u8 192)]
def laid_bytes_ErrTooLarge {H : Type} : DataW H := .iface "*errors.errorString" (.ptr (.agg [.lit (.string [98, 121, 116, 101, 115, 46, 66, 117, 102, 102, 101, 114, 58, 32, 116, 111, 111, 32, 108, 97, 114, 103, 101])]))
/-- One of Go's own tables, pinned by name: the form's constant. -/
def laid_unicode_Digit : DataW Unit := Go.Pinned.digit
/-- One of Go's own tables, pinned by name: the form's constant. -/
def laid_unicode_Letter : DataW Unit := Go.Pinned.letter
/-- One of Go's own tables, pinned by name: the form's constant. -/
def laid_unicode_utf8_first : DataW Unit := Go.Pinned.utf8First

/-- 'laws.FnBOM': WHATEVER THE INPUT: true; the input reads as it did. -/
def fnBOMSpec : ChangeSpec := { name := "fnBOM", fn := fun _ => fun
  | [d1, d2] => { results := [.lit (.bool true)], args := [d1, d2] }
  | _ => none }
def fnBOMRow : OpenClaim := { program := "ytmfihkgbfoapaaadoor", sum := "a0b49e0964598524b162177ecb41ee7ba61fb00546acb63e5b331fb753440e7a", func := "sieveplate/laws.FnBOM", spec := "fnBOM", unfollowed := true, recurses := true, named := ["unicode.properties", "unicode.Letter", "unicode.Digit", "io.EOF", "unicode/utf8.first", "unicode/utf8.acceptRanges", "bytes.ErrTooLarge"], apart := false, laid := [("unicode/utf8.acceptRanges", laid_unicode_utf8_acceptRanges), ("io.EOF", laid_io_EOF), ("unicode.properties", laid_unicode_properties), ("bytes.ErrTooLarge", laid_bytes_ErrTooLarge), ("unicode.Digit", laid_unicode_Digit), ("unicode.Letter", laid_unicode_Letter), ("unicode/utf8.first", laid_unicode_utf8_first)] }
def FnBOMSaid : Prop := fnBOMRow.holds Tryd.pinned (OpenSpec.ofChange fnBOMSpec)

/-- ITS FALSE NEIGHBOUR: 'it returns false'. Refute it at one input. -/
def fnBOMWrong : ChangeSpec := { name := "fnBOM", fn := fun _ => fun
  | [d1, d2] => { results := [.lit (.bool false)], args := [d1, d2] }
  | _ => none }
def FnBOMWrongFalsely : Prop := fnBOMRow.holds Tryd.pinned (OpenSpec.ofChange fnBOMWrong)

/-- 'laws.FnCover': WHATEVER THE INPUT: true; the input reads as it did. -/
def fnCoverSpec : ChangeSpec := { name := "fnCover", fn := fun _ => fun
  | [d1, d2] => { results := [.lit (.bool true)], args := [d1, d2] }
  | _ => none }
def fnCoverRow : OpenClaim := { program := "ytmfihkgbfoapaaadoor", sum := "a0b49e0964598524b162177ecb41ee7ba61fb00546acb63e5b331fb753440e7a", func := "sieveplate/laws.FnCover", spec := "fnCover", unfollowed := true, recurses := true, named := ["io.EOF", "unicode/utf8.first", "unicode/utf8.acceptRanges", "bytes.ErrTooLarge", "unicode.properties", "unicode.Letter", "unicode.Digit"], apart := false, laid := [("unicode/utf8.acceptRanges", laid_unicode_utf8_acceptRanges), ("io.EOF", laid_io_EOF), ("unicode.properties", laid_unicode_properties), ("bytes.ErrTooLarge", laid_bytes_ErrTooLarge), ("unicode.Digit", laid_unicode_Digit), ("unicode.Letter", laid_unicode_Letter), ("unicode/utf8.first", laid_unicode_utf8_first)] }
def FnCoverSaid : Prop := fnCoverRow.holds Tryd.pinned (OpenSpec.ofChange fnCoverSpec)

/-- ITS FALSE NEIGHBOUR: 'it returns false'. Refute it at one input. -/
def fnCoverWrong : ChangeSpec := { name := "fnCover", fn := fun _ => fun
  | [d1, d2] => { results := [.lit (.bool false)], args := [d1, d2] }
  | _ => none }
def FnCoverWrongFalsely : Prop := fnCoverRow.holds Tryd.pinned (OpenSpec.ofChange fnCoverWrong)

/-- 'laws.FnErrors': WHATEVER THE INPUT: true; the input reads as it did. -/
def fnErrorsSpec : ChangeSpec := { name := "fnErrors", fn := fun _ => fun
  | [d1, d2] => { results := [.lit (.bool true)], args := [d1, d2] }
  | _ => none }
def fnErrorsRow : OpenClaim := { program := "ytmfihkgbfoapaaadoor", sum := "a0b49e0964598524b162177ecb41ee7ba61fb00546acb63e5b331fb753440e7a", func := "sieveplate/laws.FnErrors", spec := "fnErrors", unfollowed := true, recurses := true, named := ["io.EOF", "unicode/utf8.first", "unicode/utf8.acceptRanges", "bytes.ErrTooLarge", "unicode.properties", "unicode.Letter", "unicode.Digit"], apart := false, laid := [("unicode/utf8.acceptRanges", laid_unicode_utf8_acceptRanges), ("io.EOF", laid_io_EOF), ("unicode.properties", laid_unicode_properties), ("bytes.ErrTooLarge", laid_bytes_ErrTooLarge), ("unicode.Digit", laid_unicode_Digit), ("unicode.Letter", laid_unicode_Letter), ("unicode/utf8.first", laid_unicode_utf8_first)] }
def FnErrorsSaid : Prop := fnErrorsRow.holds Tryd.pinned (OpenSpec.ofChange fnErrorsSpec)

/-- ITS FALSE NEIGHBOUR: 'it returns false'. Refute it at one input. -/
def fnErrorsWrong : ChangeSpec := { name := "fnErrors", fn := fun _ => fun
  | [d1, d2] => { results := [.lit (.bool false)], args := [d1, d2] }
  | _ => none }
def FnErrorsWrongFalsely : Prop := fnErrorsRow.holds Tryd.pinned (OpenSpec.ofChange fnErrorsWrong)

/-- 'laws.FnInvalid': WHATEVER THE INPUT: true; the input reads as it did. -/
def fnInvalidSpec : ChangeSpec := { name := "fnInvalid", fn := fun _ => fun
  | [d1, d2] => { results := [.lit (.bool true)], args := [d1, d2] }
  | _ => none }
def fnInvalidRow : OpenClaim := { program := "ytmfihkgbfoapaaadoor", sum := "a0b49e0964598524b162177ecb41ee7ba61fb00546acb63e5b331fb753440e7a", func := "sieveplate/laws.FnInvalid", spec := "fnInvalid", unfollowed := true, recurses := true, named := ["io.EOF", "unicode/utf8.first", "unicode/utf8.acceptRanges", "bytes.ErrTooLarge", "unicode.properties", "unicode.Letter", "unicode.Digit"], apart := false, laid := [("unicode/utf8.acceptRanges", laid_unicode_utf8_acceptRanges), ("io.EOF", laid_io_EOF), ("unicode.properties", laid_unicode_properties), ("bytes.ErrTooLarge", laid_bytes_ErrTooLarge), ("unicode.Digit", laid_unicode_Digit), ("unicode.Letter", laid_unicode_Letter), ("unicode/utf8.first", laid_unicode_utf8_first)] }
def FnInvalidSaid : Prop := fnInvalidRow.holds Tryd.pinned (OpenSpec.ofChange fnInvalidSpec)

/-- ITS FALSE NEIGHBOUR: 'it returns false'. Refute it at one input. -/
def fnInvalidWrong : ChangeSpec := { name := "fnInvalid", fn := fun _ => fun
  | [d1, d2] => { results := [.lit (.bool false)], args := [d1, d2] }
  | _ => none }
def FnInvalidWrongFalsely : Prop := fnInvalidRow.holds Tryd.pinned (OpenSpec.ofChange fnInvalidWrong)

/-- 'laws.FnJoined': WHATEVER THE INPUT: true; the input reads as it did. -/
def fnJoinedSpec : ChangeSpec := { name := "fnJoined", fn := fun _ => fun
  | [d1, d2] => { results := [.lit (.bool true)], args := [d1, d2] }
  | _ => none }
def fnJoinedRow : OpenClaim := { program := "ytmfihkgbfoapaaadoor", sum := "a0b49e0964598524b162177ecb41ee7ba61fb00546acb63e5b331fb753440e7a", func := "sieveplate/laws.FnJoined", spec := "fnJoined", unfollowed := true, recurses := true, named := ["unicode.properties", "unicode.Letter", "unicode.Digit", "io.EOF", "unicode/utf8.first", "unicode/utf8.acceptRanges", "bytes.ErrTooLarge"], apart := false, laid := [("unicode/utf8.acceptRanges", laid_unicode_utf8_acceptRanges), ("io.EOF", laid_io_EOF), ("unicode.properties", laid_unicode_properties), ("bytes.ErrTooLarge", laid_bytes_ErrTooLarge), ("unicode.Digit", laid_unicode_Digit), ("unicode.Letter", laid_unicode_Letter), ("unicode/utf8.first", laid_unicode_utf8_first)] }
def FnJoinedSaid : Prop := fnJoinedRow.holds Tryd.pinned (OpenSpec.ofChange fnJoinedSpec)

/-- ITS FALSE NEIGHBOUR: 'it returns false'. Refute it at one input. -/
def fnJoinedWrong : ChangeSpec := { name := "fnJoined", fn := fun _ => fun
  | [d1, d2] => { results := [.lit (.bool false)], args := [d1, d2] }
  | _ => none }
def FnJoinedWrongFalsely : Prop := fnJoinedRow.holds Tryd.pinned (OpenSpec.ofChange fnJoinedWrong)

/-- 'laws.FnLines': WHATEVER THE INPUT: true; the input reads as it did. -/
def fnLinesSpec : ChangeSpec := { name := "fnLines", fn := fun _ => fun
  | [d1, d2] => { results := [.lit (.bool true)], args := [d1, d2] }
  | _ => none }
def fnLinesRow : OpenClaim := { program := "ytmfihkgbfoapaaadoor", sum := "a0b49e0964598524b162177ecb41ee7ba61fb00546acb63e5b331fb753440e7a", func := "sieveplate/laws.FnLines", spec := "fnLines", unfollowed := true, recurses := true, named := ["io.EOF", "unicode/utf8.first", "unicode/utf8.acceptRanges", "bytes.ErrTooLarge", "unicode.properties", "unicode.Letter", "unicode.Digit"], apart := false, laid := [("unicode/utf8.acceptRanges", laid_unicode_utf8_acceptRanges), ("io.EOF", laid_io_EOF), ("unicode.properties", laid_unicode_properties), ("bytes.ErrTooLarge", laid_bytes_ErrTooLarge), ("unicode.Digit", laid_unicode_Digit), ("unicode.Letter", laid_unicode_Letter), ("unicode/utf8.first", laid_unicode_utf8_first)] }
def FnLinesSaid : Prop := fnLinesRow.holds Tryd.pinned (OpenSpec.ofChange fnLinesSpec)

/-- ITS FALSE NEIGHBOUR: 'it returns false'. Refute it at one input. -/
def fnLinesWrong : ChangeSpec := { name := "fnLines", fn := fun _ => fun
  | [d1, d2] => { results := [.lit (.bool false)], args := [d1, d2] }
  | _ => none }
def FnLinesWrongFalsely : Prop := fnLinesRow.holds Tryd.pinned (OpenSpec.ofChange fnLinesWrong)

/-- 'laws.FnNUL': WHATEVER THE INPUT: true; the input reads as it did. -/
def fnNULSpec : ChangeSpec := { name := "fnNUL", fn := fun _ => fun
  | [d1, d2, d3] => { results := [.lit (.bool true)], args := [d1, d2, d3] }
  | _ => none }
def fnNULRow : OpenClaim := { program := "ytmfihkgbfoapaaadoor", sum := "a0b49e0964598524b162177ecb41ee7ba61fb00546acb63e5b331fb753440e7a", func := "sieveplate/laws.FnNUL", spec := "fnNUL", unfollowed := true, recurses := true, named := ["io.EOF", "unicode/utf8.first", "unicode/utf8.acceptRanges", "bytes.ErrTooLarge", "unicode.properties", "unicode.Letter", "unicode.Digit"], apart := false, laid := [("unicode/utf8.acceptRanges", laid_unicode_utf8_acceptRanges), ("io.EOF", laid_io_EOF), ("unicode.properties", laid_unicode_properties), ("bytes.ErrTooLarge", laid_bytes_ErrTooLarge), ("unicode.Digit", laid_unicode_Digit), ("unicode.Letter", laid_unicode_Letter), ("unicode/utf8.first", laid_unicode_utf8_first)] }
def FnNULSaid : Prop := fnNULRow.holds Tryd.pinned (OpenSpec.ofChange fnNULSpec)

/-- ITS FALSE NEIGHBOUR: 'it returns false'. Refute it at one input. -/
def fnNULWrong : ChangeSpec := { name := "fnNUL", fn := fun _ => fun
  | [d1, d2, d3] => { results := [.lit (.bool false)], args := [d1, d2, d3] }
  | _ => none }
def FnNULWrongFalsely : Prop := fnNULRow.holds Tryd.pinned (OpenSpec.ofChange fnNULWrong)

/-- 'laws.FnScan': WHATEVER THE INPUT: true; the input reads as it did. -/
def fnScanSpec : ChangeSpec := { name := "fnScan", fn := fun _ => fun
  | [d1, d2] => { results := [.lit (.bool true)], args := [d1, d2] }
  | _ => none }
def fnScanRow : OpenClaim := { program := "ytmfihkgbfoapaaadoor", sum := "a0b49e0964598524b162177ecb41ee7ba61fb00546acb63e5b331fb753440e7a", func := "sieveplate/laws.FnScan", spec := "fnScan", unfollowed := true, recurses := true, named := ["unicode.properties", "unicode.Letter", "unicode.Digit", "io.EOF", "unicode/utf8.first", "unicode/utf8.acceptRanges", "bytes.ErrTooLarge"], apart := false, laid := [("unicode/utf8.acceptRanges", laid_unicode_utf8_acceptRanges), ("io.EOF", laid_io_EOF), ("unicode.properties", laid_unicode_properties), ("bytes.ErrTooLarge", laid_bytes_ErrTooLarge), ("unicode.Digit", laid_unicode_Digit), ("unicode.Letter", laid_unicode_Letter), ("unicode/utf8.first", laid_unicode_utf8_first)] }
def FnScanSaid : Prop := fnScanRow.holds Tryd.pinned (OpenSpec.ofChange fnScanSpec)

/-- ITS FALSE NEIGHBOUR: 'it returns false'. Refute it at one input. -/
def fnScanWrong : ChangeSpec := { name := "fnScan", fn := fun _ => fun
  | [d1, d2] => { results := [.lit (.bool false)], args := [d1, d2] }
  | _ => none }
def FnScanWrongFalsely : Prop := fnScanRow.holds Tryd.pinned (OpenSpec.ofChange fnScanWrong)

/-- 'laws.FnSingle': WHATEVER THE INPUT: true; the input reads as it did. -/
def fnSingleSpec : ChangeSpec := { name := "fnSingle", fn := fun _ => fun
  | [d] => { results := [.lit (.bool true)], args := [d] }
  | _ => none }
def fnSingleRow : OpenClaim := { program := "ytmfihkgbfoapaaadoor", sum := "a0b49e0964598524b162177ecb41ee7ba61fb00546acb63e5b331fb753440e7a", func := "sieveplate/laws.FnSingle", spec := "fnSingle", unfollowed := true, recurses := true, named := ["io.EOF", "unicode/utf8.first", "unicode/utf8.acceptRanges", "bytes.ErrTooLarge", "unicode.properties", "unicode.Letter", "unicode.Digit"], apart := false, laid := [("unicode/utf8.acceptRanges", laid_unicode_utf8_acceptRanges), ("io.EOF", laid_io_EOF), ("unicode.properties", laid_unicode_properties), ("bytes.ErrTooLarge", laid_bytes_ErrTooLarge), ("unicode.Digit", laid_unicode_Digit), ("unicode.Letter", laid_unicode_Letter), ("unicode/utf8.first", laid_unicode_utf8_first)] }
def FnSingleSaid : Prop := fnSingleRow.holds Tryd.pinned (OpenSpec.ofChange fnSingleSpec)

/-- ITS FALSE NEIGHBOUR: 'it returns false'. Refute it at one input. -/
def fnSingleWrong : ChangeSpec := { name := "fnSingle", fn := fun _ => fun
  | [d] => { results := [.lit (.bool false)], args := [d] }
  | _ => none }
def FnSingleWrongFalsely : Prop := fnSingleRow.holds Tryd.pinned (OpenSpec.ofChange fnSingleWrong)

/-- 'laws.FnSizes': WHATEVER THE INPUT: true; the input reads as it did. -/
def fnSizesSpec : ChangeSpec := { name := "fnSizes", fn := fun _ => fun
  | [d1, d2, d3] => { results := [.lit (.bool true)], args := [d1, d2, d3] }
  | _ => none }
def fnSizesRow : OpenClaim := { program := "ytmfihkgbfoapaaadoor", sum := "a0b49e0964598524b162177ecb41ee7ba61fb00546acb63e5b331fb753440e7a", func := "sieveplate/laws.FnSizes", spec := "fnSizes", unfollowed := true, recurses := true, named := ["io.EOF", "unicode/utf8.first", "unicode/utf8.acceptRanges", "bytes.ErrTooLarge", "unicode.properties", "unicode.Letter", "unicode.Digit"], apart := false, laid := [("unicode/utf8.acceptRanges", laid_unicode_utf8_acceptRanges), ("io.EOF", laid_io_EOF), ("unicode.properties", laid_unicode_properties), ("bytes.ErrTooLarge", laid_bytes_ErrTooLarge), ("unicode.Digit", laid_unicode_Digit), ("unicode.Letter", laid_unicode_Letter), ("unicode/utf8.first", laid_unicode_utf8_first)] }
def FnSizesSaid : Prop := fnSizesRow.holds Tryd.pinned (OpenSpec.ofChange fnSizesSpec)

/-- ITS FALSE NEIGHBOUR: 'it returns false'. Refute it at one input. -/
def fnSizesWrong : ChangeSpec := { name := "fnSizes", fn := fun _ => fun
  | [d1, d2, d3] => { results := [.lit (.bool false)], args := [d1, d2, d3] }
  | _ => none }
def FnSizesWrongFalsely : Prop := fnSizesRow.holds Tryd.pinned (OpenSpec.ofChange fnSizesWrong)

/-- 'laws.FnSkip': WHATEVER THE INPUT: true; the input reads as it did. -/
def fnSkipSpec : ChangeSpec := { name := "fnSkip", fn := fun _ => fun
  | [d1, d2] => { results := [.lit (.bool true)], args := [d1, d2] }
  | _ => none }
def fnSkipRow : OpenClaim := { program := "ytmfihkgbfoapaaadoor", sum := "a0b49e0964598524b162177ecb41ee7ba61fb00546acb63e5b331fb753440e7a", func := "sieveplate/laws.FnSkip", spec := "fnSkip", unfollowed := true, recurses := true, named := ["io.EOF", "unicode/utf8.first", "unicode/utf8.acceptRanges", "bytes.ErrTooLarge", "unicode.properties", "unicode.Letter", "unicode.Digit"], apart := false, laid := [("unicode/utf8.acceptRanges", laid_unicode_utf8_acceptRanges), ("io.EOF", laid_io_EOF), ("unicode.properties", laid_unicode_properties), ("bytes.ErrTooLarge", laid_bytes_ErrTooLarge), ("unicode.Digit", laid_unicode_Digit), ("unicode.Letter", laid_unicode_Letter), ("unicode/utf8.first", laid_unicode_utf8_first)] }
def FnSkipSaid : Prop := fnSkipRow.holds Tryd.pinned (OpenSpec.ofChange fnSkipSpec)

/-- ITS FALSE NEIGHBOUR: 'it returns false'. Refute it at one input. -/
def fnSkipWrong : ChangeSpec := { name := "fnSkip", fn := fun _ => fun
  | [d1, d2] => { results := [.lit (.bool false)], args := [d1, d2] }
  | _ => none }
def FnSkipWrongFalsely : Prop := fnSkipRow.holds Tryd.pinned (OpenSpec.ofChange fnSkipWrong)

/-- 'laws.FnSpace': WHATEVER THE INPUT: true; the input reads as it did. -/
def fnSpaceSpec : ChangeSpec := { name := "fnSpace", fn := fun _ => fun
  | [d1, d2, d3] => { results := [.lit (.bool true)], args := [d1, d2, d3] }
  | _ => none }
def fnSpaceRow : OpenClaim := { program := "ytmfihkgbfoapaaadoor", sum := "a0b49e0964598524b162177ecb41ee7ba61fb00546acb63e5b331fb753440e7a", func := "sieveplate/laws.FnSpace", spec := "fnSpace", unfollowed := true, recurses := true, named := ["io.EOF", "unicode/utf8.first", "unicode/utf8.acceptRanges", "bytes.ErrTooLarge", "unicode.properties", "unicode.Letter", "unicode.Digit"], apart := false, laid := [("unicode/utf8.acceptRanges", laid_unicode_utf8_acceptRanges), ("io.EOF", laid_io_EOF), ("unicode.properties", laid_unicode_properties), ("bytes.ErrTooLarge", laid_bytes_ErrTooLarge), ("unicode.Digit", laid_unicode_Digit), ("unicode.Letter", laid_unicode_Letter), ("unicode/utf8.first", laid_unicode_utf8_first)] }
def FnSpaceSaid : Prop := fnSpaceRow.holds Tryd.pinned (OpenSpec.ofChange fnSpaceSpec)

/-- ITS FALSE NEIGHBOUR: 'it returns false'. Refute it at one input. -/
def fnSpaceWrong : ChangeSpec := { name := "fnSpace", fn := fun _ => fun
  | [d1, d2, d3] => { results := [.lit (.bool false)], args := [d1, d2, d3] }
  | _ => none }
def FnSpaceWrongFalsely : Prop := fnSpaceRow.holds Tryd.pinned (OpenSpec.ofChange fnSpaceWrong)

/-- 'laws.FnWritten': WHATEVER THE INPUT: true; the input reads as it did. -/
def fnWrittenSpec : ChangeSpec := { name := "fnWritten", fn := fun _ => fun
  | [d1, d2] => { results := [.lit (.bool true)], args := [d1, d2] }
  | _ => none }
def fnWrittenRow : OpenClaim := { program := "ytmfihkgbfoapaaadoor", sum := "a0b49e0964598524b162177ecb41ee7ba61fb00546acb63e5b331fb753440e7a", func := "sieveplate/laws.FnWritten", spec := "fnWritten", unfollowed := true, recurses := true, named := ["unicode.properties", "unicode.Letter", "io.EOF", "unicode/utf8.first", "unicode/utf8.acceptRanges", "bytes.ErrTooLarge", "unicode.Digit"], apart := false, laid := [("unicode/utf8.acceptRanges", laid_unicode_utf8_acceptRanges), ("io.EOF", laid_io_EOF), ("unicode.properties", laid_unicode_properties), ("bytes.ErrTooLarge", laid_bytes_ErrTooLarge), ("unicode.Digit", laid_unicode_Digit), ("unicode.Letter", laid_unicode_Letter), ("unicode/utf8.first", laid_unicode_utf8_first)] }
def FnWrittenSaid : Prop := fnWrittenRow.holds Tryd.pinned (OpenSpec.ofChange fnWrittenSpec)

/-- ITS FALSE NEIGHBOUR: 'it returns false'. Refute it at one input. -/
def fnWrittenWrong : ChangeSpec := { name := "fnWritten", fn := fun _ => fun
  | [d1, d2] => { results := [.lit (.bool false)], args := [d1, d2] }
  | _ => none }
def FnWrittenWrongFalsely : Prop := fnWrittenRow.holds Tryd.pinned (OpenSpec.ofChange fnWrittenWrong)

/-- 'laws.FnDefault': WHATEVER THE INPUT: true; the input reads as it did. -/
def fnDefaultSpec : ChangeSpec := { name := "fnDefault", fn := fun _ => fun
  | [d] => { results := [.lit (.bool true)], args := [d] }
  | _ => none }
def fnDefaultRow : OpenClaim := { program := "ytmfihkgbfoapaaadoor", sum := "a0b49e0964598524b162177ecb41ee7ba61fb00546acb63e5b331fb753440e7a", func := "sieveplate/laws.FnDefault", spec := "fnDefault", unfollowed := true, recurses := true, named := ["io.EOF", "unicode/utf8.first", "unicode/utf8.acceptRanges", "bytes.ErrTooLarge", "unicode.properties", "unicode.Letter", "unicode.Digit"], apart := false, laid := [("unicode/utf8.acceptRanges", laid_unicode_utf8_acceptRanges), ("io.EOF", laid_io_EOF), ("unicode.properties", laid_unicode_properties), ("bytes.ErrTooLarge", laid_bytes_ErrTooLarge), ("unicode.Digit", laid_unicode_Digit), ("unicode.Letter", laid_unicode_Letter), ("unicode/utf8.first", laid_unicode_utf8_first)] }
def FnDefaultSaid : Prop := fnDefaultRow.holds Tryd.pinned (OpenSpec.ofChange fnDefaultSpec)

/-- ITS FALSE NEIGHBOUR: 'it returns false'. Refute it at one input. -/
def fnDefaultWrong : ChangeSpec := { name := "fnDefault", fn := fun _ => fun
  | [d] => { results := [.lit (.bool false)], args := [d] }
  | _ => none }
def FnDefaultWrongFalsely : Prop := fnDefaultRow.holds Tryd.pinned (OpenSpec.ofChange fnDefaultWrong)

/-- 'laws.FnRunes': WHATEVER THE INPUT: true; the input reads as it did. -/
def fnRunesSpec : ChangeSpec := { name := "fnRunes", fn := fun _ => fun
  | [d1, d2] => { results := [.lit (.bool true)], args := [d1, d2] }
  | _ => none }
def fnRunesRow : OpenClaim := { program := "ytmfihkgbfoapaaadoor", sum := "a0b49e0964598524b162177ecb41ee7ba61fb00546acb63e5b331fb753440e7a", func := "sieveplate/laws.FnRunes", spec := "fnRunes", unfollowed := true, recurses := true, named := ["io.EOF", "unicode/utf8.first", "unicode/utf8.acceptRanges", "bytes.ErrTooLarge", "unicode.properties", "unicode.Letter", "unicode.Digit"], apart := false, laid := [("unicode/utf8.acceptRanges", laid_unicode_utf8_acceptRanges), ("io.EOF", laid_io_EOF), ("unicode.properties", laid_unicode_properties), ("bytes.ErrTooLarge", laid_bytes_ErrTooLarge), ("unicode.Digit", laid_unicode_Digit), ("unicode.Letter", laid_unicode_Letter), ("unicode/utf8.first", laid_unicode_utf8_first)] }
def FnRunesSaid : Prop := fnRunesRow.holds Tryd.pinned (OpenSpec.ofChange fnRunesSpec)

/-- ITS FALSE NEIGHBOUR: 'it returns false'. Refute it at one input. -/
def fnRunesWrong : ChangeSpec := { name := "fnRunes", fn := fun _ => fun
  | [d1, d2] => { results := [.lit (.bool false)], args := [d1, d2] }
  | _ => none }
def FnRunesWrongFalsely : Prop := fnRunesRow.holds Tryd.pinned (OpenSpec.ofChange fnRunesWrong)

/-- 'laws.FnPeek': WHATEVER THE INPUT: true; the input reads as it did. -/
def fnPeekSpec : ChangeSpec := { name := "fnPeek", fn := fun _ => fun
  | [d1, d2, d3] => { results := [.lit (.bool true)], args := [d1, d2, d3] }
  | _ => none }
def fnPeekRow : OpenClaim := { program := "ytmfihkgbfoapaaadoor", sum := "a0b49e0964598524b162177ecb41ee7ba61fb00546acb63e5b331fb753440e7a", func := "sieveplate/laws.FnPeek", spec := "fnPeek", unfollowed := true, recurses := true, named := ["io.EOF", "unicode/utf8.first", "unicode/utf8.acceptRanges", "bytes.ErrTooLarge", "unicode.properties", "unicode.Letter", "unicode.Digit"], apart := false, laid := [("unicode/utf8.acceptRanges", laid_unicode_utf8_acceptRanges), ("io.EOF", laid_io_EOF), ("unicode.properties", laid_unicode_properties), ("bytes.ErrTooLarge", laid_bytes_ErrTooLarge), ("unicode.Digit", laid_unicode_Digit), ("unicode.Letter", laid_unicode_Letter), ("unicode/utf8.first", laid_unicode_utf8_first)] }
def FnPeekSaid : Prop := fnPeekRow.holds Tryd.pinned (OpenSpec.ofChange fnPeekSpec)

/-- ITS FALSE NEIGHBOUR: 'it returns false'. Refute it at one input. -/
def fnPeekWrong : ChangeSpec := { name := "fnPeek", fn := fun _ => fun
  | [d1, d2, d3] => { results := [.lit (.bool false)], args := [d1, d2, d3] }
  | _ => none }
def FnPeekWrongFalsely : Prop := fnPeekRow.holds Tryd.pinned (OpenSpec.ofChange fnPeekWrong)

/-- 'laws.FnScript': WHATEVER THE INPUT: true; the input reads as it did. -/
def fnScriptSpec : ChangeSpec := { name := "fnScript", fn := fun _ => fun
  | [d1, d2, d3] => { results := [.lit (.bool true)], args := [d1, d2, d3] }
  | _ => none }
def fnScriptRow : OpenClaim := { program := "ytmfihkgbfoapaaadoor", sum := "a0b49e0964598524b162177ecb41ee7ba61fb00546acb63e5b331fb753440e7a", func := "sieveplate/laws.FnScript", spec := "fnScript", unfollowed := true, recurses := true, named := ["unicode.properties", "unicode.Letter", "unicode.Digit", "io.EOF", "unicode/utf8.first", "unicode/utf8.acceptRanges", "bytes.ErrTooLarge"], apart := false, laid := [("unicode/utf8.acceptRanges", laid_unicode_utf8_acceptRanges), ("io.EOF", laid_io_EOF), ("unicode.properties", laid_unicode_properties), ("bytes.ErrTooLarge", laid_bytes_ErrTooLarge), ("unicode.Digit", laid_unicode_Digit), ("unicode.Letter", laid_unicode_Letter), ("unicode/utf8.first", laid_unicode_utf8_first)] }
def FnScriptSaid : Prop := fnScriptRow.holds Tryd.pinned (OpenSpec.ofChange fnScriptSpec)

/-- ITS FALSE NEIGHBOUR: 'it returns false'. Refute it at one input. -/
def fnScriptWrong : ChangeSpec := { name := "fnScript", fn := fun _ => fun
  | [d1, d2, d3] => { results := [.lit (.bool false)], args := [d1, d2, d3] }
  | _ => none }
def FnScriptWrongFalsely : Prop := fnScriptRow.holds Tryd.pinned (OpenSpec.ofChange fnScriptWrong)

/- THE SECOND FORM. 'bulk': how many values and letters a reading holds, each counted each time it is reached (what is shared counts as often as it is met; a slice's spare places count too). A statement '..UptoSaid' is the law's where the arguments, and the package variables that the reading takes, are together of bulk at most 1048576: NARROWER than '..Said'. Prove '..Said' where nothing that the law and all that it calls make is longer than what came in: it says more and counts as full. Else prove '..UptoSaid'. A law counts once. -/
mutual
def uptoBulk {H : Type} : DataW H → Nat
  | .lit (.string bytes) => bytes.length + 1
  | .lit _ => 1
  | .nil => 1
  | .ptr d => uptoBulk d + 1
  | .slice elems spare => uptoBulkAll elems + uptoBulkAll spare + 1
  | .agg parts => uptoBulkAll parts + 1
  | .iface _ d => uptoBulk d + 1
  | .map entries => uptoBulkEntries entries + 1
  | .held _ => 1
def uptoBulkAll {H : Type} : List (DataW H) → Nat
  | [] => 0
  | d :: r => uptoBulk d + uptoBulkAll r
def uptoBulkEntries {H : Type} : List (Lit × DataW H) → Nat
  | [] => 0
  | x :: r => uptoBulkEntry x + uptoBulkEntries r
def uptoBulkEntry {H : Type} : Lit × DataW H → Nat
  | (.string bytes, d) => bytes.length + uptoBulk d + 1
  | (_, d) => uptoBulk d + 1
 end
def uptoSmall : (H : Type) → List (DataW H) → Bool := fun _ ds => decide (uptoBulkAll ds ≤ 1048576)
def OpenSpec.upto (s : _root_.Go.ChangeSpec) : _root_.Go.OpenSpec := { _root_.Go.OpenSpec.ofChange s with cond := some uptoSmall }

/-- 'laws.FnBOM', WHERE WHAT IT READS IS OF BULK AT MOST 1048576: true; the input reads as it did. -/
def fnBOMUptoRow : OpenClaim := { program := "ytmfihkgbfoapaaadoor", sum := "a0b49e0964598524b162177ecb41ee7ba61fb00546acb63e5b331fb753440e7a", func := "sieveplate/laws.FnBOM", spec := "fnBOM", unfollowed := true, recurses := true, named := ["unicode.properties", "unicode.Letter", "unicode.Digit", "io.EOF", "unicode/utf8.first", "unicode/utf8.acceptRanges", "bytes.ErrTooLarge"], apart := false, laid := [("unicode/utf8.acceptRanges", laid_unicode_utf8_acceptRanges), ("io.EOF", laid_io_EOF), ("unicode.properties", laid_unicode_properties), ("bytes.ErrTooLarge", laid_bytes_ErrTooLarge), ("unicode.Digit", laid_unicode_Digit), ("unicode.Letter", laid_unicode_Letter), ("unicode/utf8.first", laid_unicode_utf8_first)], narrowed := true }
def FnBOMUptoSaid : Prop := fnBOMUptoRow.holds Tryd.pinned (OpenSpec.upto fnBOMSpec)

/-- 'laws.FnCover', WHERE WHAT IT READS IS OF BULK AT MOST 1048576: true; the input reads as it did. -/
def fnCoverUptoRow : OpenClaim := { program := "ytmfihkgbfoapaaadoor", sum := "a0b49e0964598524b162177ecb41ee7ba61fb00546acb63e5b331fb753440e7a", func := "sieveplate/laws.FnCover", spec := "fnCover", unfollowed := true, recurses := true, named := ["io.EOF", "unicode/utf8.first", "unicode/utf8.acceptRanges", "bytes.ErrTooLarge", "unicode.properties", "unicode.Letter", "unicode.Digit"], apart := false, laid := [("unicode/utf8.acceptRanges", laid_unicode_utf8_acceptRanges), ("io.EOF", laid_io_EOF), ("unicode.properties", laid_unicode_properties), ("bytes.ErrTooLarge", laid_bytes_ErrTooLarge), ("unicode.Digit", laid_unicode_Digit), ("unicode.Letter", laid_unicode_Letter), ("unicode/utf8.first", laid_unicode_utf8_first)], narrowed := true }
def FnCoverUptoSaid : Prop := fnCoverUptoRow.holds Tryd.pinned (OpenSpec.upto fnCoverSpec)

/-- 'laws.FnErrors', WHERE WHAT IT READS IS OF BULK AT MOST 1048576: true; the input reads as it did. -/
def fnErrorsUptoRow : OpenClaim := { program := "ytmfihkgbfoapaaadoor", sum := "a0b49e0964598524b162177ecb41ee7ba61fb00546acb63e5b331fb753440e7a", func := "sieveplate/laws.FnErrors", spec := "fnErrors", unfollowed := true, recurses := true, named := ["io.EOF", "unicode/utf8.first", "unicode/utf8.acceptRanges", "bytes.ErrTooLarge", "unicode.properties", "unicode.Letter", "unicode.Digit"], apart := false, laid := [("unicode/utf8.acceptRanges", laid_unicode_utf8_acceptRanges), ("io.EOF", laid_io_EOF), ("unicode.properties", laid_unicode_properties), ("bytes.ErrTooLarge", laid_bytes_ErrTooLarge), ("unicode.Digit", laid_unicode_Digit), ("unicode.Letter", laid_unicode_Letter), ("unicode/utf8.first", laid_unicode_utf8_first)], narrowed := true }
def FnErrorsUptoSaid : Prop := fnErrorsUptoRow.holds Tryd.pinned (OpenSpec.upto fnErrorsSpec)

/-- 'laws.FnInvalid', WHERE WHAT IT READS IS OF BULK AT MOST 1048576: true; the input reads as it did. -/
def fnInvalidUptoRow : OpenClaim := { program := "ytmfihkgbfoapaaadoor", sum := "a0b49e0964598524b162177ecb41ee7ba61fb00546acb63e5b331fb753440e7a", func := "sieveplate/laws.FnInvalid", spec := "fnInvalid", unfollowed := true, recurses := true, named := ["io.EOF", "unicode/utf8.first", "unicode/utf8.acceptRanges", "bytes.ErrTooLarge", "unicode.properties", "unicode.Letter", "unicode.Digit"], apart := false, laid := [("unicode/utf8.acceptRanges", laid_unicode_utf8_acceptRanges), ("io.EOF", laid_io_EOF), ("unicode.properties", laid_unicode_properties), ("bytes.ErrTooLarge", laid_bytes_ErrTooLarge), ("unicode.Digit", laid_unicode_Digit), ("unicode.Letter", laid_unicode_Letter), ("unicode/utf8.first", laid_unicode_utf8_first)], narrowed := true }
def FnInvalidUptoSaid : Prop := fnInvalidUptoRow.holds Tryd.pinned (OpenSpec.upto fnInvalidSpec)

/-- 'laws.FnJoined', WHERE WHAT IT READS IS OF BULK AT MOST 1048576: true; the input reads as it did. -/
def fnJoinedUptoRow : OpenClaim := { program := "ytmfihkgbfoapaaadoor", sum := "a0b49e0964598524b162177ecb41ee7ba61fb00546acb63e5b331fb753440e7a", func := "sieveplate/laws.FnJoined", spec := "fnJoined", unfollowed := true, recurses := true, named := ["unicode.properties", "unicode.Letter", "unicode.Digit", "io.EOF", "unicode/utf8.first", "unicode/utf8.acceptRanges", "bytes.ErrTooLarge"], apart := false, laid := [("unicode/utf8.acceptRanges", laid_unicode_utf8_acceptRanges), ("io.EOF", laid_io_EOF), ("unicode.properties", laid_unicode_properties), ("bytes.ErrTooLarge", laid_bytes_ErrTooLarge), ("unicode.Digit", laid_unicode_Digit), ("unicode.Letter", laid_unicode_Letter), ("unicode/utf8.first", laid_unicode_utf8_first)], narrowed := true }
def FnJoinedUptoSaid : Prop := fnJoinedUptoRow.holds Tryd.pinned (OpenSpec.upto fnJoinedSpec)

/-- 'laws.FnLines', WHERE WHAT IT READS IS OF BULK AT MOST 1048576: true; the input reads as it did. -/
def fnLinesUptoRow : OpenClaim := { program := "ytmfihkgbfoapaaadoor", sum := "a0b49e0964598524b162177ecb41ee7ba61fb00546acb63e5b331fb753440e7a", func := "sieveplate/laws.FnLines", spec := "fnLines", unfollowed := true, recurses := true, named := ["io.EOF", "unicode/utf8.first", "unicode/utf8.acceptRanges", "bytes.ErrTooLarge", "unicode.properties", "unicode.Letter", "unicode.Digit"], apart := false, laid := [("unicode/utf8.acceptRanges", laid_unicode_utf8_acceptRanges), ("io.EOF", laid_io_EOF), ("unicode.properties", laid_unicode_properties), ("bytes.ErrTooLarge", laid_bytes_ErrTooLarge), ("unicode.Digit", laid_unicode_Digit), ("unicode.Letter", laid_unicode_Letter), ("unicode/utf8.first", laid_unicode_utf8_first)], narrowed := true }
def FnLinesUptoSaid : Prop := fnLinesUptoRow.holds Tryd.pinned (OpenSpec.upto fnLinesSpec)

/-- 'laws.FnNUL', WHERE WHAT IT READS IS OF BULK AT MOST 1048576: true; the input reads as it did. -/
def fnNULUptoRow : OpenClaim := { program := "ytmfihkgbfoapaaadoor", sum := "a0b49e0964598524b162177ecb41ee7ba61fb00546acb63e5b331fb753440e7a", func := "sieveplate/laws.FnNUL", spec := "fnNUL", unfollowed := true, recurses := true, named := ["io.EOF", "unicode/utf8.first", "unicode/utf8.acceptRanges", "bytes.ErrTooLarge", "unicode.properties", "unicode.Letter", "unicode.Digit"], apart := false, laid := [("unicode/utf8.acceptRanges", laid_unicode_utf8_acceptRanges), ("io.EOF", laid_io_EOF), ("unicode.properties", laid_unicode_properties), ("bytes.ErrTooLarge", laid_bytes_ErrTooLarge), ("unicode.Digit", laid_unicode_Digit), ("unicode.Letter", laid_unicode_Letter), ("unicode/utf8.first", laid_unicode_utf8_first)], narrowed := true }
def FnNULUptoSaid : Prop := fnNULUptoRow.holds Tryd.pinned (OpenSpec.upto fnNULSpec)

/-- 'laws.FnScan', WHERE WHAT IT READS IS OF BULK AT MOST 1048576: true; the input reads as it did. -/
def fnScanUptoRow : OpenClaim := { program := "ytmfihkgbfoapaaadoor", sum := "a0b49e0964598524b162177ecb41ee7ba61fb00546acb63e5b331fb753440e7a", func := "sieveplate/laws.FnScan", spec := "fnScan", unfollowed := true, recurses := true, named := ["unicode.properties", "unicode.Letter", "unicode.Digit", "io.EOF", "unicode/utf8.first", "unicode/utf8.acceptRanges", "bytes.ErrTooLarge"], apart := false, laid := [("unicode/utf8.acceptRanges", laid_unicode_utf8_acceptRanges), ("io.EOF", laid_io_EOF), ("unicode.properties", laid_unicode_properties), ("bytes.ErrTooLarge", laid_bytes_ErrTooLarge), ("unicode.Digit", laid_unicode_Digit), ("unicode.Letter", laid_unicode_Letter), ("unicode/utf8.first", laid_unicode_utf8_first)], narrowed := true }
def FnScanUptoSaid : Prop := fnScanUptoRow.holds Tryd.pinned (OpenSpec.upto fnScanSpec)

/-- 'laws.FnSingle', WHERE WHAT IT READS IS OF BULK AT MOST 1048576: true; the input reads as it did. -/
def fnSingleUptoRow : OpenClaim := { program := "ytmfihkgbfoapaaadoor", sum := "a0b49e0964598524b162177ecb41ee7ba61fb00546acb63e5b331fb753440e7a", func := "sieveplate/laws.FnSingle", spec := "fnSingle", unfollowed := true, recurses := true, named := ["io.EOF", "unicode/utf8.first", "unicode/utf8.acceptRanges", "bytes.ErrTooLarge", "unicode.properties", "unicode.Letter", "unicode.Digit"], apart := false, laid := [("unicode/utf8.acceptRanges", laid_unicode_utf8_acceptRanges), ("io.EOF", laid_io_EOF), ("unicode.properties", laid_unicode_properties), ("bytes.ErrTooLarge", laid_bytes_ErrTooLarge), ("unicode.Digit", laid_unicode_Digit), ("unicode.Letter", laid_unicode_Letter), ("unicode/utf8.first", laid_unicode_utf8_first)], narrowed := true }
def FnSingleUptoSaid : Prop := fnSingleUptoRow.holds Tryd.pinned (OpenSpec.upto fnSingleSpec)

/-- 'laws.FnSizes', WHERE WHAT IT READS IS OF BULK AT MOST 1048576: true; the input reads as it did. -/
def fnSizesUptoRow : OpenClaim := { program := "ytmfihkgbfoapaaadoor", sum := "a0b49e0964598524b162177ecb41ee7ba61fb00546acb63e5b331fb753440e7a", func := "sieveplate/laws.FnSizes", spec := "fnSizes", unfollowed := true, recurses := true, named := ["io.EOF", "unicode/utf8.first", "unicode/utf8.acceptRanges", "bytes.ErrTooLarge", "unicode.properties", "unicode.Letter", "unicode.Digit"], apart := false, laid := [("unicode/utf8.acceptRanges", laid_unicode_utf8_acceptRanges), ("io.EOF", laid_io_EOF), ("unicode.properties", laid_unicode_properties), ("bytes.ErrTooLarge", laid_bytes_ErrTooLarge), ("unicode.Digit", laid_unicode_Digit), ("unicode.Letter", laid_unicode_Letter), ("unicode/utf8.first", laid_unicode_utf8_first)], narrowed := true }
def FnSizesUptoSaid : Prop := fnSizesUptoRow.holds Tryd.pinned (OpenSpec.upto fnSizesSpec)

/-- 'laws.FnSkip', WHERE WHAT IT READS IS OF BULK AT MOST 1048576: true; the input reads as it did. -/
def fnSkipUptoRow : OpenClaim := { program := "ytmfihkgbfoapaaadoor", sum := "a0b49e0964598524b162177ecb41ee7ba61fb00546acb63e5b331fb753440e7a", func := "sieveplate/laws.FnSkip", spec := "fnSkip", unfollowed := true, recurses := true, named := ["io.EOF", "unicode/utf8.first", "unicode/utf8.acceptRanges", "bytes.ErrTooLarge", "unicode.properties", "unicode.Letter", "unicode.Digit"], apart := false, laid := [("unicode/utf8.acceptRanges", laid_unicode_utf8_acceptRanges), ("io.EOF", laid_io_EOF), ("unicode.properties", laid_unicode_properties), ("bytes.ErrTooLarge", laid_bytes_ErrTooLarge), ("unicode.Digit", laid_unicode_Digit), ("unicode.Letter", laid_unicode_Letter), ("unicode/utf8.first", laid_unicode_utf8_first)], narrowed := true }
def FnSkipUptoSaid : Prop := fnSkipUptoRow.holds Tryd.pinned (OpenSpec.upto fnSkipSpec)

/-- 'laws.FnSpace', WHERE WHAT IT READS IS OF BULK AT MOST 1048576: true; the input reads as it did. -/
def fnSpaceUptoRow : OpenClaim := { program := "ytmfihkgbfoapaaadoor", sum := "a0b49e0964598524b162177ecb41ee7ba61fb00546acb63e5b331fb753440e7a", func := "sieveplate/laws.FnSpace", spec := "fnSpace", unfollowed := true, recurses := true, named := ["io.EOF", "unicode/utf8.first", "unicode/utf8.acceptRanges", "bytes.ErrTooLarge", "unicode.properties", "unicode.Letter", "unicode.Digit"], apart := false, laid := [("unicode/utf8.acceptRanges", laid_unicode_utf8_acceptRanges), ("io.EOF", laid_io_EOF), ("unicode.properties", laid_unicode_properties), ("bytes.ErrTooLarge", laid_bytes_ErrTooLarge), ("unicode.Digit", laid_unicode_Digit), ("unicode.Letter", laid_unicode_Letter), ("unicode/utf8.first", laid_unicode_utf8_first)], narrowed := true }
def FnSpaceUptoSaid : Prop := fnSpaceUptoRow.holds Tryd.pinned (OpenSpec.upto fnSpaceSpec)

/-- 'laws.FnWritten', WHERE WHAT IT READS IS OF BULK AT MOST 1048576: true; the input reads as it did. -/
def fnWrittenUptoRow : OpenClaim := { program := "ytmfihkgbfoapaaadoor", sum := "a0b49e0964598524b162177ecb41ee7ba61fb00546acb63e5b331fb753440e7a", func := "sieveplate/laws.FnWritten", spec := "fnWritten", unfollowed := true, recurses := true, named := ["unicode.properties", "unicode.Letter", "io.EOF", "unicode/utf8.first", "unicode/utf8.acceptRanges", "bytes.ErrTooLarge", "unicode.Digit"], apart := false, laid := [("unicode/utf8.acceptRanges", laid_unicode_utf8_acceptRanges), ("io.EOF", laid_io_EOF), ("unicode.properties", laid_unicode_properties), ("bytes.ErrTooLarge", laid_bytes_ErrTooLarge), ("unicode.Digit", laid_unicode_Digit), ("unicode.Letter", laid_unicode_Letter), ("unicode/utf8.first", laid_unicode_utf8_first)], narrowed := true }
def FnWrittenUptoSaid : Prop := fnWrittenUptoRow.holds Tryd.pinned (OpenSpec.upto fnWrittenSpec)

/-- 'laws.FnDefault', WHERE WHAT IT READS IS OF BULK AT MOST 1048576: true; the input reads as it did. -/
def fnDefaultUptoRow : OpenClaim := { program := "ytmfihkgbfoapaaadoor", sum := "a0b49e0964598524b162177ecb41ee7ba61fb00546acb63e5b331fb753440e7a", func := "sieveplate/laws.FnDefault", spec := "fnDefault", unfollowed := true, recurses := true, named := ["io.EOF", "unicode/utf8.first", "unicode/utf8.acceptRanges", "bytes.ErrTooLarge", "unicode.properties", "unicode.Letter", "unicode.Digit"], apart := false, laid := [("unicode/utf8.acceptRanges", laid_unicode_utf8_acceptRanges), ("io.EOF", laid_io_EOF), ("unicode.properties", laid_unicode_properties), ("bytes.ErrTooLarge", laid_bytes_ErrTooLarge), ("unicode.Digit", laid_unicode_Digit), ("unicode.Letter", laid_unicode_Letter), ("unicode/utf8.first", laid_unicode_utf8_first)], narrowed := true }
def FnDefaultUptoSaid : Prop := fnDefaultUptoRow.holds Tryd.pinned (OpenSpec.upto fnDefaultSpec)

/-- 'laws.FnRunes', WHERE WHAT IT READS IS OF BULK AT MOST 1048576: true; the input reads as it did. -/
def fnRunesUptoRow : OpenClaim := { program := "ytmfihkgbfoapaaadoor", sum := "a0b49e0964598524b162177ecb41ee7ba61fb00546acb63e5b331fb753440e7a", func := "sieveplate/laws.FnRunes", spec := "fnRunes", unfollowed := true, recurses := true, named := ["io.EOF", "unicode/utf8.first", "unicode/utf8.acceptRanges", "bytes.ErrTooLarge", "unicode.properties", "unicode.Letter", "unicode.Digit"], apart := false, laid := [("unicode/utf8.acceptRanges", laid_unicode_utf8_acceptRanges), ("io.EOF", laid_io_EOF), ("unicode.properties", laid_unicode_properties), ("bytes.ErrTooLarge", laid_bytes_ErrTooLarge), ("unicode.Digit", laid_unicode_Digit), ("unicode.Letter", laid_unicode_Letter), ("unicode/utf8.first", laid_unicode_utf8_first)], narrowed := true }
def FnRunesUptoSaid : Prop := fnRunesUptoRow.holds Tryd.pinned (OpenSpec.upto fnRunesSpec)

/-- 'laws.FnPeek', WHERE WHAT IT READS IS OF BULK AT MOST 1048576: true; the input reads as it did. -/
def fnPeekUptoRow : OpenClaim := { program := "ytmfihkgbfoapaaadoor", sum := "a0b49e0964598524b162177ecb41ee7ba61fb00546acb63e5b331fb753440e7a", func := "sieveplate/laws.FnPeek", spec := "fnPeek", unfollowed := true, recurses := true, named := ["io.EOF", "unicode/utf8.first", "unicode/utf8.acceptRanges", "bytes.ErrTooLarge", "unicode.properties", "unicode.Letter", "unicode.Digit"], apart := false, laid := [("unicode/utf8.acceptRanges", laid_unicode_utf8_acceptRanges), ("io.EOF", laid_io_EOF), ("unicode.properties", laid_unicode_properties), ("bytes.ErrTooLarge", laid_bytes_ErrTooLarge), ("unicode.Digit", laid_unicode_Digit), ("unicode.Letter", laid_unicode_Letter), ("unicode/utf8.first", laid_unicode_utf8_first)], narrowed := true }
def FnPeekUptoSaid : Prop := fnPeekUptoRow.holds Tryd.pinned (OpenSpec.upto fnPeekSpec)

/-- 'laws.FnScript', WHERE WHAT IT READS IS OF BULK AT MOST 1048576: true; the input reads as it did. -/
def fnScriptUptoRow : OpenClaim := { program := "ytmfihkgbfoapaaadoor", sum := "a0b49e0964598524b162177ecb41ee7ba61fb00546acb63e5b331fb753440e7a", func := "sieveplate/laws.FnScript", spec := "fnScript", unfollowed := true, recurses := true, named := ["unicode.properties", "unicode.Letter", "unicode.Digit", "io.EOF", "unicode/utf8.first", "unicode/utf8.acceptRanges", "bytes.ErrTooLarge"], apart := false, laid := [("unicode/utf8.acceptRanges", laid_unicode_utf8_acceptRanges), ("io.EOF", laid_io_EOF), ("unicode.properties", laid_unicode_properties), ("bytes.ErrTooLarge", laid_bytes_ErrTooLarge), ("unicode.Digit", laid_unicode_Digit), ("unicode.Letter", laid_unicode_Letter), ("unicode/utf8.first", laid_unicode_utf8_first)], narrowed := true }
def FnScriptUptoSaid : Prop := fnScriptUptoRow.holds Tryd.pinned (OpenSpec.upto fnScriptSpec)

end Rows
end Go.Proofs.YtmfihkgbfoapaaaDoor

/-
  NARROWER THAN 'FOR EVERY INPUT', by the rows' own cells (each row's printed sentence says how): FnListWriteQuotedBreaksKeepOneLineEach: laid · FnListEndIsTheByteAfterEachName: laid.
  DERIVED. THE GIVEN ROWS OF THIS SEAT. 2 by the template 'for every input the law returns true; each argument reads behind the call as it read before'; 0 by the template 'total and deterministic' (their statements: Qxb6614942aDoorTotals.lean).
  GIVEN WITH THE SEED: the statements are not yours to turn. If you find one false, say at which input.
  Laid BY PROGRAM, IN A SANDBOX (cutbox-rows.mjs): the forced cells as the released guide's own fill.sh prints them over the translation a4a0c18168d1936e… (all of the seat's roots in one cut). By AI agents, Wed Nov 11 2026. No macro, syntax, notation, axiom, sorry.
-/
import Derived.Test.Qxb6614942aDoorChecked
import GoSem.PinnedTables
import GoSem.Claim
import GoSem.ClaimJoined
import GoSem.ClaimMapViews
import Derived.JoinedTies
import Derived.KernelRfl
namespace Go.Proofs.Qxb6614942aDoor
/- THE CELL 'sum', in the pinned program and in every row, IS THE sha256 OF THE DUMP (.gsa) THAT Qxb6614942aDoorProg.lean LOADS. Nothing in Lean hashes anything: it is a label: what it is worth is what the hold of that sum in a sandbox is worth. -/
noncomputable def Tryd.pinned : Pinned := { name := "qxb6614942adoor", sum := "a4a0c18168d1936e065938315ea8e02654c32dfcfe8cbb9c0f416cb262985c52", checked := Tryd.checked }
namespace Rows
def none {H : Type} : Left H := { results := [], args := [] }

/- WHAT THE LISTED PACKAGE-LEVEL VARIABLES READ AS WHEN THE CALL BEGINS. Each datum BY PROGRAM (the guide's laid-datum.mjs) off the statement by which the dump's own 'gosem.cut.vars' lays the variable. In a bare row this is a premise. The card (Qxb6614942aDoorCards.lean) ties it to the program's text. -/
def laid_unicode_utf8_acceptRanges {H : Type} : DataW H := .agg [.agg [.lit (.int .u8 128), .lit (.int .u8 191)], .agg [.lit (.int .u8 160), .lit (.int .u8 191)], .agg [.lit (.int .u8 128), .lit (.int .u8 159)], .agg [.lit (.int .u8 144), .lit (.int .u8 191)], .agg [.lit (.int .u8 128), .lit (.int .u8 143)], .agg [.lit (.int .u8 0), .lit (.int .u8 0)], .agg [.lit (.int .u8 0), .lit (.int .u8 0)], .agg [.lit (.int .u8 0), .lit (.int .u8 0)], .agg [.lit (.int .u8 0), .lit (.int .u8 0)], .agg [.lit (.int .u8 0), .lit (.int .u8 0)], .agg [.lit (.int .u8 0), .lit (.int .u8 0)], .agg [.lit (.int .u8 0), .lit (.int .u8 0)], .agg [.lit (.int .u8 0), .lit (.int .u8 0)], .agg [.lit (.int .u8 0), .lit (.int .u8 0)], .agg [.lit (.int .u8 0), .lit (.int .u8 0)], .agg [.lit (.int .u8 0), .lit (.int .u8 0)]]
def laid_io_ErrShortWrite {H : Type} : DataW H := .iface "*errors.errorString" (.ptr (.agg [.lit (.string [115, 104, 111, 114, 116, 32, 119, 114, 105, 116, 101])]))
/-- One of Go's own tables, pinned by name: the form's constant. -/
def laid_strconv_isGraphic : DataW Unit := Go.Pinned.isGraphic
/-- One of Go's own tables, pinned by name: the form's constant. -/
def laid_strconv_isNotPrint16 : DataW Unit := Go.Pinned.isNotPrint16
/-- One of Go's own tables, pinned by name: the form's constant. -/
def laid_strconv_isNotPrint32 : DataW Unit := Go.Pinned.isNotPrint32
/-- One of Go's own tables, pinned by name: the form's constant. -/
def laid_strconv_isPrint16 : DataW Unit := Go.Pinned.isPrint16
/-- One of Go's own tables, pinned by name: the form's constant. -/
def laid_strconv_isPrint32 : DataW Unit := Go.Pinned.isPrint32
/-- One of Go's own tables, pinned by name: the form's constant. -/
def laid_unicode_utf8_first : DataW Unit := Go.Pinned.utf8First

/-- 'zzlaws_internal_output_b1.FnListWriteQuotedBreaksKeepOneLineEach': WHATEVER THE INPUT: true; the input reads as it did. -/
def fnListWriteQuotedBreaksKeepOneLineEachSpec : ChangeSpec := { name := "fnListWriteQuotedBreaksKeepOneLineEach", fn := fun _ => fun
  | [d1, d2, d3, d4, d5] => { results := [.lit (.bool true)], args := [d1, d2, d3, d4, d5] }
  | _ => none }
def fnListWriteQuotedBreaksKeepOneLineEachRow : OpenClaim := { program := "qxb6614942adoor", sum := "a4a0c18168d1936e065938315ea8e02654c32dfcfe8cbb9c0f416cb262985c52", func := "example.com/tpat/tpat/zzlaws_internal_output_b1.FnListWriteQuotedBreaksKeepOneLineEach", spec := "fnListWriteQuotedBreaksKeepOneLineEach", inPlace := ["internal/bytealg.IndexByte"], unfollowed := true, recurses := true, named := ["unicode/utf8.first", "unicode/utf8.acceptRanges", "strconv.isPrint16", "strconv.isNotPrint16", "strconv.isPrint32", "strconv.isNotPrint32", "strconv.isGraphic", "io.ErrShortWrite"], apart := false, laid := [("unicode/utf8.acceptRanges", laid_unicode_utf8_acceptRanges), ("io.ErrShortWrite", laid_io_ErrShortWrite), ("strconv.isGraphic", laid_strconv_isGraphic), ("strconv.isNotPrint16", laid_strconv_isNotPrint16), ("strconv.isNotPrint32", laid_strconv_isNotPrint32), ("strconv.isPrint16", laid_strconv_isPrint16), ("strconv.isPrint32", laid_strconv_isPrint32), ("unicode/utf8.first", laid_unicode_utf8_first)] }
def FnListWriteQuotedBreaksKeepOneLineEachSaid : Prop := fnListWriteQuotedBreaksKeepOneLineEachRow.holds Tryd.pinned (OpenSpec.ofChange fnListWriteQuotedBreaksKeepOneLineEachSpec)

/-- ITS FALSE NEIGHBOUR: 'it returns false'. Refute it at one input. -/
def fnListWriteQuotedBreaksKeepOneLineEachWrong : ChangeSpec := { name := "fnListWriteQuotedBreaksKeepOneLineEach", fn := fun _ => fun
  | [d1, d2, d3, d4, d5] => { results := [.lit (.bool false)], args := [d1, d2, d3, d4, d5] }
  | _ => none }
def FnListWriteQuotedBreaksKeepOneLineEachWrongFalsely : Prop := fnListWriteQuotedBreaksKeepOneLineEachRow.holds Tryd.pinned (OpenSpec.ofChange fnListWriteQuotedBreaksKeepOneLineEachWrong)

/-- 'zzlaws_internal_output_b1.FnListEndIsTheByteAfterEachName': WHATEVER THE INPUT: true; the input reads as it did. -/
def fnListEndIsTheByteAfterEachNameSpec : ChangeSpec := { name := "fnListEndIsTheByteAfterEachName", fn := fun _ => fun
  | [d1, d2, d3, d4] => { results := [.lit (.bool true)], args := [d1, d2, d3, d4] }
  | _ => none }
def fnListEndIsTheByteAfterEachNameRow : OpenClaim := { program := "qxb6614942adoor", sum := "a4a0c18168d1936e065938315ea8e02654c32dfcfe8cbb9c0f416cb262985c52", func := "example.com/tpat/tpat/zzlaws_internal_output_b1.FnListEndIsTheByteAfterEachName", spec := "fnListEndIsTheByteAfterEachName", inPlace := ["internal/bytealg.IndexByte"], unfollowed := true, recurses := true, named := ["unicode/utf8.first", "unicode/utf8.acceptRanges", "strconv.isPrint16", "strconv.isNotPrint16", "strconv.isPrint32", "strconv.isNotPrint32", "strconv.isGraphic", "io.ErrShortWrite"], apart := false, laid := [("unicode/utf8.acceptRanges", laid_unicode_utf8_acceptRanges), ("io.ErrShortWrite", laid_io_ErrShortWrite), ("strconv.isGraphic", laid_strconv_isGraphic), ("strconv.isNotPrint16", laid_strconv_isNotPrint16), ("strconv.isNotPrint32", laid_strconv_isNotPrint32), ("strconv.isPrint16", laid_strconv_isPrint16), ("strconv.isPrint32", laid_strconv_isPrint32), ("unicode/utf8.first", laid_unicode_utf8_first)] }
def FnListEndIsTheByteAfterEachNameSaid : Prop := fnListEndIsTheByteAfterEachNameRow.holds Tryd.pinned (OpenSpec.ofChange fnListEndIsTheByteAfterEachNameSpec)

/-- ITS FALSE NEIGHBOUR: 'it returns false'. Refute it at one input. -/
def fnListEndIsTheByteAfterEachNameWrong : ChangeSpec := { name := "fnListEndIsTheByteAfterEachName", fn := fun _ => fun
  | [d1, d2, d3, d4] => { results := [.lit (.bool false)], args := [d1, d2, d3, d4] }
  | _ => none }
def FnListEndIsTheByteAfterEachNameWrongFalsely : Prop := fnListEndIsTheByteAfterEachNameRow.holds Tryd.pinned (OpenSpec.ofChange fnListEndIsTheByteAfterEachNameWrong)

end Rows
end Go.Proofs.Qxb6614942aDoor

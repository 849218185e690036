/-
  NARROWER THAN 'FOR EVERY INPUT', by the rows' own cells (each row's printed sentence says how): FnLineResumes: laid · FnLineSplitsStream: laid.
  DERIVED. THE GIVEN ROWS OF THIS SEAT. 2 by the template 'for every input the law returns true; each argument reads behind the call as it read before'; 0 by the template 'total and deterministic' (their statements: Qxb6003622aDoorTotals.lean).
  GIVEN WITH THE SEED: the statements are not yours to turn. If you find one false, say at which input.
  Laid BY PROGRAM, IN A SANDBOX (cutbox-rows.mjs): the forced cells as the released guide's own fill.sh prints them over the translation 4b7314c9001cad48… (all of the seat's roots in one cut). By AI agents, Wed Nov 11 2026. No macro, syntax, notation, axiom, sorry.
-/
import Derived.Test.Qxb6003622aDoorChecked
import GoSem.PinnedTables
import GoSem.Claim
import GoSem.ClaimJoined
import GoSem.ClaimMapViews
import Derived.JoinedTies
import Derived.KernelRfl
namespace Go.Proofs.Qxb6003622aDoor
/- THE CELL 'sum', in the pinned program and in every row, IS THE sha256 OF THE DUMP (.gsa) THAT Qxb6003622aDoorProg.lean LOADS. Nothing in Lean hashes anything: it is a label: what it is worth is what the hold of that sum in a sandbox is worth. -/
noncomputable def Tryd.pinned : Pinned := { name := "qxb6003622adoor", sum := "4b7314c9001cad4860be5ade38451434c75accc6d55398b049d1a0ec1ae3997f", checked := Tryd.checked }
namespace Rows
def none {H : Type} : Left H := { results := [], args := [] }

/- WHAT THE LISTED PACKAGE-LEVEL VARIABLES READ AS WHEN THE CALL BEGINS. Each datum BY PROGRAM (the guide's laid-datum.mjs) off the statement by which the dump's own 'gosem.cut.vars' lays the variable. In a bare row this is a premise. The card (Qxb6003622aDoorCards.lean) ties it to the program's text. -/
def laid_unicode_utf8_acceptRanges {H : Type} : DataW H := .agg [.agg [.lit (.int .u8 128), .lit (.int .u8 191)], .agg [.lit (.int .u8 160), .lit (.int .u8 191)], .agg [.lit (.int .u8 128), .lit (.int .u8 159)], .agg [.lit (.int .u8 144), .lit (.int .u8 191)], .agg [.lit (.int .u8 128), .lit (.int .u8 143)], .agg [.lit (.int .u8 0), .lit (.int .u8 0)], .agg [.lit (.int .u8 0), .lit (.int .u8 0)], .agg [.lit (.int .u8 0), .lit (.int .u8 0)], .agg [.lit (.int .u8 0), .lit (.int .u8 0)], .agg [.lit (.int .u8 0), .lit (.int .u8 0)], .agg [.lit (.int .u8 0), .lit (.int .u8 0)], .agg [.lit (.int .u8 0), .lit (.int .u8 0)], .agg [.lit (.int .u8 0), .lit (.int .u8 0)], .agg [.lit (.int .u8 0), .lit (.int .u8 0)], .agg [.lit (.int .u8 0), .lit (.int .u8 0)], .agg [.lit (.int .u8 0), .lit (.int .u8 0)]]
/-- One of Go's own tables, pinned by name: the form's constant. -/
def laid_unicode_utf8_first : DataW Unit := Go.Pinned.utf8First

/-- 'zzlaws_root_b1.FnLineResumes': WHATEVER THE INPUT: true; the input reads as it did. -/
def fnLineResumesSpec : ChangeSpec := { name := "fnLineResumes", fn := fun _ => fun
  | [d1, d2, d3] => { results := [.lit (.bool true)], args := [d1, d2, d3] }
  | _ => none }
def fnLineResumesRow : OpenClaim := { program := "qxb6003622adoor", sum := "4b7314c9001cad4860be5ade38451434c75accc6d55398b049d1a0ec1ae3997f", func := "example.com/wait-or-fail/wait-or-fail/zzlaws_root_b1.FnLineResumes", spec := "fnLineResumes", inPlace := ["internal/bytealg.IndexByteString", "internal/bytealg.IndexByte", "internal/bytealg.Index", "internal/bytealg.IndexString"], named := ["internal/bytealg.MaxLen", "unicode/utf8.first", "unicode/utf8.acceptRanges"], apart := false, laid := [("unicode/utf8.acceptRanges", laid_unicode_utf8_acceptRanges), ("unicode/utf8.first", laid_unicode_utf8_first)] }
def FnLineResumesSaid : Prop := fnLineResumesRow.holds Tryd.pinned (OpenSpec.ofChange fnLineResumesSpec)

/-- ITS FALSE NEIGHBOUR: 'it returns false'. Refute it at one input. -/
def fnLineResumesWrong : ChangeSpec := { name := "fnLineResumes", fn := fun _ => fun
  | [d1, d2, d3] => { results := [.lit (.bool false)], args := [d1, d2, d3] }
  | _ => none }
def FnLineResumesWrongFalsely : Prop := fnLineResumesRow.holds Tryd.pinned (OpenSpec.ofChange fnLineResumesWrong)

/-- 'zzlaws_root_b1.FnLineSplitsStream': WHATEVER THE INPUT: true; the input reads as it did. -/
def fnLineSplitsStreamSpec : ChangeSpec := { name := "fnLineSplitsStream", fn := fun _ => fun
  | [d] => { results := [.lit (.bool true)], args := [d] }
  | _ => none }
def fnLineSplitsStreamRow : OpenClaim := { program := "qxb6003622adoor", sum := "4b7314c9001cad4860be5ade38451434c75accc6d55398b049d1a0ec1ae3997f", func := "example.com/wait-or-fail/wait-or-fail/zzlaws_root_b1.FnLineSplitsStream", spec := "fnLineSplitsStream", inPlace := ["internal/bytealg.IndexByteString", "internal/bytealg.IndexByte", "internal/bytealg.Index", "internal/bytealg.IndexString"], named := ["internal/bytealg.MaxLen", "unicode/utf8.first", "unicode/utf8.acceptRanges"], apart := false, laid := [("unicode/utf8.acceptRanges", laid_unicode_utf8_acceptRanges), ("unicode/utf8.first", laid_unicode_utf8_first)] }
def FnLineSplitsStreamSaid : Prop := fnLineSplitsStreamRow.holds Tryd.pinned (OpenSpec.ofChange fnLineSplitsStreamSpec)

/-- ITS FALSE NEIGHBOUR: 'it returns false'. Refute it at one input. -/
def fnLineSplitsStreamWrong : ChangeSpec := { name := "fnLineSplitsStream", fn := fun _ => fun
  | [d] => { results := [.lit (.bool false)], args := [d] }
  | _ => none }
def FnLineSplitsStreamWrongFalsely : Prop := fnLineSplitsStreamRow.holds Tryd.pinned (OpenSpec.ofChange fnLineSplitsStreamWrong)

end Rows
end Go.Proofs.Qxb6003622aDoor

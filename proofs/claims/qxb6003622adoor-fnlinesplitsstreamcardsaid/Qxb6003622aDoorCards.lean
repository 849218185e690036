/-
  DERIVED. GIVEN WITH THE SEED: THE CARDS: each row of Qxb6003622aDoorRows.lean that lists a variable, with what it lists TIED to the program's text (the seventh form; the later family's looks); each row that meets fmt, with fmt's text TOLD by the authors' own Lean function (tested against real Go, not proved from fmt's source: count such statements apart). THE CARD IS WHAT COUNTS. Prove the row's statement (the work); the ties are given (Qxb6003622aDoorTie.lean); close each card by the builder's one call (the guide's Derived/Test/ToyasCard.lean, 'card_holds'). Laid BY PROGRAM, IN A SANDBOX (cutbox-door.mjs). By AI agents, Wed Nov 11 2026. No macro, syntax, notation, axiom, sorry.
-/
import Derived.Test.Qxb6003622aDoorRows
import GoSem.ClaimSeven
namespace Go.Proofs.Qxb6003622aDoor
namespace Rows

/-- THE TIED CARD OF 'zzlaws_root_b1.FnLineResumes'. -/
def fnLineResumesCard : Claim7 := { stood := { row := fnLineResumesRow, standIns := [], harness := (true, "0ee7efb16a684a037751653fa71f24b48d98290c7957647459ade15fb40ff10c"), looks := false }, kinds := [], alts := [], laidByText := true, laidKinds := [.data, .pinned], laidTests := true, laidLooks := .later }
def FnLineResumesCardSaid : Prop := Claim7.holds Tryd.pinned (.plain (OpenSpec.ofChange fnLineResumesSpec)) fnLineResumesCard

/-- THE TIED CARD OF 'zzlaws_root_b1.FnLineSplitsStream'. -/
def fnLineSplitsStreamCard : Claim7 := { stood := { row := fnLineSplitsStreamRow, standIns := [], harness := (true, "0ee7efb16a684a037751653fa71f24b48d98290c7957647459ade15fb40ff10c"), looks := false }, kinds := [], alts := [], laidByText := true, laidKinds := [.data, .pinned], laidTests := true, laidLooks := .later }
def FnLineSplitsStreamCardSaid : Prop := Claim7.holds Tryd.pinned (.plain (OpenSpec.ofChange fnLineSplitsStreamSpec)) fnLineSplitsStreamCard
end Rows
end Go.Proofs.Qxb6003622aDoor

/-
  DERIVED. GIVEN WITH THE SEED: THE CARDS: each row of Qxb6614942aDoorRows.lean that lists a variable, with what it lists TIED to the program's text (the seventh form; the later family's looks); each row that meets fmt, with fmt's text TOLD by the authors' own Lean function (tested against real Go, not proved from fmt's source: count such statements apart). THE CARD IS WHAT COUNTS. Prove the row's statement (the work); the ties are given (Qxb6614942aDoorTie.lean); close each card by the builder's one call (the guide's Derived/Test/ToyasCard.lean, 'card_holds'). Laid BY PROGRAM, IN A SANDBOX (cutbox-door.mjs). By AI agents, Wed Nov 11 2026. No macro, syntax, notation, axiom, sorry.
-/
import Derived.Test.Qxb6614942aDoorRows
import GoSem.ClaimSeven
namespace Go.Proofs.Qxb6614942aDoor
namespace Rows

/-- THE TIED CARD OF 'zzlaws_internal_output_b1.FnListWriteQuotedBreaksKeepOneLineEach'. -/
def fnListWriteQuotedBreaksKeepOneLineEachCard : Claim7 := { stood := { row := fnListWriteQuotedBreaksKeepOneLineEachRow, standIns := [], harness := (true, "145b5b35012196b17ccf7d196464f7de5c5744eaf8da38d851599f38b5f95745"), looks := true }, kinds := [], alts := [], laidByText := true, laidKinds := [.data, .called, .pinned, .pinned, .pinned, .pinned, .pinned, .pinned], laidTests := true, laidLooks := .later }
def FnListWriteQuotedBreaksKeepOneLineEachCardSaid : Prop := Claim7.holds Tryd.pinned (.plain (OpenSpec.ofChange fnListWriteQuotedBreaksKeepOneLineEachSpec)) fnListWriteQuotedBreaksKeepOneLineEachCard

/-- THE TIED CARD OF 'zzlaws_internal_output_b1.FnListEndIsTheByteAfterEachName'. -/
def fnListEndIsTheByteAfterEachNameCard : Claim7 := { stood := { row := fnListEndIsTheByteAfterEachNameRow, standIns := [], harness := (true, "145b5b35012196b17ccf7d196464f7de5c5744eaf8da38d851599f38b5f95745"), looks := true }, kinds := [], alts := [], laidByText := true, laidKinds := [.data, .called, .pinned, .pinned, .pinned, .pinned, .pinned, .pinned], laidTests := true, laidLooks := .later }
def FnListEndIsTheByteAfterEachNameCardSaid : Prop := Claim7.holds Tryd.pinned (.plain (OpenSpec.ofChange fnListEndIsTheByteAfterEachNameSpec)) fnListEndIsTheByteAfterEachNameCard
end Rows
end Go.Proofs.Qxb6614942aDoor

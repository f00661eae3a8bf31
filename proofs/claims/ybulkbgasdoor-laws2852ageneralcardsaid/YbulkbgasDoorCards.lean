/-
  DERIVED. GIVEN WITH THE SEED: THE CARDS: each row of YbulkbgasDoorRows.lean that lists a variable, with what it lists TIED to the program's text (the seventh form; the later family's looks); each row that meets fmt, with fmt's text TOLD by the authors' own Lean function (tested against real Go, not proved from fmt's source: count such statements apart). THE CARD IS WHAT COUNTS. Prove the row's statement (the work); the ties are given (YbulkbgasDoorTie.lean); close each card by the builder's one call (the guide's Derived/Test/ToyasCard.lean, 'card_holds'). Laid BY PROGRAM, IN A SANDBOX (cutbox-door.mjs). By AI agents, Wed Nov 11 2026. No macro, syntax, notation, axiom, sorry.
-/
import Derived.Test.YbulkbgasDoorRows
import GoSem.ClaimSeven
namespace Go.Proofs.YbulkbgasDoor
namespace Rows

/-- THE TIED CARD OF 'interleave.LawS2852AGeneral'. -/
def lawS2852AGeneralCard : Claim7 := { stood := { row := lawS2852AGeneralRow, standIns := [], harness := (true, "cecd88b21bd477f282d55d03ea355fffc0bf4ca660b6c9c08628d7300a18a2e7"), looks := true }, kinds := [], alts := [], laidByText := true, laidKinds := [.widerDeep, .calledDeep], laidTests := true, laidLooks := .later }
def LawS2852AGeneralCardSaid : Prop := Claim7.holds Ybad.pinned (.plain (OpenSpec.ofChange lawS2852AGeneralSpec)) lawS2852AGeneralCard

/-- THE TIED CARD OF 'interleave.LawS2852ASerial'. -/
def lawS2852ASerialCard : Claim7 := { stood := { row := lawS2852ASerialRow, standIns := [], harness := (true, "cecd88b21bd477f282d55d03ea355fffc0bf4ca660b6c9c08628d7300a18a2e7"), looks := true }, kinds := [], alts := [], laidByText := true, laidKinds := [.widerDeep, .calledDeep], laidTests := true, laidLooks := .later }
def LawS2852ASerialCardSaid : Prop := Claim7.holds Ybad.pinned (.plain (OpenSpec.ofChange lawS2852ASerialSpec)) lawS2852ASerialCard

/-- THE TIED CARD OF 'interleave.LawS2852ACycle'. -/
def lawS2852ACycleCard : Claim7 := { stood := { row := lawS2852ACycleRow, standIns := [], harness := (true, "cecd88b21bd477f282d55d03ea355fffc0bf4ca660b6c9c08628d7300a18a2e7"), looks := true }, kinds := [], alts := [], laidByText := true, laidKinds := [.widerDeep, .calledDeep], laidTests := true, laidLooks := .later }
def LawS2852ACycleCardSaid : Prop := Claim7.holds Ybad.pinned (.plain (OpenSpec.ofChange lawS2852ACycleSpec)) lawS2852ACycleCard
end Rows
end Go.Proofs.YbulkbgasDoor

/-
  DERIVED. GIVEN WITH THE SEED: THE CARDS: each row of YbulkbfyaFmtRows.lean that lists a variable, with what it lists TIED to the program's text (the seventh form; the later family's looks); each row that meets fmt, with fmt's text TOLD by the authors' own Lean function (tested against real Go, not proved from fmt's source: count such statements apart). THE CARD IS WHAT COUNTS. Prove the row's statement (the work); the ties are given (YbulkbfyaFmtTie.lean); close each card by the builder's one call (the guide's Derived/Test/ToyasCard.lean, 'card_holds'). Laid BY PROGRAM, IN A SANDBOX (cutbox-door.mjs). By AI agents, Wed Nov 11 2026. No macro, syntax, notation, axiom, sorry.
-/
import Derived.Test.YbulkbfyaFmtRows
import GoSem.ClaimSeven
namespace Go.Proofs.YbulkbfyaFmt
namespace Rows

/-- THE TOLD CARD OF 'plinth.LawS2847AFields'. -/
def lawS2847AFieldsCard : Claim7 := { stood := { row := lawS2847AFieldsRow, standIns := [], harness := (true, "d5017a58e6976b66fbdd9b5e225b4569e2071b315a9727994418aabc843b01e4"), looks := true }, told := true, goes := false }
def LawS2847AFieldsToldSaid : Prop := Claim7.holds Ybaf.pinned (.plain (OpenSpec.ofChange lawS2847AFieldsSpec)) lawS2847AFieldsCard
/-- ITS FALSE NEIGHBOUR. Refute it at one input. -/
def LawS2847AFieldsToldWrongFalsely : Prop := Claim7.holds Ybaf.pinned (.plain (OpenSpec.ofChange lawS2847AFieldsWrong)) lawS2847AFieldsCard

/-- THE TOLD CARD OF 'plinth.LawS2847AFresh'. -/
def lawS2847AFreshCard : Claim7 := { stood := { row := lawS2847AFreshRow, standIns := [], harness := (true, "d5017a58e6976b66fbdd9b5e225b4569e2071b315a9727994418aabc843b01e4"), looks := true }, told := true, goes := false }
def LawS2847AFreshToldSaid : Prop := Claim7.holds Ybaf.pinned (.plain (OpenSpec.ofChange lawS2847AFreshSpec)) lawS2847AFreshCard
/-- ITS FALSE NEIGHBOUR. Refute it at one input. -/
def LawS2847AFreshToldWrongFalsely : Prop := Claim7.holds Ybaf.pinned (.plain (OpenSpec.ofChange lawS2847AFreshWrong)) lawS2847AFreshCard
end Rows
end Go.Proofs.YbulkbfyaFmt

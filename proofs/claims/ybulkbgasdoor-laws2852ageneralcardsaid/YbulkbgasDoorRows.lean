/-
  NARROWER THAN 'FOR EVERY INPUT', by the rows' own cells (each row's printed sentence says how): LawS2852AGeneral: laid · LawS2852ASerial: laid · LawS2852ACycle: laid.
  DERIVED. THE GIVEN ROWS OF THIS SEAT. 3 by the template 'for every input the law returns true; each argument reads behind the call as it read before'; 0 by the template 'total and deterministic' (their statements: YbulkbgasDoorTotals.lean).
  GIVEN WITH THE SEED: the statements are not yours to turn. If you find one false, say at which input.
  Laid BY PROGRAM, IN A SANDBOX (cutbox-rows.mjs): the forced cells as the released guide's own fill.sh prints them over the translation bb93efbbe9a1b0b5… (all of the seat's roots in one cut). By AI agents, Wed Nov 11 2026. No macro, syntax, notation, axiom, sorry.
-/
import Derived.Test.YbulkbgasDoorChecked
import GoSem.Claim
import GoSem.ClaimJoined
import GoSem.ClaimMapViews
import Derived.JoinedTies
import Derived.KernelRfl
namespace Go.Proofs.YbulkbgasDoor
/- THE CELL 'sum', in the pinned program and in every row, IS THE sha256 OF THE DUMP (.gsa) THAT YbulkbgasDoorProg.lean LOADS. Nothing in Lean hashes anything: it is a label: what it is worth is what the hold of that sum in a sandbox is worth. -/
noncomputable def Ybad.pinned : Pinned := { name := "ybulkbgasdoor", sum := "bb93efbbe9a1b0b51ad51b5ad52e60dd4d56efa18a2bc501605632828d96f824", checked := Ybad.checked }
namespace Rows
def none {H : Type} : Left H := { results := [], args := [] }

/- WHAT THE LISTED PACKAGE-LEVEL VARIABLES READ AS WHEN THE CALL BEGINS. Each datum BY PROGRAM (the guide's laid-datum.mjs) off the statement by which the dump's own 'gosem.cut.vars' lays the variable. In a bare row this is a premise. The card (YbulkbgasDoorCards.lean) ties it to the program's text. -/
def laid_example_com_interleave_interleave_compatibility {H : Type} : DataW H := .slice [.agg [.lit (.string [115, 104, 97, 114, 101, 100]), .lit (.string [114, 108]), .slice [.lit (.string [115, 104, 97, 114, 101, 100])] []], .agg [.lit (.string [101, 120, 99, 108, 117, 115, 105, 118, 101]), .lit (.string [119, 108]), .nil]] []
def laid_example_com_interleave_interleave_lockModes {H : Type} : DataW H := .slice [.lit (.string [115, 104, 97, 114, 101, 100]), .lit (.string [101, 120, 99, 108, 117, 115, 105, 118, 101])] []

/-- 'interleave.LawS2852AGeneral': WHATEVER THE INPUT: true; the input reads as it did. -/
def lawS2852AGeneralSpec : ChangeSpec := { name := "lawS2852AGeneral", vars := ["example.com/interleave/interleave.compatibility", "example.com/interleave/interleave.lockModes"], fn := fun _ => fun
  | [d, g1, g2] => { results := [.lit (.bool true)], args := [d], vars := [g1, g2] }
  | _ => none }
def lawS2852AGeneralRow : OpenClaim := { program := "ybulkbgasdoor", sum := "bb93efbbe9a1b0b51ad51b5ad52e60dd4d56efa18a2bc501605632828d96f824", func := "example.com/interleave/interleave.LawS2852AGeneral", spec := "lawS2852AGeneral", unfollowed := true, recurses := true, named := ["example.com/interleave/interleave.compatibility", "example.com/interleave/interleave.lockModes"], plainKeys := false, apart := false, laid := [("example.com/interleave/interleave.compatibility", laid_example_com_interleave_interleave_compatibility), ("example.com/interleave/interleave.lockModes", laid_example_com_interleave_interleave_lockModes)] }
def LawS2852AGeneralSaid : Prop := lawS2852AGeneralRow.holds Ybad.pinned (OpenSpec.ofChange lawS2852AGeneralSpec)

/-- ITS FALSE NEIGHBOUR: 'it returns false'. Refute it at one input. -/
def lawS2852AGeneralWrong : ChangeSpec := { name := "lawS2852AGeneral", vars := ["example.com/interleave/interleave.compatibility", "example.com/interleave/interleave.lockModes"], fn := fun _ => fun
  | [d, g1, g2] => { results := [.lit (.bool false)], args := [d], vars := [g1, g2] }
  | _ => none }
def LawS2852AGeneralWrongFalsely : Prop := lawS2852AGeneralRow.holds Ybad.pinned (OpenSpec.ofChange lawS2852AGeneralWrong)

/-- 'interleave.LawS2852ASerial': WHATEVER THE INPUT: true; the input reads as it did. -/
def lawS2852ASerialSpec : ChangeSpec := { name := "lawS2852ASerial", vars := ["example.com/interleave/interleave.compatibility", "example.com/interleave/interleave.lockModes"], fn := fun _ => fun
  | [d, g1, g2] => { results := [.lit (.bool true)], args := [d], vars := [g1, g2] }
  | _ => none }
def lawS2852ASerialRow : OpenClaim := { program := "ybulkbgasdoor", sum := "bb93efbbe9a1b0b51ad51b5ad52e60dd4d56efa18a2bc501605632828d96f824", func := "example.com/interleave/interleave.LawS2852ASerial", spec := "lawS2852ASerial", unfollowed := true, recurses := true, named := ["example.com/interleave/interleave.compatibility", "example.com/interleave/interleave.lockModes"], plainKeys := false, apart := false, laid := [("example.com/interleave/interleave.compatibility", laid_example_com_interleave_interleave_compatibility), ("example.com/interleave/interleave.lockModes", laid_example_com_interleave_interleave_lockModes)] }
def LawS2852ASerialSaid : Prop := lawS2852ASerialRow.holds Ybad.pinned (OpenSpec.ofChange lawS2852ASerialSpec)

/-- ITS FALSE NEIGHBOUR: 'it returns false'. Refute it at one input. -/
def lawS2852ASerialWrong : ChangeSpec := { name := "lawS2852ASerial", vars := ["example.com/interleave/interleave.compatibility", "example.com/interleave/interleave.lockModes"], fn := fun _ => fun
  | [d, g1, g2] => { results := [.lit (.bool false)], args := [d], vars := [g1, g2] }
  | _ => none }
def LawS2852ASerialWrongFalsely : Prop := lawS2852ASerialRow.holds Ybad.pinned (OpenSpec.ofChange lawS2852ASerialWrong)

/-- 'interleave.LawS2852ACycle': WHATEVER THE INPUT: true; the input reads as it did. -/
def lawS2852ACycleSpec : ChangeSpec := { name := "lawS2852ACycle", vars := ["example.com/interleave/interleave.compatibility", "example.com/interleave/interleave.lockModes"], fn := fun _ => fun
  | [d1, d2, d3, d4, g1, g2] => { results := [.lit (.bool true)], args := [d1, d2, d3, d4], vars := [g1, g2] }
  | _ => none }
def lawS2852ACycleRow : OpenClaim := { program := "ybulkbgasdoor", sum := "bb93efbbe9a1b0b51ad51b5ad52e60dd4d56efa18a2bc501605632828d96f824", func := "example.com/interleave/interleave.LawS2852ACycle", spec := "lawS2852ACycle", unfollowed := true, recurses := true, named := ["example.com/interleave/interleave.compatibility", "example.com/interleave/interleave.lockModes"], plainKeys := false, apart := false, laid := [("example.com/interleave/interleave.compatibility", laid_example_com_interleave_interleave_compatibility), ("example.com/interleave/interleave.lockModes", laid_example_com_interleave_interleave_lockModes)] }
def LawS2852ACycleSaid : Prop := lawS2852ACycleRow.holds Ybad.pinned (OpenSpec.ofChange lawS2852ACycleSpec)

/-- ITS FALSE NEIGHBOUR: 'it returns false'. Refute it at one input. -/
def lawS2852ACycleWrong : ChangeSpec := { name := "lawS2852ACycle", vars := ["example.com/interleave/interleave.compatibility", "example.com/interleave/interleave.lockModes"], fn := fun _ => fun
  | [d1, d2, d3, d4, g1, g2] => { results := [.lit (.bool false)], args := [d1, d2, d3, d4], vars := [g1, g2] }
  | _ => none }
def LawS2852ACycleWrongFalsely : Prop := lawS2852ACycleRow.holds Ybad.pinned (OpenSpec.ofChange lawS2852ACycleWrong)

end Rows
end Go.Proofs.YbulkbgasDoor

/-
  No cell of these rows narrows 'for every input' (looked for: loops, veiled, ifaces, maps, wideKeys, modest, calm, conditions, laid).
  DERIVED. THE GIVEN ROWS OF THIS SEAT. 4 by the template 'for every input the law returns true; each argument reads behind the call as it read before'; 0 by the template 'total and deterministic' (their statements: YbulkbgaeTotals.lean).
  GIVEN WITH THE SEED: the statements are not yours to turn. If you find one false, say at which input.
  Laid BY PROGRAM, IN A SANDBOX (cutbox-rows.mjs): the forced cells as the released guide's own fill.sh prints them over the translation 1cb7187152a8d32f… (all of the seat's roots in one cut). By AI agents, Wed Nov 11 2026. No macro, syntax, notation, axiom, sorry.
-/
import Derived.Test.YbulkbgaeChecked
import GoSem.Claim
import GoSem.ClaimJoined
import GoSem.ClaimMapViews
import Derived.JoinedTies
import Derived.KernelRfl
namespace Go.Proofs.Ybulkbgae
/- THE CELL 'sum', in the pinned program and in every row, IS THE sha256 OF THE DUMP (.gsa) THAT YbulkbgaeProg.lean LOADS. Nothing in Lean hashes anything: it is a label: what it is worth is what the hold of that sum in a sandbox is worth. -/
noncomputable def Yba.pinned : Pinned := { name := "ybulkbgae", sum := "1cb7187152a8d32fa85c7a0b74dc4c4ed4e6afd59fdb04d0926f6d6cce8d65b2", checked := Yba.checked }
namespace Rows
def none {H : Type} : Left H := { results := [], args := [] }

/-- 'datalog.LawS2851AEncodes': WHATEVER THE INPUT: true; the input reads as it did. -/
def lawS2851AEncodesSpec : ChangeSpec := { name := "lawS2851AEncodes", fn := fun _ => fun
  | [d1, d2] => { results := [.lit (.bool true)], args := [d1, d2] }
  | _ => none }
def lawS2851AEncodesRow : OpenClaim := { program := "ybulkbgae", sum := "1cb7187152a8d32fa85c7a0b74dc4c4ed4e6afd59fdb04d0926f6d6cce8d65b2", func := "example.com/polisy/polisy/internal/datalog.LawS2851AEncodes", spec := "lawS2851AEncodes", named := ["encoding/binary.LittleEndian"], apart := false }
def LawS2851AEncodesSaid : Prop := lawS2851AEncodesRow.holds Yba.pinned (OpenSpec.ofChange lawS2851AEncodesSpec)

/-- ITS FALSE NEIGHBOUR: 'it returns false'. Refute it at one input. -/
def lawS2851AEncodesWrong : ChangeSpec := { name := "lawS2851AEncodes", fn := fun _ => fun
  | [d1, d2] => { results := [.lit (.bool false)], args := [d1, d2] }
  | _ => none }
def LawS2851AEncodesWrongFalsely : Prop := lawS2851AEncodesRow.holds Yba.pinned (OpenSpec.ofChange lawS2851AEncodesWrong)

/-- 'datalog.LawS2851AInjective': WHATEVER THE INPUT: true; the input reads as it did. -/
def lawS2851AInjectiveSpec : ChangeSpec := { name := "lawS2851AInjective", fn := fun _ => fun
  | [d1, d2] => { results := [.lit (.bool true)], args := [d1, d2] }
  | _ => none }
def lawS2851AInjectiveRow : OpenClaim := { program := "ybulkbgae", sum := "1cb7187152a8d32fa85c7a0b74dc4c4ed4e6afd59fdb04d0926f6d6cce8d65b2", func := "example.com/polisy/polisy/internal/datalog.LawS2851AInjective", spec := "lawS2851AInjective", named := ["encoding/binary.LittleEndian"], apart := false }
def LawS2851AInjectiveSaid : Prop := lawS2851AInjectiveRow.holds Yba.pinned (OpenSpec.ofChange lawS2851AInjectiveSpec)

/-- ITS FALSE NEIGHBOUR: 'it returns false'. Refute it at one input. -/
def lawS2851AInjectiveWrong : ChangeSpec := { name := "lawS2851AInjective", fn := fun _ => fun
  | [d1, d2] => { results := [.lit (.bool false)], args := [d1, d2] }
  | _ => none }
def LawS2851AInjectiveWrongFalsely : Prop := lawS2851AInjectiveRow.holds Yba.pinned (OpenSpec.ofChange lawS2851AInjectiveWrong)

/-- 'lang.LawS2851BOrder': WHATEVER THE INPUT: true; the input reads as it did. -/
def lawS2851BOrderSpec : ChangeSpec := { name := "lawS2851BOrder", fn := fun _ => fun
  | [d1, d2, d3] => { results := [.lit (.bool true)], args := [d1, d2, d3] }
  | _ => none }
def lawS2851BOrderRow : OpenClaim := { program := "ybulkbgae", sum := "1cb7187152a8d32fa85c7a0b74dc4c4ed4e6afd59fdb04d0926f6d6cce8d65b2", func := "example.com/polisy/polisy/internal/lang.LawS2851BOrder", spec := "lawS2851BOrder", unfollowed := true, recurses := true, apart := false }
def LawS2851BOrderSaid : Prop := lawS2851BOrderRow.holds Yba.pinned (OpenSpec.ofChange lawS2851BOrderSpec)

/-- ITS FALSE NEIGHBOUR: 'it returns false'. Refute it at one input. -/
def lawS2851BOrderWrong : ChangeSpec := { name := "lawS2851BOrder", fn := fun _ => fun
  | [d1, d2, d3] => { results := [.lit (.bool false)], args := [d1, d2, d3] }
  | _ => none }
def LawS2851BOrderWrongFalsely : Prop := lawS2851BOrderRow.holds Yba.pinned (OpenSpec.ofChange lawS2851BOrderWrong)

/-- 'lang.LawS2851BStop': WHATEVER THE INPUT: true; the input reads as it did. -/
def lawS2851BStopSpec : ChangeSpec := { name := "lawS2851BStop", fn := fun _ => fun
  | [d1, d2, d3, d4] => { results := [.lit (.bool true)], args := [d1, d2, d3, d4] }
  | _ => none }
def lawS2851BStopRow : OpenClaim := { program := "ybulkbgae", sum := "1cb7187152a8d32fa85c7a0b74dc4c4ed4e6afd59fdb04d0926f6d6cce8d65b2", func := "example.com/polisy/polisy/internal/lang.LawS2851BStop", spec := "lawS2851BStop", unfollowed := true, recurses := true, apart := false }
def LawS2851BStopSaid : Prop := lawS2851BStopRow.holds Yba.pinned (OpenSpec.ofChange lawS2851BStopSpec)

/-- ITS FALSE NEIGHBOUR: 'it returns false'. Refute it at one input. -/
def lawS2851BStopWrong : ChangeSpec := { name := "lawS2851BStop", fn := fun _ => fun
  | [d1, d2, d3, d4] => { results := [.lit (.bool false)], args := [d1, d2, d3, d4] }
  | _ => none }
def LawS2851BStopWrongFalsely : Prop := lawS2851BStopRow.holds Yba.pinned (OpenSpec.ofChange lawS2851BStopWrong)

end Rows
end Go.Proofs.Ybulkbgae

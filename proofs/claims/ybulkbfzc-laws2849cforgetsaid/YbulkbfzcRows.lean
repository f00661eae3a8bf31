/-
  No cell of these rows narrows 'for every input' (looked for: loops, veiled, ifaces, maps, wideKeys, modest, calm, conditions, laid).
  DERIVED. THE GIVEN ROWS OF THIS SEAT. 1 by the template 'for every input the law returns true; each argument reads behind the call as it read before'; 0 by the template 'total and deterministic' (their statements: YbulkbfzcTotals.lean).
  GIVEN WITH THE SEED: the statements are not yours to turn. If you find one false, say at which input.
  Laid BY PROGRAM, IN A SANDBOX (cutbox-rows.mjs): the forced cells as the released guide's own fill.sh prints them over the translation a7510f66ade6ddff… (all of the seat's roots in one cut). By AI agents, Wed Nov 11 2026. No macro, syntax, notation, axiom, sorry.
-/
import Derived.Test.YbulkbfzcChecked
import GoSem.Claim
import GoSem.ClaimJoined
import GoSem.ClaimMapViews
import Derived.JoinedTies
import Derived.KernelRfl
namespace Go.Proofs.Ybulkbfzc
/- THE CELL 'sum', in the pinned program and in every row, IS THE sha256 OF THE DUMP (.gsa) THAT YbulkbfzcProg.lean LOADS. Nothing in Lean hashes anything: it is a label: what it is worth is what the hold of that sum in a sandbox is worth. -/
noncomputable def Yba.pinned : Pinned := { name := "ybulkbfzc", sum := "a7510f66ade6ddff046fbfdc8ed7090c2b32602c78acb3e72b33853239988360", checked := Yba.checked }
namespace Rows
def none {H : Type} : Left H := { results := [], args := [] }

/-- 'headseal.LawS2849CForget': WHATEVER THE INPUT: true; the input reads as it did. -/
def lawS2849CForgetSpec : ChangeSpec := { name := "lawS2849CForget", fn := fun _ => fun
  | [d1, d2, d3, d4, d5, d6] => { results := [.lit (.bool true)], args := [d1, d2, d3, d4, d5, d6] }
  | _ => none }
def lawS2849CForgetRow : OpenClaim := { program := "ybulkbfzc", sum := "a7510f66ade6ddff046fbfdc8ed7090c2b32602c78acb3e72b33853239988360", func := "example.com/headseal/headseal.LawS2849CForget", spec := "lawS2849CForget", apart := false }
def LawS2849CForgetSaid : Prop := lawS2849CForgetRow.holds Yba.pinned (OpenSpec.ofChange lawS2849CForgetSpec)

/-- ITS FALSE NEIGHBOUR: 'it returns false'. Refute it at one input. -/
def lawS2849CForgetWrong : ChangeSpec := { name := "lawS2849CForget", fn := fun _ => fun
  | [d1, d2, d3, d4, d5, d6] => { results := [.lit (.bool false)], args := [d1, d2, d3, d4, d5, d6] }
  | _ => none }
def LawS2849CForgetWrongFalsely : Prop := lawS2849CForgetRow.holds Yba.pinned (OpenSpec.ofChange lawS2849CForgetWrong)

end Rows
end Go.Proofs.Ybulkbfzc

/-
  No cell of these rows narrows 'for every input' (looked for: loops, veiled, ifaces, maps, wideKeys, modest, calm, conditions, laid).
  DERIVED. THE GIVEN ROWS OF THIS SEAT. 2 by the template 'for every input the law returns true; each argument reads behind the call as it read before'; 0 by the template 'total and deterministic' (their statements: YbulkbfyaFmtTotals.lean).
  GIVEN WITH THE SEED: the statements are not yours to turn. If you find one false, say at which input.
  Laid BY PROGRAM, IN A SANDBOX (cutbox-rows.mjs): the forced cells as the released guide's own fill.sh prints them over the translation 91dd3b429e68608b… (all of the seat's roots in one cut). By AI agents, Wed Nov 11 2026. No macro, syntax, notation, axiom, sorry.
-/
import Derived.Test.YbulkbfyaFmtChecked
import GoSem.Claim
import GoSem.ClaimJoined
import GoSem.ClaimMapViews
import Derived.JoinedTies
import Derived.KernelRfl
namespace Go.Proofs.YbulkbfyaFmt
/- THE CELL 'sum', in the pinned program and in every row, IS THE sha256 OF THE DUMP (.gsa) THAT YbulkbfyaFmtProg.lean LOADS. Nothing in Lean hashes anything: it is a label: what it is worth is what the hold of that sum in a sandbox is worth. -/
noncomputable def Ybaf.pinned : Pinned := { name := "ybulkbfyafmt", sum := "91dd3b429e68608b505d7f63f2a29a6684cc315b86335dfa1e3a851257d4306c", checked := Ybaf.checked }
namespace Rows
def none {H : Type} : Left H := { results := [], args := [] }

/-- 'plinth.LawS2847AFields': WHATEVER THE INPUT: true; the input reads as it did. -/
def lawS2847AFieldsSpec : ChangeSpec := { name := "lawS2847AFields", fn := fun _ => fun
  | [d1, d2, d3, d4] => { results := [.lit (.bool true)], args := [d1, d2, d3, d4] }
  | _ => none }
def lawS2847AFieldsRow : OpenClaim := { program := "ybulkbfyafmt", sum := "91dd3b429e68608b505d7f63f2a29a6684cc315b86335dfa1e3a851257d4306c", func := "example.com/plinth/plinth.LawS2847AFields", spec := "lawS2847AFields", stops := ["fmt.Sprintf"], inPlace := ["fmt.Sprintf"], apart := false }
/-- NO THEOREM (fmt's text is open here; it may be false): for the released tool's asking of the row's closed facts alone. THE STATEMENT IS 'LawS2847AFieldsToldSaid' (YbulkbfyaFmtCards.lean). -/
def LawS2847AFieldsFormAsk : Prop := lawS2847AFieldsRow.holds Ybaf.pinned (OpenSpec.ofChange lawS2847AFieldsSpec)

/-- ITS FALSE NEIGHBOUR: 'it returns false'. Refute it at one input. -/
def lawS2847AFieldsWrong : ChangeSpec := { name := "lawS2847AFields", fn := fun _ => fun
  | [d1, d2, d3, d4] => { results := [.lit (.bool false)], args := [d1, d2, d3, d4] }
  | _ => none }
def LawS2847AFieldsWrongFormAsk : Prop := lawS2847AFieldsRow.holds Ybaf.pinned (OpenSpec.ofChange lawS2847AFieldsWrong)

/-- 'plinth.LawS2847AFresh': WHATEVER THE INPUT: true; the input reads as it did. -/
def lawS2847AFreshSpec : ChangeSpec := { name := "lawS2847AFresh", fn := fun _ => fun
  | [d1, d2, d3] => { results := [.lit (.bool true)], args := [d1, d2, d3] }
  | _ => none }
def lawS2847AFreshRow : OpenClaim := { program := "ybulkbfyafmt", sum := "91dd3b429e68608b505d7f63f2a29a6684cc315b86335dfa1e3a851257d4306c", func := "example.com/plinth/plinth.LawS2847AFresh", spec := "lawS2847AFresh", stops := ["fmt.Sprintf"], inPlace := ["fmt.Sprintf"], apart := false }
/-- NO THEOREM (fmt's text is open here; it may be false): for the released tool's asking of the row's closed facts alone. THE STATEMENT IS 'LawS2847AFreshToldSaid' (YbulkbfyaFmtCards.lean). -/
def LawS2847AFreshFormAsk : Prop := lawS2847AFreshRow.holds Ybaf.pinned (OpenSpec.ofChange lawS2847AFreshSpec)

/-- ITS FALSE NEIGHBOUR: 'it returns false'. Refute it at one input. -/
def lawS2847AFreshWrong : ChangeSpec := { name := "lawS2847AFresh", fn := fun _ => fun
  | [d1, d2, d3] => { results := [.lit (.bool false)], args := [d1, d2, d3] }
  | _ => none }
def LawS2847AFreshWrongFormAsk : Prop := lawS2847AFreshRow.holds Ybaf.pinned (OpenSpec.ofChange lawS2847AFreshWrong)

end Rows
end Go.Proofs.YbulkbfyaFmt

import Derived.WalkKit
import Derived.ProofKit
import Derived.OpenShut
import Derived.ShutString
import Derived.ChangeOld
import Derived.Below
import Derived.SliceStrings
import Derived.Test.YbulkbgaePlain
import Derived.Test.YbulkbgaeRows
namespace Go.Proofs.Ybulkbgae
open Go.ChangeShapes Go.WideShapes Go.ChangeAt Go.RowKit
set_option linter.unusedVariables false

theorem ownYba : ownKnob Yba.prog.godebug = none := by kernel_rfl
theorem laidOutYba : laidOutB Yba.prog = true := by kernel_rfl

/-- What came in as a slice of bytes: as many as 'len' says, each fitting its kind. -/
theorem codes_of {H : Type} {enc : TypeId × Value → H} {W : World} {base : Nat} {spare : Nat → Bool} {held : Bool} {fuel : Nat} {a : Option Addr} {len cap : Nat} {x : DataW H × List MemPlace} (hsp : spare = fun _ => true)
    (hf : DataW.trod enc Yba.prog W base spare held fuel 23 (Value.slice a len cap).cells.toList = some x) :
    len ≤ maxLen ∧ ∀ i, i < len → ∃ b off z, a = some ⟨b, off, none⟩ ∧ b < W.heap.size ∧ W.cell? ⟨b, off + i, none⟩ = some (.int .u8 z) ∧ 0 ≤ z ∧ z ≤ 255 := by
  subst hsp
  rcases open_ints Yba.underlying23 Yba.underlying5 (by kernel_rfl) hf with ⟨hcs, _⟩ | ⟨y, l, c, zs, hcs, _, hl, hm, hz, _, hcell, hwz⟩
  · simp [Value.cells] at hcs
    obtain ⟨rfl, rfl, rfl⟩ := hcs
    exact ⟨Nat.zero_le _, fun i hi => absurd hi (by omega)⟩
  · simp [Value.cells] at hcs
    obtain ⟨rfl, rfl, rfl⟩ := hcs
    simp at hz
    refine ⟨by omega, fun i hi => ?_⟩
    obtain ⟨b, off, rfl, hc⟩ := ints_at hcell (by omega)
    have hb := bounds_u8 (hwz _ (List.getElem_mem (h := by omega) : zs[i]'(by omega) ∈ zs))
    have hci := hc i (by omega)
    simp only [List.getD_eq_getElem?_getD, List.getElem?_eq_getElem (show i < zs.length by omega), Option.getD_some] at hci
    exact ⟨b, off, _, rfl, block_lt_of_cell hci, hci, by omega, by omega⟩

/-- What came in as a slice of strings. -/
theorem names_of {H : Type} {enc : TypeId × Value → H} {W : World} {base : Nat} {spare : Nat → Bool} {held : Bool} {fuel : Nat} {a : Option Addr} {len cap : Nat} {x : DataW H × List MemPlace} (hsp : spare = fun _ => true)
    (hf : DataW.trod enc Yba.prog W base spare held fuel 34 (Value.slice a len cap).cells.toList = some x) : Names W.heap.size W a len := by
  subst hsp
  rcases open_strings Yba.underlying34 Yba.underlying9 (by kernel_rfl) hf with ⟨hcs, _⟩ | ⟨y, l, c, ss, hcs, _, hl, hm, hz, _, hcell, hwz⟩
  · simp [Value.cells] at hcs
    obtain ⟨rfl, rfl, rfl⟩ := hcs
    exact ⟨Nat.zero_le _, fun i hi => absurd hi (by omega)⟩
  · simp [Value.cells] at hcs
    obtain ⟨rfl, rfl, rfl⟩ := hcs
    simp at hz
    refine ⟨by omega, fun i hi => ?_⟩
    have hi' := hcell i (by omega)
    obtain ⟨b, off, spot⟩ := y
    have hspot : spot = none := by simpa [Addr.add] using World.cell?_spot (hcell 0 (by omega))
    subst hspot
    rw [Go.WideShapes.add_plain] at hi'
    exact ⟨b, off, _, rfl, block_lt_of_cell hi', hi'⟩

end Go.Proofs.Ybulkbgae

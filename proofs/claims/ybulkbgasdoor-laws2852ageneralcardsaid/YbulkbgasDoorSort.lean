import Derived.Shelf.SortM.Plain
import Derived.Shelf.SortM.SortNone
import Derived.Shelf.SlGeneric
import Derived.Ground.SlgmProg
import Derived.Test.YbulkbgasDoorCf
namespace Go.Proofs
open Go.Shelf Go.RowKit
shelf_lay_g SlLaysM.n5 Slgm 5 at Ybad 20 as Ybad.sortT
end Go.Proofs

namespace Go.Proofs.YbulkbgasDoor
open Go.RowKit Go.Sort Go.Shelf
set_option linter.unusedVariables false

/-- In rising order. -/
def srt (zs : List Int) : List Int := zs.mergeSort fun x y => decide (x ≤ y)
theorem srt_length (zs : List Int) : (srt zs).length = zs.length := by unfold srt; simp

theorem sort_none (p : Option Addr) (cap : Nat) (w : World) : Calls Ybad.prog 20 #[.slice p 0 cap] w fun e w' => e = .returned (.tuple #[]) ∧ w' = w :=
  AnyM.slices_Sort_int_none Ybad.sortT p cap w

theorem sort_any (w : World) (g cap : Nat) (zs : List Int) (hH : ∀ j (hj : j < zs.length), w.cell? ⟨g, j, none⟩ = some (.int .i64 zs[j]) ∧ w.frozen? ⟨g, j, none⟩ = false) (hg : g < w.heap.size) (hn : zs.length ≤ 1000) :
    Calls Ybad.prog 20 #[.slice (some ⟨g, 0, none⟩) zs.length cap] w fun e w' => e = .returned (.tuple #[]) ∧ (∀ j (hj : j < (srt zs).length), w'.cell? ⟨g, j, none⟩ = some (.int .i64 (srt zs)[j])) ∧ w.grownBy w' (some g) := by
  have hHo : Holds (Value.int .i64) w g 0 zs.toArray := fun j hj => by
    have hj' : j < zs.length := by simpa using hj
    have := hH j hj'
    rw [Nat.zero_add]
    simpa [getElem!_pos, hj'] using this
  refine Calls.mono (AnyM.slices_Sort_int Ybad.sortT g 0 cap zs w hHo hg (by omega)) ?_
  rintro e w' ⟨rfl, n, os, rfl⟩
  have hsz : (srt zs).toArray.size = zs.toArray.size := by simp [srt_length]
  have hH2 : Holds (Value.int .i64) (putRow (Value.int .i64) (Sort.ahead w n) g 0 (srt zs).toArray) g 0 (srt zs).toArray := holds_putRow (Value.int .i64) (Sort.ahead w n) g 0 zs.toArray _ hHo hsz
  have hH3 := holds_grow (Value.int .i64) _ os g 0 _ (by simpa using hg) hH2
  refine ⟨rfl, fun j hj => ?_, ⟨rfl, rfl, rfl, by simp [Sort.ahead], fun k hk hne => ?_⟩⟩
  · have := (hH3 j (by simpa using hj)).1
    rw [Nat.zero_add] at this
    have e : (srt zs).toArray[j]! = (srt zs)[j] := by simp [getElem!_pos, hj]
    rw [e] at this
    exact this
  · have hk' : k < (putRow (Value.int .i64) (Sort.ahead w n) g 0 (srt zs).toArray).heap.size := by simpa using hk
    show (grow (putRow (Value.int .i64) (Sort.ahead w n) g 0 (srt zs).toArray) os).heap[k]? = _
    rw [heap_grow_old _ _ hk']
    have hkg : ¬ g = k := fun e => hne (by rw [e])
    show ((Sort.ahead w n).heap.modify g _)[k]? = _
    rw [Array.getElem?_modify, if_neg hkg]
    rfl

end Go.Proofs.YbulkbgasDoor

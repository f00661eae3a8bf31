import Derived.Test.YbulkbgasDoorStrip
import Derived.Deep.RegionHeld3
import Derived.Deep.RegionLaw
import Derived.Deep.DeepCutAuto
namespace Go.Proofs.YbulkbgasDoor
open Go.RowKit
set_option linter.unusedVariables false

/-- An arc's cells: from, to, the two actions behind it. -/
def arcC (a b : Ac) : List Value := [.int .i64 a.t, .int .i64 b.t, .string a.k, .int .i64 a.t, .string a.it, .string b.k, .int .i64 b.t, .string b.it]
theorem Ybad.size67 : (Ybad.prog.info? 67).map (·.size) = some 8 := by kernel_rfl

set_option maxRecDepth 1000000 in
set_option maxHeartbeats 4000000 in
theorem arc_any (w : World) (v : Value) (l : List Ac) (p q : Nat) (hp : p < l.length) (hq : q < l.length) (hn : l.length ≤ 10000) (hs : SlA w v l) :
    Calls Ybad.prog 24 #[.agg #[.int .i64 (p : Int), .int .i64 (q : Int)], v] w fun e w' => e = .returned (.agg (arcC l[p] l[q]).toArray) ∧ Below w.heap.size w w' := by
  obtain ⟨a, cap, rfl, hcap, hel⟩ := hs
  have hpi : (p : Int) < (l.length : Int) := by omega
  have hqi : (q : Int) < (l.length : Int) := by omega
  have hp0 : (0 : Int) ≤ (p : Int) := by omega
  have hq0 : (0 : Int) ≤ (q : Int) := by omega
  obtain ⟨b, off, rfl, hbl, c0, c1, c2⟩ := cells_at hel hp hp
  obtain ⟨b', off', e', hbl', d0, d1, d2⟩ := cells_at hel hq hq
  simp only [Option.some.injEq, Addr.mk.injEq, and_true] at e'
  obtain ⟨rfl, rfl⟩ := e'
  obtain ⟨x, hx⟩ : ∃ x, l[p] = x := ⟨_, rfl⟩
  obtain ⟨y, hy⟩ : ∃ y, l[q] = y := ⟨_, rfl⟩
  rw [hx] at c0 c1 c2 ⊢
  rw [hy] at d0 d1 d2 ⊢
  clear hx hy hel
  go_enter Ybad.func24, Ybad.ntmps24
  go_upto_region 1 with fail
  have n1 : b ≠ w.heap.size := by omega
  have n2 : b ≠ w.heap.size + 1 := by omega
  clear hbl hbl'
  go_region_held3 (fun W => W.cell? ⟨w.heap.size, 0, none⟩ = some (.int .i64 (p : Int)) ∧ W.cell? ⟨w.heap.size, 1, none⟩ = some (.int .i64 (q : Int)) ∧ W.cell? ⟨b, off + p * 3, none⟩ = some (.string x.k) ∧ W.cell? ⟨b, off + p * 3 + 1, none⟩ = some (.int .i64 x.t) ∧ W.cell? ⟨b, off + p * 3 + 2, none⟩ = some (.string x.it) ∧ W.cell? ⟨b, off + q * 3, none⟩ = some (.string y.k) ∧ W.cell? ⟨b, off + q * 3 + 1, none⟩ = some (.int .i64 y.t) ∧ W.cell? ⟨b, off + q * 3 + 2, none⟩ = some (.string y.it)) (go_keep) (fail)
  go_wp2
  refine bodyPost_ret (results_cell_row rfl _ _ (w.heap.size + 1) 67 (arcC x y).toArray (0, 0) _ rfl (alloc_at (by simp)) Ybad.underlying67 rfl Ybad.size67) rfl ?_
  exact ⟨rfl, (((Below.refl _ _).alloc (Nat.le_refl _) _).alloc (by simp) _).drew⟩
end Go.Proofs.YbulkbgasDoor

import Derived.Laws.StructEq
import Derived.Test.YbulkbgasDoorStrip
namespace Go.Proofs.YbulkbgasDoor
open Go.RowKit
set_option linter.unusedVariables false

theorem neq34 (k it : ByteArray) (t : Int) (w : World) : (binOp .neq 34 (.agg #[.string k, .int .i64 t, .string it]) (.agg #[.string k, .int .i64 t, .string it])).run Ybad.prog w = .ok (.bool false) w := by
  have u31 := Ybad.underlying31
  have u32 := Ybad.underlying32
  have u9 := Ybad.underlying9
  have a31 := Ybad.isAgg31
  have a32 := Ybad.isAgg32
  have a9 := Ybad.isAgg9
  have z31 := Ybad.sizeOf31
  have z32 := Ybad.sizeOf32
  have z9 := Ybad.sizeOf9
  have hS : Ybad.prog.underlying 34 = some (.struct (Ybad.prog.fieldsOf 34)) := by kernel_rfl
  have hp : Ybad.prog.stoodInHeld 34 = false := by kernel_rfl
  rw [run_neq_struct, show (10000 : Nat) = 9999 + 1 from rfl, run_equalIn_agg w 9999 34 _ _ hS hp]
  simp only [Program.fieldsOf, Ybad.underlying34]
  go_simp
  try simp

set_option maxHeartbeats 1000000 in
theorem equalA_true (a1 a2 : Option Addr) (c1 c2 : Nat) (l : List Ac) (w : World) (hn : l.length ≤ 100000) (h1 : Els w 3 a1 l.length fun i => (l.getD i ⟨⟨#[]⟩, 0, ⟨#[]⟩⟩).cells) (h2 : Els w 3 a2 l.length fun i => (l.getD i ⟨⟨#[]⟩, 0, ⟨#[]⟩⟩).cells) :
    Calls Ybad.prog 8 #[.slice a1 l.length c1, .slice a2 l.length c2] w fun e w' => e = .returned (.bool true) ∧ ∃ q, w' = w.drewN q := by
  have H1 := hid h1
  have H2 := hid h2
  clear h1 h2
  go_enter Ybad.func8, Ybad.ntmps8
  go_wp2
  go_loopw [13] (fun i wr => ∃ k q, k ≤ l.length ∧ i = .int .i64 k ∧ wr = w.drewN q) (fun i _ => l.length - (intOf i).toNat)
  case atStart => exact ⟨0, 0, Nat.zero_le _, rfl, rfl⟩
  case round =>
    obtain ⟨k, q, hk, rfl, rfl⟩ := hrel
    by_cases hlt : k < l.length
    · have hki : (k : Int) < (l.length : Int) := by omega
      obtain ⟨b1, o1, rfl, _, d0, d1, d2⟩ := cells_at H1.out hlt hlt
      obtain ⟨b2, o2, rfl, _, e0, e1, e2⟩ := cells_at H2.out hlt hlt
      obtain ⟨c, hc⟩ : ∃ c, l[k] = c := ⟨_, rfl⟩
      rw [hc] at d0 d1 d2 e0 e1 e2
      have f0 : (w.drewN q).cell? ⟨b1, o1 + k * 3, none⟩ = some (.string c.k) := d0
      have f1 : (w.drewN q).cell? ⟨b1, o1 + k * 3 + 1, none⟩ = some (.int .i64 c.t) := d1
      have f2 : (w.drewN q).cell? ⟨b1, o1 + k * 3 + 2, none⟩ = some (.string c.it) := d2
      have g0 : (w.drewN q).cell? ⟨b2, o2 + k * 3, none⟩ = some (.string c.k) := e0
      have g1 : (w.drewN q).cell? ⟨b2, o2 + k * 3 + 1, none⟩ = some (.int .i64 c.t) := e1
      have g2 : (w.drewN q).cell? ⟨b2, o2 + k * 3 + 2, none⟩ = some (.string c.it) := e2
      have hne := fun w => neq34 c.k c.it c.t w
      clear d0 d1 d2 e0 e1 e2 hc
      generalize hwq : w.drewN q = wq at f0 f1 f2 g0 g1 g2 ⊢
      go_wp2
      go_quiet (fail)
      go_wp2
      go_roundw
      case rel => exact ⟨k + 1, q + nq, by omega, by go_num, by rw [← hwq, World.drewN_drewN]⟩
      case measure => simp [intOf]; omega
    · obtain rfl : k = l.length := by omega
      go_wp2
      go_ret
      exact ⟨rfl, q, rfl⟩

end Go.Proofs.YbulkbgasDoor

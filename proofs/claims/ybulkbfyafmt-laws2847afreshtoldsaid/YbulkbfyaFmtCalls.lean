import Derived.Test.YbulkbfyaFmtRows
import Derived.WalkKit
import Derived.WalkSpells
import Derived.WalkLawsBesides
namespace Go.Proofs.YbulkbfyaFmt
open Go.RowKit

set_option maxHeartbeats 400000 in
theorem status_yes (c : Int) (w : World) (h1 : 400 ≤ c) (h2 : c ≤ 599) :
    Calls Ybaf.prog 7 #[.int .i64 c] w fun e w' => e = .returned (.bool true) ∧ w' = w := by
  go_enter Ybaf.func7, Ybaf.ntmps7
  go_wp2
  go_ret
  exact ⟨rfl, rfl⟩

set_option maxHeartbeats 400000 in
theorem new_yes (c : Int) (m : ByteArray) (w : World) (h1 : 400 ≤ c) (h2 : c ≤ 599) :
    Calls Ybaf.prog 6 #[.int .i64 c, .string m] w fun e w' => e = .returned (.pointer (some ⟨w.heap.size, 0, none⟩)) ∧ w' = w.alloc (.cells #[.int .i64 c, .string m, .nilIface] 31) := by
  go_enter Ybaf.func6, Ybaf.ntmps6
  go_wp2_with (go_at_call 7; refine (status_yes _ _ (by omega) (by omega)).mono ?_; rintro e w' ⟨rfl, rfl⟩)
  go_ret
  exact ⟨rfl, rfl⟩

set_option maxHeartbeats 400000 in
theorem caused_yes (c : Int) (m : ByteArray) (v : Value) (w : World) (h1 : 400 ≤ c) (h2 : c ≤ 599) (hv : v = .nilIface ∨ ∃ a, v = .iface 25 (.pointer a)) :
    Calls Ybaf.prog 5 #[.int .i64 c, .string m, v] w fun e w' => e = .returned (.pointer (some ⟨w.heap.size, 0, none⟩)) ∧ w' = w.alloc (.cells #[.int .i64 c, .string m, v] 31) := by
  rcases hv with rfl | ⟨a, rfl⟩
  all_goals
    go_enter Ybaf.func5, Ybaf.ntmps5
    go_wp2_with (go_at_call 6; refine (new_yes _ _ _ (by omega) (by omega)).mono ?_; rintro e w' ⟨rfl, rfl⟩)
    go_ret
    exact ⟨rfl, rfl⟩

end Go.Proofs.YbulkbfyaFmt

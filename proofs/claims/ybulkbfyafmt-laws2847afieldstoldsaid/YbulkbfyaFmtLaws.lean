import Derived.Test.YbulkbfyaFmtCalls
import Derived.LaidEqlPtr
import Derived.Lib.Builder
namespace Go.Proofs.YbulkbfyaFmt
open Go.RowKit

theorem code_in (n : Int) : 400 ≤ wrap64 (400 + wrap64 ((IntKind.u64.wrap n).tmod 200)) ∧ wrap64 (400 + wrap64 ((IntKind.u64.wrap n).tmod 200)) ≤ 599 := by
  have h0 : 0 ≤ IntKind.u64.wrap n := by simp [IntKind.wrap, IntKind.signed, IntKind.bits]; omega
  generalize IntKind.u64.wrap n = u at *
  have h1 : u.tmod 200 = u % 200 := Int.tmod_eq_emod_of_nonneg h0
  rw [h1]
  simp only [wrap64]
  omega

theorem assert25 (W : World) (v : Value) : (Instr.typeAssert (.iface 25 v) 24 25 true).run Ybaf.prog W = .ok (.tuple #[v, .bool true]) W := by kernel_rfl
theorem size27 : (Ybaf.prog.info? 27).map (·.size) = some 1 := by kernel_rfl
theorem size31 : (Ybaf.prog.info? 31).map (·.size) = some 3 := by kernel_rfl
theorem neq25 (a : Addr) (w : World) : (binOp .neq 25 (.pointer (some a)) (.pointer (some a))).run Ybaf.prog w = .ok (.bool false) w := by
  obtain ⟨j, hj, _⟩ := Option.map_eq_some_iff.1 size27
  exact Lib.run_neq_ptr_same w a Ybaf.underlying25 hj
theorem eql25 (a : Addr) (w : World) : (binOp .eql 25 (.pointer (some a)) (.pointer (some a))).run Ybaf.prog w = .ok (.bool true) w := by
  obtain ⟨j, hj, _⟩ := Option.map_eq_some_iff.1 size27
  exact run_eql_ptr_same w a Ybaf.underlying25 hj
theorem eql28 (w : World) (o p q : Array Value) : (binOp .eql 28 (.pointer (some ⟨w.heap.size + 1, 0, none⟩)) (.pointer (some ⟨w.heap.size + 1 + 1, 0, none⟩))).run Ybaf.prog (((w.alloc (.cells o 27)).alloc (.cells p 31)).alloc (.cells q 31)) = .ok (.bool false) (((w.alloc (.cells o 27)).alloc (.cells p 31)).alloc (.cells q 31)) := by
  obtain ⟨j, hj, hjs⟩ := Option.map_eq_some_iff.1 size31
  refine run_eql_ptr_other _ (ca := p) (cb := q) (ta := 31) (tb := 31) Ybaf.underlying28 hj (by rw [hjs]; decide) (by intro h; simp at h) ?_ ?_
  · rw [Below.heap_alloc _ _ _ (by simp)]; exact heap_alloc2_new w _ _
  · have h := heap_alloc2_new (w.alloc (.cells o 27)) (.cells p 31) (.cells q 31)
    simpa using h

set_option maxHeartbeats 400000 in
theorem fields_none (n : Int) (m t : ByteArray) (w : World) :
    Calls Ybaf.prog 3 #[.int .i64 n, .string m, .string t, .bool true] w fun e w' => e = .returned (.bool true) ∧ Below w.heap.size w w' := by
  obtain ⟨hc1, hc2⟩ := code_in n
  go_enter Ybaf.func3, Ybaf.ntmps3
  go_wp2_with fail
  generalize wrap64 (400 + wrap64 ((IntKind.u64.wrap n).tmod 200)) = c at *
  refine (caused_yes c m _ _ hc1 hc2 (Or.inl rfl)).mono ?_
  rintro e w' ⟨rfl, rfl⟩
  go_wp2
  go_ret
  exact ⟨rfl, (Below.refl _ _).alloc (Nat.le_refl _) _⟩

set_option maxHeartbeats 400000 in
theorem fields_some (n : Int) (m t : ByteArray) (w : World) :
    Calls Ybaf.prog 3 #[.int .i64 n, .string m, .string t, .bool false] w fun e w' => e = .returned (.bool true) ∧ Below w.heap.size w w' := by
  obtain ⟨hc1, hc2⟩ := code_in n
  have has := assert25
  have hne := neq25
  go_enter Ybaf.func3, Ybaf.ntmps3
  go_wp2_with fail
  generalize wrap64 (400 + wrap64 ((IntKind.u64.wrap n).tmod 200)) = c at *
  refine (caused_yes c m _ _ hc1 hc2 (Or.inr ⟨_, rfl⟩)).mono ?_
  rintro e w' ⟨rfl, rfl⟩
  go_wp2
  go_ret
  exact ⟨rfl, ((Below.refl _ _).alloc (Nat.le_refl _) _).alloc (by simp) _⟩

set_option maxHeartbeats 400000 in
theorem fresh_any (n : Int) (m t : ByteArray) (w : World) :
    Calls Ybaf.prog 4 #[.int .i64 n, .string m, .string t] w fun e w' => e = .returned (.bool true) ∧ Below w.heap.size w w' := by
  obtain ⟨hc1, hc2⟩ := code_in n
  have has := assert25
  have he25 := eql25
  have he28 := eql28 w
  go_enter Ybaf.func4, Ybaf.ntmps4
  go_wp2_with fail
  generalize wrap64 (400 + wrap64 ((IntKind.u64.wrap n).tmod 200)) = c at *
  refine (caused_yes c m _ _ hc1 hc2 (Or.inr ⟨_, rfl⟩)).mono ?_
  rintro e w' ⟨rfl, rfl⟩
  go_wp2_with fail
  refine (caused_yes c m _ _ hc1 hc2 (Or.inl rfl)).mono ?_
  rintro e w' ⟨rfl, rfl⟩
  go_wp2
  go_ret
  exact ⟨rfl, (((Below.refl _ _).alloc (Nat.le_refl _) _).alloc (by simp) _).alloc (by simp; omega) _⟩

end Go.Proofs.YbulkbfyaFmt

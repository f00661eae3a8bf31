import Derived.Laws.BitsAllLaws
import Derived.Laws.Rows
import Derived.Laws.IdiomCopy
import Derived.Below
namespace Go.Proofs.Ybulkbfzc

/-- The bit that slot gives. -/
def bit64 (i : Nat) : Int := IntKind.u64.wrap (2 ^ (i % 64))

theorem bit64_eq (i : Nat) : bit64 i = ((2 ^ (i % 64) : Nat) : Int) := by
  unfold bit64
  have h : 2 ^ (i % 64) < 2 ^ 64 := Nat.pow_lt_pow_right (by omega) (Nat.mod_lt _ (by omega))
  rw [IntKind.wrap_u64, show ((2 : Int) ^ (i % 64)) = ((2 ^ (i % 64) : Nat) : Int) from by simp]
  generalize 2 ^ (i % 64) = x at *
  omega

def U64 (xs : List Int) : Prop := ∀ x ∈ xs, 0 ≤ x ∧ x < 18446744073709551616

def bitAt (xs : List Int) (p : Nat) : Bool := (xs.getD (p / 64) 0).toNat.testBit (p % 64)

theorem U64.at_ {xs : List Int} (h : U64 xs) (j : Nat) : 0 ≤ xs.getD j 0 ∧ xs.getD j 0 < 18446744073709551616 := by
  by_cases hj : j < xs.length
  · have := h xs[j] (List.getElem_mem hj)
    simpa [List.getD_eq_getElem?_getD, hj] using this
  · simp [List.getD_eq_getElem?_getD, hj]

def clr (xs : List Int) (i : Nat) : List Int := xs.set (i / 64) (bits .andNot .u64 (xs.getD (i / 64) 0) (bit64 i))

theorem clr_length (xs : List Int) (i : Nat) : (clr xs i).length = xs.length := by simp [clr]

theorem word_clr (x : Int) (i : Nat) (h0 : 0 ≤ x) (h1 : x < 18446744073709551616) :
    (0 ≤ bits .andNot .u64 x (bit64 i) ∧ bits .andNot .u64 x (bit64 i) < 18446744073709551616) ∧ ∀ q, q < 64 → (bits .andNot .u64 x (bit64 i)).toNat.testBit q = (x.toNat.testBit q && !decide (q = i % 64)) := by
  obtain ⟨a, rfl⟩ := Int.eq_ofNat_of_zero_le h0
  have h : 2 ^ (i % 64) < 2 ^ 64 := Nat.pow_lt_pow_right (by omega) (Nat.mod_lt _ (by omega))
  have hs : i % 64 < 64 := Nat.mod_lt _ (by omega)
  rw [bit64_eq, u64_andNot_nat a _ (by omega) (by omega)]
  generalize i % 64 = s at *
  have hle : a &&& (18446744073709551615 - 2 ^ s) ≤ a := Nat.and_le_left
  refine ⟨⟨by omega, by omega⟩, fun q hq => ?_⟩
  rw [Int.toNat_natCast, Nat.testBit_and]
  congr 1
  rw [show 18446744073709551615 - 2 ^ s = 2 ^ 64 - (2 ^ s + 1) from by omega, Nat.testBit_two_pow_sub_succ h]
  simp [hq, Nat.testBit_two_pow, eq_comm]

theorem clr_u64 {xs : List Int} (h : U64 xs) (i : Nat) : U64 (clr xs i) := by
  intro x hx
  rcases List.mem_or_eq_of_mem_set hx with hx | rfl
  · exact h x hx
  · exact (word_clr _ i (h.at_ _).1 (h.at_ _).2).1

theorem bitAt_clr {xs : List Int} (h : U64 xs) (i p : Nat) (hi : i / 64 < xs.length) : bitAt (clr xs i) p = (bitAt xs p && !decide (p = i)) := by
  unfold bitAt clr
  have hp : p % 64 < 64 := Nat.mod_lt _ (by omega)
  by_cases e : p / 64 = i / 64
  · rw [e, List.getD_eq_getElem?_getD, List.getElem?_set_self hi, Option.getD_some, (word_clr _ i (h.at_ _).1 (h.at_ _).2).2 _ hp]
    congr 2
    rw [decide_eq_decide]
    omega
  · rw [List.getD_eq_getElem?_getD, List.getElem?_set_ne (by omega), ← List.getD_eq_getElem?_getD]
    have : ¬ p = i := by rintro rfl; exact e rfl
    simp [this]

/-- '(x >> s) & 1' -/
theorem bit_read (x : Int) (s : Nat) (h0 : 0 ≤ x) (h1 : x < 18446744073709551616) : bits .and .u64 (x / 2 ^ s) 1 = if x.toNat.testBit s then 1 else 0 := by
  obtain ⟨a, rfl⟩ := Int.eq_ofNat_of_zero_le h0
  have hle : a / 2 ^ s ≤ a := Nat.div_le_self _ _
  rw [show ((a : Int) / 2 ^ s) = ((a / 2 ^ s : Nat) : Int) from by simp, show (1 : Int) = ((1 : Nat) : Int) from rfl, u64_and_nat _ 1 (by omega) (by omega), nat_mask1, Int.toNat_natCast, Nat.testBit_eq_decide_div_mod_eq]
  by_cases e : a / 2 ^ s % 2 = 1
  · simp [e]
  · have : a / 2 ^ s % 2 = 0 := by omega
    simp [this]

/-- 'n & (64 * 2^k - 1)' -/
theorem mask_mod (n k : Nat) (hn : n < 4294967296) (hk : k < 6) : bits .and .u32 (n : Int) (64 * ((2 ^ k : Nat) : Int) - 1) = ((n % (64 * 2 ^ k) : Nat) : Int) := by
  have h : 2 ^ k < 2 ^ 6 := Nat.pow_lt_pow_right (by omega) hk
  have h1 : 1 ≤ 2 ^ k := Nat.one_le_two_pow
  have e : 64 * 2 ^ k = 2 ^ (6 + k) := by rw [Nat.pow_add]
  rw [show (64 * ((2 ^ k : Nat) : Int) - 1) = ((64 * 2 ^ k - 1 : Nat) : Int) from by omega, u32_and_nat _ _ hn (by omega), e, Nat.and_two_pow_sub_one_eq_mod]

/-- The row of words in memory. -/
def row (xs : List Int) : Obj := .cells (xs.map (Value.int .u64)).toArray 24 (0, 0)

theorem row_cell {w : World} {g : Nat} {xs : List Int} (h : w.heap[g]? = some (row xs)) {j : Nat} (hj : j < xs.length) : w.cell? ⟨g, j, none⟩ = some (.int .u64 (xs.getD j 0)) := by
  rw [cell_of_row w g j _ 24 (0, 0) h]
  simp [List.getD_eq_getElem?_getD, hj]

theorem row_free {w : World} {g : Nat} {xs : List Int} (h : w.heap[g]? = some (row xs)) (j : Nat) : w.frozen? ⟨g, j, none⟩ = false := frozen_of_row w g j _ 24 h

theorem row_set {w : World} {g : Nat} {xs : List Int} (h : w.heap[g]? = some (row xs)) (j : Nat) (v : Int) : (w.setCell ⟨g, j, none⟩ (.int .u64 v)).heap[g]? = some (row (xs.set j v)) := by
  rw [heap_setCell_same w g j _ 24 (.int .u64 v) h]
  simp [row, List.map_set]

end Go.Proofs.Ybulkbfzc

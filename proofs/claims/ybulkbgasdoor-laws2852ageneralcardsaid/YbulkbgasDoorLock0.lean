import Derived.Test.YbulkbgasDoorCf
namespace Go.Proofs.YbulkbgasDoor
open Go.RowKit
set_option linter.unusedVariables false

abbrev mSh : ByteArray := ⟨#[115, 104, 97, 114, 101, 100]⟩
abbrev mEx : ByteArray := ⟨#[101, 120, 99, 108, 117, 115, 105, 118, 101]⟩

set_option maxHeartbeats 1000000 in
theorem lockFor_any (b : Bool) (w : World) : Calls Ybad.prog 53 #[.bool b] w fun e w' => e = .returned (.string (if b then mEx else mSh)) ∧ w' = w := by
  cases b
  · go_enter Ybad.func53, Ybad.ntmps53
    go_wp2
    go_ret
    exact ⟨rfl, rfl⟩
  · go_enter Ybad.func53, Ybad.ntmps53
    go_wp2
    go_ret
    exact ⟨rfl, rfl⟩

/-- The two tables, as the program's text lays them. -/
def Laid (W : World) : Prop := ∃ b0 o0 c0 b1 o1 c1, W.cell? ⟨0, 0, none⟩ = some (.slice (some ⟨b0, o0, none⟩) 2 c0) ∧ W.cell? ⟨1, 0, none⟩ = some (.slice (some ⟨b1, o1, none⟩) 2 c1) ∧ 0 < W.heap.size ∧ 1 < W.heap.size ∧ b0 < W.heap.size ∧ b1 < W.heap.size ∧
  W.cell? ⟨b0, o0 + 1, none⟩ = some (.string kRl) ∧ W.cell? ⟨b0, o0 + 3 + 1, none⟩ = some (.string kWl) ∧ W.cell? ⟨b1, o1, none⟩ = some (.string mSh) ∧ W.cell? ⟨b1, o1 + 1, none⟩ = some (.string mEx)
theorem Laid.below {W W' : World} (h : Laid W) (hb : Below W.heap.size W W') : Laid W' := by
  obtain ⟨b0, o0, c0, b1, o1, c1, h1, h2, h3, h4, h5, h6, h7, h8, h9, h10⟩ := h
  have hz := hb.size
  exact ⟨b0, o0, c0, b1, o1, c1, (hb.cell (p := ⟨0, 0, none⟩) h3).trans h1, (hb.cell (p := ⟨1, 0, none⟩) h4).trans h2, by omega, by omega, by omega, by omega, (hb.cell (p := ⟨b0, o0 + 1, none⟩) h5).trans h7, (hb.cell (p := ⟨b0, o0 + 3 + 1, none⟩) h5).trans h8, (hb.cell (p := ⟨b1, o1, none⟩) h6).trans h9, (hb.cell (p := ⟨b1, o1 + 1, none⟩) h6).trans h10⟩

set_option maxHeartbeats 1000000 in
theorem index70 (b : Bool) (b1 o1 c1 : Nat) (w : World) (h9 : w.cell? ⟨b1, o1, none⟩ = some (.string mSh)) (h10 : w.cell? ⟨b1, o1 + 1, none⟩ = some (.string mEx)) :
    Calls Ybad.prog 70 #[.slice (some ⟨b1, o1, none⟩) 2 c1, .string (if b then mEx else mSh)] w fun e w' => e = .returned (.int .i64 (if b then 1 else 0)) ∧ w' = w := by
  cases b
  · go_enter Ybad.func70, Ybad.ntmps70
    go_wp2
    go_loopw [8] (fun i wr => i = .int .i64 0 ∧ wr = w) (fun _ _ => 0)
    case atStart => exact ⟨rfl, rfl⟩
    case round =>
      obtain ⟨rfl, rfl⟩ := hrel
      go_wp2
      go_ret
      exact ⟨rfl, rfl⟩
  · go_enter Ybad.func70, Ybad.ntmps70
    go_wp2
    go_loopw [8] (fun i wr => (∃ n : Nat, n ≤ 1 ∧ i = .int .i64 n) ∧ wr = w) (fun i _ => 2 - (intOf i).toNat)
    case atStart => exact ⟨⟨0, by omega, rfl⟩, rfl⟩
    case round =>
      obtain ⟨⟨n, hn, rfl⟩, rfl⟩ := hrel
      rcases (show n = 0 ∨ n = 1 by omega) with rfl | rfl
      · go_wp2
        go_roundw
        case rel => exact ⟨⟨1, by omega, rfl⟩, trivial⟩
        case measure => simp [intOf]
      · go_wp2
        go_ret
        exact ⟨rfl, rfl⟩

set_option maxHeartbeats 1000000 in
theorem lockAct_any (b : Bool) (w : World) (hl : Laid w) : Calls Ybad.prog 52 #[.string (if b then mEx else mSh)] w fun e w' => e = .returned (.string (if b then kWl else kRl)) ∧ ∃ q, w' = w.drewN q := by
  obtain ⟨b0, o0, c0, b1, o1, c1, h1, h2, h3, h4, h5, h6, h7, h8, h9, h10⟩ := hl
  have HI := hid (show ∀ q, Calls Ybad.prog 70 #[.slice (some ⟨b1, o1, none⟩) 2 c1, .string (if b then mEx else mSh)] (w.drewN q) fun e w' => e = .returned (.int .i64 (if b then 1 else 0)) ∧ w' = w.drewN q from fun q => index70 b b1 o1 c1 (w.drewN q) h9 h10)
  clear h9 h10
  cases b
  · go_enter Ybad.func52, Ybad.ntmps52
    go_wp2
    go_quiet ((go_at_call 70; exact Calls.quiet_of_same (HI.out _)))
    go_wp2
    go_ret
    exact ⟨rfl, _, rfl⟩
  · go_enter Ybad.func52, Ybad.ntmps52
    go_wp2
    go_quiet ((go_at_call 70; exact Calls.quiet_of_same (HI.out _)))
    go_wp2
    go_ret
    exact ⟨rfl, _, rfl⟩

set_option maxHeartbeats 1000000 in
theorem nan51 (t : Int) (w : World) : Calls Ybad.prog 51 #[.int .i64 t] w fun e w' => e = .returned (.bool false) ∧ w' = w := by
  go_enter Ybad.func51, Ybad.ntmps51
  go_wp2
  go_ret
  exact ⟨rfl, rfl⟩
set_option maxHeartbeats 1000000 in
theorem nan69 (t : Int) (w : World) : Calls Ybad.prog 69 #[.int .i64 t] w fun e w' => e = .returned (.bool false) ∧ w' = w := by
  go_enter Ybad.func69, Ybad.ntmps69
  go_wp2
  go_ret
  exact ⟨rfl, rfl⟩
set_option maxHeartbeats 1000000 in
theorem less50 (s t : Int) (w : World) : Calls Ybad.prog 50 #[.int .i64 s, .int .i64 t] w fun e w' => e = .returned (.bool (decide (s < t))) ∧ w' = w := by
  have H := hid nan69
  go_enter Ybad.func50, Ybad.ntmps50
  go_wp2_with (go_at_call 69; refine Calls.mono (H.out _ _) ?_; rintro e w' ⟨rfl, rfl⟩)
  go_ret
  exact ⟨rfl, rfl⟩

set_option maxRecDepth 100000 in
set_option maxHeartbeats 1000000 in
theorem bs_any (w : World) (v : Value) (tx : List Int) (hs : SlI w v tx) (hn : tx.length ≤ 1000) (hso : ∀ i j (hi : i < tx.length) (hj : j < tx.length), i < j → tx[i] < tx[j]) (k : Nat) (hk : k < tx.length) :
    Calls Ybad.prog 30 #[v, .int .i64 tx[k]] w fun e w' => e = .returned (.tuple #[.int .i64 k, .bool true]) ∧ w' = w := by
  obtain ⟨a, cap, rfl, hcap, hel⟩ := hs
  have HS := hid hel
  have HO := hid hso
  obtain ⟨b, off, rfl, hbl, ck⟩ := int_at hel hk hk
  have HL := hid less50
  have hki : (k : Int) < (tx.length : Int) := by omega
  obtain ⟨t, ht⟩ : ∃ t, tx[k] = t := ⟨_, rfl⟩
  rw [ht] at ck ⊢
  have HT := hid ht
  clear hel hso ht
  go_enter Ybad.func30, Ybad.ntmps30
  go_wp2
  go_loopw [7, 8] (fun lo hi wr => (∃ i j : Nat, lo = .int .i64 i ∧ hi = .int .i64 j ∧ i ≤ k ∧ k ≤ j ∧ j ≤ tx.length) ∧ wr = w) (fun lo hi _ => (intOf hi).toNat - (intOf lo).toNat)
  case atStart => exact ⟨⟨0, tx.length, rfl, rfl, Nat.zero_le _, by omega, Nat.le_refl _⟩, rfl⟩
  case round =>
    obtain ⟨⟨i, j, rfl, rfl, hi, hj, hjl⟩, rfl⟩ := hrel
    by_cases hij : i < j
    · have hiji : (i : Int) < (j : Int) := by omega
      obtain ⟨m, hm⟩ : ∃ m, (i + j) / 2 = m := ⟨_, rfl⟩
      have hmi : i ≤ m := by omega
      have hmj : m < j := by omega
      obtain ⟨b', off', eq, hbl', cm⟩ := int_at HS.out (k := m) (by omega) (by omega)
      cases eq
      obtain ⟨tm, htm⟩ : ∃ tm, tx[m] = tm := ⟨_, rfl⟩
      rw [htm] at cm
      by_cases hlt : tm < t
      · have HMK := hid (show m < k from by
          rcases Nat.lt_or_ge m k with h | h
          · exact h
          · exfalso
            rcases Nat.lt_or_ge k m with h2 | h2
            · have := HO.out k m hk (by omega) h2
              rw [htm, HT.out] at this; omega
            · obtain rfl : m = k := by omega
              rw [HT.out] at htm; omega)
        clear htm
        go_wp2_with (go_at_call 50; refine Calls.mono (HL.out _ _ _) ?_; rintro e w' ⟨rfl, rfl⟩)
        have hmk := HMK.out
        have e1 : ((i : Int) + (j : Int)) / 2 + 1 = ((m + 1 : Nat) : Int) := by omega
        go_roundw
        case rel => exact ⟨⟨m + 1, j, by rw [e1], rfl, by omega, by omega, by omega⟩, by first | trivial | rfl⟩
        case measure => simp [intOf]; omega
      · have HMK := hid (show k ≤ m from by
          rcases Nat.lt_or_ge m k with h | h
          · exfalso
            have := HO.out m k (by omega) hk h
            rw [htm, HT.out] at this; omega
          · exact h)
        clear htm
        have hlt' : decide (tm < t) = false := by simpa using hlt
        go_wp2_with (go_at_call 50; refine Calls.mono (HL.out _ _ _) ?_; rintro e w' ⟨rfl, rfl⟩)
        have hmk := HMK.out
        have e1 : ((i : Int) + (j : Int)) / 2 = ((m : Nat) : Int) := by omega
        go_roundw
        case rel => exact ⟨⟨i, m, rfl, by rw [e1], by omega, by omega, by omega⟩, by first | trivial | rfl⟩
        case measure => simp [intOf]; omega
    · obtain rfl : i = j := by omega
      obtain rfl : i = k := by omega
      go_wp2
      go_ret2
      exact ⟨rfl, rfl⟩

end Go.Proofs.YbulkbgasDoor

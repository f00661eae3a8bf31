import Derived.Test.YbulkbgasDoorSp
import Derived.Test.YbulkbgasDoorFam
import Derived.Deep.RegionHeld3
import Derived.Deep.RegionLaw
import Derived.Deep.DeepCutAuto
import Derived.Deep.LoopGhost
namespace Go.Proofs.YbulkbgasDoor
open Go.RowKit Go.Maps
set_option linter.unusedVariables false

theorem gr_set (w : World) (b j : Nat) (u : Value) : w.grownBy (w.setCell ⟨b, j, none⟩ u) (some b) :=
  ⟨rfl, rfl, rfl, by simp, fun k _ hk => heap_setCell_other w _ _ u (fun e => hk (by rw [e]))⟩
theorem gr_trans {a b c : World} {row : Option Nat} (h : a.grownBy b row) (k : b.grownBy c row) : a.grownBy c row :=
  ⟨k.os.trans h.os, k.tape.trans h.tape, k.output.trans h.output, Nat.le_trans h.size k.size, fun i hi hne => (k.block i (Nat.lt_of_lt_of_le hi h.size) hne).trans (h.block i hi hne)⟩
theorem gr_refl (a : World) (row : Option Nat) : a.grownBy a row := ⟨rfl, rfl, rfl, Nat.le_refl _, fun _ _ _ => rfl⟩

/-! ### slices.Index of a truth value -/
set_option maxRecDepth 100000 in
set_option maxHeartbeats 2000000 in
theorem index_any (w : World) (g n : Nat) (f : Nat → Bool) (hn : n ≤ 1000) (hf : Fix w g 4 n fun j => .bool (f j)) :
    Calls Ybad.prog 42 #[.slice (some ⟨g, 0, none⟩) n n, .bool true] w fun e w' => w' = w ∧ ((∃ k, k < n ∧ f k = true ∧ e = .returned (.int .i64 (k : Int))) ∨ ((∀ k, k < n → f k = false) ∧ e = .returned (.int .i64 (-1)))) := by
  have HF := hid hf
  clear hf
  go_enter Ybad.func42, Ybad.ntmps42
  go_wp2_with fail
  go_loopg [8] n (fun g0 iv wi => ∃ k : Nat, k ≤ n ∧ g0 = n - k ∧ iv = .int .i64 (k : Int) ∧ (∀ j, j < k → f j = false) ∧ wi = w)
  case atStart => exact ⟨0, Nat.zero_le _, rfl, rfl, fun j hj => by omega, rfl⟩
  case round =>
    obtain ⟨k, hk, rfl, rfl, hst, rfl⟩ := hrel
    have HST := hid hst
    clear hst
    by_cases hlt : k < n
    · have hki : (k : Int) < (n : Int) := by omega
      have hk0 : (0 : Int) ≤ (k : Int) := by omega
      have c0 := HF.out.cell hlt
      have c1 : wr.cell? ⟨g, 0 + k, none⟩ = some (.bool (f k)) := by rw [Nat.zero_add]; exact c0
      obtain ⟨x, hx⟩ : ∃ x, f k = x := ⟨_, rfl⟩
      rw [hx] at c0 c1
      have HX := hid hx
      clear hx
      cases x
      · go_wp2_with fail
        go_roundg (n - (k + 1))
        case measure => omega
        case rel => exact ⟨k + 1, by omega, rfl, by go_num, fun j hj => by
          by_cases e : j = k
          · rw [e]; exact HX.out
          · exact HST.out j (by omega), rfl⟩
      · go_wp2_with fail
        go_ret
        exact ⟨rfl, .inl ⟨k, hlt, HX.out, rfl⟩⟩
    · obtain rfl : k = n := by omega
      go_wp2_with fail
      go_ret
      exact ⟨rfl, .inr ⟨HST.out, rfl⟩⟩

/-! ### remaining -/
structure Rem (n : Nat) (r : Nat → Nat) : Prop where
  le : ∀ k, k ≤ n → k ≤ r k ∧ r k ≤ n
  dr : ∀ k, k ≤ n → ∀ m, k ≤ m → m < r k → r m ≠ m
theorem Rem.top {n : Nat} {r : Nat → Nat} (h : Rem n r) : r n = n := by have := h.le n (Nat.le_refl _); omega
theorem Rem.new (n : Nat) : Rem n fun k => k := ⟨fun k h => ⟨Nat.le_refl _, h⟩, fun k _ m h1 h2 => by omega⟩
theorem Rem.drop {n : Nat} {r : Nat → Nat} (h : Rem n r) {i : Nat} (hi : i < n) (hr : r i = i) : Rem n (updL r i (i + 1)) := by
  have hne : ∀ m, r m ≠ m → updL r i (i + 1) m ≠ m := fun m hm => by
    unfold updL; split
    · omega
    · exact hm
  refine ⟨fun k hk => ?_, fun k hk m h1 h2 => ?_⟩
  · unfold updL; split
    · omega
    · exact h.le k hk
  · by_cases e : k = i
    · subst e
      rw [updL_same] at h2
      obtain rfl : m = k := by omega
      rw [updL_same]; omega
    · rw [updL_other _ e] at h2
      exact hne m (h.dr k hk m h1 h2)
theorem Rem.short {n : Nat} {r : Nat → Nat} (h : Rem n r) {i : Nat} (hi : i ≤ n) (hr : r i ≠ i) : Rem n (updL r i (r (r i))) ∧ ∀ k, updL r i (r (r i)) k = k ↔ r k = k := by
  have h1 := h.le i hi
  have h2 := h.le (r i) h1.2
  have hs : ∀ k, updL r i (r (r i)) k = k ↔ r k = k := fun k => by
    unfold updL; split
    · rename_i e; subst e
      exact ⟨fun e => by omega, fun e => absurd e hr⟩
    · exact Iff.rfl
  refine ⟨⟨fun k hk => ?_, fun k hk m g1 g2 => ?_⟩, hs⟩
  · unfold updL; split
    · omega
    · exact h.le k hk
  · rw [ne_eq, hs]
    by_cases e : k = i
    · subst e
      rw [updL_same] at g2
      rcases Nat.lt_or_ge m (r k) with g3 | g3
      · exact h.dr k hk m g1 g3
      · exact h.dr (r k) h1.2 m g3 g2
    · rw [updL_other _ e] at g2
      exact h.dr k hk m g1 g2

theorem remV (r : Nat → Nat) (i x : Nat) : (fun j => (Value.int .i64 ((updL r i x j : Nat) : Int))) = upd (fun j => .int .i64 ((r j : Nat) : Int)) i (.int .i64 (x : Int)) := by
  funext j; unfold updL upd; split <;> rfl

set_option maxRecDepth 100000 in
set_option maxHeartbeats 2000000 in
theorem drop_any (w : World) (g n : Nat) (r : Nat → Nat) (i : Nat) (hi : i < n) (hn : n ≤ 1000) (hf : Fix w g 3 (n + 1) fun j => .int .i64 ((r j : Nat) : Int)) :
    Calls Ybad.prog 48 #[.slice (some ⟨g, 0, none⟩) (n + 1) (n + 1), .int .i64 (i : Int)] w fun e w' => e = .returned (.tuple #[]) ∧ Fix w' g 3 (n + 1) (fun j => .int .i64 ((updL r i (i + 1) j : Nat) : Int)) ∧ w.grownBy w' (some g) := by
  have hii : (i : Int) < ((n + 1 : Nat) : Int) := by omega
  have hi0 : (0 : Int) ≤ (i : Int) := by omega
  have hii' : (i : Int) < (n : Int) + 1 := by omega
  have c0 := hf.cell (j := i) (by omega)
  have f0 := hf.free i
  have HF := hid hf
  clear hf
  go_enter Ybad.func48, Ybad.ntmps48
  go_wp2_with fail
  go_end0
  refine ⟨rfl, ?_, gr_set _ _ _ _⟩
  rw [remV]
  have := HF.out.set (j := i) (by omega) (.int .i64 ((i + 1 : Nat) : Int))
  simpa using this

set_option maxRecDepth 100000 in
set_option maxHeartbeats 2000000 in
theorem rem_any (w : World) (g n : Nat) (r : Nat → Nat) (i : Nat) (hi : i ≤ n) (hn : n ≤ 1000) (hr : Rem n r) (hf : Fix w g 3 (n + 1) fun j => .int .i64 ((r j : Nat) : Int)) :
    Calls Ybad.prog 47 #[.slice (some ⟨g, 0, none⟩) (n + 1) (n + 1), .int .i64 (i : Int)] w fun e w' => ∃ (j : Nat) (r' : Nat → Nat), e = .returned (.int .i64 (j : Int)) ∧ Fix w' g 3 (n + 1) (fun j => .int .i64 ((r' j : Nat) : Int)) ∧ Rem n r' ∧ (∀ k, r' k = k ↔ r k = k) ∧ i ≤ j ∧ j ≤ n ∧ r j = j ∧ (∀ m, i ≤ m → m < j → r m ≠ m) ∧ w.grownBy w' (some g) := by
  have HR := hid hr
  have HF := hid hf
  have hgl := hf.lt
  clear hr hf
  go_enter Ybad.func47, Ybad.ntmps47
  go_wp2_with fail
  go_loopg [1] (n - i) (fun g0 iv wi => ∃ (k : Nat) (r' : Nat → Nat), k ≤ n ∧ g0 = n - k ∧ iv = .int .i64 (k : Int) ∧ i ≤ k ∧ Fix wi g 3 (n + 1) (fun j => .int .i64 ((r' j : Nat) : Int)) ∧ Rem n r' ∧ (∀ k, r' k = k ↔ r k = k) ∧ (∀ m, i ≤ m → m < k → r m ≠ m) ∧ w.grownBy wi (some g))
  case atStart => exact ⟨i, r, hi, rfl, rfl, Nat.le_refl _, HF.out, HR.out, fun _ => Iff.rfl, fun m h1 h2 => by omega, gr_refl _ _⟩
  case round =>
    obtain ⟨k, r', hk, rfl, rfl, hik, hfx, hrm, hsm, hbe, hgr⟩ := hrel
    have HFX := hid hfx
    have HRM := hid hrm
    have HSM := hid hsm
    have HBE := hid hbe
    have HGR := hid hgr
    clear hfx hrm hsm hbe hgr
    have hki : (k : Int) < (n : Int) + 1 := by omega
    have hk0 : (0 : Int) ≤ (k : Int) := by omega
    have c0 := HFX.out.cell (j := k) (by omega)
    have f0 := HFX.out.free k
    have hle := HRM.out.le k hk
    obtain ⟨x, hx⟩ : ∃ x, r' k = x := ⟨_, rfl⟩
    rw [hx] at c0 hle
    have HX := hid hx
    clear hx
    by_cases hxe : x = k
    · subst hxe
      go_wp2_with fail
      go_ret
      exact ⟨x, r', rfl, HFX.out, HRM.out, HSM.out, hik, hk, (HSM.out x).1 HX.out, HBE.out, HGR.out⟩
    · have hb1 : ((x : Int) != (k : Int)) = true := by simp; omega
      have hxi : (x : Int) < (n : Int) + 1 := by omega
      have hx0 : (0 : Int) ≤ (x : Int) := by omega
      have c1 := HFX.out.cell (j := x) (by omega)
      have hle2 := HRM.out.le x hle.2
      obtain ⟨y, hy⟩ : ∃ y, r' x = y := ⟨_, rfl⟩
      rw [hy] at c1 hle2
      have HY := hid hy
      clear hy
      go_wp2_with fail
      go_roundg (n - y)
      case measure => omega
      case rel =>
        obtain ⟨s1, s2⟩ := HRM.out.short hk (by rw [HX.out]; exact hxe)
        rw [HX.out, HY.out] at s1 s2
        refine ⟨y, updL r' k y, hle2.2, rfl, rfl, by omega, ?_, s1, fun m => (s2 m).trans (HSM.out m), fun m h1 h2 => ?_, gr_trans HGR.out (gr_set _ _ _ _)⟩
        · rw [remV]; exact HFX.out.set (by omega) _
        · rcases Nat.lt_or_ge m k with h3 | h3
          · exact HBE.out m h1 h3
          · intro e
            rcases Nat.lt_or_ge m x with h4 | h4
            · exact HRM.out.dr k hk m h3 (by rw [HX.out]; exact h4) ((HSM.out m).2 e)
            · exact HRM.out.dr x hle.2 m h4 (by rw [HY.out]; exact h2) ((HSM.out m).2 e)

theorem Ybad.E127 : ElemT 127 3 1 8 (.int .i64 0) := ⟨Ybad.underlying127, by kernel_rfl, rfl, by decide, by decide⟩
theorem mk127 (m : Nat) (hm : m ≤ 1000) (W : World) : (Instr.makeSlice 127 (.int .i64 ((m : Int) + 1)) (.int .i64 ((m : Int) + 1))).run Ybad.prog W = .ok (.slice (some ⟨W.heap.size, 0, none⟩) (m + 1) (m + 1)) (W.alloc (.cells (rowF (m + 1) (fun _ => .int .i64 0)) 3)) := by
  have := mkRow1 Ybad.E127 rfl (m + 1) (by omega) W
  simpa using this

set_option maxRecDepth 100000 in
set_option maxHeartbeats 2000000 in
theorem newRem_any (w : World) (n : Nat) (hn : n ≤ 1000) :
    Calls Ybad.prog 45 #[.int .i64 (n : Int)] w fun e w' => e = .returned (.slice (some ⟨w.heap.size, 0, none⟩) (n + 1) (n + 1)) ∧ Fix w' w.heap.size 3 (n + 1) (fun j => .int .i64 (j : Int)) ∧ w.grownBy w' none ∧ w'.heap.size = w.heap.size + 1 := by
  have hmk := mk127 n hn
  go_enter Ybad.func45, Ybad.ntmps45
  go_wp2_with fail
  go_loopg [10] (n + 1) (fun g0 iv wi => ∃ k : Nat, k ≤ n + 1 ∧ g0 = n + 1 - k ∧ iv = .int .i64 (k : Int) ∧ Fix wi w.heap.size 3 (n + 1) (fun j => .int .i64 (if j < k then (j : Int) else 0)) ∧ w.grownBy wi none ∧ wi.heap.size = w.heap.size + 1)
  case atStart => exact ⟨0, Nat.zero_le _, rfl, rfl, (heap_alloc_new _ _), World.grownBy_alloc _ _ _, by simp⟩
  case round =>
    obtain ⟨k, hk, rfl, rfl, hfx, hgr, hsz⟩ := hrel
    have HFX := hid hfx
    have HGR := hid hgr
    have HSZ := hid hsz
    clear hfx hgr hsz hmk
    by_cases hlt : k < n + 1
    · have hki : (k : Int) < (n : Int) + 1 := by omega
      have hk0 : (0 : Int) ≤ (k : Int) := by omega
      have c0 := HFX.out.cell (j := k) hlt
      have f0 := HFX.out.free k
      go_wp2_with fail
      go_roundg (n + 1 - (k + 1))
      case measure => omega
      case rel =>
        refine ⟨k + 1, by omega, rfl, by go_num, (HFX.out.set hlt (.int .i64 (k : Int))).congr fun j hj => ?_, ?_, by have := HSZ.out; simp; omega⟩
        · unfold upd
          by_cases e : j = k
          · subst e; rw [if_pos rfl, if_pos (by omega)]
          · rw [if_neg e]
            dsimp only
            by_cases e2 : j < k
            · rw [if_pos e2, if_pos (by omega)]
            · rw [if_neg e2, if_neg (by omega)]
        · refine ⟨HGR.out.os, HGR.out.tape, HGR.out.output, by have := HSZ.out; simp; omega, fun j hj hne => ?_⟩
          exact (heap_setCell_other _ _ _ _ (by show j ≠ w.heap.size; omega)).trans (HGR.out.block j hj hne)
    · obtain rfl : k = n + 1 := by omega
      go_wp2_with fail
      go_ret
      exact ⟨rfl, HFX.out.congr fun j hj => by rw [if_pos hj], HGR.out, HSZ.out⟩

end Go.Proofs.YbulkbgasDoor

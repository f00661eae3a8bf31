import Derived.Test.YbulkbgasDoorArc
import Derived.Deep.LoopGhost
namespace Go.Proofs.YbulkbgasDoor
open Go.RowKit
set_option linter.unusedVariables false

/-- A chain of arcs, each linked to the next. -/
structure Linked (n : Nat) (B A : Nat → Ac) (cy : Bool) : Prop where
  pos : 0 < n
  ne : ∀ k, k < n → (B k).t ≠ (A k).t
  it : ∀ k, k < n → (B k).it = (A k).it
  lk : ∀ k, 0 < k → k < n → (A (k - 1)).t = (B k).t
  cy : cy = true → (A (n - 1)).t = (B 0).t

theorem arc_at {W : World} {a : Option Addr} {n : Nat} {B A : Nat → Ac} (h : Els W 8 a n fun k => arcC (B k) (A k)) {k : Nat} (hk : k < n) :
    ∃ b off, a = some ⟨b, off, none⟩ ∧ b < W.heap.size ∧ W.cell? ⟨b, off + k * 8, none⟩ = some (.int .i64 (B k).t) ∧ W.cell? ⟨b, off + k * 8 + 1, none⟩ = some (.int .i64 (A k).t) ∧ W.cell? ⟨b, off + k * 8 + 2, none⟩ = some (.string (B k).k) ∧ W.cell? ⟨b, off + k * 8 + 3, none⟩ = some (.int .i64 (B k).t) ∧ W.cell? ⟨b, off + k * 8 + 4, none⟩ = some (.string (B k).it) ∧
      W.cell? ⟨b, off + k * 8 + 5, none⟩ = some (.string (A k).k) ∧ W.cell? ⟨b, off + k * 8 + 6, none⟩ = some (.int .i64 (A k).t) ∧ W.cell? ⟨b, off + k * 8 + 7, none⟩ = some (.string (A k).it) := by
  obtain ⟨b, off, h1, h2, h3⟩ := h k hk
  exact ⟨b, off, h1, h2, h3 0 _ rfl, h3 1 _ rfl, h3 2 _ rfl, h3 3 _ rfl, h3 4 _ rfl, h3 5 _ rfl, h3 6 _ rfl, h3 7 _ rfl⟩

set_option maxRecDepth 1000000 in
set_option maxHeartbeats 4000000 in
theorem chain_true (w : World) (a : Option Addr) (n cap : Nat) (B A : Nat → Ac) (cy : Bool) (hn : n ≤ 1000) (hel : Els w 8 a n fun k => arcC (B k) (A k)) (hl : Linked n B A cy) :
    Calls Ybad.prog 11 #[.agg #[.slice none 0 0, .slice a n cap, .bool cy]] w fun e w' => e = .returned (.bool true) ∧ Below w.heap.size w w' := by
  have hpos := hl.pos
  have HEL := hid hel
  have HL := hid hl
  have hnz : ((n : Int) == 0) = false := by simp; omega
  clear hl hel
  obtain ⟨wa, hwa⟩ : ∃ wa, wa = w.alloc (.cells #[.slice none 0 0, .slice a n cap, .bool cy] 28) := ⟨_, rfl⟩
  have HB := hid (show Below w.heap.size w wa from by rw [hwa]; exact (Below.refl _ _).alloc (Nat.le_refl _) _)
  have HX := hid (show wa.heap[w.heap.size]? = some (.cells #[.slice none 0 0, .slice a n cap, .bool cy] 28 (0, 0)) from by rw [hwa]; exact heap_alloc_new _ _)
  have hz : wa.heap.size = w.heap.size + 1 := by rw [hwa]; simp
  have f0 : wa.cell? ⟨w.heap.size, 0, none⟩ = some (.slice none 0 0) := by rw [cell_of_row _ _ _ _ _ _ HX.out]; rfl
  have f1 : wa.cell? ⟨w.heap.size, 1, none⟩ = some (.slice a n cap) := by rw [cell_of_row _ _ _ _ _ _ HX.out]; rfl
  have f2 : wa.cell? ⟨w.heap.size, 2, none⟩ = some (.bool cy) := by rw [cell_of_row _ _ _ _ _ _ HX.out]; rfl
  go_enter Ybad.func11, Ybad.ntmps11
  go_upto_region 1 with fail
  rw [← hwa]
  clear hwa
  go_wp2_with fail
  go_loopg [17] n (fun g0 iv wi => ∃ k : Nat, k ≤ n ∧ g0 = n - k ∧ iv = .int .i64 (k : Int) ∧ Below wa.heap.size wa wi)
  case atStart => exact ⟨0, Nat.zero_le _, rfl, rfl, Below.refl _ _⟩
  case round =>
    obtain ⟨k, hk, rfl, rfl, hst⟩ := hrel
    have N1 := hid hst
    have hzr := hst.size
    clear hst f0
    have hf1 := (N1.out.cell (p := ⟨w.heap.size, 1, none⟩) (by show w.heap.size < wa.heap.size; omega)).trans f1
    have hf2 := (N1.out.cell (p := ⟨w.heap.size, 2, none⟩) (by show w.heap.size < wa.heap.size; omega)).trans f2
    have HF1 := hid f1
    have HF2 := hid f2
    clear f1 f2
    by_cases hlt : k < n
    · have hki : (k : Int) < (n : Int) := by omega
      have hk0 : (0 : Int) ≤ (k : Int) := by omega
      obtain ⟨b, off, rfl, hbl, c0, c1, c2, c3, c4, c5, c6, c7⟩ := arc_at HEL.out hlt
      have hNB := HB.out.trans (N1.out.mono (by omega))
      replace c0 := (hNB.cell (p := ⟨b, off + k * 8, none⟩) hbl).trans c0
      replace c1 := (hNB.cell (p := ⟨b, off + k * 8 + 1, none⟩) hbl).trans c1
      replace c2 := (hNB.cell (p := ⟨b, off + k * 8 + 2, none⟩) hbl).trans c2
      replace c3 := (hNB.cell (p := ⟨b, off + k * 8 + 3, none⟩) hbl).trans c3
      replace c4 := (hNB.cell (p := ⟨b, off + k * 8 + 4, none⟩) hbl).trans c4
      replace c5 := (hNB.cell (p := ⟨b, off + k * 8 + 5, none⟩) hbl).trans c5
      replace c6 := (hNB.cell (p := ⟨b, off + k * 8 + 6, none⟩) hbl).trans c6
      replace c7 := (hNB.cell (p := ⟨b, off + k * 8 + 7, none⟩) hbl).trans c7
      have hne := HL.out.ne k hlt
      rw [← HL.out.it k hlt] at c7
      have hb1 : ((B k).t == (A k).t) = false := by simpa using hne
      have HNB := hid hNB
      clear hNB hne
      have HW := hid (show ∀ o, Below wa.heap.size wa (wr.alloc o) from fun o => N1.out.alloc hzr o)
      have n1 : b ≠ wr.heap.size := by have := N1.out.size; omega
      have n2 : w.heap.size ≠ wr.heap.size := by omega
      by_cases hkz : 0 < k
      · have hb2 : (0 : Int) < (k : Int) := by omega
        have HPV := hid (arc_at HEL.out (k := k - 1) (by omega))
        obtain ⟨b', off', e1, _, _, d1, _⟩ := HPV.out
        simp only [Option.some.injEq, Addr.mk.injEq, and_true] at e1
        obtain ⟨rfl, rfl⟩ := e1
        rw [HL.out.lk k hkz hlt] at d1
        have HD1 := hid d1
        clear d1
        have hk1 : ((k : Int) - 1) < (n : Int) := by omega
        have hk2 : (0 : Int) ≤ (k : Int) - 1 := by omega
        have hk3 : ((k : Int) - 1).toNat = k - 1 := by omega
        go_upto_region 8 with fail
        obtain ⟨ws, hws⟩ : ∃ ws, ws = wr.alloc (.cells #[.int .i64 (B k).t, .int .i64 (A k).t, .string (B k).k, .int .i64 (B k).t, .string (B k).it, .string (A k).k, .int .i64 (A k).t, .string (B k).it] 67) := ⟨_, rfl⟩
        have HWS := hid (show Below wa.heap.size wa ws from by rw [hws]; exact HW.out _)
        have HX2 := hid (show ws.heap[wr.heap.size]? = some (.cells #[.int .i64 (B k).t, .int .i64 (A k).t, .string (B k).k, .int .i64 (B k).t, .string (B k).it, .string (A k).k, .int .i64 (A k).t, .string (B k).it] 67 (0, 0)) from by rw [hws]; exact heap_alloc_new _ _)
        rw [← hws]
        clear hws
        have g0 : ws.cell? ⟨wr.heap.size, 0, none⟩ = some (.int .i64 (B k).t) := by rw [cell_of_row _ _ _ _ _ _ HX2.out]; rfl
        have g1 := (HWS.out.cell (p := ⟨w.heap.size, 1, none⟩) (by show w.heap.size < wa.heap.size; omega)).trans HF1.out
        clear c0 c1 c2 c3 c4 c5 c6 c7 hf1 hf2
        have g2 := ((HB.out.trans (HWS.out.mono (by omega))).cell (p := ⟨b, off + (k - 1) * 8 + 1, none⟩) hbl).trans HD1.out
        go_quiet (fail)
        go_wp2_with fail
        go_roundg (n - (k + 1))
        case measure => omega
        case rel => exact ⟨k + 1, by omega, rfl, by go_num, below_drewN HWS.out _⟩
      · have hb2 : ¬ (0 : Int) < (k : Int) := by omega
        go_upto_region 8 with fail
        obtain ⟨ws, hws⟩ : ∃ ws, ws = wr.alloc (.cells #[.int .i64 (B k).t, .int .i64 (A k).t, .string (B k).k, .int .i64 (B k).t, .string (B k).it, .string (A k).k, .int .i64 (A k).t, .string (B k).it] 67) := ⟨_, rfl⟩
        have HWS := hid (show Below wa.heap.size wa ws from by rw [hws]; exact HW.out _)
        have HX2 := hid (show ws.heap[wr.heap.size]? = some (.cells #[.int .i64 (B k).t, .int .i64 (A k).t, .string (B k).k, .int .i64 (B k).t, .string (B k).it, .string (A k).k, .int .i64 (A k).t, .string (B k).it] 67 (0, 0)) from by rw [hws]; exact heap_alloc_new _ _)
        rw [← hws]
        clear hws
        have g0 : ws.cell? ⟨wr.heap.size, 0, none⟩ = some (.int .i64 (B k).t) := by rw [cell_of_row _ _ _ _ _ _ HX2.out]; rfl
        have g1 := (HWS.out.cell (p := ⟨w.heap.size, 1, none⟩) (by show w.heap.size < wa.heap.size; omega)).trans HF1.out
        clear c0 c1 c2 c3 c4 c5 c6 c7 hf1 hf2
        go_quiet (fail)
        go_wp2_with fail
        go_roundg (n - (k + 1))
        case measure => omega
        case rel => exact ⟨k + 1, by omega, rfl, by go_num, below_drewN HWS.out _⟩
    · obtain rfl : k = n := by omega
      obtain ⟨b, off, rfl, hbl, c0, c1, _⟩ := arc_at HEL.out (k := 0) (by omega)
      obtain ⟨b', off', e1, _, _, d1, _⟩ := arc_at HEL.out (k := k - 1) (by omega)
      simp only [Option.some.injEq, Addr.mk.injEq, and_true] at e1
      obtain ⟨rfl, rfl⟩ := e1
      have hNB := HB.out.trans (N1.out.mono (by omega))
      replace c0 := (hNB.cell (p := ⟨b, off + 0 * 8, none⟩) hbl).trans c0
      replace d1 := (hNB.cell (p := ⟨b, off + (k - 1) * 8 + 1, none⟩) hbl).trans d1
      rw [Nat.zero_mul, Nat.add_zero] at c0
      have HNB := hid hNB
      clear hNB
      have hk1 : ((k : Int) - 1) < (k : Int) := by omega
      have hk2 : (0 : Int) ≤ (k : Int) - 1 := by omega
      have hk3 : ((k : Int) - 1).toNat = k - 1 := by omega
      have hkp : (0 : Int) < (k : Int) := by omega
      cases cy
      · go_upto_region 11 with fail
        go_quiet (fail)
        go_wp2_with fail
        go_ret
        exact ⟨rfl, below_drewN HNB.out _⟩
      · rw [HL.out.cy rfl] at d1
        go_upto_region 11 with fail
        go_quiet (fail)
        go_wp2_with fail
        go_ret
        exact ⟨rfl, below_drewN HNB.out _⟩
end Go.Proofs.YbulkbgasDoor

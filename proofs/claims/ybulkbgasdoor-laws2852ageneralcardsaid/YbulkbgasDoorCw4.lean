import Derived.Test.YbulkbgasDoorCw3
namespace Go.Proofs.YbulkbgasDoor
open Go.RowKit Go.Maps
set_option linter.unusedVariables false
set_option linter.unusedSimpArgs false
attribute [local go_sem ↓] Go.wp_at_zero Go.wp_at_succ

theorem gr_weak {a c : World} (h : a.grownBy c none) (row : Option Nat) : a.grownBy c row := ⟨h.os, h.tape, h.output, h.size, fun i hi _ => h.block i hi (by simp)⟩
theorem own_of_fix {W : World} {base g n : Nat} {f : Nat → Value} {l : List Nat} (h : Fix W g 3 n f) (hl : l.length = n) (he : ∀ j (hj : j < l.length), f j = .int .i64 (l[j] : Int)) (hb : base ≤ g) (hn : n ≤ 100000) : W.ownsRow base 3 1 (.slice (some ⟨g, 0, none⟩) n n) l.length (rowI l) := by
  subst hl
  refine ⟨by rw [rowI_length, Nat.mul_one], .inr ⟨g, l.length, rowF l.length f, rfl, hb, h, Nat.le_refl _, by unfold maxLen; omega, by rw [rowF_size, Nat.mul_one], ?_⟩⟩
  rw [Nat.mul_one, List.take_of_length_le (by rw [Array.length_toList, rowF_size]; exact Nat.le_refl _)]
  refine List.ext_getElem (by rw [Array.length_toList, rowF_size, rowI_length]) (fun j h1 h2 => ?_)
  rw [rowI_length] at h2
  have hj : j < l.length := h2
  have := rowF_get (f := f) hj
  rw [rowI_get hj, ← he j hj, Array.getElem_toList]
  exact Option.some.inj ((Array.getElem?_eq_getElem _).symm.trans this)

set_option maxRecDepth 1000000 in
set_option maxHeartbeats 8000000 in
theorem walk_any (w : World) (Bc n m capt : Nat) (at_ : Option Addr) (va : Value) (A : List Acc) (hA : A.length ≤ 300) (hn : n ≤ 1000) (hm : m ≤ 1000) (hbx : w.heap[Bc]? = some (.cells #[.slice at_ n capt, .int .i64 (m : Int), va] 63 (0, 0))) (hs : SlX w va A) (hsm : ∀ a ∈ A, a.x < n ∧ a.i < m) :
    Calls Ybad.prog 28 #[.pointer (some ⟨Bc, 0, none⟩)] w fun e w' => ∃ b v, e = .returned (.pointer (some ⟨w.heap.size + 10, 0, none⟩)) ∧ CwS w w' n m A.length Bc b (fun _ => false) (iaF A A.length) (nwF A A.length) (fun _ => 0) (fun _ => 0) v (cwX n m A m m) ∧ ∀ i, i < m → (∃ g, v (m + m + n + i) = .slice (some ⟨g, 0, none⟩) ((rowAc A i).length + 1) ((rowAc A i).length + 1)) ∧ ∃ g, v (m + m + n + (m + i)) = .slice (some ⟨g, 0, none⟩) ((rowWr A i).length + 1) ((rowWr A i).length + 1) := by
  obtain ⟨a, cap, rfl, hcap, hel⟩ := hs
  have HSL := hid hel
  have HM := hid hsm
  have HBX := hid hbx
  have hBl : Bc < w.heap.size := (Array.getElem?_eq_some_iff.1 hbx).1
  clear hel hsm hbx
  go_enter Ybad.func28, Ybad.ntmps28
  go_upto_region 1 with fail
  refine reg28 w Bc n m A.length capt cap at_ a hn hm (by omega) HBX.out _ _ _ _ _ _ _ _ _ _ _ _ _ _ _ _ _ _ _ _ _ _ _ _ _ _ _ _ _ _ _ _ _ _ _ _ _ _ _ _ _ _ _ _ _ _ _ _ _ _ _ _ _ _ _ _ _ _ _ _ _ _ _ _ _ _ _ _ _ _ _ _ _ _ _ _ _ _ _ _ _ _ _ _ _ _ _ _ _ _ _ _ _ _ _ _ _ _ _ _ _ _ _ _ _ _ _ _ _ _ _ _ _ _ _ _ _ _ _ _ _ _ _ _ _ _ _ _ _ _ _ _ _ _ _ _ _ _ _ _ _ _ _ _ _ _ _ _ _ _ _ _ _ _ _ _ _ _ _ _ _ _ _ _ _ _ _ _ _ _ _ _ _ _ _ _ _ _ _ _ _ _ _ _ _ _ _ _ _ _ _ _ _ _ _ _ _ _ _ _ _ _ ?_
  rintro u7 u8 u9 u10 u11 u12 u13 u14 u15 u16 u17 u18 u19 u20 u21 u22 u23 u24 u25 u26 u27 u28 u29 u30 u31 u32 u33 u34 u35 u36 u37 u38 u39 u40 u41 u42 u43 u44 u45 u46 u47 u48 u49 u50 u51 u52 u53 u54 u55 u56 u57 u58 u59 u60 u61 u62 u63 b wi h0
  have ST0 := hid (cw_begin (Bc := Bc) h0 A)
  dsimp only [Exit.then]
  obtain ⟨wB, hwB⟩ : ∃ wB, wB = wi.alloc (.cells (cwBox Bc n m A.length b) 126) := ⟨_, rfl⟩
  rw [← hwB] at ST0
  rw [show (wi.alloc (.cells #[.pointer (some ⟨Bc, 0, none⟩), .slice (some ⟨b 0, 0, none⟩) n n, .slice (some ⟨b 1, 0, none⟩) m m, .slice (some ⟨b 2, 0, none⟩) m m, .slice (some ⟨b 3, 0, none⟩) m m, .slice (some ⟨b 4, 0, none⟩) m m, .slice (some ⟨b 5, 0, none⟩) A.length A.length, .slice (some ⟨b 6, 0, none⟩) A.length A.length, .slice (some ⟨b 7, 0, none⟩) n n, .slice (some ⟨b 8, 0, none⟩) m m, .slice (some ⟨b 9, 0, none⟩) m m] 126)) = wB from hwB.symm]
  clear hwB h0
  have d2 : wB.cell? ⟨Bc, 2, none⟩ = some (.slice a A.length cap) := (ST0.out.bel.cell (p := ⟨Bc, 2, none⟩) hBl).trans (by rw [cell_of_row _ _ _ _ _ _ HBX.out]; rfl)
  go_wp2_with fail
  go_loopg [69] A.length (fun g i wr => ∃ (q : Nat) (v : Nat → Value), q ≤ A.length ∧ g = A.length - q ∧ i = .int .i64 (q : Int) ∧ CwS w wr n m A.length Bc b (fun _ => false) (iaF A q) (nwF A q) (fun _ => 0) (fun _ => 0) v (cwX n m (A.take q) 0 0))
  case atStart => exact ⟨0, _, Nat.zero_le _, rfl, rfl, ST0.out⟩
  case round =>
    obtain ⟨q, v, hq, rfl, rfl, hst⟩ := hrel
    have ST := hid hst
    clear hst d2 ST0
    by_cases hlt : q < A.length
    · have hqi : (q : Int) < (A.length : Int) := by omega
      have hq0 : (0 : Int) ≤ (q : Int) := by omega
      obtain ⟨bA, off, rfl, hbl, c0', c1', c2', c3'⟩ := acc_at HSL.out hlt hlt
      obtain ⟨c, hc⟩ : ∃ c, A[q] = c := ⟨_, rfl⟩
      have hsm := HM.out c (by rw [← hc]; exact List.getElem_mem _)
      rw [hc] at c0' c1' c2' c3'
      have c0 : wr.cell? ⟨bA, off + q * 4, none⟩ = some (.int .i64 (c.x : Int)) := (ST.out.bel.cell (p := ⟨bA, off + q * 4, none⟩) hbl).trans c0'
      have c1 : wr.cell? ⟨bA, off + q * 4 + 1, none⟩ = some (.int .i64 (c.i : Int)) := (ST.out.bel.cell (p := ⟨bA, off + q * 4 + 1, none⟩) hbl).trans c1'
      have c2 : wr.cell? ⟨bA, off + q * 4 + 2, none⟩ = some (.int .i64 (c.p : Int)) := (ST.out.bel.cell (p := ⟨bA, off + q * 4 + 2, none⟩) hbl).trans c2'
      have c3 : wr.cell? ⟨bA, off + q * 4 + 3, none⟩ = some (.bool c.w) := (ST.out.bel.cell (p := ⟨bA, off + q * 4 + 3, none⟩) hbl).trans c3'
      clear c0' c1' c2' c3'
      have hci : (c.i : Int) < (m : Int) := by omega
      have hci0 : (0 : Int) ≤ (c.i : Int) := by omega
      have hcx : (c.x : Int) < (n : Int) := by omega
      have hcx0 : (0 : Int) ≤ (c.x : Int) := by omega
      go_upto_region 5 with fail
      have CP1 := hid (show CwC w (wr.alloc (.cells #[.int .i64 (c.x : Int), .int .i64 (c.i : Int), .int .i64 (c.p : Int), .bool c.w] 100)) wr.heap.size c from ⟨heap_alloc_new _ _, by have := ST.out.lt; omega⟩)
      have ST1 := hid (show CwS w (wr.alloc (.cells #[.int .i64 (c.x : Int), .int .i64 (c.i : Int), .int .i64 (c.p : Int), .bool c.w] 100)) n m A.length Bc b (fun _ => false) (iaF A q) (nwF A q) (fun _ => 0) (fun _ => 0) v (cwX n m (A.take q) 0 0) from ST.out.g.alloc _)
      obtain ⟨B, hBB⟩ : ∃ B, B = wr.heap.size := ⟨_, rfl⟩
      obtain ⟨W0, hW0⟩ : ∃ W0, W0 = wr.alloc (.cells #[.int .i64 (c.x : Int), .int .i64 (c.i : Int), .int .i64 (c.p : Int), .bool c.w] 100) := ⟨_, rfl⟩
      rw [← hBB, ← hW0] at CP1
      rw [← hW0] at ST1
      rw [← hBB, ← hW0]
      clear hBB hW0 c0 c1 c2 c3 ST
      have hX0 : cwX n m (A.take q) 0 0 c.i = rowAc (A.take q) c.i := cwX_ac hsm.2
      obtain ⟨a1, cap1, hv1, hle1, -, -⟩ := own_form (ST1.out.fam.own c.i (by unfold cwN; omega))
      obtain ⟨l1, hl1⟩ : ∃ l1, (cwX n m (A.take q) 0 0 c.i).length = l1 := ⟨_, rfl⟩
      rw [hl1] at hv1
      refine wp_region_L 15 (S := (fun (W : World) => W.cell? ⟨w.heap.size + 10, 2, none⟩ = some (.slice (some ⟨b 1, 0, none⟩) m m) ∧ W.cell? ⟨w.heap.size + 10, 6, none⟩ = some (.slice (some ⟨b 5, 0, none⟩) A.length A.length) ∧ W.cell? ⟨B, 1, none⟩ = some (.int .i64 (c.i : Int)) ∧ W.cell? ⟨b 1, c.i, none⟩ = some (.slice a1 l1 cap1))) (by kernel_rfl) ?_
      have hHeld : ((fun (W : World) => W.cell? ⟨w.heap.size + 10, 2, none⟩ = some (.slice (some ⟨b 1, 0, none⟩) m m) ∧ W.cell? ⟨w.heap.size + 10, 6, none⟩ = some (.slice (some ⟨b 5, 0, none⟩) A.length A.length) ∧ W.cell? ⟨B, 1, none⟩ = some (.int .i64 (c.i : Int)) ∧ W.cell? ⟨b 1, c.i, none⟩ = some (.slice a1 l1 cap1))) _ := ⟨ST1.out.g.fld 2 _ rfl, ST1.out.g.fld 6 _ rfl, CP1.out.c1, (ST1.out.g.cell (k := 1) (j := c.i) (by omega) hsm.2).trans (congrArg some hv1)⟩
      refine wpAnyL_take (i := 0) (v := .pointer (some ⟨w.heap.size + 10, 0, none⟩)) rfl (by kernel_rfl) (by kernel_rfl) (by kernel_rfl) (by kernel_rfl) (fun _ _ _ h => h) (Or.inl ⟨by rfl, ?_⟩) (by assumption) ?_
      · intro w hSw
        try dsimp only at hSw
        go_simp
      simp only [Act.put, List.setIfInBounds_toArray, List.set_cons_zero, List.set_cons_succ, List.getElem_toArray, List.getElem_cons_zero, List.getElem_cons_succ]
      refine wpAnyL_take (i := 1) (v := .pointer (some ⟨w.heap.size + 10, 0, none⟩)) rfl (by kernel_rfl) (by kernel_rfl) (by kernel_rfl) (by kernel_rfl) (fun _ _ _ h => h) (Or.inl ⟨by rfl, ?_⟩) (by assumption) ?_
      · intro w hSw
        try dsimp only at hSw
        go_simp
      simp only [Act.put, List.setIfInBounds_toArray, List.set_cons_zero, List.set_cons_succ, List.getElem_toArray, List.getElem_cons_zero, List.getElem_cons_succ]
      refine wpAnyL_take (i := 2) (v := .pointer (some ⟨w.heap.size + 10, 6, none⟩)) rfl (by kernel_rfl) (by kernel_rfl) (by kernel_rfl) (by kernel_rfl) (fun _ _ _ h => h) (Or.inl ⟨by rfl, ?_⟩) (by assumption) ?_
      · intro w hSw
        try dsimp only at hSw
        go_simp
      simp only [Act.put, List.setIfInBounds_toArray, List.set_cons_zero, List.set_cons_succ, List.getElem_toArray, List.getElem_cons_zero, List.getElem_cons_succ]
      refine wpAnyL_take (i := 3) (v := .slice (some ⟨b 5, 0, none⟩) A.length A.length) rfl (by kernel_rfl) (by kernel_rfl) (by kernel_rfl) (by kernel_rfl) (fun _ _ _ h => h) (Or.inl ⟨by rfl, ?_⟩) (by assumption) ?_
      · intro w hSw
        try dsimp only at hSw
        go_simp
      simp only [Act.put, List.setIfInBounds_toArray, List.set_cons_zero, List.set_cons_succ, List.getElem_toArray, List.getElem_cons_zero, List.getElem_cons_succ]
      refine wpAnyL_take (i := 4) (v := .int .i64 (q : Int)) rfl (by kernel_rfl) (by kernel_rfl) (by kernel_rfl) (by kernel_rfl) (fun _ _ _ h => h) (Or.inl ⟨by rfl, ?_⟩) (by assumption) ?_
      · intro w hSw
        try dsimp only at hSw
        go_simp
      simp only [Act.put, List.setIfInBounds_toArray, List.set_cons_zero, List.set_cons_succ, List.getElem_toArray, List.getElem_cons_zero, List.getElem_cons_succ]
      refine wpAnyL_take (i := 5) (v := .pointer (some ⟨w.heap.size + 10, 0, none⟩)) rfl (by kernel_rfl) (by kernel_rfl) (by kernel_rfl) (by kernel_rfl) (fun _ _ _ h => h) (Or.inl ⟨by rfl, ?_⟩) (by assumption) ?_
      · intro w hSw
        try dsimp only at hSw
        go_simp
      simp only [Act.put, List.setIfInBounds_toArray, List.set_cons_zero, List.set_cons_succ, List.getElem_toArray, List.getElem_cons_zero, List.getElem_cons_succ]
      refine wpAnyL_take (i := 6) (v := .pointer (some ⟨w.heap.size + 10, 0, none⟩)) rfl (by kernel_rfl) (by kernel_rfl) (by kernel_rfl) (by kernel_rfl) (fun _ _ _ h => h) (Or.inl ⟨by rfl, ?_⟩) (by assumption) ?_
      · intro w hSw
        try dsimp only at hSw
        go_simp
      simp only [Act.put, List.setIfInBounds_toArray, List.set_cons_zero, List.set_cons_succ, List.getElem_toArray, List.getElem_cons_zero, List.getElem_cons_succ]
      refine wpAnyL_take (i := 7) (v := .pointer (some ⟨w.heap.size + 10, 2, none⟩)) rfl (by kernel_rfl) (by kernel_rfl) (by kernel_rfl) (by kernel_rfl) (fun _ _ _ h => h) (Or.inl ⟨by rfl, ?_⟩) (by assumption) ?_
      · intro w hSw
        try dsimp only at hSw
        go_simp
      simp only [Act.put, List.setIfInBounds_toArray, List.set_cons_zero, List.set_cons_succ, List.getElem_toArray, List.getElem_cons_zero, List.getElem_cons_succ]
      refine wpAnyL_take (i := 8) (v := .slice (some ⟨b 1, 0, none⟩) m m) rfl (by kernel_rfl) (by kernel_rfl) (by kernel_rfl) (by kernel_rfl) (fun _ _ _ h => h) (Or.inl ⟨by rfl, ?_⟩) (by assumption) ?_
      · intro w hSw
        try dsimp only at hSw
        go_simp
      simp only [Act.put, List.setIfInBounds_toArray, List.set_cons_zero, List.set_cons_succ, List.getElem_toArray, List.getElem_cons_zero, List.getElem_cons_succ]
      refine wpAnyL_take (i := 9) (v := .pointer (some ⟨B, 1, none⟩)) rfl (by kernel_rfl) (by kernel_rfl) (by kernel_rfl) (by kernel_rfl) (fun _ _ _ h => h) (Or.inl ⟨by rfl, ?_⟩) (by assumption) ?_
      · intro w hSw
        try dsimp only at hSw
        go_simp
      simp only [Act.put, List.setIfInBounds_toArray, List.set_cons_zero, List.set_cons_succ, List.getElem_toArray, List.getElem_cons_zero, List.getElem_cons_succ]
      refine wpAnyL_take (i := 10) (v := .int .i64 (c.i : Int)) rfl (by kernel_rfl) (by kernel_rfl) (by kernel_rfl) (by kernel_rfl) (fun _ _ _ h => h) (Or.inl ⟨by rfl, ?_⟩) (by assumption) ?_
      · intro w hSw
        try dsimp only at hSw
        go_simp
      simp only [Act.put, List.setIfInBounds_toArray, List.set_cons_zero, List.set_cons_succ, List.getElem_toArray, List.getElem_cons_zero, List.getElem_cons_succ]
      refine wpAnyL_take (i := 11) (v := .pointer (some ⟨b 1, c.i, none⟩)) rfl (by kernel_rfl) (by kernel_rfl) (by kernel_rfl) (by kernel_rfl) (fun _ _ _ h => h) (Or.inl ⟨by rfl, ?_⟩) (by assumption) ?_
      · intro w hSw
        try dsimp only at hSw
        go_simp
      simp only [Act.put, List.setIfInBounds_toArray, List.set_cons_zero, List.set_cons_succ, List.getElem_toArray, List.getElem_cons_zero, List.getElem_cons_succ]
      refine wpAnyL_take (i := 12) (v := .slice a1 l1 cap1) rfl (by kernel_rfl) (by kernel_rfl) (by kernel_rfl) (by kernel_rfl) (fun _ _ _ h => h) (Or.inl ⟨by rfl, ?_⟩) (by assumption) ?_
      · intro w hSw
        try dsimp only at hSw
        go_simp
      simp only [Act.put, List.setIfInBounds_toArray, List.set_cons_zero, List.set_cons_succ, List.getElem_toArray, List.getElem_cons_zero, List.getElem_cons_succ]
      refine wpAnyL_take (i := 13) (v := .int .i64 (l1 : Int)) rfl (by kernel_rfl) (by kernel_rfl) (by kernel_rfl) (by kernel_rfl) (fun _ _ _ h => h) (Or.inl ⟨by rfl, ?_⟩) (by assumption) ?_
      · intro w hSw
        try dsimp only at hSw
        go_simp
      simp only [Act.put, List.setIfInBounds_toArray, List.set_cons_zero, List.set_cons_succ, List.getElem_toArray, List.getElem_cons_zero, List.getElem_cons_succ]
      refine wpAnyL_take (i := 14) (v := .pointer (some ⟨b 5, q, none⟩)) rfl (by kernel_rfl) (by kernel_rfl) (by kernel_rfl) (by kernel_rfl) (fun _ _ _ h => h) (Or.inl ⟨by rfl, ?_⟩) (by assumption) ?_
      · intro w hSw
        try dsimp only at hSw
        go_simp
      simp only [Act.put, List.setIfInBounds_toArray, List.set_cons_zero, List.set_cons_succ, List.getElem_toArray, List.getElem_cons_zero, List.getElem_cons_succ]
      refine wpAnyL_one (i := 15) (by kernel_rfl) rfl (fun K hK => ?_)
      have f0 : W0.frozen? ⟨b 5, q, none⟩ = false := ST1.out.g.free (by omega) q
      have f1 := ST1.out.g.cell (k := 5) (j := q) (by omega) hlt
      go_simp
      refine hK.out _ _ (fun h => absurd rfl h) ?_
      clear hK K
      try simp only [Act.put, List.setIfInBounds_toArray, List.set_cons_zero, List.set_cons_succ, List.getElem_toArray, List.getElem_cons_zero, List.getElem_cons_succ]
      refine wpAnyL_done (by kernel_rfl) ?_ _
      have ST2 := hid (show CwS w (W0.setCell ⟨b 5, q, none⟩ (.int .i64 (l1 : Int))).drew n m A.length Bc b (fun _ => false) (updL (iaF A q) q l1) (nwF A q) (fun _ => 0) (fun _ => 0) v (cwX n m (A.take q) 0 0) from (ST1.out.setIa hlt l1).g.drew)
      have CP2 := hid (show CwC w (W0.setCell ⟨b 5, q, none⟩ (.int .i64 (l1 : Int))).drew B c from (CP1.out.setCell (g := b 5) (by have := (ST1.out.rng 5 (by omega)).2; omega) q (.int .i64 (l1 : Int))).drew)
      obtain ⟨W1, hW1⟩ : ∃ W1, W1 = (W0.setCell ⟨b 5, q, none⟩ (.int .i64 (l1 : Int))).drew := ⟨_, rfl⟩
      rw [← hW1] at ST2 CP2
      rw [← hW1]
      clear hW1 ST1 CP1
      have HIA := hid (show updL (iaF A q) q l1 = iaF A (q + 1) from by rw [← hl1, hX0, ← hc]; exact iaF_step hlt)
      rw [HIA.out] at ST2
      have HLX : (cwX n m (A.take q) 0 0 c.i).length ≤ 100000 := by rw [hX0]; have := rowAc_len (A.take q) c.i; rw [List.length_take] at this; omega
      have HX0 := hid hX0
      clear hv1 hle1 hX0 hl1
      go_upto_region 6 with fail
      refine wp_region_L 19 (S := (fun (W : World) => W.cell? ⟨w.heap.size + 10, 2, none⟩ = some (.slice (some ⟨b 1, 0, none⟩) m m) ∧ W.cell? ⟨B, 1, none⟩ = some (.int .i64 (c.i : Int)) ∧ W.cell? ⟨B, 0, none⟩ = some (.int .i64 (c.x : Int)) ∧ W.cell? ⟨b 1, c.i, none⟩ = some (v (c.i)))) (by kernel_rfl) ?_
      have hHeld : ((fun (W : World) => W.cell? ⟨w.heap.size + 10, 2, none⟩ = some (.slice (some ⟨b 1, 0, none⟩) m m) ∧ W.cell? ⟨B, 1, none⟩ = some (.int .i64 (c.i : Int)) ∧ W.cell? ⟨B, 0, none⟩ = some (.int .i64 (c.x : Int)) ∧ W.cell? ⟨b 1, c.i, none⟩ = some (v (c.i)))) _ := ⟨ST2.out.g.drew.fld 2 _ rfl, CP2.out.drew.c1, CP2.out.drew.c0, ST2.out.g.drew.cell (k := 1) (j := c.i) (by omega) hsm.2⟩
      refine wpAnyL_take (i := 0) (v := .pointer (some ⟨w.heap.size + 10, 0, none⟩)) rfl (by kernel_rfl) (by kernel_rfl) (by kernel_rfl) (by kernel_rfl) (fun _ _ _ h => h) (Or.inl ⟨by rfl, ?_⟩) (by assumption) ?_
      · intro w hSw
        try dsimp only at hSw
        go_simp
      simp only [Act.put, List.setIfInBounds_toArray, List.set_cons_zero, List.set_cons_succ, List.getElem_toArray, List.getElem_cons_zero, List.getElem_cons_succ]
      refine wpAnyL_take (i := 1) (v := .pointer (some ⟨w.heap.size + 10, 0, none⟩)) rfl (by kernel_rfl) (by kernel_rfl) (by kernel_rfl) (by kernel_rfl) (fun _ _ _ h => h) (Or.inl ⟨by rfl, ?_⟩) (by assumption) ?_
      · intro w hSw
        try dsimp only at hSw
        go_simp
      simp only [Act.put, List.setIfInBounds_toArray, List.set_cons_zero, List.set_cons_succ, List.getElem_toArray, List.getElem_cons_zero, List.getElem_cons_succ]
      refine wpAnyL_take (i := 2) (v := .pointer (some ⟨w.heap.size + 10, 2, none⟩)) rfl (by kernel_rfl) (by kernel_rfl) (by kernel_rfl) (by kernel_rfl) (fun _ _ _ h => h) (Or.inl ⟨by rfl, ?_⟩) (by assumption) ?_
      · intro w hSw
        try dsimp only at hSw
        go_simp
      simp only [Act.put, List.setIfInBounds_toArray, List.set_cons_zero, List.set_cons_succ, List.getElem_toArray, List.getElem_cons_zero, List.getElem_cons_succ]
      refine wpAnyL_take (i := 3) (v := .slice (some ⟨b 1, 0, none⟩) m m) rfl (by kernel_rfl) (by kernel_rfl) (by kernel_rfl) (by kernel_rfl) (fun _ _ _ h => h) (Or.inl ⟨by rfl, ?_⟩) (by assumption) ?_
      · intro w hSw
        try dsimp only at hSw
        go_simp
      simp only [Act.put, List.setIfInBounds_toArray, List.set_cons_zero, List.set_cons_succ, List.getElem_toArray, List.getElem_cons_zero, List.getElem_cons_succ]
      refine wpAnyL_take (i := 4) (v := .pointer (some ⟨B, 1, none⟩)) rfl (by kernel_rfl) (by kernel_rfl) (by kernel_rfl) (by kernel_rfl) (fun _ _ _ h => h) (Or.inl ⟨by rfl, ?_⟩) (by assumption) ?_
      · intro w hSw
        try dsimp only at hSw
        go_simp
      simp only [Act.put, List.setIfInBounds_toArray, List.set_cons_zero, List.set_cons_succ, List.getElem_toArray, List.getElem_cons_zero, List.getElem_cons_succ]
      refine wpAnyL_take (i := 5) (v := .int .i64 (c.i : Int)) rfl (by kernel_rfl) (by kernel_rfl) (by kernel_rfl) (by kernel_rfl) (fun _ _ _ h => h) (Or.inl ⟨by rfl, ?_⟩) (by assumption) ?_
      · intro w hSw
        try dsimp only at hSw
        go_simp
      simp only [Act.put, List.setIfInBounds_toArray, List.set_cons_zero, List.set_cons_succ, List.getElem_toArray, List.getElem_cons_zero, List.getElem_cons_succ]
      refine wpAnyL_take (i := 6) (v := .pointer (some ⟨w.heap.size + 10, 0, none⟩)) rfl (by kernel_rfl) (by kernel_rfl) (by kernel_rfl) (by kernel_rfl) (fun _ _ _ h => h) (Or.inl ⟨by rfl, ?_⟩) (by assumption) ?_
      · intro w hSw
        try dsimp only at hSw
        go_simp
      simp only [Act.put, List.setIfInBounds_toArray, List.set_cons_zero, List.set_cons_succ, List.getElem_toArray, List.getElem_cons_zero, List.getElem_cons_succ]
      refine wpAnyL_take (i := 7) (v := .pointer (some ⟨w.heap.size + 10, 0, none⟩)) rfl (by kernel_rfl) (by kernel_rfl) (by kernel_rfl) (by kernel_rfl) (fun _ _ _ h => h) (Or.inl ⟨by rfl, ?_⟩) (by assumption) ?_
      · intro w hSw
        try dsimp only at hSw
        go_simp
      simp only [Act.put, List.setIfInBounds_toArray, List.set_cons_zero, List.set_cons_succ, List.getElem_toArray, List.getElem_cons_zero, List.getElem_cons_succ]
      refine wpAnyL_take (i := 8) (v := .pointer (some ⟨w.heap.size + 10, 2, none⟩)) rfl (by kernel_rfl) (by kernel_rfl) (by kernel_rfl) (by kernel_rfl) (fun _ _ _ h => h) (Or.inl ⟨by rfl, ?_⟩) (by assumption) ?_
      · intro w hSw
        try dsimp only at hSw
        go_simp
      simp only [Act.put, List.setIfInBounds_toArray, List.set_cons_zero, List.set_cons_succ, List.getElem_toArray, List.getElem_cons_zero, List.getElem_cons_succ]
      refine wpAnyL_take (i := 9) (v := .slice (some ⟨b 1, 0, none⟩) m m) rfl (by kernel_rfl) (by kernel_rfl) (by kernel_rfl) (by kernel_rfl) (fun _ _ _ h => h) (Or.inl ⟨by rfl, ?_⟩) (by assumption) ?_
      · intro w hSw
        try dsimp only at hSw
        go_simp
      simp only [Act.put, List.setIfInBounds_toArray, List.set_cons_zero, List.set_cons_succ, List.getElem_toArray, List.getElem_cons_zero, List.getElem_cons_succ]
      refine wpAnyL_take (i := 10) (v := .pointer (some ⟨B, 1, none⟩)) rfl (by kernel_rfl) (by kernel_rfl) (by kernel_rfl) (by kernel_rfl) (fun _ _ _ h => h) (Or.inl ⟨by rfl, ?_⟩) (by assumption) ?_
      · intro w hSw
        try dsimp only at hSw
        go_simp
      simp only [Act.put, List.setIfInBounds_toArray, List.set_cons_zero, List.set_cons_succ, List.getElem_toArray, List.getElem_cons_zero, List.getElem_cons_succ]
      refine wpAnyL_take (i := 11) (v := .int .i64 (c.i : Int)) rfl (by kernel_rfl) (by kernel_rfl) (by kernel_rfl) (by kernel_rfl) (fun _ _ _ h => h) (Or.inl ⟨by rfl, ?_⟩) (by assumption) ?_
      · intro w hSw
        try dsimp only at hSw
        go_simp
      simp only [Act.put, List.setIfInBounds_toArray, List.set_cons_zero, List.set_cons_succ, List.getElem_toArray, List.getElem_cons_zero, List.getElem_cons_succ]
      refine wpAnyL_take (i := 12) (v := .pointer (some ⟨b 1, c.i, none⟩)) rfl (by kernel_rfl) (by kernel_rfl) (by kernel_rfl) (by kernel_rfl) (fun _ _ _ h => h) (Or.inl ⟨by rfl, ?_⟩) (by assumption) ?_
      · intro w hSw
        try dsimp only at hSw
        go_simp
      simp only [Act.put, List.setIfInBounds_toArray, List.set_cons_zero, List.set_cons_succ, List.getElem_toArray, List.getElem_cons_zero, List.getElem_cons_succ]
      refine wpAnyL_take (i := 13) (v := v (c.i)) rfl (by kernel_rfl) (by kernel_rfl) (by kernel_rfl) (by kernel_rfl) (fun _ _ _ h => h) (Or.inl ⟨by rfl, ?_⟩) (by assumption) ?_
      · intro w hSw
        try dsimp only at hSw
        go_simp
      simp only [Act.put, List.setIfInBounds_toArray, List.set_cons_zero, List.set_cons_succ, List.getElem_toArray, List.getElem_cons_zero, List.getElem_cons_succ]
      refine wpAnyL_take (i := 14) (v := .pointer (some ⟨B, 0, none⟩)) rfl (by kernel_rfl) (by kernel_rfl) (by kernel_rfl) (by kernel_rfl) (fun _ _ _ h => h) (Or.inl ⟨by rfl, ?_⟩) (by assumption) ?_
      · intro w hSw
        try dsimp only at hSw
        go_simp
      simp only [Act.put, List.setIfInBounds_toArray, List.set_cons_zero, List.set_cons_succ, List.getElem_toArray, List.getElem_cons_zero, List.getElem_cons_succ]
      refine wpAnyL_take (i := 15) (v := .int .i64 (c.x : Int)) rfl (by kernel_rfl) (by kernel_rfl) (by kernel_rfl) (by kernel_rfl) (fun _ _ _ h => h) (Or.inl ⟨by rfl, ?_⟩) (by assumption) ?_
      · intro w hSw
        try dsimp only at hSw
        go_simp
      simp only [Act.put, List.setIfInBounds_toArray, List.set_cons_zero, List.set_cons_succ, List.getElem_toArray, List.getElem_cons_zero, List.getElem_cons_succ]
      refine wpAnyL_one (i := 16) (by kernel_rfl) rfl (fun K hK => ?_)
      go_simp
      refine hK.out _ _ (fun _ => ⟨(ST2.out.g.alloc _).drew.fld 2 _ rfl, (CP2.out.alloc _).drew.c1, (CP2.out.alloc _).drew.c0, (ST2.out.g.alloc _).drew.cell (k := 1) (j := c.i) (by omega) hsm.2⟩) ?_
      clear hK K
      try simp only [Act.put, List.setIfInBounds_toArray, List.set_cons_zero, List.set_cons_succ, List.getElem_toArray, List.getElem_cons_zero, List.getElem_cons_succ]
      refine wpAnyL_one (i := 17) (by kernel_rfl) rfl (fun K hK => ?_)
      refine apD (by rfl) _ _ (by rfl) (w.heap.size + 11) (v (c.i)) (cwX n m (A.take q) 0 0 (c.i)) (c.x : Int) W1.heap.size (W1.heap.size + 1) (by rfl) (by rfl) ((ST2.out.g.alloc _).drew.fam.own (c.i) (by unfold cwN; omega)) (heap_alloc_new W1 _) HLX (by simp [World.size_alloc]; have := ST2.out.lt; omega) (by simp [World.size_alloc]) ?_
      intro g1 cap2 w1 hown1 hgrow hat hlt1
      have TT := hid ((ST2.out.g.alloc (.cells #[.int .i64 (c.x : Int)] 3)).drew.turn (r := c.i) (by unfold cwN; omega) (l := cwX n m (A.take q) 0 0 (c.i) ++ [c.x]) (by rw [List.length_append, rowI_snoc]; exact hown1) hgrow (fun g e => by simp only [Value.ownBlock, Option.some.injEq] at e; subst e; rcases hat with h | h; exact .inl h; exact .inr (by simp [World.size_alloc]; omega)))
      have CPP := hid ((CP2.out.alloc (.cells #[.int .i64 (c.x : Int)] 3)).drew.grown hgrow ((CP2.out.alloc (.cells #[.int .i64 (c.x : Int)] 3)).drew.apart ((ST2.out.g.alloc (.cells #[.int .i64 (c.x : Int)] 3)).drew.fam.own (c.i) (by unfold cwN; omega))))
      clear hown1 hgrow hat
      have hHeld : ((fun (W : World) => W.cell? ⟨w.heap.size + 10, 2, none⟩ = some (.slice (some ⟨b 1, 0, none⟩) m m) ∧ W.cell? ⟨B, 1, none⟩ = some (.int .i64 (c.i : Int)) ∧ W.cell? ⟨B, 0, none⟩ = some (.int .i64 (c.x : Int)) ∧ W.cell? ⟨b 1, c.i, none⟩ = some (v (c.i)))) w1 := ⟨TT.out.fld 2 _ rfl, CPP.out.c1, CPP.out.c0, TT.out.cell (k := 1) (j := c.i) (by omega) hsm.2⟩
      refine hK.out _ _ (fun _ => hHeld) ?_
      clear hK K
      try simp only [Act.put, List.setIfInBounds_toArray, List.set_cons_zero, List.set_cons_succ, List.getElem_toArray, List.getElem_cons_zero, List.getElem_cons_succ]
      refine wpAnyL_take (i := 18) (v := .pointer (some ⟨b 1, c.i, none⟩)) rfl (by kernel_rfl) (by kernel_rfl) (by kernel_rfl) (by kernel_rfl) (fun _ _ _ h => h) (Or.inl ⟨by rfl, ?_⟩) (by assumption) ?_
      · intro w hSw
        try dsimp only at hSw
        go_simp
      simp only [Act.put, List.setIfInBounds_toArray, List.set_cons_zero, List.set_cons_succ, List.getElem_toArray, List.getElem_cons_zero, List.getElem_cons_succ]
      refine wpAnyL_one (i := 19) (by kernel_rfl) rfl (fun K hK => ?_)
      have f0 : w1.frozen? ⟨b 1, c.i, none⟩ = false := TT.out.free (by omega) _
      have f1 : w1.cell? ⟨b 1, c.i, none⟩ = some (v (c.i)) := TT.out.cell (k := 1) (j := c.i) (by omega) hsm.2
      go_simp
      refine hK.out _ _ (fun h => absurd rfl h) ?_
      clear hK K
      try simp only [Act.put, List.setIfInBounds_toArray, List.set_cons_zero, List.set_cons_succ, List.getElem_toArray, List.getElem_cons_zero, List.getElem_cons_succ]
      refine wpAnyL_done (by kernel_rfl) ?_ _
      have ST3 := hid (TT.out.setRow (k0 := 1) (j := c.i) (.inl ⟨rfl, hsm.2, rfl⟩) rfl)
      have CPST3 := hid (CPP.out.setCell (g := b 1) (by have := (TT.out.rng 1 (by omega)).2; omega) (c.i) (.slice (some ⟨g1, 0, none⟩) ((cwX n m (A.take q) 0 0 (c.i)).length + 1) cap2))
      clear TT CPP
      obtain ⟨v3, h3⟩ : ∃ v3, CwS w (w1.setCell ⟨b 1, c.i, none⟩ (.slice (some ⟨g1, 0, none⟩) ((cwX n m (A.take q) 0 0 c.i).length + 1) cap2)) n m A.length Bc b (fun _ => false) (iaF A (q + 1)) (nwF A q) (fun _ => 0) (fun _ => 0) v3 (updL (cwX n m (A.take q) 0 0) c.i (cwX n m (A.take q) 0 0 c.i ++ [c.x])) := ⟨_, ST3.out⟩
      have ST4 := hid h3
      obtain ⟨W3, hW3⟩ : ∃ W3, W3 = w1.setCell ⟨b 1, c.i, none⟩ (.slice (some ⟨g1, 0, none⟩) ((cwX n m (A.take q) 0 0 c.i).length + 1) cap2) := ⟨_, rfl⟩
      obtain ⟨X1, hX1⟩ : ∃ X1, X1 = updL (cwX n m (A.take q) 0 0) c.i (cwX n m (A.take q) 0 0 c.i ++ [c.x]) := ⟨_, rfl⟩
      rw [← hW3, ← hX1] at ST4
      rw [← hW3] at CPST3
      rw [← hW3]
      have HX1 := hid hX1
      clear h3 hW3 ST3 hX1 ST2 CP2 hHeld f0 f1 HLX
      have hX1l : (X1 (m + c.i)).length ≤ 100000 := by rw [HX1.out, updL_other _ (by omega), cwX_wr hsm.2]; have := rowWr_len (A.take q) c.i; rw [List.length_take] at this; omega
      have r3 := CPST3.out.c3
      go_upto_if 109 with fail
      go_cut [] (fun wc => ∃ v4, CwS w wc n m A.length Bc b (fun _ => false) (iaF A (q + 1)) (nwF A q) (fun _ => 0) (fun _ => 0) v4 (if c.w = true then updL X1 (m + c.i) (X1 (m + c.i) ++ [c.x]) else X1) ∧ CwC w wc B c)
      case first =>
        cases hcw : c.w with
        | false =>
          rw [hcw] at r3
          go_wp2_with fail
          go_meet
          exact ⟨v3, by rw [if_neg (by rw [hcw]; simp)]; exact ST4.out, CPST3.out⟩
        | true =>
          rw [hcw] at r3
          have HLX := hX1l
          go_upto_region 8 with fail
          refine wp_region_L 19 (S := (fun (W : World) => W.cell? ⟨w.heap.size + 10, 3, none⟩ = some (.slice (some ⟨b 2, 0, none⟩) m m) ∧ W.cell? ⟨B, 1, none⟩ = some (.int .i64 (c.i : Int)) ∧ W.cell? ⟨B, 0, none⟩ = some (.int .i64 (c.x : Int)) ∧ W.cell? ⟨b 2, c.i, none⟩ = some (v3 (m + c.i)))) (by kernel_rfl) ?_
          have hHeld : ((fun (W : World) => W.cell? ⟨w.heap.size + 10, 3, none⟩ = some (.slice (some ⟨b 2, 0, none⟩) m m) ∧ W.cell? ⟨B, 1, none⟩ = some (.int .i64 (c.i : Int)) ∧ W.cell? ⟨B, 0, none⟩ = some (.int .i64 (c.x : Int)) ∧ W.cell? ⟨b 2, c.i, none⟩ = some (v3 (m + c.i)))) _ := ⟨ST4.out.g.drew.fld 3 _ rfl, CPST3.out.drew.c1, CPST3.out.drew.c0, ST4.out.g.drew.cell (k := 2) (j := c.i) (by omega) hsm.2⟩
          refine wpAnyL_take (i := 0) (v := .pointer (some ⟨w.heap.size + 10, 0, none⟩)) rfl (by kernel_rfl) (by kernel_rfl) (by kernel_rfl) (by kernel_rfl) (fun _ _ _ h => h) (Or.inl ⟨by rfl, ?_⟩) (by assumption) ?_
          · intro w hSw
            try dsimp only at hSw
            go_simp
          simp only [Act.put, List.setIfInBounds_toArray, List.set_cons_zero, List.set_cons_succ, List.getElem_toArray, List.getElem_cons_zero, List.getElem_cons_succ]
          refine wpAnyL_take (i := 1) (v := .pointer (some ⟨w.heap.size + 10, 0, none⟩)) rfl (by kernel_rfl) (by kernel_rfl) (by kernel_rfl) (by kernel_rfl) (fun _ _ _ h => h) (Or.inl ⟨by rfl, ?_⟩) (by assumption) ?_
          · intro w hSw
            try dsimp only at hSw
            go_simp
          simp only [Act.put, List.setIfInBounds_toArray, List.set_cons_zero, List.set_cons_succ, List.getElem_toArray, List.getElem_cons_zero, List.getElem_cons_succ]
          refine wpAnyL_take (i := 2) (v := .pointer (some ⟨w.heap.size + 10, 3, none⟩)) rfl (by kernel_rfl) (by kernel_rfl) (by kernel_rfl) (by kernel_rfl) (fun _ _ _ h => h) (Or.inl ⟨by rfl, ?_⟩) (by assumption) ?_
          · intro w hSw
            try dsimp only at hSw
            go_simp
          simp only [Act.put, List.setIfInBounds_toArray, List.set_cons_zero, List.set_cons_succ, List.getElem_toArray, List.getElem_cons_zero, List.getElem_cons_succ]
          refine wpAnyL_take (i := 3) (v := .slice (some ⟨b 2, 0, none⟩) m m) rfl (by kernel_rfl) (by kernel_rfl) (by kernel_rfl) (by kernel_rfl) (fun _ _ _ h => h) (Or.inl ⟨by rfl, ?_⟩) (by assumption) ?_
          · intro w hSw
            try dsimp only at hSw
            go_simp
          simp only [Act.put, List.setIfInBounds_toArray, List.set_cons_zero, List.set_cons_succ, List.getElem_toArray, List.getElem_cons_zero, List.getElem_cons_succ]
          refine wpAnyL_take (i := 4) (v := .pointer (some ⟨B, 1, none⟩)) rfl (by kernel_rfl) (by kernel_rfl) (by kernel_rfl) (by kernel_rfl) (fun _ _ _ h => h) (Or.inl ⟨by rfl, ?_⟩) (by assumption) ?_
          · intro w hSw
            try dsimp only at hSw
            go_simp
          simp only [Act.put, List.setIfInBounds_toArray, List.set_cons_zero, List.set_cons_succ, List.getElem_toArray, List.getElem_cons_zero, List.getElem_cons_succ]
          refine wpAnyL_take (i := 5) (v := .int .i64 (c.i : Int)) rfl (by kernel_rfl) (by kernel_rfl) (by kernel_rfl) (by kernel_rfl) (fun _ _ _ h => h) (Or.inl ⟨by rfl, ?_⟩) (by assumption) ?_
          · intro w hSw
            try dsimp only at hSw
            go_simp
          simp only [Act.put, List.setIfInBounds_toArray, List.set_cons_zero, List.set_cons_succ, List.getElem_toArray, List.getElem_cons_zero, List.getElem_cons_succ]
          refine wpAnyL_take (i := 6) (v := .pointer (some ⟨w.heap.size + 10, 0, none⟩)) rfl (by kernel_rfl) (by kernel_rfl) (by kernel_rfl) (by kernel_rfl) (fun _ _ _ h => h) (Or.inl ⟨by rfl, ?_⟩) (by assumption) ?_
          · intro w hSw
            try dsimp only at hSw
            go_simp
          simp only [Act.put, List.setIfInBounds_toArray, List.set_cons_zero, List.set_cons_succ, List.getElem_toArray, List.getElem_cons_zero, List.getElem_cons_succ]
          refine wpAnyL_take (i := 7) (v := .pointer (some ⟨w.heap.size + 10, 0, none⟩)) rfl (by kernel_rfl) (by kernel_rfl) (by kernel_rfl) (by kernel_rfl) (fun _ _ _ h => h) (Or.inl ⟨by rfl, ?_⟩) (by assumption) ?_
          · intro w hSw
            try dsimp only at hSw
            go_simp
          simp only [Act.put, List.setIfInBounds_toArray, List.set_cons_zero, List.set_cons_succ, List.getElem_toArray, List.getElem_cons_zero, List.getElem_cons_succ]
          refine wpAnyL_take (i := 8) (v := .pointer (some ⟨w.heap.size + 10, 3, none⟩)) rfl (by kernel_rfl) (by kernel_rfl) (by kernel_rfl) (by kernel_rfl) (fun _ _ _ h => h) (Or.inl ⟨by rfl, ?_⟩) (by assumption) ?_
          · intro w hSw
            try dsimp only at hSw
            go_simp
          simp only [Act.put, List.setIfInBounds_toArray, List.set_cons_zero, List.set_cons_succ, List.getElem_toArray, List.getElem_cons_zero, List.getElem_cons_succ]
          refine wpAnyL_take (i := 9) (v := .slice (some ⟨b 2, 0, none⟩) m m) rfl (by kernel_rfl) (by kernel_rfl) (by kernel_rfl) (by kernel_rfl) (fun _ _ _ h => h) (Or.inl ⟨by rfl, ?_⟩) (by assumption) ?_
          · intro w hSw
            try dsimp only at hSw
            go_simp
          simp only [Act.put, List.setIfInBounds_toArray, List.set_cons_zero, List.set_cons_succ, List.getElem_toArray, List.getElem_cons_zero, List.getElem_cons_succ]
          refine wpAnyL_take (i := 10) (v := .pointer (some ⟨B, 1, none⟩)) rfl (by kernel_rfl) (by kernel_rfl) (by kernel_rfl) (by kernel_rfl) (fun _ _ _ h => h) (Or.inl ⟨by rfl, ?_⟩) (by assumption) ?_
          · intro w hSw
            try dsimp only at hSw
            go_simp
          simp only [Act.put, List.setIfInBounds_toArray, List.set_cons_zero, List.set_cons_succ, List.getElem_toArray, List.getElem_cons_zero, List.getElem_cons_succ]
          refine wpAnyL_take (i := 11) (v := .int .i64 (c.i : Int)) rfl (by kernel_rfl) (by kernel_rfl) (by kernel_rfl) (by kernel_rfl) (fun _ _ _ h => h) (Or.inl ⟨by rfl, ?_⟩) (by assumption) ?_
          · intro w hSw
            try dsimp only at hSw
            go_simp
          simp only [Act.put, List.setIfInBounds_toArray, List.set_cons_zero, List.set_cons_succ, List.getElem_toArray, List.getElem_cons_zero, List.getElem_cons_succ]
          refine wpAnyL_take (i := 12) (v := .pointer (some ⟨b 2, c.i, none⟩)) rfl (by kernel_rfl) (by kernel_rfl) (by kernel_rfl) (by kernel_rfl) (fun _ _ _ h => h) (Or.inl ⟨by rfl, ?_⟩) (by assumption) ?_
          · intro w hSw
            try dsimp only at hSw
            go_simp
          simp only [Act.put, List.setIfInBounds_toArray, List.set_cons_zero, List.set_cons_succ, List.getElem_toArray, List.getElem_cons_zero, List.getElem_cons_succ]
          refine wpAnyL_take (i := 13) (v := v3 (m + c.i)) rfl (by kernel_rfl) (by kernel_rfl) (by kernel_rfl) (by kernel_rfl) (fun _ _ _ h => h) (Or.inl ⟨by rfl, ?_⟩) (by assumption) ?_
          · intro w hSw
            try dsimp only at hSw
            go_simp
          simp only [Act.put, List.setIfInBounds_toArray, List.set_cons_zero, List.set_cons_succ, List.getElem_toArray, List.getElem_cons_zero, List.getElem_cons_succ]
          refine wpAnyL_take (i := 14) (v := .pointer (some ⟨B, 0, none⟩)) rfl (by kernel_rfl) (by kernel_rfl) (by kernel_rfl) (by kernel_rfl) (fun _ _ _ h => h) (Or.inl ⟨by rfl, ?_⟩) (by assumption) ?_
          · intro w hSw
            try dsimp only at hSw
            go_simp
          simp only [Act.put, List.setIfInBounds_toArray, List.set_cons_zero, List.set_cons_succ, List.getElem_toArray, List.getElem_cons_zero, List.getElem_cons_succ]
          refine wpAnyL_take (i := 15) (v := .int .i64 (c.x : Int)) rfl (by kernel_rfl) (by kernel_rfl) (by kernel_rfl) (by kernel_rfl) (fun _ _ _ h => h) (Or.inl ⟨by rfl, ?_⟩) (by assumption) ?_
          · intro w hSw
            try dsimp only at hSw
            go_simp
          simp only [Act.put, List.setIfInBounds_toArray, List.set_cons_zero, List.set_cons_succ, List.getElem_toArray, List.getElem_cons_zero, List.getElem_cons_succ]
          refine wpAnyL_one (i := 16) (by kernel_rfl) rfl (fun K hK => ?_)
          go_simp
          refine hK.out _ _ (fun _ => ⟨(ST4.out.g.alloc _).drew.fld 3 _ rfl, (CPST3.out.alloc _).drew.c1, (CPST3.out.alloc _).drew.c0, (ST4.out.g.alloc _).drew.cell (k := 2) (j := c.i) (by omega) hsm.2⟩) ?_
          clear hK K
          try simp only [Act.put, List.setIfInBounds_toArray, List.set_cons_zero, List.set_cons_succ, List.getElem_toArray, List.getElem_cons_zero, List.getElem_cons_succ]
          refine wpAnyL_one (i := 17) (by kernel_rfl) rfl (fun K hK => ?_)
          refine apD (by rfl) _ _ (by rfl) (w.heap.size + 11) (v3 (m + c.i)) (X1 (m + c.i)) (c.x : Int) W3.heap.size (W3.heap.size + 1) (by rfl) (by rfl) ((ST4.out.g.alloc _).drew.fam.own (m + c.i) (by unfold cwN; omega)) (heap_alloc_new W3 _) HLX (by simp [World.size_alloc]; have := ST4.out.lt; omega) (by simp [World.size_alloc]) ?_
          intro g1 cap2 w1 hown1 hgrow hat hlt1
          have TT := hid ((ST4.out.g.alloc (.cells #[.int .i64 (c.x : Int)] 3)).drew.turn (r := m + c.i) (by unfold cwN; omega) (l := X1 (m + c.i) ++ [c.x]) (by rw [List.length_append, rowI_snoc]; exact hown1) hgrow (fun g e => by simp only [Value.ownBlock, Option.some.injEq] at e; subst e; rcases hat with h | h; exact .inl h; exact .inr (by simp [World.size_alloc]; omega)))
          have CPP := hid ((CPST3.out.alloc (.cells #[.int .i64 (c.x : Int)] 3)).drew.grown hgrow ((CPST3.out.alloc (.cells #[.int .i64 (c.x : Int)] 3)).drew.apart ((ST4.out.g.alloc (.cells #[.int .i64 (c.x : Int)] 3)).drew.fam.own (m + c.i) (by unfold cwN; omega))))
          clear hown1 hgrow hat
          have hHeld : ((fun (W : World) => W.cell? ⟨w.heap.size + 10, 3, none⟩ = some (.slice (some ⟨b 2, 0, none⟩) m m) ∧ W.cell? ⟨B, 1, none⟩ = some (.int .i64 (c.i : Int)) ∧ W.cell? ⟨B, 0, none⟩ = some (.int .i64 (c.x : Int)) ∧ W.cell? ⟨b 2, c.i, none⟩ = some (v3 (m + c.i)))) w1 := ⟨TT.out.fld 3 _ rfl, CPP.out.c1, CPP.out.c0, TT.out.cell (k := 2) (j := c.i) (by omega) hsm.2⟩
          refine hK.out _ _ (fun _ => hHeld) ?_
          clear hK K
          try simp only [Act.put, List.setIfInBounds_toArray, List.set_cons_zero, List.set_cons_succ, List.getElem_toArray, List.getElem_cons_zero, List.getElem_cons_succ]
          refine wpAnyL_take (i := 18) (v := .pointer (some ⟨b 2, c.i, none⟩)) rfl (by kernel_rfl) (by kernel_rfl) (by kernel_rfl) (by kernel_rfl) (fun _ _ _ h => h) (Or.inl ⟨by rfl, ?_⟩) (by assumption) ?_
          · intro w hSw
            try dsimp only at hSw
            go_simp
          simp only [Act.put, List.setIfInBounds_toArray, List.set_cons_zero, List.set_cons_succ, List.getElem_toArray, List.getElem_cons_zero, List.getElem_cons_succ]
          refine wpAnyL_one (i := 19) (by kernel_rfl) rfl (fun K hK => ?_)
          have f0 : w1.frozen? ⟨b 2, c.i, none⟩ = false := TT.out.free (by omega) _
          have f1 : w1.cell? ⟨b 2, c.i, none⟩ = some (v3 (m + c.i)) := TT.out.cell (k := 2) (j := c.i) (by omega) hsm.2
          go_simp
          refine hK.out _ _ (fun h => absurd rfl h) ?_
          clear hK K
          try simp only [Act.put, List.setIfInBounds_toArray, List.set_cons_zero, List.set_cons_succ, List.getElem_toArray, List.getElem_cons_zero, List.getElem_cons_succ]
          refine wpAnyL_done (by kernel_rfl) ?_ _
          have ST5 := hid (TT.out.setRow (k0 := 2) (j := c.i) (.inr (.inl ⟨rfl, hsm.2, rfl⟩)) rfl)
          have CPST5 := hid (CPP.out.setCell (g := b 2) (by have := (TT.out.rng 2 (by omega)).2; omega) (c.i) (.slice (some ⟨g1, 0, none⟩) ((X1 (m + c.i)).length + 1) cap2))
          clear TT CPP
          go_wp2_with fail
          go_meet
          exact ⟨_, by rw [if_pos hcw]; exact ST5.out, CPST5.out⟩
      case rest =>
        obtain ⟨v4, h4, hcp4⟩ := hcut
        have ST6 := hid h4
        have CP6 := hid hcp4
        obtain ⟨X2, hX2⟩ : ∃ X2, X2 = if c.w = true then updL X1 (m + c.i) (X1 (m + c.i) ++ [c.x]) else X1 := ⟨_, rfl⟩
        rw [← hX2] at ST6
        have HX2 := hid hX2
        clear h4 hcp4 hX2 ST4 CPST3 r3
        have HX2w := hid (show X2 (m + c.i) = rowWr (A.take (q + 1)) c.i from by
          rw [HX2.out, List.take_succ_eq_append_getElem hlt, hc, rowWr_snoc, HX1.out]
          by_cases hw : c.w = true
          · rw [if_pos hw, updL_same, updL_other _ (by omega), cwX_wr hsm.2, if_pos ⟨rfl, hw⟩]
          · rw [if_neg hw, updL_other _ (by omega), cwX_wr hsm.2, if_neg (fun h => hw h.2)])
        obtain ⟨a1, cap1, hv1, hle1, -, -⟩ := own_form (ST6.out.fam.own (m + c.i) (by unfold cwN; omega))
        obtain ⟨l1, hl1⟩ : ∃ l1, (X2 (m + c.i)).length = l1 := ⟨_, rfl⟩
        rw [hl1] at hv1
        go_upto_region 9 with fail
        refine wp_region_L 15 (S := (fun (W : World) => W.cell? ⟨w.heap.size + 10, 3, none⟩ = some (.slice (some ⟨b 2, 0, none⟩) m m) ∧ W.cell? ⟨w.heap.size + 10, 7, none⟩ = some (.slice (some ⟨b 6, 0, none⟩) A.length A.length) ∧ W.cell? ⟨B, 1, none⟩ = some (.int .i64 (c.i : Int)) ∧ W.cell? ⟨b 2, c.i, none⟩ = some (.slice a1 l1 cap1))) (by kernel_rfl) ?_
        have hHeld : ((fun (W : World) => W.cell? ⟨w.heap.size + 10, 3, none⟩ = some (.slice (some ⟨b 2, 0, none⟩) m m) ∧ W.cell? ⟨w.heap.size + 10, 7, none⟩ = some (.slice (some ⟨b 6, 0, none⟩) A.length A.length) ∧ W.cell? ⟨B, 1, none⟩ = some (.int .i64 (c.i : Int)) ∧ W.cell? ⟨b 2, c.i, none⟩ = some (.slice a1 l1 cap1))) _ := ⟨ST6.out.g.fld 3 _ rfl, ST6.out.g.fld 7 _ rfl, CP6.out.c1, (ST6.out.g.cell (k := 2) (j := c.i) (by omega) hsm.2).trans (congrArg some hv1)⟩
        refine wpAnyL_take (i := 0) (v := .pointer (some ⟨w.heap.size + 10, 0, none⟩)) rfl (by kernel_rfl) (by kernel_rfl) (by kernel_rfl) (by kernel_rfl) (fun _ _ _ h => h) (Or.inl ⟨by rfl, ?_⟩) (by assumption) ?_
        · intro w hSw
          try dsimp only at hSw
          go_simp
        simp only [Act.put, List.setIfInBounds_toArray, List.set_cons_zero, List.set_cons_succ, List.getElem_toArray, List.getElem_cons_zero, List.getElem_cons_succ]
        refine wpAnyL_take (i := 1) (v := .pointer (some ⟨w.heap.size + 10, 0, none⟩)) rfl (by kernel_rfl) (by kernel_rfl) (by kernel_rfl) (by kernel_rfl) (fun _ _ _ h => h) (Or.inl ⟨by rfl, ?_⟩) (by assumption) ?_
        · intro w hSw
          try dsimp only at hSw
          go_simp
        simp only [Act.put, List.setIfInBounds_toArray, List.set_cons_zero, List.set_cons_succ, List.getElem_toArray, List.getElem_cons_zero, List.getElem_cons_succ]
        refine wpAnyL_take (i := 2) (v := .pointer (some ⟨w.heap.size + 10, 7, none⟩)) rfl (by kernel_rfl) (by kernel_rfl) (by kernel_rfl) (by kernel_rfl) (fun _ _ _ h => h) (Or.inl ⟨by rfl, ?_⟩) (by assumption) ?_
        · intro w hSw
          try dsimp only at hSw
          go_simp
        simp only [Act.put, List.setIfInBounds_toArray, List.set_cons_zero, List.set_cons_succ, List.getElem_toArray, List.getElem_cons_zero, List.getElem_cons_succ]
        refine wpAnyL_take (i := 3) (v := .slice (some ⟨b 6, 0, none⟩) A.length A.length) rfl (by kernel_rfl) (by kernel_rfl) (by kernel_rfl) (by kernel_rfl) (fun _ _ _ h => h) (Or.inl ⟨by rfl, ?_⟩) (by assumption) ?_
        · intro w hSw
          try dsimp only at hSw
          go_simp
        simp only [Act.put, List.setIfInBounds_toArray, List.set_cons_zero, List.set_cons_succ, List.getElem_toArray, List.getElem_cons_zero, List.getElem_cons_succ]
        refine wpAnyL_take (i := 4) (v := .int .i64 (q : Int)) rfl (by kernel_rfl) (by kernel_rfl) (by kernel_rfl) (by kernel_rfl) (fun _ _ _ h => h) (Or.inl ⟨by rfl, ?_⟩) (by assumption) ?_
        · intro w hSw
          try dsimp only at hSw
          go_simp
        simp only [Act.put, List.setIfInBounds_toArray, List.set_cons_zero, List.set_cons_succ, List.getElem_toArray, List.getElem_cons_zero, List.getElem_cons_succ]
        refine wpAnyL_take (i := 5) (v := .pointer (some ⟨w.heap.size + 10, 0, none⟩)) rfl (by kernel_rfl) (by kernel_rfl) (by kernel_rfl) (by kernel_rfl) (fun _ _ _ h => h) (Or.inl ⟨by rfl, ?_⟩) (by assumption) ?_
        · intro w hSw
          try dsimp only at hSw
          go_simp
        simp only [Act.put, List.setIfInBounds_toArray, List.set_cons_zero, List.set_cons_succ, List.getElem_toArray, List.getElem_cons_zero, List.getElem_cons_succ]
        refine wpAnyL_take (i := 6) (v := .pointer (some ⟨w.heap.size + 10, 0, none⟩)) rfl (by kernel_rfl) (by kernel_rfl) (by kernel_rfl) (by kernel_rfl) (fun _ _ _ h => h) (Or.inl ⟨by rfl, ?_⟩) (by assumption) ?_
        · intro w hSw
          try dsimp only at hSw
          go_simp
        simp only [Act.put, List.setIfInBounds_toArray, List.set_cons_zero, List.set_cons_succ, List.getElem_toArray, List.getElem_cons_zero, List.getElem_cons_succ]
        refine wpAnyL_take (i := 7) (v := .pointer (some ⟨w.heap.size + 10, 3, none⟩)) rfl (by kernel_rfl) (by kernel_rfl) (by kernel_rfl) (by kernel_rfl) (fun _ _ _ h => h) (Or.inl ⟨by rfl, ?_⟩) (by assumption) ?_
        · intro w hSw
          try dsimp only at hSw
          go_simp
        simp only [Act.put, List.setIfInBounds_toArray, List.set_cons_zero, List.set_cons_succ, List.getElem_toArray, List.getElem_cons_zero, List.getElem_cons_succ]
        refine wpAnyL_take (i := 8) (v := .slice (some ⟨b 2, 0, none⟩) m m) rfl (by kernel_rfl) (by kernel_rfl) (by kernel_rfl) (by kernel_rfl) (fun _ _ _ h => h) (Or.inl ⟨by rfl, ?_⟩) (by assumption) ?_
        · intro w hSw
          try dsimp only at hSw
          go_simp
        simp only [Act.put, List.setIfInBounds_toArray, List.set_cons_zero, List.set_cons_succ, List.getElem_toArray, List.getElem_cons_zero, List.getElem_cons_succ]
        refine wpAnyL_take (i := 9) (v := .pointer (some ⟨B, 1, none⟩)) rfl (by kernel_rfl) (by kernel_rfl) (by kernel_rfl) (by kernel_rfl) (fun _ _ _ h => h) (Or.inl ⟨by rfl, ?_⟩) (by assumption) ?_
        · intro w hSw
          try dsimp only at hSw
          go_simp
        simp only [Act.put, List.setIfInBounds_toArray, List.set_cons_zero, List.set_cons_succ, List.getElem_toArray, List.getElem_cons_zero, List.getElem_cons_succ]
        refine wpAnyL_take (i := 10) (v := .int .i64 (c.i : Int)) rfl (by kernel_rfl) (by kernel_rfl) (by kernel_rfl) (by kernel_rfl) (fun _ _ _ h => h) (Or.inl ⟨by rfl, ?_⟩) (by assumption) ?_
        · intro w hSw
          try dsimp only at hSw
          go_simp
        simp only [Act.put, List.setIfInBounds_toArray, List.set_cons_zero, List.set_cons_succ, List.getElem_toArray, List.getElem_cons_zero, List.getElem_cons_succ]
        refine wpAnyL_take (i := 11) (v := .pointer (some ⟨b 2, c.i, none⟩)) rfl (by kernel_rfl) (by kernel_rfl) (by kernel_rfl) (by kernel_rfl) (fun _ _ _ h => h) (Or.inl ⟨by rfl, ?_⟩) (by assumption) ?_
        · intro w hSw
          try dsimp only at hSw
          go_simp
        simp only [Act.put, List.setIfInBounds_toArray, List.set_cons_zero, List.set_cons_succ, List.getElem_toArray, List.getElem_cons_zero, List.getElem_cons_succ]
        refine wpAnyL_take (i := 12) (v := .slice a1 l1 cap1) rfl (by kernel_rfl) (by kernel_rfl) (by kernel_rfl) (by kernel_rfl) (fun _ _ _ h => h) (Or.inl ⟨by rfl, ?_⟩) (by assumption) ?_
        · intro w hSw
          try dsimp only at hSw
          go_simp
        simp only [Act.put, List.setIfInBounds_toArray, List.set_cons_zero, List.set_cons_succ, List.getElem_toArray, List.getElem_cons_zero, List.getElem_cons_succ]
        refine wpAnyL_take (i := 13) (v := .int .i64 (l1 : Int)) rfl (by kernel_rfl) (by kernel_rfl) (by kernel_rfl) (by kernel_rfl) (fun _ _ _ h => h) (Or.inl ⟨by rfl, ?_⟩) (by assumption) ?_
        · intro w hSw
          try dsimp only at hSw
          go_simp
        simp only [Act.put, List.setIfInBounds_toArray, List.set_cons_zero, List.set_cons_succ, List.getElem_toArray, List.getElem_cons_zero, List.getElem_cons_succ]
        refine wpAnyL_take (i := 14) (v := .pointer (some ⟨b 6, q, none⟩)) rfl (by kernel_rfl) (by kernel_rfl) (by kernel_rfl) (by kernel_rfl) (fun _ _ _ h => h) (Or.inl ⟨by rfl, ?_⟩) (by assumption) ?_
        · intro w hSw
          try dsimp only at hSw
          go_simp
        simp only [Act.put, List.setIfInBounds_toArray, List.set_cons_zero, List.set_cons_succ, List.getElem_toArray, List.getElem_cons_zero, List.getElem_cons_succ]
        refine wpAnyL_one (i := 15) (by kernel_rfl) rfl (fun K hK => ?_)
        have f0 : wc.frozen? ⟨b 6, q, none⟩ = false := ST6.out.g.free (by omega) q
        have f1 := ST6.out.g.cell (k := 6) (j := q) (by omega) hlt
        go_simp
        refine hK.out _ _ (fun h => absurd rfl h) ?_
        clear hK K
        try simp only [Act.put, List.setIfInBounds_toArray, List.set_cons_zero, List.set_cons_succ, List.getElem_toArray, List.getElem_cons_zero, List.getElem_cons_succ]
        refine wpAnyL_done (by kernel_rfl) ?_ _
        have ST7 := hid (show CwS w (wc.setCell ⟨b 6, q, none⟩ (.int .i64 (l1 : Int))).drew n m A.length Bc b (fun _ => false) (iaF A (q + 1)) (updL (nwF A q) q l1) (fun _ => 0) (fun _ => 0) v4 X2 from (ST6.out.setNw hlt l1).g.drew)
        have CP7 := hid (show CwC w (wc.setCell ⟨b 6, q, none⟩ (.int .i64 (l1 : Int))).drew B c from (CP6.out.setCell (g := b 6) (by have := (ST6.out.rng 6 (by omega)).2; omega) q (.int .i64 (l1 : Int))).drew)
        obtain ⟨W7, hW7⟩ : ∃ W7, W7 = (wc.setCell ⟨b 6, q, none⟩ (.int .i64 (l1 : Int))).drew := ⟨_, rfl⟩
        rw [← hW7] at ST7 CP7
        rw [← hW7]
        have HNW := hid (show updL (nwF A q) q l1 = nwF A (q + 1) from by rw [← hl1, HX2w.out, ← hc]; exact nwF_step hlt)
        rw [HNW.out] at ST7
        have HLX : (X2 (m + m + c.x)).length ≤ 100000 := by
          have e : X2 (m + m + c.x) = rowBy (A.take q) c.x := by
            rw [HX2.out]
            split
            · rw [updL_other _ (by omega), HX1.out, updL_other _ (by omega), cwX_by hsm.1]
            · rw [HX1.out, updL_other _ (by omega), cwX_by hsm.1]
          rw [e]; have := rowBy_len (A.take q) c.x; rw [List.length_take] at this; omega
        clear hW7 ST6 CP6 hv1 hle1 hl1 hX1l hHeld f0 f1
        go_upto_region 10 with fail
        refine wp_region_L 18 (S := (fun (W : World) => W.cell? ⟨w.heap.size + 10, 8, none⟩ = some (.slice (some ⟨b 7, 0, none⟩) n n) ∧ W.cell? ⟨B, 1, none⟩ = some (.int .i64 (c.i : Int)) ∧ W.cell? ⟨B, 0, none⟩ = some (.int .i64 (c.x : Int)) ∧ W.cell? ⟨b 7, c.x, none⟩ = some (v4 (m + m + c.x)))) (by kernel_rfl) ?_
        have hHeld : ((fun (W : World) => W.cell? ⟨w.heap.size + 10, 8, none⟩ = some (.slice (some ⟨b 7, 0, none⟩) n n) ∧ W.cell? ⟨B, 1, none⟩ = some (.int .i64 (c.i : Int)) ∧ W.cell? ⟨B, 0, none⟩ = some (.int .i64 (c.x : Int)) ∧ W.cell? ⟨b 7, c.x, none⟩ = some (v4 (m + m + c.x)))) _ := ⟨ST7.out.g.drew.fld 8 _ rfl, CP7.out.drew.c1, CP7.out.drew.c0, ST7.out.g.drew.cell (k := 7) (j := c.x) (by omega) hsm.1⟩
        refine wpAnyL_take (i := 0) (v := .pointer (some ⟨w.heap.size + 10, 0, none⟩)) rfl (by kernel_rfl) (by kernel_rfl) (by kernel_rfl) (by kernel_rfl) (fun _ _ _ h => h) (Or.inl ⟨by rfl, ?_⟩) (by assumption) ?_
        · intro w hSw
          try dsimp only at hSw
          go_simp
        simp only [Act.put, List.setIfInBounds_toArray, List.set_cons_zero, List.set_cons_succ, List.getElem_toArray, List.getElem_cons_zero, List.getElem_cons_succ]
        refine wpAnyL_take (i := 1) (v := .pointer (some ⟨w.heap.size + 10, 0, none⟩)) rfl (by kernel_rfl) (by kernel_rfl) (by kernel_rfl) (by kernel_rfl) (fun _ _ _ h => h) (Or.inl ⟨by rfl, ?_⟩) (by assumption) ?_
        · intro w hSw
          try dsimp only at hSw
          go_simp
        simp only [Act.put, List.setIfInBounds_toArray, List.set_cons_zero, List.set_cons_succ, List.getElem_toArray, List.getElem_cons_zero, List.getElem_cons_succ]
        refine wpAnyL_take (i := 2) (v := .pointer (some ⟨w.heap.size + 10, 8, none⟩)) rfl (by kernel_rfl) (by kernel_rfl) (by kernel_rfl) (by kernel_rfl) (fun _ _ _ h => h) (Or.inl ⟨by rfl, ?_⟩) (by assumption) ?_
        · intro w hSw
          try dsimp only at hSw
          go_simp
        simp only [Act.put, List.setIfInBounds_toArray, List.set_cons_zero, List.set_cons_succ, List.getElem_toArray, List.getElem_cons_zero, List.getElem_cons_succ]
        refine wpAnyL_take (i := 3) (v := .slice (some ⟨b 7, 0, none⟩) n n) rfl (by kernel_rfl) (by kernel_rfl) (by kernel_rfl) (by kernel_rfl) (fun _ _ _ h => h) (Or.inl ⟨by rfl, ?_⟩) (by assumption) ?_
        · intro w hSw
          try dsimp only at hSw
          go_simp
        simp only [Act.put, List.setIfInBounds_toArray, List.set_cons_zero, List.set_cons_succ, List.getElem_toArray, List.getElem_cons_zero, List.getElem_cons_succ]
        refine wpAnyL_take (i := 4) (v := .pointer (some ⟨B, 0, none⟩)) rfl (by kernel_rfl) (by kernel_rfl) (by kernel_rfl) (by kernel_rfl) (fun _ _ _ h => h) (Or.inl ⟨by rfl, ?_⟩) (by assumption) ?_
        · intro w hSw
          try dsimp only at hSw
          go_simp
        simp only [Act.put, List.setIfInBounds_toArray, List.set_cons_zero, List.set_cons_succ, List.getElem_toArray, List.getElem_cons_zero, List.getElem_cons_succ]
        refine wpAnyL_take (i := 5) (v := .int .i64 (c.x : Int)) rfl (by kernel_rfl) (by kernel_rfl) (by kernel_rfl) (by kernel_rfl) (fun _ _ _ h => h) (Or.inl ⟨by rfl, ?_⟩) (by assumption) ?_
        · intro w hSw
          try dsimp only at hSw
          go_simp
        simp only [Act.put, List.setIfInBounds_toArray, List.set_cons_zero, List.set_cons_succ, List.getElem_toArray, List.getElem_cons_zero, List.getElem_cons_succ]
        refine wpAnyL_take (i := 6) (v := .pointer (some ⟨w.heap.size + 10, 0, none⟩)) rfl (by kernel_rfl) (by kernel_rfl) (by kernel_rfl) (by kernel_rfl) (fun _ _ _ h => h) (Or.inl ⟨by rfl, ?_⟩) (by assumption) ?_
        · intro w hSw
          try dsimp only at hSw
          go_simp
        simp only [Act.put, List.setIfInBounds_toArray, List.set_cons_zero, List.set_cons_succ, List.getElem_toArray, List.getElem_cons_zero, List.getElem_cons_succ]
        refine wpAnyL_take (i := 7) (v := .pointer (some ⟨w.heap.size + 10, 0, none⟩)) rfl (by kernel_rfl) (by kernel_rfl) (by kernel_rfl) (by kernel_rfl) (fun _ _ _ h => h) (Or.inl ⟨by rfl, ?_⟩) (by assumption) ?_
        · intro w hSw
          try dsimp only at hSw
          go_simp
        simp only [Act.put, List.setIfInBounds_toArray, List.set_cons_zero, List.set_cons_succ, List.getElem_toArray, List.getElem_cons_zero, List.getElem_cons_succ]
        refine wpAnyL_take (i := 8) (v := .pointer (some ⟨w.heap.size + 10, 8, none⟩)) rfl (by kernel_rfl) (by kernel_rfl) (by kernel_rfl) (by kernel_rfl) (fun _ _ _ h => h) (Or.inl ⟨by rfl, ?_⟩) (by assumption) ?_
        · intro w hSw
          try dsimp only at hSw
          go_simp
        simp only [Act.put, List.setIfInBounds_toArray, List.set_cons_zero, List.set_cons_succ, List.getElem_toArray, List.getElem_cons_zero, List.getElem_cons_succ]
        refine wpAnyL_take (i := 9) (v := .slice (some ⟨b 7, 0, none⟩) n n) rfl (by kernel_rfl) (by kernel_rfl) (by kernel_rfl) (by kernel_rfl) (fun _ _ _ h => h) (Or.inl ⟨by rfl, ?_⟩) (by assumption) ?_
        · intro w hSw
          try dsimp only at hSw
          go_simp
        simp only [Act.put, List.setIfInBounds_toArray, List.set_cons_zero, List.set_cons_succ, List.getElem_toArray, List.getElem_cons_zero, List.getElem_cons_succ]
        refine wpAnyL_take (i := 10) (v := .pointer (some ⟨B, 0, none⟩)) rfl (by kernel_rfl) (by kernel_rfl) (by kernel_rfl) (by kernel_rfl) (fun _ _ _ h => h) (Or.inl ⟨by rfl, ?_⟩) (by assumption) ?_
        · intro w hSw
          try dsimp only at hSw
          go_simp
        simp only [Act.put, List.setIfInBounds_toArray, List.set_cons_zero, List.set_cons_succ, List.getElem_toArray, List.getElem_cons_zero, List.getElem_cons_succ]
        refine wpAnyL_take (i := 11) (v := .int .i64 (c.x : Int)) rfl (by kernel_rfl) (by kernel_rfl) (by kernel_rfl) (by kernel_rfl) (fun _ _ _ h => h) (Or.inl ⟨by rfl, ?_⟩) (by assumption) ?_
        · intro w hSw
          try dsimp only at hSw
          go_simp
        simp only [Act.put, List.setIfInBounds_toArray, List.set_cons_zero, List.set_cons_succ, List.getElem_toArray, List.getElem_cons_zero, List.getElem_cons_succ]
        refine wpAnyL_take (i := 12) (v := .pointer (some ⟨b 7, c.x, none⟩)) rfl (by kernel_rfl) (by kernel_rfl) (by kernel_rfl) (by kernel_rfl) (fun _ _ _ h => h) (Or.inl ⟨by rfl, ?_⟩) (by assumption) ?_
        · intro w hSw
          try dsimp only at hSw
          go_simp
        simp only [Act.put, List.setIfInBounds_toArray, List.set_cons_zero, List.set_cons_succ, List.getElem_toArray, List.getElem_cons_zero, List.getElem_cons_succ]
        refine wpAnyL_take (i := 13) (v := v4 (m + m + c.x)) rfl (by kernel_rfl) (by kernel_rfl) (by kernel_rfl) (by kernel_rfl) (fun _ _ _ h => h) (Or.inl ⟨by rfl, ?_⟩) (by assumption) ?_
        · intro w hSw
          try dsimp only at hSw
          go_simp
        simp only [Act.put, List.setIfInBounds_toArray, List.set_cons_zero, List.set_cons_succ, List.getElem_toArray, List.getElem_cons_zero, List.getElem_cons_succ]
        refine wpAnyL_take (i := 14) (v := .int .i64 (q : Int)) rfl (by kernel_rfl) (by kernel_rfl) (by kernel_rfl) (by kernel_rfl) (fun _ _ _ h => h) (Or.inl ⟨by rfl, ?_⟩) (by assumption) ?_
        · intro w hSw
          try dsimp only at hSw
          go_simp
        simp only [Act.put, List.setIfInBounds_toArray, List.set_cons_zero, List.set_cons_succ, List.getElem_toArray, List.getElem_cons_zero, List.getElem_cons_succ]
        refine wpAnyL_one (i := 15) (by kernel_rfl) rfl (fun K hK => ?_)
        go_simp
        refine hK.out _ _ (fun _ => ⟨(ST7.out.g.alloc _).drew.fld 8 _ rfl, (CP7.out.alloc _).drew.c1, (CP7.out.alloc _).drew.c0, (ST7.out.g.alloc _).drew.cell (k := 7) (j := c.x) (by omega) hsm.1⟩) ?_
        clear hK K
        try simp only [Act.put, List.setIfInBounds_toArray, List.set_cons_zero, List.set_cons_succ, List.getElem_toArray, List.getElem_cons_zero, List.getElem_cons_succ]
        refine wpAnyL_one (i := 16) (by kernel_rfl) rfl (fun K hK => ?_)
        refine apD (by rfl) _ _ (by rfl) (w.heap.size + 11) (v4 (m + m + c.x)) (X2 (m + m + c.x)) (q : Int) W7.heap.size (W7.heap.size + 1) (by rfl) (by rfl) ((ST7.out.g.alloc _).drew.fam.own (m + m + c.x) (by unfold cwN; omega)) (heap_alloc_new W7 _) HLX (by simp [World.size_alloc]; have := ST7.out.lt; omega) (by simp [World.size_alloc]) ?_
        intro g1 cap2 w1 hown1 hgrow hat hlt1
        have TT := hid ((ST7.out.g.alloc (.cells #[.int .i64 (q : Int)] 3)).drew.turn (r := m + m + c.x) (by unfold cwN; omega) (l := X2 (m + m + c.x) ++ [q]) (by rw [List.length_append, rowI_snoc]; exact hown1) hgrow (fun g e => by simp only [Value.ownBlock, Option.some.injEq] at e; subst e; rcases hat with h | h; exact .inl h; exact .inr (by simp [World.size_alloc]; omega)))
        have CPP := hid ((CP7.out.alloc (.cells #[.int .i64 (q : Int)] 3)).drew.grown hgrow ((CP7.out.alloc (.cells #[.int .i64 (q : Int)] 3)).drew.apart ((ST7.out.g.alloc (.cells #[.int .i64 (q : Int)] 3)).drew.fam.own (m + m + c.x) (by unfold cwN; omega))))
        clear hown1 hgrow hat
        have hHeld : ((fun (W : World) => W.cell? ⟨w.heap.size + 10, 8, none⟩ = some (.slice (some ⟨b 7, 0, none⟩) n n) ∧ W.cell? ⟨B, 1, none⟩ = some (.int .i64 (c.i : Int)) ∧ W.cell? ⟨B, 0, none⟩ = some (.int .i64 (c.x : Int)) ∧ W.cell? ⟨b 7, c.x, none⟩ = some (v4 (m + m + c.x)))) w1 := ⟨TT.out.fld 8 _ rfl, CPP.out.c1, CPP.out.c0, TT.out.cell (k := 7) (j := c.x) (by omega) hsm.1⟩
        refine hK.out _ _ (fun _ => hHeld) ?_
        clear hK K
        try simp only [Act.put, List.setIfInBounds_toArray, List.set_cons_zero, List.set_cons_succ, List.getElem_toArray, List.getElem_cons_zero, List.getElem_cons_succ]
        refine wpAnyL_take (i := 17) (v := .pointer (some ⟨b 7, c.x, none⟩)) rfl (by kernel_rfl) (by kernel_rfl) (by kernel_rfl) (by kernel_rfl) (fun _ _ _ h => h) (Or.inl ⟨by rfl, ?_⟩) (by assumption) ?_
        · intro w hSw
          try dsimp only at hSw
          go_simp
        simp only [Act.put, List.setIfInBounds_toArray, List.set_cons_zero, List.set_cons_succ, List.getElem_toArray, List.getElem_cons_zero, List.getElem_cons_succ]
        refine wpAnyL_one (i := 18) (by kernel_rfl) rfl (fun K hK => ?_)
        have f0 : w1.frozen? ⟨b 7, c.x, none⟩ = false := TT.out.free (by omega) _
        have f1 : w1.cell? ⟨b 7, c.x, none⟩ = some (v4 (m + m + c.x)) := TT.out.cell (k := 7) (j := c.x) (by omega) hsm.1
        go_simp
        refine hK.out _ _ (fun h => absurd rfl h) ?_
        clear hK K
        try simp only [Act.put, List.setIfInBounds_toArray, List.set_cons_zero, List.set_cons_succ, List.getElem_toArray, List.getElem_cons_zero, List.getElem_cons_succ]
        refine wpAnyL_done (by kernel_rfl) ?_ _
        have ST8 := hid (TT.out.setRow (k0 := 7) (j := c.x) (.inr (.inr (.inr (.inr ⟨rfl, hsm.1, rfl⟩)))) rfl)
        have CPST8 := hid (CPP.out.setCell (g := b 7) (by have := (TT.out.rng 7 (by omega)).2; omega) (c.x) (.slice (some ⟨g1, 0, none⟩) ((X2 (m + m + c.x)).length + 1) cap2))
        clear TT CPP
        have HXX := hid (show ∀ r, r < cwN n m → updL X2 (m + m + c.x) (X2 (m + m + c.x) ++ [q]) r = cwX n m (A.take (q + 1)) 0 0 r from fun r hr => by
          have := cwX_snoc (A := A.take q) c hsm.2 hsm.1 X1 X2 HX1.out HX2.out r hr
          rw [List.length_take, Nat.min_eq_left (by omega)] at this
          rw [this, List.take_succ_eq_append_getElem hlt, hc])
        have ST9 := hid (show CwS _ _ _ _ _ _ _ _ _ _ _ _ _ (cwX n m (A.take (q + 1)) 0 0) from ST8.out.g.congrX HXX.out)
        clear ST8 CPST8 ST7 CP7 HLX hHeld f0 f1
        go_wp2_with fail
        go_roundg (A.length - (q + 1))
        case measure => omega
        case rel => exact ⟨q + 1, _, by omega, rfl, by go_num, ST9.out⟩
    · obtain rfl : q = A.length := by omega
      rw [List.take_length] at ST
      have d1 : wr.cell? ⟨Bc, 1, none⟩ = some (.int .i64 (m : Int)) := (ST.out.bel.cell (p := ⟨Bc, 1, none⟩) hBl).trans (by rw [cell_of_row _ _ _ _ _ _ HBX.out]; rfl)
      have ST1 := hid (show ∃ v, CwS w wr n m A.length Bc b (fun _ => false) (iaF A A.length) (nwF A A.length) (fun _ => 0) (fun _ => 0) v (cwX n m A 0 0) ∧ ∀ i, i < 0 → (∃ g, v (m + m + n + i) = .slice (some ⟨g, 0, none⟩) ((rowAc A i).length + 1) ((rowAc A i).length + 1)) ∧ ∃ g, v (m + m + n + (m + i)) = .slice (some ⟨g, 0, none⟩) ((rowWr A i).length + 1) ((rowWr A i).length + 1) from ⟨v, ST.out, fun i hi => by omega⟩)
      clear ST
      go_wp2_with fail
      go_loopg [167] m (fun g i wr => ∃ (u : Nat) (v : Nat → Value), u ≤ m ∧ g = m - u ∧ i = .int .i64 (u : Int) ∧ CwS w wr n m A.length Bc b (fun _ => false) (iaF A A.length) (nwF A A.length) (fun _ => 0) (fun _ => 0) v (cwX n m A u u) ∧ ∀ i, i < u → (∃ g, v (m + m + n + i) = .slice (some ⟨g, 0, none⟩) ((rowAc A i).length + 1) ((rowAc A i).length + 1)) ∧ ∃ g, v (m + m + n + (m + i)) = .slice (some ⟨g, 0, none⟩) ((rowWr A i).length + 1) ((rowWr A i).length + 1))
      case atStart =>
        obtain ⟨v, h1, h2⟩ := ST1.out
        exact ⟨0, v, Nat.zero_le _, rfl, rfl, h1, h2⟩
      case round =>
        obtain ⟨u, v, hu, rfl, rfl, hst, hlf⟩ := hrel
        have ST := hid hst
        have LF := hid hlf
        clear hst hlf d1 ST1
        by_cases hlt : u < m
        · have hui : (u : Int) < (m : Int) := by omega
          have hu0 : (0 : Int) ≤ (u : Int) := by omega
          obtain ⟨a1, cap1, hv1, -, -, -⟩ := own_form (ST.out.fam.own u (by unfold cwN; omega))
          rw [cwX_ac hlt] at hv1
          obtain ⟨l1, hl1⟩ : ∃ l1, (rowAc A u).length = l1 := ⟨_, rfl⟩
          rw [hl1] at hv1
          have hl1b : l1 ≤ 300 := by rw [← hl1]; exact Nat.le_trans (rowAc_len A u) hA
          have HL1 := hid hl1
          clear hl1
          go_upto_region 15 with fail
          refine wp_region_L 15 (S := (fun (W : World) => W.cell? ⟨w.heap.size + 10, 2, none⟩ = some (.slice (some ⟨b 1, 0, none⟩) m m) ∧ W.cell? ⟨w.heap.size + 10, 4, none⟩ = some (.slice (some ⟨b 3, 0, none⟩) m m) ∧ W.cell? ⟨b 1, u, none⟩ = some (.slice a1 l1 cap1))) (by kernel_rfl) ?_
          have hHeld : ((fun (W : World) => W.cell? ⟨w.heap.size + 10, 2, none⟩ = some (.slice (some ⟨b 1, 0, none⟩) m m) ∧ W.cell? ⟨w.heap.size + 10, 4, none⟩ = some (.slice (some ⟨b 3, 0, none⟩) m m) ∧ W.cell? ⟨b 1, u, none⟩ = some (.slice a1 l1 cap1))) _ := ⟨ST.out.g.drew.fld 2 _ rfl, ST.out.g.drew.fld 4 _ rfl, (ST.out.g.drew.cell (k := 1) (j := u) (by omega) hlt).trans (congrArg some hv1)⟩
          refine wpAnyL_take (i := 0) (v := .pointer (some ⟨w.heap.size + 10, 0, none⟩)) rfl (by kernel_rfl) (by kernel_rfl) (by kernel_rfl) (by kernel_rfl) (fun _ _ _ h => h) (Or.inl ⟨by rfl, ?_⟩) (by assumption) ?_
          · intro w hSw
            try dsimp only at hSw
            go_simp
          simp only [Act.put, List.setIfInBounds_toArray, List.set_cons_zero, List.set_cons_succ, List.getElem_toArray, List.getElem_cons_zero, List.getElem_cons_succ]
          refine wpAnyL_take (i := 1) (v := .pointer (some ⟨w.heap.size + 10, 0, none⟩)) rfl (by kernel_rfl) (by kernel_rfl) (by kernel_rfl) (by kernel_rfl) (fun _ _ _ h => h) (Or.inl ⟨by rfl, ?_⟩) (by assumption) ?_
          · intro w hSw
            try dsimp only at hSw
            go_simp
          simp only [Act.put, List.setIfInBounds_toArray, List.set_cons_zero, List.set_cons_succ, List.getElem_toArray, List.getElem_cons_zero, List.getElem_cons_succ]
          refine wpAnyL_take (i := 2) (v := .pointer (some ⟨w.heap.size + 10, 4, none⟩)) rfl (by kernel_rfl) (by kernel_rfl) (by kernel_rfl) (by kernel_rfl) (fun _ _ _ h => h) (Or.inl ⟨by rfl, ?_⟩) (by assumption) ?_
          · intro w hSw
            try dsimp only at hSw
            go_simp
          simp only [Act.put, List.setIfInBounds_toArray, List.set_cons_zero, List.set_cons_succ, List.getElem_toArray, List.getElem_cons_zero, List.getElem_cons_succ]
          refine wpAnyL_take (i := 3) (v := .slice (some ⟨b 3, 0, none⟩) m m) rfl (by kernel_rfl) (by kernel_rfl) (by kernel_rfl) (by kernel_rfl) (fun _ _ _ h => h) (Or.inl ⟨by rfl, ?_⟩) (by assumption) ?_
          · intro w hSw
            try dsimp only at hSw
            go_simp
          simp only [Act.put, List.setIfInBounds_toArray, List.set_cons_zero, List.set_cons_succ, List.getElem_toArray, List.getElem_cons_zero, List.getElem_cons_succ]
          refine wpAnyL_take (i := 4) (v := .int .i64 (u : Int)) rfl (by kernel_rfl) (by kernel_rfl) (by kernel_rfl) (by kernel_rfl) (fun _ _ _ h => h) (Or.inl ⟨by rfl, ?_⟩) (by assumption) ?_
          · intro w hSw
            try dsimp only at hSw
            go_simp
          simp only [Act.put, List.setIfInBounds_toArray, List.set_cons_zero, List.set_cons_succ, List.getElem_toArray, List.getElem_cons_zero, List.getElem_cons_succ]
          refine wpAnyL_take (i := 5) (v := .pointer (some ⟨w.heap.size + 10, 0, none⟩)) rfl (by kernel_rfl) (by kernel_rfl) (by kernel_rfl) (by kernel_rfl) (fun _ _ _ h => h) (Or.inl ⟨by rfl, ?_⟩) (by assumption) ?_
          · intro w hSw
            try dsimp only at hSw
            go_simp
          simp only [Act.put, List.setIfInBounds_toArray, List.set_cons_zero, List.set_cons_succ, List.getElem_toArray, List.getElem_cons_zero, List.getElem_cons_succ]
          refine wpAnyL_take (i := 6) (v := .pointer (some ⟨w.heap.size + 10, 0, none⟩)) rfl (by kernel_rfl) (by kernel_rfl) (by kernel_rfl) (by kernel_rfl) (fun _ _ _ h => h) (Or.inl ⟨by rfl, ?_⟩) (by assumption) ?_
          · intro w hSw
            try dsimp only at hSw
            go_simp
          simp only [Act.put, List.setIfInBounds_toArray, List.set_cons_zero, List.set_cons_succ, List.getElem_toArray, List.getElem_cons_zero, List.getElem_cons_succ]
          refine wpAnyL_take (i := 7) (v := .pointer (some ⟨w.heap.size + 10, 2, none⟩)) rfl (by kernel_rfl) (by kernel_rfl) (by kernel_rfl) (by kernel_rfl) (fun _ _ _ h => h) (Or.inl ⟨by rfl, ?_⟩) (by assumption) ?_
          · intro w hSw
            try dsimp only at hSw
            go_simp
          simp only [Act.put, List.setIfInBounds_toArray, List.set_cons_zero, List.set_cons_succ, List.getElem_toArray, List.getElem_cons_zero, List.getElem_cons_succ]
          refine wpAnyL_take (i := 8) (v := .slice (some ⟨b 1, 0, none⟩) m m) rfl (by kernel_rfl) (by kernel_rfl) (by kernel_rfl) (by kernel_rfl) (fun _ _ _ h => h) (Or.inl ⟨by rfl, ?_⟩) (by assumption) ?_
          · intro w hSw
            try dsimp only at hSw
            go_simp
          simp only [Act.put, List.setIfInBounds_toArray, List.set_cons_zero, List.set_cons_succ, List.getElem_toArray, List.getElem_cons_zero, List.getElem_cons_succ]
          refine wpAnyL_take (i := 9) (v := .int .i64 (u : Int)) rfl (by kernel_rfl) (by kernel_rfl) (by kernel_rfl) (by kernel_rfl) (fun _ _ _ h => h) (Or.inl ⟨by rfl, ?_⟩) (by assumption) ?_
          · intro w hSw
            try dsimp only at hSw
            go_simp
          simp only [Act.put, List.setIfInBounds_toArray, List.set_cons_zero, List.set_cons_succ, List.getElem_toArray, List.getElem_cons_zero, List.getElem_cons_succ]
          refine wpAnyL_take (i := 10) (v := .pointer (some ⟨b 1, u, none⟩)) rfl (by kernel_rfl) (by kernel_rfl) (by kernel_rfl) (by kernel_rfl) (fun _ _ _ h => h) (Or.inl ⟨by rfl, ?_⟩) (by assumption) ?_
          · intro w hSw
            try dsimp only at hSw
            go_simp
          simp only [Act.put, List.setIfInBounds_toArray, List.set_cons_zero, List.set_cons_succ, List.getElem_toArray, List.getElem_cons_zero, List.getElem_cons_succ]
          refine wpAnyL_take (i := 11) (v := .slice a1 l1 cap1) rfl (by kernel_rfl) (by kernel_rfl) (by kernel_rfl) (by kernel_rfl) (fun _ _ _ h => h) (Or.inl ⟨by rfl, ?_⟩) (by assumption) ?_
          · intro w hSw
            try dsimp only at hSw
            go_simp
          simp only [Act.put, List.setIfInBounds_toArray, List.set_cons_zero, List.set_cons_succ, List.getElem_toArray, List.getElem_cons_zero, List.getElem_cons_succ]
          refine wpAnyL_take (i := 12) (v := .int .i64 (l1 : Int)) rfl (by kernel_rfl) (by kernel_rfl) (by kernel_rfl) (by kernel_rfl) (fun _ _ _ h => h) (Or.inl ⟨by rfl, ?_⟩) (by assumption) ?_
          · intro w hSw
            try dsimp only at hSw
            go_simp
          simp only [Act.put, List.setIfInBounds_toArray, List.set_cons_zero, List.set_cons_succ, List.getElem_toArray, List.getElem_cons_zero, List.getElem_cons_succ]
          refine wpAnyL_one (i := 13) (by kernel_rfl) rfl (fun K hK => ?_)
          go_simp
          refine Calls.mono (newRem_any _ l1 (by omega)) ?_
          rintro e w2 ⟨rfl, hfx, hgr, hsz⟩
          dsimp only
          have TT := hid ((ST.out.g.drew).turn (r := m + m + n + u) (by unfold cwN; omega) (l := List.range (l1 + 1)) (own_of_fix (l := List.range (l1 + 1)) hfx (by simp) (fun j hj => by simp) (by have := ST.out.lt; show _ ≤ wr.heap.size; omega) (by omega)) (gr_weak hgr _) (fun g e => by simp only [Value.ownBlock, Option.some.injEq] at e; subst e; exact .inr (Nat.le_refl _)))
          have hHeld : ((fun (W : World) => W.cell? ⟨w.heap.size + 10, 2, none⟩ = some (.slice (some ⟨b 1, 0, none⟩) m m) ∧ W.cell? ⟨w.heap.size + 10, 4, none⟩ = some (.slice (some ⟨b 3, 0, none⟩) m m) ∧ W.cell? ⟨b 1, u, none⟩ = some (.slice a1 l1 cap1))) w2 := ⟨(ST.out.g.drew.grownNew hgr).fld 2 _ rfl, (ST.out.g.drew.grownNew hgr).fld 4 _ rfl, ((ST.out.g.drew.grownNew hgr).cell (k := 1) (j := u) (by omega) hlt).trans (congrArg some hv1)⟩
          clear hfx hgr hsz
          refine hK.out _ _ (fun _ => hHeld) ?_
          clear hK K
          try simp only [Act.put, List.setIfInBounds_toArray, List.set_cons_zero, List.set_cons_succ, List.getElem_toArray, List.getElem_cons_zero, List.getElem_cons_succ]
          refine wpAnyL_take (i := 14) (v := .pointer (some ⟨b 3, u, none⟩)) rfl (by kernel_rfl) (by kernel_rfl) (by kernel_rfl) (by kernel_rfl) (fun _ _ _ h => h) (Or.inl ⟨by rfl, ?_⟩) (by assumption) ?_
          · intro w hSw
            try dsimp only at hSw
            go_simp
          simp only [Act.put, List.setIfInBounds_toArray, List.set_cons_zero, List.set_cons_succ, List.getElem_toArray, List.getElem_cons_zero, List.getElem_cons_succ]
          refine wpAnyL_one (i := 15) (by kernel_rfl) rfl (fun K hK => ?_)
          have f0 : w2.frozen? ⟨b 3, u, none⟩ = false := TT.out.free (by omega) u
          have f1 := TT.out.cell (k := 3) (j := u) (by omega) hlt
          go_simp
          refine hK.out _ _ (fun h => absurd rfl h) ?_
          clear hK K
          try simp only [Act.put, List.setIfInBounds_toArray, List.set_cons_zero, List.set_cons_succ, List.getElem_toArray, List.getElem_cons_zero, List.getElem_cons_succ]
          refine wpAnyL_done (by kernel_rfl) ?_ _
          have SA := hid (TT.out.setRow (k0 := 3) (j := u) (.inr (.inr (.inl ⟨rfl, hlt, rfl⟩))) rfl)
          obtain ⟨v2, hv2⟩ : ∃ v2, v2 = updL v (m + m + n + u) (.slice (some ⟨wr.heap.size, 0, none⟩) (l1 + 1) (l1 + 1)) := ⟨_, rfl⟩
          obtain ⟨X1, hX1⟩ : ∃ X1, X1 = updL (cwX n m A u u) (m + m + n + u) (List.range (l1 + 1)) := ⟨_, rfl⟩
          obtain ⟨W2, hW2⟩ : ∃ W2, W2 = w2.setCell ⟨b 3, u, none⟩ (.slice (some ⟨wr.heap.size, 0, none⟩) (l1 + 1) (l1 + 1)) := ⟨_, rfl⟩
          have SA2 : CwS w (w2.setCell ⟨b 3, u, none⟩ (.slice (some ⟨wr.heap.size, 0, none⟩) (l1 + 1) (l1 + 1))) n m A.length Bc b (fun _ => false) (iaF A A.length) (nwF A A.length) (fun _ => 0) (fun _ => 0) (updL v (m + m + n + u) (.slice (some ⟨wr.heap.size, 0, none⟩) (l1 + 1) (l1 + 1))) (updL (cwX n m A u u) (m + m + n + u) (List.range (l1 + 1))) := SA.out
          rw [← hv2, ← hX1, ← hW2] at SA2
          rw [← hW2]
          have SA3 := hid SA2
          have HV2 := hid hv2
          have HX1 := hid hX1
          clear SA2 SA hv2 hX1 hW2 TT hHeld f0 f1 hv1
          obtain ⟨a1, cap1, hv1, -, -, -⟩ := own_form (SA3.out.fam.own (m + u) (by unfold cwN; omega))
          have HXW := hid (show X1 (m + u) = rowWr A u from by rw [HX1.out, updL_other _ (by omega), cwX_wr hlt])
          rw [HXW.out] at hv1
          obtain ⟨l2, hl2⟩ : ∃ l2, (rowWr A u).length = l2 := ⟨_, rfl⟩
          rw [hl2] at hv1
          have hl2b : l2 ≤ 300 := by rw [← hl2]; exact Nat.le_trans (rowWr_len A u) hA
          have HL2 := hid hl2
          clear hl2
          go_upto_region 16 with fail
          refine wp_region_L 15 (S := (fun (W : World) => W.cell? ⟨w.heap.size + 10, 3, none⟩ = some (.slice (some ⟨b 2, 0, none⟩) m m) ∧ W.cell? ⟨w.heap.size + 10, 5, none⟩ = some (.slice (some ⟨b 4, 0, none⟩) m m) ∧ W.cell? ⟨b 2, u, none⟩ = some (.slice a1 l2 cap1))) (by kernel_rfl) ?_
          have hHeld : ((fun (W : World) => W.cell? ⟨w.heap.size + 10, 3, none⟩ = some (.slice (some ⟨b 2, 0, none⟩) m m) ∧ W.cell? ⟨w.heap.size + 10, 5, none⟩ = some (.slice (some ⟨b 4, 0, none⟩) m m) ∧ W.cell? ⟨b 2, u, none⟩ = some (.slice a1 l2 cap1))) _ := ⟨SA3.out.g.drew.fld 3 _ rfl, SA3.out.g.drew.fld 5 _ rfl, (SA3.out.g.drew.cell (k := 2) (j := u) (by omega) hlt).trans (congrArg some hv1)⟩
          refine wpAnyL_take (i := 0) (v := .pointer (some ⟨w.heap.size + 10, 0, none⟩)) rfl (by kernel_rfl) (by kernel_rfl) (by kernel_rfl) (by kernel_rfl) (fun _ _ _ h => h) (Or.inl ⟨by rfl, ?_⟩) (by assumption) ?_
          · intro w hSw
            try dsimp only at hSw
            go_simp
          simp only [Act.put, List.setIfInBounds_toArray, List.set_cons_zero, List.set_cons_succ, List.getElem_toArray, List.getElem_cons_zero, List.getElem_cons_succ]
          refine wpAnyL_take (i := 1) (v := .pointer (some ⟨w.heap.size + 10, 0, none⟩)) rfl (by kernel_rfl) (by kernel_rfl) (by kernel_rfl) (by kernel_rfl) (fun _ _ _ h => h) (Or.inl ⟨by rfl, ?_⟩) (by assumption) ?_
          · intro w hSw
            try dsimp only at hSw
            go_simp
          simp only [Act.put, List.setIfInBounds_toArray, List.set_cons_zero, List.set_cons_succ, List.getElem_toArray, List.getElem_cons_zero, List.getElem_cons_succ]
          refine wpAnyL_take (i := 2) (v := .pointer (some ⟨w.heap.size + 10, 5, none⟩)) rfl (by kernel_rfl) (by kernel_rfl) (by kernel_rfl) (by kernel_rfl) (fun _ _ _ h => h) (Or.inl ⟨by rfl, ?_⟩) (by assumption) ?_
          · intro w hSw
            try dsimp only at hSw
            go_simp
          simp only [Act.put, List.setIfInBounds_toArray, List.set_cons_zero, List.set_cons_succ, List.getElem_toArray, List.getElem_cons_zero, List.getElem_cons_succ]
          refine wpAnyL_take (i := 3) (v := .slice (some ⟨b 4, 0, none⟩) m m) rfl (by kernel_rfl) (by kernel_rfl) (by kernel_rfl) (by kernel_rfl) (fun _ _ _ h => h) (Or.inl ⟨by rfl, ?_⟩) (by assumption) ?_
          · intro w hSw
            try dsimp only at hSw
            go_simp
          simp only [Act.put, List.setIfInBounds_toArray, List.set_cons_zero, List.set_cons_succ, List.getElem_toArray, List.getElem_cons_zero, List.getElem_cons_succ]
          refine wpAnyL_take (i := 4) (v := .int .i64 (u : Int)) rfl (by kernel_rfl) (by kernel_rfl) (by kernel_rfl) (by kernel_rfl) (fun _ _ _ h => h) (Or.inl ⟨by rfl, ?_⟩) (by assumption) ?_
          · intro w hSw
            try dsimp only at hSw
            go_simp
          simp only [Act.put, List.setIfInBounds_toArray, List.set_cons_zero, List.set_cons_succ, List.getElem_toArray, List.getElem_cons_zero, List.getElem_cons_succ]
          refine wpAnyL_take (i := 5) (v := .pointer (some ⟨w.heap.size + 10, 0, none⟩)) rfl (by kernel_rfl) (by kernel_rfl) (by kernel_rfl) (by kernel_rfl) (fun _ _ _ h => h) (Or.inl ⟨by rfl, ?_⟩) (by assumption) ?_
          · intro w hSw
            try dsimp only at hSw
            go_simp
          simp only [Act.put, List.setIfInBounds_toArray, List.set_cons_zero, List.set_cons_succ, List.getElem_toArray, List.getElem_cons_zero, List.getElem_cons_succ]
          refine wpAnyL_take (i := 6) (v := .pointer (some ⟨w.heap.size + 10, 0, none⟩)) rfl (by kernel_rfl) (by kernel_rfl) (by kernel_rfl) (by kernel_rfl) (fun _ _ _ h => h) (Or.inl ⟨by rfl, ?_⟩) (by assumption) ?_
          · intro w hSw
            try dsimp only at hSw
            go_simp
          simp only [Act.put, List.setIfInBounds_toArray, List.set_cons_zero, List.set_cons_succ, List.getElem_toArray, List.getElem_cons_zero, List.getElem_cons_succ]
          refine wpAnyL_take (i := 7) (v := .pointer (some ⟨w.heap.size + 10, 3, none⟩)) rfl (by kernel_rfl) (by kernel_rfl) (by kernel_rfl) (by kernel_rfl) (fun _ _ _ h => h) (Or.inl ⟨by rfl, ?_⟩) (by assumption) ?_
          · intro w hSw
            try dsimp only at hSw
            go_simp
          simp only [Act.put, List.setIfInBounds_toArray, List.set_cons_zero, List.set_cons_succ, List.getElem_toArray, List.getElem_cons_zero, List.getElem_cons_succ]
          refine wpAnyL_take (i := 8) (v := .slice (some ⟨b 2, 0, none⟩) m m) rfl (by kernel_rfl) (by kernel_rfl) (by kernel_rfl) (by kernel_rfl) (fun _ _ _ h => h) (Or.inl ⟨by rfl, ?_⟩) (by assumption) ?_
          · intro w hSw
            try dsimp only at hSw
            go_simp
          simp only [Act.put, List.setIfInBounds_toArray, List.set_cons_zero, List.set_cons_succ, List.getElem_toArray, List.getElem_cons_zero, List.getElem_cons_succ]
          refine wpAnyL_take (i := 9) (v := .int .i64 (u : Int)) rfl (by kernel_rfl) (by kernel_rfl) (by kernel_rfl) (by kernel_rfl) (fun _ _ _ h => h) (Or.inl ⟨by rfl, ?_⟩) (by assumption) ?_
          · intro w hSw
            try dsimp only at hSw
            go_simp
          simp only [Act.put, List.setIfInBounds_toArray, List.set_cons_zero, List.set_cons_succ, List.getElem_toArray, List.getElem_cons_zero, List.getElem_cons_succ]
          refine wpAnyL_take (i := 10) (v := .pointer (some ⟨b 2, u, none⟩)) rfl (by kernel_rfl) (by kernel_rfl) (by kernel_rfl) (by kernel_rfl) (fun _ _ _ h => h) (Or.inl ⟨by rfl, ?_⟩) (by assumption) ?_
          · intro w hSw
            try dsimp only at hSw
            go_simp
          simp only [Act.put, List.setIfInBounds_toArray, List.set_cons_zero, List.set_cons_succ, List.getElem_toArray, List.getElem_cons_zero, List.getElem_cons_succ]
          refine wpAnyL_take (i := 11) (v := .slice a1 l2 cap1) rfl (by kernel_rfl) (by kernel_rfl) (by kernel_rfl) (by kernel_rfl) (fun _ _ _ h => h) (Or.inl ⟨by rfl, ?_⟩) (by assumption) ?_
          · intro w hSw
            try dsimp only at hSw
            go_simp
          simp only [Act.put, List.setIfInBounds_toArray, List.set_cons_zero, List.set_cons_succ, List.getElem_toArray, List.getElem_cons_zero, List.getElem_cons_succ]
          refine wpAnyL_take (i := 12) (v := .int .i64 (l2 : Int)) rfl (by kernel_rfl) (by kernel_rfl) (by kernel_rfl) (by kernel_rfl) (fun _ _ _ h => h) (Or.inl ⟨by rfl, ?_⟩) (by assumption) ?_
          · intro w hSw
            try dsimp only at hSw
            go_simp
          simp only [Act.put, List.setIfInBounds_toArray, List.set_cons_zero, List.set_cons_succ, List.getElem_toArray, List.getElem_cons_zero, List.getElem_cons_succ]
          refine wpAnyL_one (i := 13) (by kernel_rfl) rfl (fun K hK => ?_)
          go_simp
          refine Calls.mono (newRem_any _ l2 (by omega)) ?_
          rintro e w2 ⟨rfl, hfx, hgr, hsz⟩
          dsimp only
          have TT := hid ((SA3.out.g.drew).turn (r := m + m + n + (m + u)) (by unfold cwN; omega) (l := List.range (l2 + 1)) (own_of_fix (l := List.range (l2 + 1)) hfx (by simp) (fun j hj => by simp) (by have := SA3.out.lt; show _ ≤ W2.heap.size; omega) (by omega)) (gr_weak hgr _) (fun g e => by simp only [Value.ownBlock, Option.some.injEq] at e; subst e; exact .inr (Nat.le_refl _)))
          have hHeld : ((fun (W : World) => W.cell? ⟨w.heap.size + 10, 3, none⟩ = some (.slice (some ⟨b 2, 0, none⟩) m m) ∧ W.cell? ⟨w.heap.size + 10, 5, none⟩ = some (.slice (some ⟨b 4, 0, none⟩) m m) ∧ W.cell? ⟨b 2, u, none⟩ = some (.slice a1 l2 cap1))) w2 := ⟨(SA3.out.g.drew.grownNew hgr).fld 3 _ rfl, (SA3.out.g.drew.grownNew hgr).fld 5 _ rfl, ((SA3.out.g.drew.grownNew hgr).cell (k := 2) (j := u) (by omega) hlt).trans (congrArg some hv1)⟩
          clear hfx hgr hsz
          refine hK.out _ _ (fun _ => hHeld) ?_
          clear hK K
          try simp only [Act.put, List.setIfInBounds_toArray, List.set_cons_zero, List.set_cons_succ, List.getElem_toArray, List.getElem_cons_zero, List.getElem_cons_succ]
          refine wpAnyL_take (i := 14) (v := .pointer (some ⟨b 4, u, none⟩)) rfl (by kernel_rfl) (by kernel_rfl) (by kernel_rfl) (by kernel_rfl) (fun _ _ _ h => h) (Or.inl ⟨by rfl, ?_⟩) (by assumption) ?_
          · intro w hSw
            try dsimp only at hSw
            go_simp
          simp only [Act.put, List.setIfInBounds_toArray, List.set_cons_zero, List.set_cons_succ, List.getElem_toArray, List.getElem_cons_zero, List.getElem_cons_succ]
          refine wpAnyL_one (i := 15) (by kernel_rfl) rfl (fun K hK => ?_)
          have f0 : w2.frozen? ⟨b 4, u, none⟩ = false := TT.out.free (by omega) u
          have f1 := TT.out.cell (k := 4) (j := u) (by omega) hlt
          go_simp
          refine hK.out _ _ (fun h => absurd rfl h) ?_
          clear hK K
          try simp only [Act.put, List.setIfInBounds_toArray, List.set_cons_zero, List.set_cons_succ, List.getElem_toArray, List.getElem_cons_zero, List.getElem_cons_succ]
          refine wpAnyL_done (by kernel_rfl) ?_ _
          have SB := hid (TT.out.setRow (k0 := 4) (j := u) (.inr (.inr (.inr (.inl ⟨rfl, hlt, rfl⟩)))) rfl)
          have HXX := hid (show ∀ r, r < cwN n m → updL X1 (m + m + n + (m + u)) (List.range (l2 + 1)) r = cwX n m A (u + 1) (u + 1) r from cwX_left u hlt X1 _ (by rw [HX1.out, HL1.out]) (by rw [HL2.out]))
          have SC := hid (show CwS _ _ _ _ _ _ _ _ _ _ _ _ _ (cwX n m A (u + 1) (u + 1)) from SB.out.g.congrX HXX.out)
          clear SB TT SA3 hHeld f0 f1
          go_wp2_with fail
          go_roundg (m - (u + 1))
          case measure => omega
          case rel =>
            refine ⟨u + 1, _, by omega, rfl, by go_num, SC.out, fun i hi => ?_⟩
            by_cases e : i = u
            · subst e
              refine ⟨⟨wr.heap.size, ?_⟩, ⟨_, by rw [updL_same, HL2.out]⟩⟩
              rw [updL_other _ (by omega), HV2.out, updL_same, HL1.out]
            · obtain ⟨⟨g1, h1⟩, g2, h2⟩ := LF.out i (by omega)
              refine ⟨⟨g1, ?_⟩, g2, ?_⟩
              · rw [updL_other _ (by omega), HV2.out, updL_other _ (by omega)]; exact h1
              · rw [updL_other _ (by omega), HV2.out, updL_other _ (by omega)]; exact h2
        · obtain rfl : u = m := by omega
          go_wp2_with fail
          go_ret
          exact ⟨rfl, b, v, ST.out, LF.out⟩

end Go.Proofs.YbulkbgasDoor

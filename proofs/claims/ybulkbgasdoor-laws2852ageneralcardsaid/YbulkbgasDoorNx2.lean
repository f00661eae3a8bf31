import Derived.Test.YbulkbgasDoorNx1
namespace Go.Proofs.YbulkbgasDoor
open Go.RowKit Go.Maps
set_option linter.unusedVariables false
set_option linter.unusedSimpArgs false
attribute [local go_sem ↓] Go.wp_at_zero Go.wp_at_succ

set_option maxRecDepth 1000000 in
set_option maxHeartbeats 8000000 in
theorem next_any (w0 w1 : World) (n m Bc capt : Nat) (at_ : Option Addr) (va : Value) (b : Nat → Nat) (A : List Acc) (met : Nat → Bool) (rd wn : Nat → Nat) (v : Nat → Value) (X : Nat → List Nat) (T u : Nat) (hA : A.length ≤ 300) (hn : n ≤ 300) (hm : m ≤ 1000) (hbx : w0.heap[Bc]? = some (.cells #[.slice at_ n capt, .int .i64 (m : Int), va] 63 (0, 0))) (hs : SlX w0 va A) (hsmA : ∀ a ∈ A, a.x < n ∧ a.i < m) (hu : u < n)
    (hC : CwS w0 w1 n m A.length Bc b met (iaF A A.length) (nwF A A.length) rd wn v X) (hW : WkI A n m met rd wn X) (hV : WkV A n m v) (htop : ∀ r, r < cwN n m → ∀ g, (v r).ownBlock = some g → g < T) (hT : T ≤ w1.heap.size) (hTb : w0.heap.size + 11 ≤ T) :
    Calls Ybad.prog 29 #[.pointer (some ⟨w0.heap.size + 10, 0, none⟩), .int .i64 (u : Int)] w1 fun e w' => ∃ met' rd' wn' X' vf F, e = .returned vf ∧ RdI w' (w1.heap.size + 3) vf F ∧ CwS w0 w' n m A.length Bc b met' (iaF A A.length) (nwF A A.length) rd' wn' v X' ∧ WkI A n m met' rd' wn' X' ∧ (∀ x ∈ F, x < n ∧ met x = false ∧ Succ A u x) ∧ (∀ x, met' x = true ↔ met x = true ∨ x ∈ F) ∧ (∀ x, Succ A u x → met' x = true) ∧ F.Nodup ∧ (∀ g, T ≤ g → g < w1.heap.size → w'.heap[g]? = w1.heap[g]?) := by
  obtain ⟨a, cap, rfl, hcap, hel⟩ := hs
  have HSL := hid hel
  have HM := hid hsmA
  have HBX := hid hbx
  have HW0 := hid hW
  have HV := hid hV
  have HTOP := hid htop
  have hBl : Bc < w0.heap.size := (Array.getElem?_eq_some_iff.1 hbx).1
  have ST0 := hid (TkM.begin (u := u) hC htop hT hTb)
  obtain ⟨wB, hwB⟩ : ∃ wB, wB = ((w1.alloc (.cells #[.pointer (some ⟨w0.heap.size + 10, 0, none⟩)] 75)).alloc (.cells #[.int .i64 (u : Int)] 3)).alloc (.cells #[.slice none 0 0] 54) := ⟨_, rfl⟩
  rw [← hwB] at ST0
  have hmf : ∀ (fn : Fn) (first cap : Array Value) (w : World), (Instr.makeFunc fn first cap).run Ybad.prog w = .ok (.func fn first cap) w := fun _ _ _ _ => rfl
  have hui : (u : Int) < (n : Int) := by omega
  have hu0 : (0 : Int) ≤ (u : Int) := by omega
  have hwu : IntKind.i64.wrap ((u : Int) + 1) = (u : Int) + 1 := by rw [IntKind.wrap_i64]; omega
  have hXu : X (m + m + u) = rowBy A u := (hW.st (m + m + u) (by omega)).trans (cwX_by hu)
  obtain ⟨aU, capU, hvU, hleU, -, -⟩ := own_form (hC.fam.own (m + m + u) (by unfold cwN; omega))
  rw [hXu] at hvU
  obtain ⟨lU, hlU⟩ : ∃ lU, (rowBy A u).length = lU := ⟨_, rfl⟩
  rw [hlU] at hvU
  have hlU3 : lU ≤ 300 := by rw [← hlU]; exact Nat.le_trans (rowBy_len A u) hA
  have HVU := hid hvU
  have HLU := hid hlU
  clear hel hsmA hbx hW hV htop hC hXu hleU hlU
  go_enter Ybad.func29, Ybad.ntmps29
  go_upto_region 3 with fail
  simp only [Nat.add_assoc, Nat.reduceAdd]
  rw [← hwB]
  clear hwB
  have c2 := ST0.out.cx
  have c3 := ST0.out.cu
  have c8 : wB.cell? ⟨w0.heap.size + 10, 8, none⟩ = some (.slice (some ⟨b 7, 0, none⟩) n n) := ST0.out.cw.g.fld 8 _ rfl
  have cU : wB.cell? ⟨b 7, u, none⟩ = some (.slice aU lU capU) := (ST0.out.cw.g.cell (k := 7) (j := u) (by omega) hu).trans (congrArg some hvU)
  clear hvU
  go_quiet (fail)
  go_wp2_with fail
  have ST1 := hid (ST0.out.drewN nq)
  clear ST0 c2 c3 c8 cU
  go_loopg [19] lU (fun g0 iv wr => ∃ (k : Nat) (met' : Nat → Bool) (rd' wn' : Nat → Nat) (X' : Nat → List Nat) (vf : Value) (F : List Nat), k ≤ lU ∧ g0 = lU - k ∧ iv = .int .i64 (k : Int) ∧ TkM w0 w1 wr n m A.length Bc b met' (iaF A A.length) (nwF A A.length) rd' wn' v X' T u vf F ∧ WkI A n m met' rd' wn' X' ∧ NxI A n u k met met' F)
  case atStart => exact ⟨0, met, rd, wn, X, _, [], Nat.zero_le _, rfl, rfl, ST1.out, HW0.out, NxI.begin A n u met⟩
  case round =>
    obtain ⟨k, met1, rd1, wn1, X1, vf1, F1, hk, rfl, rfl, hst, hwk, hnx⟩ := hrel
    have ST := hid hst
    have HWK := hid hwk
    have HNX := hid hnx
    clear hst hwk hnx ST1 HW0
    by_cases hlt : k < lU
    · have hki : (k : Int) < (lU : Int) := by omega
      have hk0 : (0 : Int) ≤ (k : Int) := by omega
      have hXu : X1 (m + m + u) = rowBy A u := (HWK.out.st (m + m + u) (by omega)).trans (cwX_by hu)
      have ho := ST.out.cw.fam.own (m + m + u) (by unfold cwN; omega)
      rw [hXu] at ho
      have hltR : k < (rowBy A u).length := by rw [HLU.out]; exact hlt
      obtain ⟨gU, capU', hv1, -, -, -, hcU⟩ := ownI_cell ho hltR
      rw [HVU.out, HLU.out] at hv1
      simp only [Value.slice.injEq] at hv1
      obtain ⟨rfl, -, rfl⟩ := hv1
      obtain ⟨p, hp⟩ : ∃ p, (rowBy A u)[k] = p := ⟨_, rfl⟩
      rw [hp] at hcU
      have hpm := (rowBy_mem (t := u) A p).1 (by rw [← hp]; exact List.getElem_mem _)
      have hpl := hpm.1
      have HP := hid hp
      have HPX := hid hpm.2
      have HLT := hid hltR
      clear hp hpm ho hXu
      have hpi : (p : Int) < (A.length : Int) := by omega
      have hp0 : (0 : Int) ≤ (p : Int) := by omega
      obtain ⟨bA, off, rfl, hbl, c0', c1', c2', c3'⟩ := acc_at HSL.out hpl hpl
      obtain ⟨c, hc⟩ : ∃ c, A[p] = c := ⟨_, rfl⟩
      have hsm := HM.out c (by rw [← hc]; exact List.getElem_mem _)
      rw [hc] at c0' c1' c2' c3'
      have HC := hid (show aA A p = c from (aA_get hpl).trans hc)
      clear hc
      have bel := ST.out.cw.bel
      have c0 : wr.cell? ⟨bA, off + p * 4, none⟩ = some (.int .i64 (c.x : Int)) := (bel.cell (p := ⟨bA, off + p * 4, none⟩) hbl).trans c0'
      have c1 : wr.cell? ⟨bA, off + p * 4 + 1, none⟩ = some (.int .i64 (c.i : Int)) := (bel.cell (p := ⟨bA, off + p * 4 + 1, none⟩) hbl).trans c1'
      have c2 : wr.cell? ⟨bA, off + p * 4 + 2, none⟩ = some (.int .i64 (c.p : Int)) := (bel.cell (p := ⟨bA, off + p * 4 + 2, none⟩) hbl).trans c2'
      have c3 : wr.cell? ⟨bA, off + p * 4 + 3, none⟩ = some (.bool c.w) := (bel.cell (p := ⟨bA, off + p * 4 + 3, none⟩) hbl).trans c3'
      have cb : wr.cell? ⟨Bc, 2, none⟩ = some (.slice (some ⟨bA, off, none⟩) A.length cap) := (bel.cell (p := ⟨Bc, 2, none⟩) hBl).trans (by rw [cell_of_row _ _ _ _ _ _ HBX.out]; rfl)
      clear c0' c1' c2' c3' bel
      have hci : (c.i : Int) < (m : Int) := by omega
      have hci0 : (0 : Int) ≤ (c.i : Int) := by omega
      have d2 := ST.out.cx
      have d3 := ST.out.cu
      have e0 : wr.cell? ⟨w0.heap.size + 10, 0, none⟩ = some (.pointer (some ⟨Bc, 0, none⟩)) := ST.out.cw.g.fld 0 _ rfl
      go_upto_region 7 with fail
      have CP1 := hid (show CwC w0 (wr.alloc (.cells #[.int .i64 (c.x : Int), .int .i64 (c.i : Int), .int .i64 (c.p : Int), .bool c.w] 100)) wr.heap.size c from ⟨heap_alloc_new _ _, by have := ST.out.cw.lt; omega⟩)
      have ST1 := hid (ST.out.alloc (.cells #[.int .i64 (c.x : Int), .int .i64 (c.i : Int), .int .i64 (c.p : Int), .bool c.w] 100))
      obtain ⟨B, hBB⟩ : ∃ B, B = wr.heap.size := ⟨_, rfl⟩
      obtain ⟨W0, hW0⟩ : ∃ W0, W0 = wr.alloc (.cells #[.int .i64 (c.x : Int), .int .i64 (c.i : Int), .int .i64 (c.p : Int), .bool c.w] 100) := ⟨_, rfl⟩
      have HB1 := hid (show B ≠ w1.heap.size + 2 ∧ T ≤ B ∧ vf1.ownBlock ≠ some B from ⟨by have := ST.out.lt; omega, by have := ST.out.lt; have := ST.out.tw; omega, fun e => by have := (ST.out.fr.lt B e).2; omega⟩)
      rw [← hBB, ← hW0] at CP1
      rw [← hW0] at ST1
      rw [← hBB, ← hW0]
      clear hBB hW0 c0 c1 c2 c3 cb ST d2 d3 e0 hcU
      have d2 := ST1.out.cx
      have d3 := ST1.out.cu
      have cc1 := CP1.out.c1
      have cc3 := CP1.out.c3
      obtain ⟨cw, hcw⟩ : ∃ cw, c.w = cw := ⟨_, rfl⟩
      rw [hcw] at cc3
      have HCW := hid hcw
      clear hcw
      cases cw with
      | true =>
        have e10 : W0.cell? ⟨w0.heap.size + 10, 10, none⟩ = some (.slice (some ⟨b 9, 0, none⟩) m m) := ST1.out.cw.g.fld 10 _ rfl
        have ew : W0.cell? ⟨b 9, c.i, none⟩ = some (.int .i64 (wn1 c.i : Int)) := ST1.out.cw.g.cell (k := 9) (j := c.i) (by omega) hsm.2
        obtain ⟨z, hz⟩ : ∃ z, wn1 c.i = z := ⟨_, rfl⟩
        rw [hz] at ew
        by_cases hzu : z = u + 1
        · have hb1 : ((z : Int) != (u : Int) + 1) = false := by simp; omega
          have HD := hid (HWK.out.dw c.i u hsm.2 (hz.trans hzu) p hpl HPX.out (by rw [HC.out]) (by rw [HC.out]; exact HCW.out))
          clear hz
          go_quiet (fail)
          go_upto_region 10 with fail
          go_quiet (fail)
          go_wp2_with fail
          go_roundg (lU - (k + 1))
          case measure => omega
          case rel => exact ⟨k + 1, met1, rd1, wn1, X1, vf1, F1, by omega, rfl, by go_num, ST1.out.drewN _, HWK.out, HNX.out.skip (fun hk => by rw [HP.out]; exact HD.out)⟩
        · have hb1 : ((z : Int) != (u : Int) + 1) = true := by simp; omega
          clear hz
          go_quiet (fail)
          go_upto_region 8 with fail
          have ST2 := hid (ST1.out.drewN nq)
          have CP2 := hid (show CwC w0 (W0.drewN nq) B c from ⟨CP1.out.cp, CP1.out.ge⟩)
          clear e10 ew d2 d3 cc1 cc3
          refine wp_region_L 9 (S := (fun (W : World) => W.cell? ⟨w1.heap.size, 0, none⟩ = some (.pointer (some ⟨w0.heap.size + 10, 0, none⟩)) ∧ W.cell? ⟨w1.heap.size + 1, 0, none⟩ = some (.int .i64 (u : Int)) ∧ W.cell? ⟨B, 1, none⟩ = some (.int .i64 (c.i : Int)) ∧ W.cell? ⟨w0.heap.size + 10, 10, none⟩ = some (.slice (some ⟨b 9, 0, none⟩) m m))) (by kernel_rfl) ?_
          have hHeld : ((fun (W : World) => W.cell? ⟨w1.heap.size, 0, none⟩ = some (.pointer (some ⟨w0.heap.size + 10, 0, none⟩)) ∧ W.cell? ⟨w1.heap.size + 1, 0, none⟩ = some (.int .i64 (u : Int)) ∧ W.cell? ⟨B, 1, none⟩ = some (.int .i64 (c.i : Int)) ∧ W.cell? ⟨w0.heap.size + 10, 10, none⟩ = some (.slice (some ⟨b 9, 0, none⟩) m m))) _ := ⟨ST2.out.drew.cx, ST2.out.drew.cu, CP2.out.drew.c1, ST2.out.drew.cw.g.fld 10 _ rfl⟩
          refine wpAnyL_take (i := 0) (v := .pointer (some ⟨w0.heap.size + 10, 0, none⟩)) rfl (by kernel_rfl) (by kernel_rfl) (by kernel_rfl) (by kernel_rfl) (fun _ _ _ h => h) (Or.inl ⟨by rfl, ?_⟩) (by assumption) ?_
          · intro w hSw
            try dsimp only at hSw
            go_simp
          simp only [Act.put, List.setIfInBounds_toArray, List.set_cons_zero, List.set_cons_succ, List.getElem_toArray, List.getElem_cons_zero, List.getElem_cons_succ]
          refine wpAnyL_take (i := 1) (v := .pointer (some ⟨w0.heap.size + 10, 0, none⟩)) rfl (by kernel_rfl) (by kernel_rfl) (by kernel_rfl) (by kernel_rfl) (fun _ _ _ h => h) (Or.inl ⟨by rfl, ?_⟩) (by assumption) ?_
          · intro w hSw
            try dsimp only at hSw
            go_simp
          simp only [Act.put, List.setIfInBounds_toArray, List.set_cons_zero, List.set_cons_succ, List.getElem_toArray, List.getElem_cons_zero, List.getElem_cons_succ]
          refine wpAnyL_take (i := 2) (v := .pointer (some ⟨w0.heap.size + 10, 10, none⟩)) rfl (by kernel_rfl) (by kernel_rfl) (by kernel_rfl) (by kernel_rfl) (fun _ _ _ h => h) (Or.inl ⟨by rfl, ?_⟩) (by assumption) ?_
          · intro w hSw
            try dsimp only at hSw
            go_simp
          simp only [Act.put, List.setIfInBounds_toArray, List.set_cons_zero, List.set_cons_succ, List.getElem_toArray, List.getElem_cons_zero, List.getElem_cons_succ]
          refine wpAnyL_take (i := 3) (v := .slice (some ⟨b 9, 0, none⟩) m m) rfl (by kernel_rfl) (by kernel_rfl) (by kernel_rfl) (by kernel_rfl) (fun _ _ _ h => h) (Or.inl ⟨by rfl, ?_⟩) (by assumption) ?_
          · intro w hSw
            try dsimp only at hSw
            go_simp
          simp only [Act.put, List.setIfInBounds_toArray, List.set_cons_zero, List.set_cons_succ, List.getElem_toArray, List.getElem_cons_zero, List.getElem_cons_succ]
          refine wpAnyL_take (i := 4) (v := .pointer (some ⟨B, 1, none⟩)) rfl (by kernel_rfl) (by kernel_rfl) (by kernel_rfl) (by kernel_rfl) (fun _ _ _ h => h) (Or.inl ⟨by rfl, ?_⟩) (by assumption) ?_
          · intro w hSw
            try dsimp only at hSw
            go_simp
          simp only [Act.put, List.setIfInBounds_toArray, List.set_cons_zero, List.set_cons_succ, List.getElem_toArray, List.getElem_cons_zero, List.getElem_cons_succ]
          refine wpAnyL_take (i := 5) (v := .int .i64 (c.i : Int)) rfl (by kernel_rfl) (by kernel_rfl) (by kernel_rfl) (by kernel_rfl) (fun _ _ _ h => h) (Or.inl ⟨by rfl, ?_⟩) (by assumption) ?_
          · intro w hSw
            try dsimp only at hSw
            go_simp
          simp only [Act.put, List.setIfInBounds_toArray, List.set_cons_zero, List.set_cons_succ, List.getElem_toArray, List.getElem_cons_zero, List.getElem_cons_succ]
          refine wpAnyL_take (i := 6) (v := .int .i64 (u : Int)) rfl (by kernel_rfl) (by kernel_rfl) (by kernel_rfl) (by kernel_rfl) (fun _ _ _ h => h) (Or.inl ⟨by rfl, ?_⟩) (by assumption) ?_
          · intro w hSw
            try dsimp only at hSw
            go_simp
          simp only [Act.put, List.setIfInBounds_toArray, List.set_cons_zero, List.set_cons_succ, List.getElem_toArray, List.getElem_cons_zero, List.getElem_cons_succ]
          refine wpAnyL_take (i := 7) (v := .int .i64 ((u : Int) + 1 : Int)) rfl (by kernel_rfl) (by kernel_rfl) (by kernel_rfl) (by kernel_rfl) (fun _ _ _ h => h) (Or.inl ⟨by rfl, ?_⟩) (by assumption) ?_
          · intro w hSw
            try dsimp only at hSw
            go_simp
          simp only [Act.put, List.setIfInBounds_toArray, List.set_cons_zero, List.set_cons_succ, List.getElem_toArray, List.getElem_cons_zero, List.getElem_cons_succ]
          refine wpAnyL_take (i := 8) (v := .pointer (some ⟨b 9, c.i, none⟩)) rfl (by kernel_rfl) (by kernel_rfl) (by kernel_rfl) (by kernel_rfl) (fun _ _ _ h => h) (Or.inl ⟨by rfl, ?_⟩) (by assumption) ?_
          · intro w hSw
            try dsimp only at hSw
            go_simp
          simp only [Act.put, List.setIfInBounds_toArray, List.set_cons_zero, List.set_cons_succ, List.getElem_toArray, List.getElem_cons_zero, List.getElem_cons_succ]
          refine wpAnyL_one (i := 9) (by kernel_rfl) rfl (fun K hK => ?_)
          have f0 : W0.frozen? ⟨b 9, c.i, none⟩ = false := ST1.out.cw.g.free (by omega) c.i
          have f1 := ST1.out.cw.g.cell (k := 9) (j := c.i) (by omega) hsm.2
          go_simp
          refine hK.out _ _ (fun h => absurd rfl h) ?_
          clear hK K
          try simp only [Act.put, List.setIfInBounds_toArray, List.set_cons_zero, List.set_cons_succ, List.getElem_toArray, List.getElem_cons_zero, List.getElem_cons_succ]
          refine wpAnyL_done (by kernel_rfl) ?_ _
          have ST3 := hid ((ST1.out.drewN (nq + 1)).setWn hsm.2 (u + 1))
          have CP3 := hid ((show CwC w0 (W0.drewN (nq + 1)) B c from ⟨CP1.out.cp, CP1.out.ge⟩).setCell (g := b 9) (by have := (ST2.out.cw.rng 9 (by omega)).2; omega) c.i (.int .i64 ((u + 1 : Nat) : Int)))
          rw [show ((u + 1 : Nat) : Int) = (u : Int) + 1 from by omega] at ST3 CP3
          obtain ⟨W2, hW2⟩ : ∃ W2, W2 = (W0.drewN (nq + 1)).setCell ⟨b 9, c.i, none⟩ (.int .i64 ((u : Int) + 1)) := ⟨_, rfl⟩
          have HW2 := hid (show W2.heap.size = W0.heap.size by rw [hW2]; simp)
          rw [← hW2] at ST3 CP3
          rw [← hW2]
          clear hW2 f0 f1 hHeld ST2 CP2
          go_upto_region 9 with fail
          obtain ⟨x0, hx0⟩ : ∃ x0, iaF A A.length p = x0 := ⟨_, rfl⟩
          have hx03 : x0 ≤ 300 := by
            rw [← hx0]; unfold iaF; split
            · exact Nat.le_trans (rowAc_len _ _) (Nat.le_trans (List.length_take_le _ _) (by omega))
            · omega
          have hwx : IntKind.i64.wrap ((x0 : Int) + 1) = (x0 : Int) + 1 := by rw [IntKind.wrap_i64]; omega
          have HX0 := hid hx0
          clear hx0
          have HTK := hid (tkW HWK.out HV.out ST3.out.drew hsm.2 hpl HC.out HX0.out hA hn HNX.out.len (fun x hx => HM.out x hx))
          refine wp_region_L 26 (S := (fun (W : World) => W.cell? ⟨w1.heap.size, 0, none⟩ = some (.pointer (some ⟨w0.heap.size + 10, 0, none⟩)) ∧ W.cell? ⟨w1.heap.size + 1, 0, none⟩ = some (.int .i64 (u : Int)) ∧ W.cell? ⟨B, 1, none⟩ = some (.int .i64 (c.i : Int)) ∧ W.cell? ⟨w0.heap.size + 10, 2, none⟩ = some (.slice (some ⟨b 1, 0, none⟩) m m) ∧ W.cell? ⟨w0.heap.size + 10, 4, none⟩ = some (.slice (some ⟨b 3, 0, none⟩) m m) ∧ W.cell? ⟨w0.heap.size + 10, 6, none⟩ = some (.slice (some ⟨b 5, 0, none⟩) A.length A.length) ∧ W.cell? ⟨b 1, c.i, none⟩ = some (v (c.i)) ∧ W.cell? ⟨b 3, c.i, none⟩ = some (v (m + m + n + c.i)) ∧ W.cell? ⟨b 5, p, none⟩ = some (.int .i64 (x0 : Int)))) (by kernel_rfl) ?_
          have hHeld : ((fun (W : World) => W.cell? ⟨w1.heap.size, 0, none⟩ = some (.pointer (some ⟨w0.heap.size + 10, 0, none⟩)) ∧ W.cell? ⟨w1.heap.size + 1, 0, none⟩ = some (.int .i64 (u : Int)) ∧ W.cell? ⟨B, 1, none⟩ = some (.int .i64 (c.i : Int)) ∧ W.cell? ⟨w0.heap.size + 10, 2, none⟩ = some (.slice (some ⟨b 1, 0, none⟩) m m) ∧ W.cell? ⟨w0.heap.size + 10, 4, none⟩ = some (.slice (some ⟨b 3, 0, none⟩) m m) ∧ W.cell? ⟨w0.heap.size + 10, 6, none⟩ = some (.slice (some ⟨b 5, 0, none⟩) A.length A.length) ∧ W.cell? ⟨b 1, c.i, none⟩ = some (v (c.i)) ∧ W.cell? ⟨b 3, c.i, none⟩ = some (v (m + m + n + c.i)) ∧ W.cell? ⟨b 5, p, none⟩ = some (.int .i64 (x0 : Int)))) _ := ⟨ST3.out.drew.cx, ST3.out.drew.cu, CP3.out.drew.c1, ST3.out.drew.cw.g.fld 2 _ rfl, ST3.out.drew.cw.g.fld 4 _ rfl, ST3.out.drew.cw.g.fld 6 _ rfl, ST3.out.drew.cw.g.cell (k := 1) (j := c.i) (by omega) hsm.2, ST3.out.drew.cw.g.cell (k := 3) (j := c.i) (by omega) hsm.2, (ST3.out.drew.cw.g.cell (k := 5) (j := p) (by omega) hpl).trans (by rw [← HX0.out]; rfl)⟩
          refine wpAnyL_take (i := 0) (v := .func (.func 46) #[] #[.pointer (some ⟨w1.heap.size + 1, 0, none⟩), .pointer (some ⟨w1.heap.size, 0, none⟩), .pointer (some ⟨w1.heap.size + 2, 0, none⟩)]) rfl (by kernel_rfl) (by kernel_rfl) (by kernel_rfl) (by kernel_rfl) (fun _ _ _ h => h) (Or.inl ⟨by rfl, ?_⟩) (by assumption) ?_
          · intro w hSw
            try dsimp only at hSw
            go_simp
          simp only [Act.put, List.setIfInBounds_toArray, List.set_cons_zero, List.set_cons_succ, List.getElem_toArray, List.getElem_cons_zero, List.getElem_cons_succ]
          refine wpAnyL_take (i := 1) (v := .pointer (some ⟨w0.heap.size + 10, 0, none⟩)) rfl (by kernel_rfl) (by kernel_rfl) (by kernel_rfl) (by kernel_rfl) (fun _ _ _ h => h) (Or.inl ⟨by rfl, ?_⟩) (by assumption) ?_
          · intro w hSw
            try dsimp only at hSw
            go_simp
          simp only [Act.put, List.setIfInBounds_toArray, List.set_cons_zero, List.set_cons_succ, List.getElem_toArray, List.getElem_cons_zero, List.getElem_cons_succ]
          refine wpAnyL_take (i := 2) (v := .pointer (some ⟨w0.heap.size + 10, 0, none⟩)) rfl (by kernel_rfl) (by kernel_rfl) (by kernel_rfl) (by kernel_rfl) (fun _ _ _ h => h) (Or.inl ⟨by rfl, ?_⟩) (by assumption) ?_
          · intro w hSw
            try dsimp only at hSw
            go_simp
          simp only [Act.put, List.setIfInBounds_toArray, List.set_cons_zero, List.set_cons_succ, List.getElem_toArray, List.getElem_cons_zero, List.getElem_cons_succ]
          refine wpAnyL_take (i := 3) (v := .pointer (some ⟨w0.heap.size + 10, 2, none⟩)) rfl (by kernel_rfl) (by kernel_rfl) (by kernel_rfl) (by kernel_rfl) (fun _ _ _ h => h) (Or.inl ⟨by rfl, ?_⟩) (by assumption) ?_
          · intro w hSw
            try dsimp only at hSw
            go_simp
          simp only [Act.put, List.setIfInBounds_toArray, List.set_cons_zero, List.set_cons_succ, List.getElem_toArray, List.getElem_cons_zero, List.getElem_cons_succ]
          refine wpAnyL_take (i := 4) (v := .slice (some ⟨b 1, 0, none⟩) m m) rfl (by kernel_rfl) (by kernel_rfl) (by kernel_rfl) (by kernel_rfl) (fun _ _ _ h => h) (Or.inl ⟨by rfl, ?_⟩) (by assumption) ?_
          · intro w hSw
            try dsimp only at hSw
            go_simp
          simp only [Act.put, List.setIfInBounds_toArray, List.set_cons_zero, List.set_cons_succ, List.getElem_toArray, List.getElem_cons_zero, List.getElem_cons_succ]
          refine wpAnyL_take (i := 5) (v := .pointer (some ⟨B, 1, none⟩)) rfl (by kernel_rfl) (by kernel_rfl) (by kernel_rfl) (by kernel_rfl) (fun _ _ _ h => h) (Or.inl ⟨by rfl, ?_⟩) (by assumption) ?_
          · intro w hSw
            try dsimp only at hSw
            go_simp
          simp only [Act.put, List.setIfInBounds_toArray, List.set_cons_zero, List.set_cons_succ, List.getElem_toArray, List.getElem_cons_zero, List.getElem_cons_succ]
          refine wpAnyL_take (i := 6) (v := .int .i64 (c.i : Int)) rfl (by kernel_rfl) (by kernel_rfl) (by kernel_rfl) (by kernel_rfl) (fun _ _ _ h => h) (Or.inl ⟨by rfl, ?_⟩) (by assumption) ?_
          · intro w hSw
            try dsimp only at hSw
            go_simp
          simp only [Act.put, List.setIfInBounds_toArray, List.set_cons_zero, List.set_cons_succ, List.getElem_toArray, List.getElem_cons_zero, List.getElem_cons_succ]
          refine wpAnyL_take (i := 7) (v := .pointer (some ⟨b 1, c.i, none⟩)) rfl (by kernel_rfl) (by kernel_rfl) (by kernel_rfl) (by kernel_rfl) (fun _ _ _ h => h) (Or.inl ⟨by rfl, ?_⟩) (by assumption) ?_
          · intro w hSw
            try dsimp only at hSw
            go_simp
          simp only [Act.put, List.setIfInBounds_toArray, List.set_cons_zero, List.set_cons_succ, List.getElem_toArray, List.getElem_cons_zero, List.getElem_cons_succ]
          refine wpAnyL_take (i := 8) (v := v (c.i)) rfl (by kernel_rfl) (by kernel_rfl) (by kernel_rfl) (by kernel_rfl) (fun _ _ _ h => h) (Or.inl ⟨by rfl, ?_⟩) (by assumption) ?_
          · intro w hSw
            try dsimp only at hSw
            go_simp
          simp only [Act.put, List.setIfInBounds_toArray, List.set_cons_zero, List.set_cons_succ, List.getElem_toArray, List.getElem_cons_zero, List.getElem_cons_succ]
          refine wpAnyL_take (i := 9) (v := .pointer (some ⟨w0.heap.size + 10, 0, none⟩)) rfl (by kernel_rfl) (by kernel_rfl) (by kernel_rfl) (by kernel_rfl) (fun _ _ _ h => h) (Or.inl ⟨by rfl, ?_⟩) (by assumption) ?_
          · intro w hSw
            try dsimp only at hSw
            go_simp
          simp only [Act.put, List.setIfInBounds_toArray, List.set_cons_zero, List.set_cons_succ, List.getElem_toArray, List.getElem_cons_zero, List.getElem_cons_succ]
          refine wpAnyL_take (i := 10) (v := .pointer (some ⟨w0.heap.size + 10, 0, none⟩)) rfl (by kernel_rfl) (by kernel_rfl) (by kernel_rfl) (by kernel_rfl) (fun _ _ _ h => h) (Or.inl ⟨by rfl, ?_⟩) (by assumption) ?_
          · intro w hSw
            try dsimp only at hSw
            go_simp
          simp only [Act.put, List.setIfInBounds_toArray, List.set_cons_zero, List.set_cons_succ, List.getElem_toArray, List.getElem_cons_zero, List.getElem_cons_succ]
          refine wpAnyL_take (i := 11) (v := .pointer (some ⟨w0.heap.size + 10, 4, none⟩)) rfl (by kernel_rfl) (by kernel_rfl) (by kernel_rfl) (by kernel_rfl) (fun _ _ _ h => h) (Or.inl ⟨by rfl, ?_⟩) (by assumption) ?_
          · intro w hSw
            try dsimp only at hSw
            go_simp
          simp only [Act.put, List.setIfInBounds_toArray, List.set_cons_zero, List.set_cons_succ, List.getElem_toArray, List.getElem_cons_zero, List.getElem_cons_succ]
          refine wpAnyL_take (i := 12) (v := .slice (some ⟨b 3, 0, none⟩) m m) rfl (by kernel_rfl) (by kernel_rfl) (by kernel_rfl) (by kernel_rfl) (fun _ _ _ h => h) (Or.inl ⟨by rfl, ?_⟩) (by assumption) ?_
          · intro w hSw
            try dsimp only at hSw
            go_simp
          simp only [Act.put, List.setIfInBounds_toArray, List.set_cons_zero, List.set_cons_succ, List.getElem_toArray, List.getElem_cons_zero, List.getElem_cons_succ]
          refine wpAnyL_take (i := 13) (v := .pointer (some ⟨B, 1, none⟩)) rfl (by kernel_rfl) (by kernel_rfl) (by kernel_rfl) (by kernel_rfl) (fun _ _ _ h => h) (Or.inl ⟨by rfl, ?_⟩) (by assumption) ?_
          · intro w hSw
            try dsimp only at hSw
            go_simp
          simp only [Act.put, List.setIfInBounds_toArray, List.set_cons_zero, List.set_cons_succ, List.getElem_toArray, List.getElem_cons_zero, List.getElem_cons_succ]
          refine wpAnyL_take (i := 14) (v := .int .i64 (c.i : Int)) rfl (by kernel_rfl) (by kernel_rfl) (by kernel_rfl) (by kernel_rfl) (fun _ _ _ h => h) (Or.inl ⟨by rfl, ?_⟩) (by assumption) ?_
          · intro w hSw
            try dsimp only at hSw
            go_simp
          simp only [Act.put, List.setIfInBounds_toArray, List.set_cons_zero, List.set_cons_succ, List.getElem_toArray, List.getElem_cons_zero, List.getElem_cons_succ]
          refine wpAnyL_take (i := 15) (v := .pointer (some ⟨b 3, c.i, none⟩)) rfl (by kernel_rfl) (by kernel_rfl) (by kernel_rfl) (by kernel_rfl) (fun _ _ _ h => h) (Or.inl ⟨by rfl, ?_⟩) (by assumption) ?_
          · intro w hSw
            try dsimp only at hSw
            go_simp
          simp only [Act.put, List.setIfInBounds_toArray, List.set_cons_zero, List.set_cons_succ, List.getElem_toArray, List.getElem_cons_zero, List.getElem_cons_succ]
          refine wpAnyL_take (i := 16) (v := v (m + m + n + c.i)) rfl (by kernel_rfl) (by kernel_rfl) (by kernel_rfl) (by kernel_rfl) (fun _ _ _ h => h) (Or.inl ⟨by rfl, ?_⟩) (by assumption) ?_
          · intro w hSw
            try dsimp only at hSw
            go_simp
          simp only [Act.put, List.setIfInBounds_toArray, List.set_cons_zero, List.set_cons_succ, List.getElem_toArray, List.getElem_cons_zero, List.getElem_cons_succ]
          refine wpAnyL_take (i := 17) (v := .pointer (some ⟨w0.heap.size + 10, 0, none⟩)) rfl (by kernel_rfl) (by kernel_rfl) (by kernel_rfl) (by kernel_rfl) (fun _ _ _ h => h) (Or.inl ⟨by rfl, ?_⟩) (by assumption) ?_
          · intro w hSw
            try dsimp only at hSw
            go_simp
          simp only [Act.put, List.setIfInBounds_toArray, List.set_cons_zero, List.set_cons_succ, List.getElem_toArray, List.getElem_cons_zero, List.getElem_cons_succ]
          refine wpAnyL_take (i := 18) (v := .pointer (some ⟨w0.heap.size + 10, 0, none⟩)) rfl (by kernel_rfl) (by kernel_rfl) (by kernel_rfl) (by kernel_rfl) (fun _ _ _ h => h) (Or.inl ⟨by rfl, ?_⟩) (by assumption) ?_
          · intro w hSw
            try dsimp only at hSw
            go_simp
          simp only [Act.put, List.setIfInBounds_toArray, List.set_cons_zero, List.set_cons_succ, List.getElem_toArray, List.getElem_cons_zero, List.getElem_cons_succ]
          refine wpAnyL_take (i := 19) (v := .pointer (some ⟨w0.heap.size + 10, 6, none⟩)) rfl (by kernel_rfl) (by kernel_rfl) (by kernel_rfl) (by kernel_rfl) (fun _ _ _ h => h) (Or.inl ⟨by rfl, ?_⟩) (by assumption) ?_
          · intro w hSw
            try dsimp only at hSw
            go_simp
          simp only [Act.put, List.setIfInBounds_toArray, List.set_cons_zero, List.set_cons_succ, List.getElem_toArray, List.getElem_cons_zero, List.getElem_cons_succ]
          refine wpAnyL_take (i := 20) (v := .slice (some ⟨b 5, 0, none⟩) A.length A.length) rfl (by kernel_rfl) (by kernel_rfl) (by kernel_rfl) (by kernel_rfl) (fun _ _ _ h => h) (Or.inl ⟨by rfl, ?_⟩) (by assumption) ?_
          · intro w hSw
            try dsimp only at hSw
            go_simp
          simp only [Act.put, List.setIfInBounds_toArray, List.set_cons_zero, List.set_cons_succ, List.getElem_toArray, List.getElem_cons_zero, List.getElem_cons_succ]
          refine wpAnyL_take (i := 21) (v := .int .i64 (p : Int)) rfl (by kernel_rfl) (by kernel_rfl) (by kernel_rfl) (by kernel_rfl) (fun _ _ _ h => h) (Or.inl ⟨by rfl, ?_⟩) (by assumption) ?_
          · intro w hSw
            try dsimp only at hSw
            go_simp
          simp only [Act.put, List.setIfInBounds_toArray, List.set_cons_zero, List.set_cons_succ, List.getElem_toArray, List.getElem_cons_zero, List.getElem_cons_succ]
          refine wpAnyL_take (i := 22) (v := .pointer (some ⟨b 5, p, none⟩)) rfl (by kernel_rfl) (by kernel_rfl) (by kernel_rfl) (by kernel_rfl) (fun _ _ _ h => h) (Or.inl ⟨by rfl, ?_⟩) (by assumption) ?_
          · intro w hSw
            try dsimp only at hSw
            go_simp
          simp only [Act.put, List.setIfInBounds_toArray, List.set_cons_zero, List.set_cons_succ, List.getElem_toArray, List.getElem_cons_zero, List.getElem_cons_succ]
          refine wpAnyL_take (i := 23) (v := .int .i64 (x0 : Int)) rfl (by kernel_rfl) (by kernel_rfl) (by kernel_rfl) (by kernel_rfl) (fun _ _ _ h => h) (Or.inl ⟨by rfl, ?_⟩) (by assumption) ?_
          · intro w hSw
            try dsimp only at hSw
            go_simp
          simp only [Act.put, List.setIfInBounds_toArray, List.set_cons_zero, List.set_cons_succ, List.getElem_toArray, List.getElem_cons_zero, List.getElem_cons_succ]
          refine wpAnyL_take (i := 24) (v := .int .i64 ((x0 : Int) + 1 : Int)) rfl (by kernel_rfl) (by kernel_rfl) (by kernel_rfl) (by kernel_rfl) (fun _ _ _ h => h) (Or.inl ⟨by rfl, ?_⟩) (by assumption) ?_
          · intro w hSw
            try dsimp only at hSw
            go_simp
          simp only [Act.put, List.setIfInBounds_toArray, List.set_cons_zero, List.set_cons_succ, List.getElem_toArray, List.getElem_cons_zero, List.getElem_cons_succ]
          refine wpAnyL_one (i := 25) (by kernel_rfl) rfl (fun K hK => ?_)
          go_simp
          refine Calls.mono HTK.out ?_
          rintro e w3 ⟨rfl, met2, vf2, F2, R2, hst3, hti3, hkp3⟩
          dsimp only
          have HS3 := hid hst3
          have HTI := hid hti3
          have HK3 := hid hkp3
          clear hst3 hti3 hkp3
          have HCP4 := hid (CP3.out.drew.kp HK3.out HB1.out.2.1 HB1.out.1 HB1.out.2.2)
          refine hK.out _ _ (fun _ => ⟨HS3.out.cx, HS3.out.cu, HCP4.out.c1, HS3.out.cw.g.fld 2 _ rfl, HS3.out.cw.g.fld 4 _ rfl, HS3.out.cw.g.fld 6 _ rfl, HS3.out.cw.g.cell (k := 1) (j := c.i) (by omega) hsm.2, HS3.out.cw.g.cell (k := 3) (j := c.i) (by omega) hsm.2, (HS3.out.cw.g.cell (k := 5) (j := p) (by omega) hpl).trans (by rw [← HX0.out]; rfl)⟩) ?_
          clear hK K
          try simp only [Act.put, List.setIfInBounds_toArray, List.set_cons_zero, List.set_cons_succ, List.getElem_toArray, List.getElem_cons_zero, List.getElem_cons_succ]
          refine wpAnyL_done (by kernel_rfl) ?_ _
          have HNW := hid (WkI.tookW HWK.out HNX.out HLT.out HP.out (by rw [HC.out]; exact HCW.out) (by rw [HC.out]; exact hsm.2) (by rw [HC.out]; exact HTI.out))
          rw [HC.out] at HNW
          clear hHeld HTK HTI HK3
          have cc3 := HCP4.out.c3
          rw [HCW.out] at cc3
          go_upto_region 10 with fail
          go_quiet (fail)
          go_wp2_with fail
          go_roundg (lU - (k + 1))
          case measure => omega
          case rel => exact ⟨k + 1, met2, rd1, _, _, vf2, F2, by omega, rfl, by go_num, HS3.out.drewN _, HNW.out.1, HNW.out.2⟩
      | false =>
        have e10 : W0.cell? ⟨w0.heap.size + 10, 9, none⟩ = some (.slice (some ⟨b 8, 0, none⟩) m m) := ST1.out.cw.g.fld 9 _ rfl
        have ew : W0.cell? ⟨b 8, c.i, none⟩ = some (.int .i64 (rd1 c.i : Int)) := ST1.out.cw.g.cell (k := 8) (j := c.i) (by omega) hsm.2
        obtain ⟨z, hz⟩ : ∃ z, rd1 c.i = z := ⟨_, rfl⟩
        rw [hz] at ew
        by_cases hzu : z = u + 1
        · have hb1 : ((z : Int) != (u : Int) + 1) = false := by simp; omega
          have HD := hid (HWK.out.dr c.i u hsm.2 (hz.trans hzu) p hpl HPX.out (by rw [HC.out]) (by rw [HC.out]; exact HCW.out))
          clear hz
          go_quiet (fail)
          go_upto_region 10 with fail
          go_quiet (fail)
          go_wp2_with fail
          go_roundg (lU - (k + 1))
          case measure => omega
          case rel => exact ⟨k + 1, met1, rd1, wn1, X1, vf1, F1, by omega, rfl, by go_num, ST1.out.drewN _, HWK.out, HNX.out.skip (fun hk => by rw [HP.out]; exact HD.out)⟩
        · have hb1 : ((z : Int) != (u : Int) + 1) = true := by simp; omega
          clear hz
          go_quiet (fail)
          obtain ⟨q1, hq1⟩ : ∃ q1, q1 = nq := ⟨_, rfl⟩
          rw [← hq1]
          clear hq1
          go_upto_region 10 with fail
          go_quiet (fail)
          go_upto_region 11 with fail
          have ST2 := hid (ST1.out.drewN (q1 + nq))
          have CP2 := hid (show CwC w0 (W0.drewN (q1 + nq)) B c from ⟨CP1.out.cp, CP1.out.ge⟩)
          clear e10 ew d2 d3 cc1 cc3
          refine wp_region_L 9 (S := (fun (W : World) => W.cell? ⟨w1.heap.size, 0, none⟩ = some (.pointer (some ⟨w0.heap.size + 10, 0, none⟩)) ∧ W.cell? ⟨w1.heap.size + 1, 0, none⟩ = some (.int .i64 (u : Int)) ∧ W.cell? ⟨B, 1, none⟩ = some (.int .i64 (c.i : Int)) ∧ W.cell? ⟨w0.heap.size + 10, 9, none⟩ = some (.slice (some ⟨b 8, 0, none⟩) m m))) (by kernel_rfl) ?_
          have hHeld : ((fun (W : World) => W.cell? ⟨w1.heap.size, 0, none⟩ = some (.pointer (some ⟨w0.heap.size + 10, 0, none⟩)) ∧ W.cell? ⟨w1.heap.size + 1, 0, none⟩ = some (.int .i64 (u : Int)) ∧ W.cell? ⟨B, 1, none⟩ = some (.int .i64 (c.i : Int)) ∧ W.cell? ⟨w0.heap.size + 10, 9, none⟩ = some (.slice (some ⟨b 8, 0, none⟩) m m))) _ := ⟨ST2.out.drew.cx, ST2.out.drew.cu, CP2.out.drew.c1, ST2.out.drew.cw.g.fld 9 _ rfl⟩
          refine wpAnyL_take (i := 0) (v := .pointer (some ⟨w0.heap.size + 10, 0, none⟩)) rfl (by kernel_rfl) (by kernel_rfl) (by kernel_rfl) (by kernel_rfl) (fun _ _ _ h => h) (Or.inl ⟨by rfl, ?_⟩) (by assumption) ?_
          · intro w hSw
            try dsimp only at hSw
            go_simp
          simp only [Act.put, List.setIfInBounds_toArray, List.set_cons_zero, List.set_cons_succ, List.getElem_toArray, List.getElem_cons_zero, List.getElem_cons_succ]
          refine wpAnyL_take (i := 1) (v := .pointer (some ⟨w0.heap.size + 10, 0, none⟩)) rfl (by kernel_rfl) (by kernel_rfl) (by kernel_rfl) (by kernel_rfl) (fun _ _ _ h => h) (Or.inl ⟨by rfl, ?_⟩) (by assumption) ?_
          · intro w hSw
            try dsimp only at hSw
            go_simp
          simp only [Act.put, List.setIfInBounds_toArray, List.set_cons_zero, List.set_cons_succ, List.getElem_toArray, List.getElem_cons_zero, List.getElem_cons_succ]
          refine wpAnyL_take (i := 2) (v := .pointer (some ⟨w0.heap.size + 10, 9, none⟩)) rfl (by kernel_rfl) (by kernel_rfl) (by kernel_rfl) (by kernel_rfl) (fun _ _ _ h => h) (Or.inl ⟨by rfl, ?_⟩) (by assumption) ?_
          · intro w hSw
            try dsimp only at hSw
            go_simp
          simp only [Act.put, List.setIfInBounds_toArray, List.set_cons_zero, List.set_cons_succ, List.getElem_toArray, List.getElem_cons_zero, List.getElem_cons_succ]
          refine wpAnyL_take (i := 3) (v := .slice (some ⟨b 8, 0, none⟩) m m) rfl (by kernel_rfl) (by kernel_rfl) (by kernel_rfl) (by kernel_rfl) (fun _ _ _ h => h) (Or.inl ⟨by rfl, ?_⟩) (by assumption) ?_
          · intro w hSw
            try dsimp only at hSw
            go_simp
          simp only [Act.put, List.setIfInBounds_toArray, List.set_cons_zero, List.set_cons_succ, List.getElem_toArray, List.getElem_cons_zero, List.getElem_cons_succ]
          refine wpAnyL_take (i := 4) (v := .pointer (some ⟨B, 1, none⟩)) rfl (by kernel_rfl) (by kernel_rfl) (by kernel_rfl) (by kernel_rfl) (fun _ _ _ h => h) (Or.inl ⟨by rfl, ?_⟩) (by assumption) ?_
          · intro w hSw
            try dsimp only at hSw
            go_simp
          simp only [Act.put, List.setIfInBounds_toArray, List.set_cons_zero, List.set_cons_succ, List.getElem_toArray, List.getElem_cons_zero, List.getElem_cons_succ]
          refine wpAnyL_take (i := 5) (v := .int .i64 (c.i : Int)) rfl (by kernel_rfl) (by kernel_rfl) (by kernel_rfl) (by kernel_rfl) (fun _ _ _ h => h) (Or.inl ⟨by rfl, ?_⟩) (by assumption) ?_
          · intro w hSw
            try dsimp only at hSw
            go_simp
          simp only [Act.put, List.setIfInBounds_toArray, List.set_cons_zero, List.set_cons_succ, List.getElem_toArray, List.getElem_cons_zero, List.getElem_cons_succ]
          refine wpAnyL_take (i := 6) (v := .int .i64 (u : Int)) rfl (by kernel_rfl) (by kernel_rfl) (by kernel_rfl) (by kernel_rfl) (fun _ _ _ h => h) (Or.inl ⟨by rfl, ?_⟩) (by assumption) ?_
          · intro w hSw
            try dsimp only at hSw
            go_simp
          simp only [Act.put, List.setIfInBounds_toArray, List.set_cons_zero, List.set_cons_succ, List.getElem_toArray, List.getElem_cons_zero, List.getElem_cons_succ]
          refine wpAnyL_take (i := 7) (v := .int .i64 ((u : Int) + 1 : Int)) rfl (by kernel_rfl) (by kernel_rfl) (by kernel_rfl) (by kernel_rfl) (fun _ _ _ h => h) (Or.inl ⟨by rfl, ?_⟩) (by assumption) ?_
          · intro w hSw
            try dsimp only at hSw
            go_simp
          simp only [Act.put, List.setIfInBounds_toArray, List.set_cons_zero, List.set_cons_succ, List.getElem_toArray, List.getElem_cons_zero, List.getElem_cons_succ]
          refine wpAnyL_take (i := 8) (v := .pointer (some ⟨b 8, c.i, none⟩)) rfl (by kernel_rfl) (by kernel_rfl) (by kernel_rfl) (by kernel_rfl) (fun _ _ _ h => h) (Or.inl ⟨by rfl, ?_⟩) (by assumption) ?_
          · intro w hSw
            try dsimp only at hSw
            go_simp
          simp only [Act.put, List.setIfInBounds_toArray, List.set_cons_zero, List.set_cons_succ, List.getElem_toArray, List.getElem_cons_zero, List.getElem_cons_succ]
          refine wpAnyL_one (i := 9) (by kernel_rfl) rfl (fun K hK => ?_)
          have f0 : W0.frozen? ⟨b 8, c.i, none⟩ = false := ST1.out.cw.g.free (by omega) c.i
          have f1 := ST1.out.cw.g.cell (k := 8) (j := c.i) (by omega) hsm.2
          go_simp
          refine hK.out _ _ (fun h => absurd rfl h) ?_
          clear hK K
          try simp only [Act.put, List.setIfInBounds_toArray, List.set_cons_zero, List.set_cons_succ, List.getElem_toArray, List.getElem_cons_zero, List.getElem_cons_succ]
          refine wpAnyL_done (by kernel_rfl) ?_ _
          have ST3 := hid ((ST1.out.drewN (q1 + nq + 1)).setRd hsm.2 (u + 1))
          have CP3 := hid ((show CwC w0 (W0.drewN (q1 + nq + 1)) B c from ⟨CP1.out.cp, CP1.out.ge⟩).setCell (g := b 8) (by have := (ST2.out.cw.rng 8 (by omega)).2; omega) c.i (.int .i64 ((u + 1 : Nat) : Int)))
          rw [show ((u + 1 : Nat) : Int) = (u : Int) + 1 from by omega] at ST3 CP3
          obtain ⟨W2, hW2⟩ : ∃ W2, W2 = (W0.drewN (q1 + nq + 1)).setCell ⟨b 8, c.i, none⟩ (.int .i64 ((u : Int) + 1)) := ⟨_, rfl⟩
          have HW2 := hid (show W2.heap.size = W0.heap.size by rw [hW2]; simp)
          rw [← hW2] at ST3 CP3
          rw [← hW2]
          clear hW2 f0 f1 hHeld ST2 CP2
          go_upto_region 12 with fail
          obtain ⟨x0, hx0⟩ : ∃ x0, nwF A A.length p = x0 := ⟨_, rfl⟩
          have HX0 := hid hx0
          clear hx0
          have HTK := hid (tkR HWK.out HV.out ST3.out.drew hsm.2 hpl HC.out HX0.out hA hn HNX.out.len (fun x hx => HM.out x hx))
          refine wp_region_L 25 (S := (fun (W : World) => W.cell? ⟨w1.heap.size, 0, none⟩ = some (.pointer (some ⟨w0.heap.size + 10, 0, none⟩)) ∧ W.cell? ⟨w1.heap.size + 1, 0, none⟩ = some (.int .i64 (u : Int)) ∧ W.cell? ⟨B, 1, none⟩ = some (.int .i64 (c.i : Int)) ∧ W.cell? ⟨w0.heap.size + 10, 3, none⟩ = some (.slice (some ⟨b 2, 0, none⟩) m m) ∧ W.cell? ⟨w0.heap.size + 10, 5, none⟩ = some (.slice (some ⟨b 4, 0, none⟩) m m) ∧ W.cell? ⟨w0.heap.size + 10, 7, none⟩ = some (.slice (some ⟨b 6, 0, none⟩) A.length A.length) ∧ W.cell? ⟨b 2, c.i, none⟩ = some (v (m + c.i)) ∧ W.cell? ⟨b 4, c.i, none⟩ = some (v (m + m + n + (m + c.i))) ∧ W.cell? ⟨b 6, p, none⟩ = some (.int .i64 (x0 : Int)))) (by kernel_rfl) ?_
          have hHeld : ((fun (W : World) => W.cell? ⟨w1.heap.size, 0, none⟩ = some (.pointer (some ⟨w0.heap.size + 10, 0, none⟩)) ∧ W.cell? ⟨w1.heap.size + 1, 0, none⟩ = some (.int .i64 (u : Int)) ∧ W.cell? ⟨B, 1, none⟩ = some (.int .i64 (c.i : Int)) ∧ W.cell? ⟨w0.heap.size + 10, 3, none⟩ = some (.slice (some ⟨b 2, 0, none⟩) m m) ∧ W.cell? ⟨w0.heap.size + 10, 5, none⟩ = some (.slice (some ⟨b 4, 0, none⟩) m m) ∧ W.cell? ⟨w0.heap.size + 10, 7, none⟩ = some (.slice (some ⟨b 6, 0, none⟩) A.length A.length) ∧ W.cell? ⟨b 2, c.i, none⟩ = some (v (m + c.i)) ∧ W.cell? ⟨b 4, c.i, none⟩ = some (v (m + m + n + (m + c.i))) ∧ W.cell? ⟨b 6, p, none⟩ = some (.int .i64 (x0 : Int)))) _ := ⟨ST3.out.drew.cx, ST3.out.drew.cu, CP3.out.drew.c1, ST3.out.drew.cw.g.fld 3 _ rfl, ST3.out.drew.cw.g.fld 5 _ rfl, ST3.out.drew.cw.g.fld 7 _ rfl, ST3.out.drew.cw.g.cell (k := 2) (j := c.i) (by omega) hsm.2, ST3.out.drew.cw.g.cell (k := 4) (j := c.i) (by omega) hsm.2, (ST3.out.drew.cw.g.cell (k := 6) (j := p) (by omega) hpl).trans (by rw [← HX0.out]; rfl)⟩
          refine wpAnyL_take (i := 0) (v := .func (.func 46) #[] #[.pointer (some ⟨w1.heap.size + 1, 0, none⟩), .pointer (some ⟨w1.heap.size, 0, none⟩), .pointer (some ⟨w1.heap.size + 2, 0, none⟩)]) rfl (by kernel_rfl) (by kernel_rfl) (by kernel_rfl) (by kernel_rfl) (fun _ _ _ h => h) (Or.inl ⟨by rfl, ?_⟩) (by assumption) ?_
          · intro w hSw
            try dsimp only at hSw
            go_simp
          simp only [Act.put, List.setIfInBounds_toArray, List.set_cons_zero, List.set_cons_succ, List.getElem_toArray, List.getElem_cons_zero, List.getElem_cons_succ]
          refine wpAnyL_take (i := 1) (v := .pointer (some ⟨w0.heap.size + 10, 0, none⟩)) rfl (by kernel_rfl) (by kernel_rfl) (by kernel_rfl) (by kernel_rfl) (fun _ _ _ h => h) (Or.inl ⟨by rfl, ?_⟩) (by assumption) ?_
          · intro w hSw
            try dsimp only at hSw
            go_simp
          simp only [Act.put, List.setIfInBounds_toArray, List.set_cons_zero, List.set_cons_succ, List.getElem_toArray, List.getElem_cons_zero, List.getElem_cons_succ]
          refine wpAnyL_take (i := 2) (v := .pointer (some ⟨w0.heap.size + 10, 0, none⟩)) rfl (by kernel_rfl) (by kernel_rfl) (by kernel_rfl) (by kernel_rfl) (fun _ _ _ h => h) (Or.inl ⟨by rfl, ?_⟩) (by assumption) ?_
          · intro w hSw
            try dsimp only at hSw
            go_simp
          simp only [Act.put, List.setIfInBounds_toArray, List.set_cons_zero, List.set_cons_succ, List.getElem_toArray, List.getElem_cons_zero, List.getElem_cons_succ]
          refine wpAnyL_take (i := 3) (v := .pointer (some ⟨w0.heap.size + 10, 3, none⟩)) rfl (by kernel_rfl) (by kernel_rfl) (by kernel_rfl) (by kernel_rfl) (fun _ _ _ h => h) (Or.inl ⟨by rfl, ?_⟩) (by assumption) ?_
          · intro w hSw
            try dsimp only at hSw
            go_simp
          simp only [Act.put, List.setIfInBounds_toArray, List.set_cons_zero, List.set_cons_succ, List.getElem_toArray, List.getElem_cons_zero, List.getElem_cons_succ]
          refine wpAnyL_take (i := 4) (v := .slice (some ⟨b 2, 0, none⟩) m m) rfl (by kernel_rfl) (by kernel_rfl) (by kernel_rfl) (by kernel_rfl) (fun _ _ _ h => h) (Or.inl ⟨by rfl, ?_⟩) (by assumption) ?_
          · intro w hSw
            try dsimp only at hSw
            go_simp
          simp only [Act.put, List.setIfInBounds_toArray, List.set_cons_zero, List.set_cons_succ, List.getElem_toArray, List.getElem_cons_zero, List.getElem_cons_succ]
          refine wpAnyL_take (i := 5) (v := .pointer (some ⟨B, 1, none⟩)) rfl (by kernel_rfl) (by kernel_rfl) (by kernel_rfl) (by kernel_rfl) (fun _ _ _ h => h) (Or.inl ⟨by rfl, ?_⟩) (by assumption) ?_
          · intro w hSw
            try dsimp only at hSw
            go_simp
          simp only [Act.put, List.setIfInBounds_toArray, List.set_cons_zero, List.set_cons_succ, List.getElem_toArray, List.getElem_cons_zero, List.getElem_cons_succ]
          refine wpAnyL_take (i := 6) (v := .int .i64 (c.i : Int)) rfl (by kernel_rfl) (by kernel_rfl) (by kernel_rfl) (by kernel_rfl) (fun _ _ _ h => h) (Or.inl ⟨by rfl, ?_⟩) (by assumption) ?_
          · intro w hSw
            try dsimp only at hSw
            go_simp
          simp only [Act.put, List.setIfInBounds_toArray, List.set_cons_zero, List.set_cons_succ, List.getElem_toArray, List.getElem_cons_zero, List.getElem_cons_succ]
          refine wpAnyL_take (i := 7) (v := .pointer (some ⟨b 2, c.i, none⟩)) rfl (by kernel_rfl) (by kernel_rfl) (by kernel_rfl) (by kernel_rfl) (fun _ _ _ h => h) (Or.inl ⟨by rfl, ?_⟩) (by assumption) ?_
          · intro w hSw
            try dsimp only at hSw
            go_simp
          simp only [Act.put, List.setIfInBounds_toArray, List.set_cons_zero, List.set_cons_succ, List.getElem_toArray, List.getElem_cons_zero, List.getElem_cons_succ]
          refine wpAnyL_take (i := 8) (v := v (m + c.i)) rfl (by kernel_rfl) (by kernel_rfl) (by kernel_rfl) (by kernel_rfl) (fun _ _ _ h => h) (Or.inl ⟨by rfl, ?_⟩) (by assumption) ?_
          · intro w hSw
            try dsimp only at hSw
            go_simp
          simp only [Act.put, List.setIfInBounds_toArray, List.set_cons_zero, List.set_cons_succ, List.getElem_toArray, List.getElem_cons_zero, List.getElem_cons_succ]
          refine wpAnyL_take (i := 9) (v := .pointer (some ⟨w0.heap.size + 10, 0, none⟩)) rfl (by kernel_rfl) (by kernel_rfl) (by kernel_rfl) (by kernel_rfl) (fun _ _ _ h => h) (Or.inl ⟨by rfl, ?_⟩) (by assumption) ?_
          · intro w hSw
            try dsimp only at hSw
            go_simp
          simp only [Act.put, List.setIfInBounds_toArray, List.set_cons_zero, List.set_cons_succ, List.getElem_toArray, List.getElem_cons_zero, List.getElem_cons_succ]
          refine wpAnyL_take (i := 10) (v := .pointer (some ⟨w0.heap.size + 10, 0, none⟩)) rfl (by kernel_rfl) (by kernel_rfl) (by kernel_rfl) (by kernel_rfl) (fun _ _ _ h => h) (Or.inl ⟨by rfl, ?_⟩) (by assumption) ?_
          · intro w hSw
            try dsimp only at hSw
            go_simp
          simp only [Act.put, List.setIfInBounds_toArray, List.set_cons_zero, List.set_cons_succ, List.getElem_toArray, List.getElem_cons_zero, List.getElem_cons_succ]
          refine wpAnyL_take (i := 11) (v := .pointer (some ⟨w0.heap.size + 10, 5, none⟩)) rfl (by kernel_rfl) (by kernel_rfl) (by kernel_rfl) (by kernel_rfl) (fun _ _ _ h => h) (Or.inl ⟨by rfl, ?_⟩) (by assumption) ?_
          · intro w hSw
            try dsimp only at hSw
            go_simp
          simp only [Act.put, List.setIfInBounds_toArray, List.set_cons_zero, List.set_cons_succ, List.getElem_toArray, List.getElem_cons_zero, List.getElem_cons_succ]
          refine wpAnyL_take (i := 12) (v := .slice (some ⟨b 4, 0, none⟩) m m) rfl (by kernel_rfl) (by kernel_rfl) (by kernel_rfl) (by kernel_rfl) (fun _ _ _ h => h) (Or.inl ⟨by rfl, ?_⟩) (by assumption) ?_
          · intro w hSw
            try dsimp only at hSw
            go_simp
          simp only [Act.put, List.setIfInBounds_toArray, List.set_cons_zero, List.set_cons_succ, List.getElem_toArray, List.getElem_cons_zero, List.getElem_cons_succ]
          refine wpAnyL_take (i := 13) (v := .pointer (some ⟨B, 1, none⟩)) rfl (by kernel_rfl) (by kernel_rfl) (by kernel_rfl) (by kernel_rfl) (fun _ _ _ h => h) (Or.inl ⟨by rfl, ?_⟩) (by assumption) ?_
          · intro w hSw
            try dsimp only at hSw
            go_simp
          simp only [Act.put, List.setIfInBounds_toArray, List.set_cons_zero, List.set_cons_succ, List.getElem_toArray, List.getElem_cons_zero, List.getElem_cons_succ]
          refine wpAnyL_take (i := 14) (v := .int .i64 (c.i : Int)) rfl (by kernel_rfl) (by kernel_rfl) (by kernel_rfl) (by kernel_rfl) (fun _ _ _ h => h) (Or.inl ⟨by rfl, ?_⟩) (by assumption) ?_
          · intro w hSw
            try dsimp only at hSw
            go_simp
          simp only [Act.put, List.setIfInBounds_toArray, List.set_cons_zero, List.set_cons_succ, List.getElem_toArray, List.getElem_cons_zero, List.getElem_cons_succ]
          refine wpAnyL_take (i := 15) (v := .pointer (some ⟨b 4, c.i, none⟩)) rfl (by kernel_rfl) (by kernel_rfl) (by kernel_rfl) (by kernel_rfl) (fun _ _ _ h => h) (Or.inl ⟨by rfl, ?_⟩) (by assumption) ?_
          · intro w hSw
            try dsimp only at hSw
            go_simp
          simp only [Act.put, List.setIfInBounds_toArray, List.set_cons_zero, List.set_cons_succ, List.getElem_toArray, List.getElem_cons_zero, List.getElem_cons_succ]
          refine wpAnyL_take (i := 16) (v := v (m + m + n + (m + c.i))) rfl (by kernel_rfl) (by kernel_rfl) (by kernel_rfl) (by kernel_rfl) (fun _ _ _ h => h) (Or.inl ⟨by rfl, ?_⟩) (by assumption) ?_
          · intro w hSw
            try dsimp only at hSw
            go_simp
          simp only [Act.put, List.setIfInBounds_toArray, List.set_cons_zero, List.set_cons_succ, List.getElem_toArray, List.getElem_cons_zero, List.getElem_cons_succ]
          refine wpAnyL_take (i := 17) (v := .pointer (some ⟨w0.heap.size + 10, 0, none⟩)) rfl (by kernel_rfl) (by kernel_rfl) (by kernel_rfl) (by kernel_rfl) (fun _ _ _ h => h) (Or.inl ⟨by rfl, ?_⟩) (by assumption) ?_
          · intro w hSw
            try dsimp only at hSw
            go_simp
          simp only [Act.put, List.setIfInBounds_toArray, List.set_cons_zero, List.set_cons_succ, List.getElem_toArray, List.getElem_cons_zero, List.getElem_cons_succ]
          refine wpAnyL_take (i := 18) (v := .pointer (some ⟨w0.heap.size + 10, 0, none⟩)) rfl (by kernel_rfl) (by kernel_rfl) (by kernel_rfl) (by kernel_rfl) (fun _ _ _ h => h) (Or.inl ⟨by rfl, ?_⟩) (by assumption) ?_
          · intro w hSw
            try dsimp only at hSw
            go_simp
          simp only [Act.put, List.setIfInBounds_toArray, List.set_cons_zero, List.set_cons_succ, List.getElem_toArray, List.getElem_cons_zero, List.getElem_cons_succ]
          refine wpAnyL_take (i := 19) (v := .pointer (some ⟨w0.heap.size + 10, 7, none⟩)) rfl (by kernel_rfl) (by kernel_rfl) (by kernel_rfl) (by kernel_rfl) (fun _ _ _ h => h) (Or.inl ⟨by rfl, ?_⟩) (by assumption) ?_
          · intro w hSw
            try dsimp only at hSw
            go_simp
          simp only [Act.put, List.setIfInBounds_toArray, List.set_cons_zero, List.set_cons_succ, List.getElem_toArray, List.getElem_cons_zero, List.getElem_cons_succ]
          refine wpAnyL_take (i := 20) (v := .slice (some ⟨b 6, 0, none⟩) A.length A.length) rfl (by kernel_rfl) (by kernel_rfl) (by kernel_rfl) (by kernel_rfl) (fun _ _ _ h => h) (Or.inl ⟨by rfl, ?_⟩) (by assumption) ?_
          · intro w hSw
            try dsimp only at hSw
            go_simp
          simp only [Act.put, List.setIfInBounds_toArray, List.set_cons_zero, List.set_cons_succ, List.getElem_toArray, List.getElem_cons_zero, List.getElem_cons_succ]
          refine wpAnyL_take (i := 21) (v := .int .i64 (p : Int)) rfl (by kernel_rfl) (by kernel_rfl) (by kernel_rfl) (by kernel_rfl) (fun _ _ _ h => h) (Or.inl ⟨by rfl, ?_⟩) (by assumption) ?_
          · intro w hSw
            try dsimp only at hSw
            go_simp
          simp only [Act.put, List.setIfInBounds_toArray, List.set_cons_zero, List.set_cons_succ, List.getElem_toArray, List.getElem_cons_zero, List.getElem_cons_succ]
          refine wpAnyL_take (i := 22) (v := .pointer (some ⟨b 6, p, none⟩)) rfl (by kernel_rfl) (by kernel_rfl) (by kernel_rfl) (by kernel_rfl) (fun _ _ _ h => h) (Or.inl ⟨by rfl, ?_⟩) (by assumption) ?_
          · intro w hSw
            try dsimp only at hSw
            go_simp
          simp only [Act.put, List.setIfInBounds_toArray, List.set_cons_zero, List.set_cons_succ, List.getElem_toArray, List.getElem_cons_zero, List.getElem_cons_succ]
          refine wpAnyL_take (i := 23) (v := .int .i64 (x0 : Int)) rfl (by kernel_rfl) (by kernel_rfl) (by kernel_rfl) (by kernel_rfl) (fun _ _ _ h => h) (Or.inl ⟨by rfl, ?_⟩) (by assumption) ?_
          · intro w hSw
            try dsimp only at hSw
            go_simp
          simp only [Act.put, List.setIfInBounds_toArray, List.set_cons_zero, List.set_cons_succ, List.getElem_toArray, List.getElem_cons_zero, List.getElem_cons_succ]
          refine wpAnyL_one (i := 24) (by kernel_rfl) rfl (fun K hK => ?_)
          go_simp
          refine Calls.mono HTK.out ?_
          rintro e w3 ⟨rfl, met2, vf2, F2, R2, hst3, hti3, hkp3⟩
          dsimp only
          have HS3 := hid hst3
          have HTI := hid hti3
          have HK3 := hid hkp3
          clear hst3 hti3 hkp3
          have HCP4 := hid (CP3.out.drew.kp HK3.out HB1.out.2.1 HB1.out.1 HB1.out.2.2)
          refine hK.out _ _ (fun _ => ⟨HS3.out.cx, HS3.out.cu, HCP4.out.c1, HS3.out.cw.g.fld 3 _ rfl, HS3.out.cw.g.fld 5 _ rfl, HS3.out.cw.g.fld 7 _ rfl, HS3.out.cw.g.cell (k := 2) (j := c.i) (by omega) hsm.2, HS3.out.cw.g.cell (k := 4) (j := c.i) (by omega) hsm.2, (HS3.out.cw.g.cell (k := 6) (j := p) (by omega) hpl).trans (by rw [← HX0.out]; rfl)⟩) ?_
          clear hK K
          try simp only [Act.put, List.setIfInBounds_toArray, List.set_cons_zero, List.set_cons_succ, List.getElem_toArray, List.getElem_cons_zero, List.getElem_cons_succ]
          refine wpAnyL_done (by kernel_rfl) ?_ _
          have HNW := hid (WkI.tookR HWK.out HNX.out HLT.out HP.out (by rw [HC.out]; exact HCW.out) (by rw [HC.out]; exact hsm.2) (by rw [HC.out]; exact HTI.out))
          rw [HC.out] at HNW
          clear hHeld HTK HTI HK3
          go_wp2_with fail
          go_roundg (lU - (k + 1))
          case measure => omega
          case rel => exact ⟨k + 1, met2, _, wn1, _, vf2, F2, by omega, rfl, by go_num, HS3.out, HNW.out.1, HNW.out.2⟩
    · obtain rfl : k = lU := by omega
      have cf := ST.out.cf
      have HSN := hid (sortN_any wr (w1.heap.size + 3) vf1 F1 ST.out.fr (by have := HNX.out.len; omega))
      go_wp2_with (go_at_call 49; refine Calls.mono HSN.out ?_; rintro e w2 ⟨rfl, F2, hperm, hrd, hg⟩; obtain ⟨cf2, HC, HKp⟩ := ST.out.sorted hg; have HRD := hid hrd; have HPE := hid hperm; clear hg hrd hperm; dsimp only)
      go_ret
      refine ⟨met1, rd1, wn1, X1, vf1, F2, rfl, HRD.out, HC.out, HWK.out, fun x hx => HNX.out.so x (HPE.out.mem_iff.1 hx), fun x => (HNX.out.mt x).trans (by rw [HPE.out.mem_iff]), NxI.all (by have := HNX.out; rw [← HLU.out] at this; exact this), HPE.out.nodup_iff.2 HNX.out.nd, HKp.out⟩

end Go.Proofs.YbulkbgasDoor

import Derived.Test.YbulkbgasDoorTa4
namespace Go.Proofs.YbulkbgasDoor
open Go.RowKit Go.Maps
set_option linter.unusedVariables false
attribute [local go_sem ↓] Go.wp_at_zero Go.wp_at_succ

noncomputable def tail43 (r : Nat) : Code := (Ybad.f43.body.bind (fromRegion r)).getD .skip

/-- An owned row, cut short. -/
theorem own_short {w : World} {base e k g n cap m : Nat} {xs : List Value} (h : w.ownsRow base e k (.slice (some ⟨g, 0, none⟩) n cap) n xs) (hm : m ≤ n) : w.ownsRow base e k (.slice (some ⟨g, 0, none⟩) m cap) m (xs.take (m * k)) := by
  have hl := h.1
  have hmk : m * k ≤ n * k := Nat.mul_le_mul_right _ hm
  refine ⟨by rw [List.length_take]; omega, ?_⟩
  rcases h.2 with ⟨h1, _⟩ | ⟨g', cap', cur, h1, h2, h3, h4, h5, h6, h7⟩
  · cases h1
  · simp only [Value.slice.injEq, Option.some.injEq, Addr.mk.injEq, and_true, true_and] at h1
    obtain ⟨rfl, rfl⟩ := h1
    refine .inr ⟨g, cap, cur, rfl, h2, h3, by omega, h5, h6, ?_⟩
    rw [← h7, List.take_take, Nat.min_eq_left hmk]
theorem rowI_take (l : List Nat) (m : Nat) : (rowI l).take (m * 1) = rowI (l.take m) := by
  rw [Nat.mul_one]; unfold rowI; rw [List.map_take]
theorem rowP_take (p : List (Nat × Nat)) (x : Nat × Nat) : (rowP (p ++ [x])).take (p.length * 2) = rowP p := by
  rw [rowP_snoc, List.take_append_of_le_length (by rw [rowP_length]; exact Nat.le_refl _), List.take_of_length_le (by rw [rowP_length]; exact Nat.le_refl _)]

/-- The ten blocks while a component is closed: U has been done. -/
def taU (n N : Nat) (s : Tar) (vC vP : Value) (U : List Nat) (b : Bool) : Nat → Nat → Value := fun k j => match k with
  | 0 => .bool (if j ∈ U then b else s.on j)
  | 6 => .bool (decide (j ∈ s.comp ∧ j ∉ U))
  | k => TaV n N s vC vP k j

set_option maxRecDepth 1000000 in
set_option maxHeartbeats 4000000 in
theorem ta_close (n : Nat) (w0 wr : World) (s : Tar) (vC vP : Value) (pre seg : List Nat) (v : Nat) (hn : n ≤ 1000) (hlen : s.comp.length ≤ 1000) (HS : Hid (TaS n w0 wr s vC vP)) (HC : Hid (s.comp = pre ++ v :: seg)) (HND : Hid (s.comp.Nodup)) (HLT : Hid (∀ x ∈ s.comp, x < n))
    (Q : Exit → Act → World → Prop) (c0 c1 c2 c3 c5 c6 c9 c10 c11 c12 c13 c15 c16 c17 c18 c19 c20 c21 c22 c23 c24 c25 c26 c27 c28 c29 c30 c31 c32 c33 c34 c35 c36 c37 c38 c39 c40 c41 c42 c43 c44 c45 c46 c47 c48 c49 c50 c51 c52 c53 c54 c55 c56 c57 c58 c59 c60 c61 c62 c63 c64 c65 c66 c67 c68 c69 c70 c71 c72 c73 c74 c75 c76 c77 c78 c79 c80 c81 c82 c83 c84 c85 c86 c87 c88 c89 c90 c91 c92 c93 c94 c95 c96 c97 c98 c99 c100 c101 c102 c103 c104 c105 c106 c107 c108 c109 c110 c111 c112 c113 c114 c115 c116 c117 c118 c119 c120 c121 c122 c123 c124 c125 c126 c127 c128 c129 c130 c131 c132 c133 c134 c135 c136 c137 c138 c139 c140 c141 c142 c143 c144 c145 c146 c147 c148 c149 c150 c151 c152 c153 c154 c155 c156 c157 c158 c159 c160 c161 c162 c163 c164 c165 c166 c167 c168 c169 c170 c171 c172 c173 c174 c175 c176 c177 : Value)
    (hq : ∀ (u17 u19 u142 u143 u144 u145 u146 u147 u148 u149 u150 u151 u152 u153 u154 u155 u156 u157 u158 u159 u160 u161 u162 u163 u164 u165 u166 u167 u168 u169 u170 u171 u172 u173 u174 u175 : Value) (wi : World), (∃ vC2, TaS n w0 wi { s with comp := pre, on := fun x => if x = v ∨ x ∈ seg then decide (seg ≠ []) else s.on x } vC2 vP) → Q .normal ⟨#[c0, c1, c2, c3, .slice (some ⟨w0.heap.size, 0, none⟩) n n, c5, c6, .pointer (some ⟨w0.heap.size + 5, 0, none⟩), .pointer (some ⟨w0.heap.size + 7, 0, none⟩), c9, c10, c11, c12, c13, .int .i64 (v : Int), c15, c16, u17, c18, u19, c20, c21, c22, c23, c24, c25, c26, c27, c28, c29, c30, c31, c32, c33, c34, c35, c36, c37, c38, c39, c40, c41, c42, c43, c44, c45, c46, c47, c48, c49, c50, c51, c52, c53, c54, c55, c56, c57, c58, c59, c60, c61, c62, c63, c64, c65, c66, c67, c68, c69, c70, c71, c72, c73, c74, c75, c76, c77, c78, c79, c80, c81, c82, c83, c84, c85, c86, c87, c88, c89, c90, c91, c92, c93, c94, c95, c96, c97, c98, c99, c100, c101, c102, c103, c104, c105, c106, c107, c108, c109, c110, c111, c112, c113, c114, c115, c116, c117, c118, c119, c120, c121, c122, c123, c124, c125, c126, c127, c128, c129, c130, c131, c132, c133, c134, c135, c136, c137, c138, c139, c140, c141, u142, u143, u144, u145, u146, u147, u148, u149, u150, u151, u152, u153, u154, u155, u156, u157, u158, u159, u160, u161, u162, u163, u164, u165, u166, u167, u168, u169, u170, u171, u172, u173, u174, u175, c176, c177], []⟩ wi) :
    Code.wp Ybad.prog (tail43 30) Q ⟨#[c0, c1, c2, c3, .slice (some ⟨w0.heap.size, 0, none⟩) n n, c5, c6, .pointer (some ⟨w0.heap.size + 5, 0, none⟩), .pointer (some ⟨w0.heap.size + 7, 0, none⟩), c9, c10, c11, c12, c13, .int .i64 (v : Int), c15, c16, c17, c18, c19, c20, c21, c22, c23, c24, c25, c26, c27, c28, c29, c30, c31, c32, c33, c34, c35, c36, c37, c38, c39, c40, c41, c42, c43, c44, c45, c46, c47, c48, c49, c50, c51, c52, c53, c54, c55, c56, c57, c58, c59, c60, c61, c62, c63, c64, c65, c66, c67, c68, c69, c70, c71, c72, c73, c74, c75, c76, c77, c78, c79, c80, c81, c82, c83, c84, c85, c86, c87, c88, c89, c90, c91, c92, c93, c94, c95, c96, c97, c98, c99, c100, c101, c102, c103, c104, c105, c106, c107, c108, c109, c110, c111, c112, c113, c114, c115, c116, c117, c118, c119, c120, c121, c122, c123, c124, c125, c126, c127, c128, c129, c130, c131, c132, c133, c134, c135, c136, c137, c138, c139, c140, c141, c142, c143, c144, c145, c146, c147, c148, c149, c150, c151, c152, c153, c154, c155, c156, c157, c158, c159, c160, c161, c162, c163, c164, c165, c166, c167, c168, c169, c170, c171, c172, c173, c174, c175, c176, c177], []⟩ wr := by
  refine Code.wp_mono NoPanic.imp ?_
  have HQ := hid hq
  clear hq
  conv => arg 2; whnf
  obtain ⟨L, hL⟩ : ∃ L, L = s.comp.length := ⟨_, rfl⟩
  have hLs : L = pre.length + (seg.length + 1) := by rw [hL, HC.out]; simp
  have HG := hid (show TaG n w0 wr (TaV n w0.heap.size s vC vP) s.comp vC s.path vP from HS.out)
  obtain ⟨aC, capC, hvC, hcC, hsC, hnC⟩ := own_form HG.out.co
  rw [← hL] at hvC hcC hnC
  have hpos : 0 < L := by omega
  obtain ⟨gc, hgc⟩ : ∃ gc, aC = some ⟨gc, 0, none⟩ := by
    cases aC with
    | none => have := (hnC rfl).1; omega
    | some A => obtain ⟨g, rfl⟩ := hsC A rfl; exact ⟨g, rfl⟩
  subst hgc
  subst hvC
  have HCO := hid (show wr.ownsRow (w0.heap.size + 10) 3 1 (.slice (some ⟨gc, 0, none⟩) L capC) L (rowI s.comp) from by have := HG.out.co; rw [← hL] at this; exact this)
  have HCELL := hid (show ∀ i, (hi : i < s.comp.length) → wr.cell? ⟨gc, i, none⟩ = some (.int .i64 (s.comp[i] : Int)) from fun i hi => by
    have := (own_cell HCO.out (j := i) (by rw [rowI_length]; exact hi)).1
    rw [this, rowI_get hi])
  have hgb := (HCO.out.lt gc rfl).1
  have c7 : wr.cell? ⟨w0.heap.size + 5, 0, none⟩ = some (.slice (some ⟨gc, 0, none⟩) L capC) := HG.out.cell (k := 5) (by omega) Nat.zero_lt_one
  have hL0 : (0 : Int) ≤ (L : Int) - 1 := by omega
  have hLL : L ≤ 1000 := by omega
  have HL := hid hL
  have HLS := hid hLs
  clear hL hsC hnC
  dsimp only
  go_wp2_with fail
  go_loopg [17] (L - 1 - pre.length) (fun g0 fv wi => ∃ f : Nat, pre.length ≤ f ∧ f < L ∧ g0 = f - pre.length ∧ fv = .int .i64 (f : Int) ∧ wi = wr)
  case atStart => exact ⟨L - 1, by omega, by omega, rfl, by congr 1; omega, rfl⟩
  case round =>
    obtain ⟨f, hf1, hf2, rfl, rfl, rfl⟩ := hrel
    have hfi : (f : Int) < (L : Int) := by omega
    have hf0 : (0 : Int) ≤ (f : Int) := by omega
    have cf := HCELL.out f (by rw [← HL.out]; exact hf2)
    obtain ⟨x, hx⟩ : ∃ x, s.comp[f]'(by rw [← HL.out]; exact hf2) = x := ⟨_, rfl⟩
    rw [hx] at cf
    by_cases hfe : f = pre.length
    · subst hfe
      have hxv : x = v := by
        rw [← hx]
        simp [HC.out]
      subst hxv
      clear hx
      have hpl0 : (0 : Int) ≤ (pre.length : Int) := by omega
      have hpl1 : (pre.length : Int) ≤ (L : Int) := by omega
      have hpl2 : (L : Int) ≤ (capC : Int) := by omega
      have hmm : L - pre.length = seg.length + 1 := by omega
      obtain ⟨bb, hbb⟩ : ∃ bb, decide (seg ≠ []) = bb := ⟨_, rfl⟩
      have HBB := hid hbb
      clear hbb
      have HMI := hid (show (L : Int) - (pre.length : Int) = ((seg.length + 1 : Nat) : Int) from by omega)
      clear hLs
      go_wp2_with fail
      go_loopg [157] (seg.length + 1) (fun g0 iv wi => ∃ i : Nat, i ≤ seg.length + 1 ∧ g0 = seg.length + 1 - i ∧ iv = .int .i64 (i : Int) ∧ TaG n w0 wi (taU n w0.heap.size s (.slice (some ⟨gc, 0, none⟩) L capC) vP ((x :: seg).take i) bb) s.comp (.slice (some ⟨gc, 0, none⟩) L capC) s.path vP)
      case atStart => exact ⟨0, Nat.zero_le _, rfl, rfl, HG.out.congr (lt10 (fun j hj => by simp [taU, TaV]) (fun j hj => rfl) (fun j hj => rfl) (fun j hj => rfl) (fun j hj => rfl) (fun j hj => rfl) (fun j hj => by simp [taU, TaV]) (fun j hj => rfl) (fun j hj => rfl) (fun j hj => rfl))⟩
      case round =>
        obtain ⟨i, hi, rfl, rfl, hst⟩ := hrel
        have HR := hid hst
        clear hst
        have hLs := HLS.out
        by_cases hlt : i < seg.length + 1
        · have hii : (i : Int) < ((seg.length + 1 : Nat) : Int) := by omega
          have hii2 : (i : Int) < (seg.length : Int) + 1 := by omega
          have hi0 : (0 : Int) ≤ (i : Int) := by omega
          obtain ⟨y, hy⟩ : ∃ y, (x :: seg)[i]'(by simpa using hlt) = y := ⟨_, rfl⟩
          have hyc : s.comp[pre.length + i]'(by rw [← HL.out]; omega) = y := by
            rw [← hy]
            simp only [HC.out]
            rw [List.getElem_append_right (by omega)]
            simp
          have hyn : y < n := HLT.out y (by rw [← hyc]; exact List.getElem_mem _)
          have HYT := hid (show (x :: seg).take (i + 1) = (x :: seg).take i ++ [y] from by rw [List.take_succ_eq_append_getElem (by simpa using hlt), hy])
          have HYC := hid (show y ∈ s.comp from by rw [← hyc]; exact List.getElem_mem _)
          have hco : wr.ownsRow (w0.heap.size + 10) 3 1 (.slice (some ⟨gc, 0, none⟩) L capC) L (rowI s.comp) := by have := HR.out.co; rw [← HL.out] at this; exact this
          have e0 : wr.cell? ⟨gc, pre.length + i, none⟩ = some (.int .i64 (y : Int)) := by
            have h1 : pre.length + i < s.comp.length := by rw [← HL.out]; omega
            rw [(own_cell hco (j := pre.length + i) (by rw [rowI_length]; exact h1)).1, rowI_get h1, hyc]
          have e7 : wr.cell? ⟨w0.heap.size + 7, 0, none⟩ = some (.slice (some ⟨w0.heap.size + 6, 0, none⟩) n n) := HR.out.cell (k := 7) (by omega) Nat.zero_lt_one
          have e6 := HR.out.cell (k := 6) (j := y) (by omega) hyn
          have f6 := HR.out.free (k := 6) (by omega) y
          have H1 := hid (HR.out.set (k0 := 6) (j := y) (by omega) hyn (.bool false))
          have e5 : (wr.setCell ⟨w0.heap.size + 6, y, none⟩ (.bool false)).cell? ⟨w0.heap.size + 5, 0, none⟩ = some (.slice (some ⟨gc, 0, none⟩) L capC) := H1.out.cell (k := 5) (by omega) Nat.zero_lt_one
          have e00 : ∃ z, (wr.setCell ⟨w0.heap.size + 6, y, none⟩ (.bool false)).cell? ⟨w0.heap.size, y, none⟩ = some z := ⟨_, H1.out.cell (k := 0) (j := y) (by omega) hyn⟩
          obtain ⟨z0, e00⟩ := e00
          have f00 : (wr.setCell ⟨w0.heap.size + 6, y, none⟩ (.bool false)).frozen? ⟨w0.heap.size, y, none⟩ = false := H1.out.free (k := 0) (by omega) y
          have H2 := hid (H1.out.set (k0 := 0) (j := y) (by omega) hyn (.bool bb))
          have hyi : (y : Int) < (n : Int) := by omega
          have hy0 : (0 : Int) ≤ (y : Int) := by omega
          have HFIN := hid (show TaG n w0 ((wr.setCell ⟨w0.heap.size + 6, y, none⟩ (.bool false)).setCell ⟨w0.heap.size, y, none⟩ (.bool bb)) (taU n w0.heap.size s (.slice (some ⟨gc, 0, none⟩) L capC) vP ((x :: seg).take (i + 1)) bb) s.comp (.slice (some ⟨gc, 0, none⟩) L capC) s.path vP from H2.out.congr (lt10 (fun j hj => by
            show upd _ y (.bool bb) j = Value.bool (if j ∈ (x :: seg).take (i + 1) then bb else s.on j)
            rw [HYT.out]
            unfold upd
            by_cases ej : j = y
            · rw [if_pos ej, if_pos (by rw [ej]; simp)]
            · rw [if_neg ej]
              show Value.bool (if j ∈ (x :: seg).take i then bb else s.on j) = _
              congr 1
              by_cases hju : j ∈ (x :: seg).take i
              · rw [if_pos hju, if_pos (List.mem_append_left _ hju)]
              · rw [if_neg hju, if_neg (by simp only [List.mem_append, List.mem_singleton]; rintro (h | h); exact hju h; exact ej h)]) (fun j hj => rfl) (fun j hj => rfl) (fun j hj => rfl) (fun j hj => rfl) (fun j hj => rfl) (fun j hj => by
            show upd _ y (.bool false) j = Value.bool (decide (j ∈ s.comp ∧ j ∉ (x :: seg).take (i + 1)))
            rw [HYT.out]
            unfold upd
            by_cases ej : j = y
            · rw [if_pos ej, decide_eq_false (by rw [ej]; simp)]
            · rw [if_neg ej]
              show Value.bool (decide (j ∈ s.comp ∧ j ∉ (x :: seg).take i)) = _
              congr 1
              simp [ej]) (fun j hj => rfl) (fun j hj => rfl) (fun j hj => rfl)))
          have hmi := HMI.out
          clear H1 H2 HR hco hyc hy hLs
          by_cases hsn : seg = []
          · have hl1 : ¬ (1 : Int) < (L : Int) - (pre.length : Int) := by rw [hmi, hsn]; simp
            clear hmi
            have hb0 : bb = false := by rw [← HBB.out, hsn]; rfl
            subst hb0
            clear hsn
            go_wp2_with fail
            go_roundg (seg.length + 1 - (i + 1))
            case measure => omega
            case rel => exact ⟨i + 1, by omega, rfl, by go_num, HFIN.out⟩
          · have hl1 : (1 : Int) < (L : Int) - (pre.length : Int) := by
              have : 0 < seg.length := List.length_pos_iff.2 hsn
              rw [hmi]; omega
            clear hmi
            have hb0 : bb = true := by rw [← HBB.out]; exact decide_eq_true hsn
            subst hb0
            go_wp2_with fail
            go_roundg (seg.length + 1 - (i + 1))
            case measure => omega
            case rel => exact ⟨i + 1, by omega, rfl, by go_num, HFIN.out⟩
        · obtain rfl : i = seg.length + 1 := by omega
          have e5 : wr.cell? ⟨w0.heap.size + 5, 0, none⟩ = some (.slice (some ⟨gc, 0, none⟩) L capC) := HR.out.cell (k := 5) (by omega) Nat.zero_lt_one
          have f5 := HR.out.free (k := 5) (by omega) 0
          have H1 := hid (HR.out.set (k0 := 5) (j := 0) (by omega) Nat.zero_lt_one (.slice (some ⟨gc, 0, none⟩) pre.length capC))
          clear hLs
          go_wp2_with fail
          have hLs := HLS.out
          have hnd := HND.out
          rw [HC.out, List.nodup_append] at hnd
          have HTK := (show (x :: seg).take (seg.length + 1) = x :: seg from List.take_of_length_le (by simp))
          have hco : (wr.setCell ⟨w0.heap.size + 5, 0, none⟩ (.slice (some ⟨gc, 0, none⟩) pre.length capC)).ownsRow (w0.heap.size + 10) 3 1 (.slice (some ⟨gc, 0, none⟩) pre.length capC) pre.length (rowI pre) := by
            have h1 := H1.out.co
            rw [← HL.out] at h1
            have h2 := own_short h1 (m := pre.length) (by omega)
            rw [rowI_take, HC.out, List.take_append_of_le_length (Nat.le_refl _), List.take_length] at h2
            exact h2
          refine HQ.out _ _ _ _ _ _ _ _ _ _ _ _ _ _ _ _ _ _ _ _ _ _ _ _ _ _ _ _ _ _ _ _ _ _ _ _ _ ⟨.slice (some ⟨gc, 0, none⟩) pre.length capC, (H1.out.apC (C' := pre) hco (gr_refl _ _)).congr (lt10 (fun j hj => ?_) (fun j hj => rfl) (fun j hj => rfl) (fun j hj => rfl) (fun j hj => rfl) (fun j hj => ?_) (fun j hj => ?_) (fun j hj => rfl) (fun j hj => rfl) (fun j hj => rfl))⟩
          · show Value.bool (if j ∈ (x :: seg).take (seg.length + 1) then bb else s.on j) = Value.bool (if j = x ∨ j ∈ seg then decide (seg ≠ []) else s.on j)
            rw [HTK, HBB.out]
            simp only [List.mem_cons]
          · have hj' : j < 1 := hj
            obtain rfl : j = 0 := by omega
            rfl
          · show Value.bool (decide (j ∈ s.comp ∧ j ∉ (x :: seg).take (seg.length + 1))) = Value.bool (decide (j ∈ pre))
            rw [HTK]
            congr 1
            apply decide_eq_decide.2
            rw [HC.out, List.mem_append]
            constructor
            · rintro ⟨h | h, h'⟩
              · exact h
              · exact absurd h h'
            · intro h
              exact ⟨.inl h, fun h' => hnd.2.2 j h j h' rfl⟩
    · have hxv : x ≠ v := fun e => by
        have h1 : s.comp[pre.length]'(by rw [← HL.out]; omega) = v := by simp [HC.out]
        have h2 : s.comp[f]'(by rw [← HL.out]; exact hf2) = s.comp[pre.length]'(by rw [← HL.out]; omega) := by rw [hx, h1, e]
        exact hfe ((List.getElem_inj HND.out).1 h2)
      have hb1 : ((x : Int) != (v : Int)) = true := by simp; omega
      have hf3 : (0 : Int) ≤ (f : Int) - 1 := by omega
      go_wp2_with fail
      go_roundg (f - 1 - pre.length)
      case measure => omega
      case rel => exact ⟨f - 1, by omega, by omega, rfl, by congr 1; omega, rfl⟩

end Go.Proofs.YbulkbgasDoor

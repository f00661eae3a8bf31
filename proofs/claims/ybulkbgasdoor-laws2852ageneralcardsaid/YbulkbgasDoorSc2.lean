import Derived.Test.YbulkbgasDoorSc1
namespace Go.Proofs.YbulkbgasDoor
open Go.RowKit Go.Maps
set_option linter.unusedVariables false
attribute [local go_sem ↓] Go.wp_at_zero Go.wp_at_succ

theorem scS_begin {w0 w2 : World} {n m L Bc : Nat} {b : Nat → Nat} {met : Nat → Bool} {ia nw rd wn : Nat → Nat} {v : Nat → Value} {X : Nat → List Nat} {T : Nat} (hC : CwS w0 w2 n m L Bc b met ia nw rd wn v X) (htop : ∀ r, r < cwN n m → ∀ g, (v r).ownBlock = some g → g < T) (hTb : w0.heap.size + 11 ≤ T) (hT : T ≤ w2.heap.size) (start : Nat) :
    ScS w0 w2 ((w2.alloc (.cells #[.int .i64 (start : Int)] 3)).alloc (.cells #[.int .i64 (-1)] 3)) n m L Bc b met ia nw rd wn v X T (fun r => if r = 0 then .slice (some ⟨w2.heap.size, 0, none⟩) 1 1 else if r = 1 then .slice (some ⟨w2.heap.size + 1, 0, none⟩) 1 1 else .slice none 0 0) (fun r => if r = 0 then [(start : Int)] else if r = 1 then [-1] else []) := by
  refine ⟨(hC.g.alloc _).alloc _, htop, hTb, hT, by simp; omega, ⟨fun i hi => ?_, fun i j hi hj hij g => ?_⟩⟩
  · rcases (show i = 0 ∨ i = 1 ∨ i = 2 by omega) with rfl | rfl | rfl
    · exact own_lit (xs := rowT [(start : Int)]) ((Below.heap_alloc _ _ _ (by simp)).trans (heap_alloc_new _ _)) (Nat.le_refl _) (by simp [rowT])
    · exact own_lit (xs := rowT [-1]) (alloc_at (by simp)) (by omega) (by simp [rowT])
    · exact World.ownsRow_nil _ _ _ _
  · rcases (show i = 0 ∨ i = 1 ∨ i = 2 by omega) with rfl | rfl | rfl <;> rcases (show j = 0 ∨ j = 1 ∨ j = 2 by omega) with rfl | rfl | rfl <;> simp [Value.ownBlock] at hij ⊢
    all_goals omega
theorem own_new {W : World} {base : Nat} {x : Int} (hb : base ≤ W.heap.size) : (W.alloc (.cells #[.int .i64 x] 3)).ownsRow base 3 1 (.slice (some ⟨W.heap.size, 0, none⟩) 1 1) 1 (rowT [x]) :=
  own_lit (xs := rowT [x]) (heap_alloc_new _ _) hb (by simp [rowT])
/-- The parents, while the fresh ones are being taken. -/
theorem par_at {A : List Acc} {n start : Nat} {N : List Nat} {Z : List Int} {i : Nat} {met : Nat → Bool} (h : BfI A n start N Z i met) (hi : i < N.length) {k : Nat} (h0 : 0 < k) (hk : k ≤ i) (F : List Nat) (G : List Int) : ∃ j, j < k ∧ (Z ++ G)[k]? = some (j : Int) ∧ Succ A ((N ++ F).getD j 0) ((N ++ F).getD k 0) := by
  obtain ⟨j, h1, h2, h3⟩ := h.pa k h0 (by omega)
  refine ⟨j, h1, ?_, ?_⟩
  · rw [List.getElem?_append_left (by rw [h.ln]; omega)]; exact h2
  · rw [getD_left (by omega), getD_left (by omega)]; exact h3
/-- The block of what next has returned. -/
def FkI (w3 : World) (aF : Option Addr) (F : List Nat) (wi : World) (vv : Nat → Value) : Prop := w3.heap.size ≤ wi.heap.size ∧ (∀ r, r < 3 → ∀ g, (vv r).ownBlock = some g → ∀ gF, aF = some ⟨gF, 0, none⟩ → 0 < F.length → gF ≠ g) ∧ ∀ gF, aF = some ⟨gF, 0, none⟩ → 0 < F.length → wi.heap[gF]? = w3.heap[gF]?
theorem FkI.turn {w3 wi wE : World} {aF : Option Addr} {F : List Nat} {vv : Nat → Value} (h : FkI w3 aF F wi vv) (hl : ∀ gF, aF = some ⟨gF, 0, none⟩ → 0 < F.length → gF < w3.heap.size) {r : Nat} (hr : r < 3) (o : Obj) (hg : (wi.alloc o).grownBy wE (vv r).ownBlock) {v' : Value} {g1 : Nat} (he : v'.ownBlock = some g1) (hat : (vv r).ownBlock = some g1 ∨ g1 = (wi.alloc o).heap.size) : FkI w3 aF F wE (updL vv r v') := by
  obtain ⟨h1, h2, h3⟩ := h
  have hs := hg.size
  simp only [World.size_alloc] at hs hat
  refine ⟨by omega, fun q hq g e gF ea h0 => ?_, fun gF ea h0 => ?_⟩
  · unfold updL at e
    split at e
    · rw [he] at e
      cases e
      rcases hat with h5 | h5
      · exact h2 r hr _ h5 gF ea h0
      · have := hl gF ea h0; omega
    · exact h2 q hq g e gF ea h0
  · have hlt := hl gF ea h0
    rw [hg.block gF (by simp; omega) (fun e => h2 r hr gF e.symm gF ea h0 rfl), Below.heap_alloc _ _ _ (by omega)]
    exact h3 gF ea h0

theorem rev_at (wE : World) (base g1 cap1 : Nat) (C : List Nat) (start : Nat) (Yl : List Int) (hY : Yl = toI C) (hc : C.length ≤ 900) (ho : wE.ownsRow base 3 1 (.slice (some ⟨g1, 0, none⟩) (Yl.length + 1) cap1) (Yl.length + 1) (rowT Yl ++ [.int .i64 (start : Int)])) :
    Calls Ybad.prog 67 #[.slice (some ⟨g1, 0, none⟩) (C.length + 1) cap1] wE fun e w' => e = .returned (.tuple #[]) ∧ w'.ownsRow base 3 1 (.slice (some ⟨g1, 0, none⟩) (C.length + 1) cap1) (C ++ [start]).reverse.length (rowI (C ++ [start]).reverse) ∧ wE.grownBy w' (some g1) := by
  subst hY
  have hl : (C ++ [start]).length = C.length + 1 := by simp
  rw [toI_length, ← rowT_snoc, ← toI_snoc, rowT_toI, ← hl] at ho
  have := rev_any wE base g1 cap1 (C ++ [start]) (by omega) (by omega) ho
  rw [List.length_reverse, ← hl]
  exact this
set_option maxRecDepth 1000000 in
set_option maxHeartbeats 2000000 in
theorem short_any (w0 w2 : World) (n m Bc capt : Nat) (at_ : Option Addr) (va : Value) (b : Nat → Nat) (A : List Acc) (v : Nat → Value) (T start : Nat) (hA : A.length ≤ 300) (hn : n ≤ 300) (hm : m ≤ 1000) (hbx : w0.heap[Bc]? = some (.cells #[.slice at_ n capt, .int .i64 (m : Int), va] 63 (0, 0))) (hs : SlX w0 va A) (hsmA : ∀ a ∈ A, a.x < n ∧ a.i < m) (hst : start < n) (hcyc : ∃ x, Succ A start x ∧ Star (Succ A) x start)
    (hC : CwS w0 w2 n m A.length Bc b (fun _ => false) (iaF A A.length) (nwF A A.length) (fun _ => 0) (fun _ => 0) v (cwX n m A m m)) (hV : WkV A n m v) (htop : ∀ r, r < cwN n m → ∀ g, (v r).ownBlock = some g → g < T) (hT : T ≤ w2.heap.size) (hTb : w0.heap.size + 11 ≤ T) :
    Calls Ybad.prog 44 #[.int .i64 (start : Int), .func (.func 29) #[.pointer (some ⟨w0.heap.size + 10, 0, none⟩)] #[]] w2 fun e w' => ∃ vR R, e = .returned vR ∧ w'.ownsRow w2.heap.size 3 1 vR R.length (rowI R) ∧ CycI A n R ∧ Below w0.heap.size w0 w' := by
  have HBX := hid hbx
  have HSX := hid hs
  have HM := hid hsmA
  have HCY := hid hcyc
  have HV := hid hV
  have HTOP := hid htop
  have S0 := hid (scS_begin hC htop hTb hT start)
  have HXL := hid (show ∀ a ∈ A, a.x < n from fun a ha => (hsmA a ha).1)
  clear hbx hs hsmA hcyc hV htop hC
  obtain ⟨wB, hwB⟩ : ∃ wB, wB = (w2.alloc (.cells #[.int .i64 (start : Int)] 3)).alloc (.cells #[.int .i64 (-1)] 3) := ⟨_, rfl⟩
  rw [← hwB] at S0
  go_enter Ybad.func44, Ybad.ntmps44
  go_upto_region 3 with fail
  rw [← hwB]
  clear hwB
  go_wp2_with fail
  go_loopg [5, 6, 7] (n + 1) (fun g0 vN vZ iv wr => ∃ (i : Nat) (N : List Nat) (Z : List Int) (met : Nat → Bool) (rd wn : Nat → Nat) (X : Nat → List Nat) (vv : Nat → Value) (Y : Nat → List Int), g0 = n + 1 - i ∧ vN = vv 0 ∧ vZ = vv 1 ∧ iv = .int .i64 (i : Int) ∧ ScS w0 w2 wr n m A.length Bc b met (iaF A A.length) (nwF A A.length) rd wn v X T vv Y ∧ Y 0 = toI N ∧ Y 1 = Z ∧ vv 2 = .slice none 0 0 ∧ Y 2 = [] ∧ WkI A n m met rd wn X ∧ BfI A n start N Z i met)
  case atStart => refine ⟨0, [start], [-1], _, _, _, _, _, _, rfl, ?_, ?_, rfl, S0.out, ?_, ?_, ?_, ?_, WkI.begin A n m, BfI.begin A hst⟩ <;> rfl
  case round =>
    obtain ⟨i, N, Z, met, rd, wn, X, vv, Y, rfl, rfl, rfl, rfl, hss, hY0, hY1, hv2, hY2, hwk, hbf⟩ := hrel
    have SS := hid hss
    have HY0 := hid hY0
    have HY1 := hid hY1
    have HV2 := hid hv2
    have HY2 := hid hY2
    have HWK := hid hwk
    have HBF := hid hbf
    clear hss hY0 hY1 hv2 hY2 hwk hbf S0
    have hlen := HBF.out.len
    have hil := HBF.out.il
    have o0 := SS.out.fam.own 0 (by omega)
    rw [HY0.out] at o0
    by_cases hlt : i < N.length
    · obtain ⟨gN, capN, hvN, hgN1, hgN2, hcN, hcell⟩ := ownT_cell o0 (i := i) (by rw [toI_length]; exact hlt)
      rw [toI_get hlt] at hcell
      rw [toI_length] at hvN hcN
      obtain ⟨u, hu⟩ : ∃ u, N[i] = u := ⟨_, rfl⟩
      rw [hu] at hcell
      have HU := hid (show N.getD i 0 = u from by rw [List.getD_eq_getElem?_getD, List.getElem?_eq_getElem hlt, Option.getD_some, hu])
      have hun : u < n := by rw [← hu]; exact HBF.out.lt _ (List.getElem_mem _)
      clear hu o0
      rw [hvN]
      have HVN := hid hvN
      clear hvN
      have hii : (i : Int) < (N.length : Int) := by omega
      have hi0 : (0 : Int) ≤ (i : Int) := by omega
      have hsz := SS.out.sz
      have HNX := hid (next_any w0 wr n m Bc capt at_ va b A met rd wn v X T u hA hn hm HBX.out HSX.out HM.out hun SS.out.cw HWK.out HV.out HTOP.out (Nat.le_trans hT hsz) hTb)
      go_upto_region 6 with (go_at_call 29; refine Calls.mono HNX.out ?_; rintro e w3 ⟨met3, rd3, wn3, X3, vf, F, rfl, hrd, hc3, hw3, hF, hm3, ha3, hnd, hkp⟩; obtain ⟨aF, capF, hvf, hcF, hel⟩ := hrd; subst hvf; have HEL := hid hel; have HC3 := hid hc3; have HW3 := hid hw3; have HF := hid hF; have HM3 := hid hm3; have HA3 := hid ha3; have HND := hid hnd; have HKP := hid hkp; clear hel hc3 hw3 hF hm3 ha3 hnd hkp; dsimp only)
      have hs3 : wr.heap.size ≤ w3.heap.size := by
        have h1 := HKP.out gN (by omega) hgN2
        have h2 := HKP.out (wr.heap.size - 1) (by omega) (by omega)
        rw [Array.getElem?_eq_getElem (show wr.heap.size - 1 < wr.heap.size by omega)] at h2
        have := (Array.getElem?_eq_some_iff.1 h2).1
        omega
      have S3 := hid (SS.out.next HC3.out HKP.out hs3)
      have HAP := hid (show ∀ r, r < 3 → ∀ g, (vv r).ownBlock = some g → ∀ gF, aF = some ⟨gF, 0, none⟩ → 0 < F.length → gF ≠ g from fun r hr g e gF e2 h0 e3 => by
        have h1 := ((SS.out.fam.own r hr).lt g e).2
        obtain ⟨gF', f3, f4, _⟩ := HEL.out 0 h0
        rw [e2] at f3
        cases f3
        omega)
      have hFl : F.length ≤ n := by
        have := nodup_lenN' (List.range n) F HND.out (fun t ht => List.mem_range.2 (HF.out t ht).1)
        rwa [List.length_range] at this
      rw [← HVN.out]
      have HLF := hid (show ∀ gF, aF = some ⟨gF, 0, none⟩ → 0 < F.length → gF < w3.heap.size from fun gF e h0 => by
        obtain ⟨gF', f3, _, f4, _⟩ := HEL.out 0 h0
        rw [e] at f3
        cases f3
        exact f4)
      clear hcell HNX HKP SS
      go_wp2_with fail
      go_loopg [5, 6, 28] F.length (fun g0 vN vZ jv wi => ∃ (j : Nat) (vv1 : Nat → Value) (Y1 : Nat → List Int), j ≤ F.length ∧ g0 = F.length - j ∧ vN = vv1 0 ∧ vZ = vv1 1 ∧ jv = .int .i64 (j : Int) ∧ ScS w0 w2 wi n m A.length Bc b met3 (iaF A A.length) (nwF A A.length) rd3 wn3 v X3 T vv1 Y1 ∧ Y1 0 = toI (N ++ F.take j) ∧ Y1 1 = Z ++ List.replicate j (i : Int) ∧ vv1 2 = .slice none 0 0 ∧ Y1 2 = [] ∧ start ∉ F.take j ∧ FkI w3 aF F wi vv1)
      case atStart => exact ⟨0, vv, Y, Nat.zero_le _, rfl, rfl, rfl, rfl, S3.out, by rw [HY0.out]; simp, by rw [HY1.out]; simp, HV2.out, HY2.out, by simp, ⟨Nat.le_refl _, HAP.out, fun _ _ _ => rfl⟩⟩
      case round =>
        obtain ⟨j, vv1, Y1, hj, rfl, rfl, rfl, rfl, hss, hY0, hY1, hv2, hY2, hns, hfk⟩ := hrel
        have S4 := hid hss
        have HZ0 := hid hY0
        have HZ1 := hid hY1
        have HW2 := hid hv2
        have HZ2 := hid hY2
        have HNS := hid hns
        have HFK := hid hfk
        clear hss hY0 hY1 hv2 hY2 hns hfk S3 HAP
        by_cases hjl : j < F.length
        · obtain ⟨gF, haF, hgF1, hgF2, hcF3⟩ := HEL.out j hjl
          subst haF
          have hcF4 : wr.cell? ⟨gF, j, none⟩ = some (.int .i64 (F[j] : Int)) := by
            have := HFK.out.2.2 gF rfl (by omega)
            rw [← hcF3]; unfold World.cell?; simp only [this]
          obtain ⟨y, hy⟩ : ∃ y, F[j] = y := ⟨_, rfl⟩
          rw [hy] at hcF4
          have HYY := hid hy
          have hyF := HF.out y (by rw [← hy]; exact List.getElem_mem _)
          have HYF := hid hyF
          have hyn := hyF.1
          clear hy hyF hcF3
          have hji : (j : Int) < (F.length : Int) := by omega
          have hj0 : (0 : Int) ≤ (j : Int) := by omega
          have hl0 : (Y1 0).length = N.length + j := by rw [HZ0.out, toI_length]; simp; omega
          have hl1 : (Y1 1).length = N.length + j := by rw [HZ1.out, List.length_append, HBF.out.ln]; simp
          have hszw := S4.out.sz
          by_cases hys : y = start
          · have hb1 : ((y : Int) == (start : Int)) = true := by simp [hys]
            have o0 := S4.out.fam.own 0 (by omega)
            have o1 := S4.out.fam.own 1 (by omega)
            obtain ⟨gN1, capN1, hvN1, -, -, -, -⟩ := ownT_cell o0 (i := 0) (by rw [hl0]; omega)
            obtain ⟨gZ1, capZ1, hvZ1, -, -, -, -⟩ := ownT_cell o1 (i := 0) (by rw [hl1]; omega)
            rw [hl0] at hvN1
            rw [hl1] at hvZ1
            have HVN1 := hid hvN1
            have HVZ1 := hid hvZ1
            rw [hvN1, hvZ1]
            have S5 := hid (S4.out.turn (r := 2) (by omega) (l := [(start : Int)]) (own_new hszw) (by rw [HW2.out]; exact World.grownBy_alloc _ _ _) (fun g e => by simp only [Value.ownBlock, Option.some.injEq] at e; subst e; exact .inr (Nat.le_refl _)))
            obtain ⟨N1, hN1⟩ : ∃ N1, N ++ F.take j = N1 := ⟨_, rfl⟩
            rw [hN1] at HZ0
            have HN1l := hid (show N1.length = N.length + j by rw [← hN1]; simp; omega)
            have HBK := hid (show BkI A start N1 i [start] i from ⟨by simp, rfl, fun m hm => by simp at hm, by
              rw [← hN1, getD_left hlt, HU.out]
              have := HYF.out.2.2
              rw [hys] at this
              exact this, by simp; omega⟩)
            have HP1 := hid (show ∀ k, 0 < k → k ≤ i → ∃ q, q < k ∧ (Z ++ List.replicate j (i : Int))[k]? = some (q : Int) ∧ Succ A (N1.getD q 0) (N1.getD k 0) from fun k h0 hk => by rw [← hN1]; exact par_at HBF.out hlt h0 hk _ _)
            have HST0 := hid (show N1.getD 0 0 = start from by
              rw [← hN1, getD_left (by omega), List.getD_eq_getElem?_getD, HBF.out.hd]; rfl)
            clear hN1 o0 o1 hvN1 hvZ1 HFK
            go_wp2_with fail
            go_loopg [10, 11] i (fun g0 vC kv wi => ∃ (k : Nat) (C : List Nat) (vv2 : Nat → Value) (Y2 : Nat → List Int), k ≤ i ∧ k = g0 ∧ vC = vv2 2 ∧ kv = .int .i64 (k : Int) ∧ ScS w0 w2 wi n m A.length Bc b met3 (iaF A A.length) (nwF A A.length) rd3 wn3 v X3 T vv2 Y2 ∧ vv2 0 = vv1 0 ∧ vv2 1 = vv1 1 ∧ Y2 0 = Y1 0 ∧ Y2 1 = Y1 1 ∧ Y2 2 = toI C ∧ BkI A start N1 i C k)
            case atStart => refine ⟨i, [start], _, _, Nat.le_refl _, rfl, ?_, rfl, S5.out, ?_, ?_, ?_, ?_, ?_, HBK.out⟩ <;> rfl
            case round =>
              obtain ⟨k, C, vv2, Y2, hki, rfl, rfl, rfl, hss, e0, e1, e2, e3, e4, hbk⟩ := hrel
              have S6 := hid hss
              have E0 := hid e0
              have E1 := hid e1
              have E2 := hid e2
              have E3 := hid e3
              have E4 := hid e4
              have HB := hid hbk
              clear hss e0 e1 e2 e3 e4 hbk S5 HBK
              have hbd := HB.out.bd
              have hsz6 := S6.out.sz
              have hl2 : (Y2 2).length = C.length := by rw [E4.out, toI_length]
              by_cases hk0 : 0 < k
              · have hk0i : (0 : Int) < (k : Int) := by omega
                have hkN : (k : Int) < (N.length : Int) + (j : Int) := by omega
                have hk00 : (0 : Int) ≤ (k : Int) := by omega
                have o0 := S6.out.fam.own 0 (by omega)
                rw [E0.out, E2.out, HZ0.out] at o0
                obtain ⟨g', cap', f1, -, -, -, f2⟩ := ownT_cell o0 (i := k) (by rw [toI_length, HN1l.out]; omega)
                rw [HVN1.out, toI_length, HN1l.out] at f1
                simp only [Value.slice.injEq, Option.some.injEq, Addr.mk.injEq, and_true, true_and] at f1
                obtain ⟨rfl, rfl⟩ := f1
                have hkN1 : k < N1.length := by rw [HN1l.out]; omega
                rw [toI_get hkN1] at f2
                obtain ⟨x, hx⟩ : ∃ x, N1[k] = x := ⟨_, rfl⟩
                rw [hx] at f2
                have HX := hid (show N1.getD k 0 = x from by rw [List.getD_eq_getElem?_getD, List.getElem?_eq_getElem hkN1, Option.getD_some, hx])
                have o1 := S6.out.fam.own 1 (by omega)
                rw [E1.out, E3.out] at o1
                obtain ⟨g'', cap'', f3, hg3, hg4, -, f4⟩ := ownT_cell o1 (i := k) (by rw [hl1]; omega)
                rw [HVZ1.out, hl1] at f3
                simp only [Value.slice.injEq, Option.some.injEq, Addr.mk.injEq, and_true, true_and] at f3
                obtain ⟨rfl, rfl⟩ := f3
                obtain ⟨q, hq1, hq2, hq3⟩ := HP1.out k hk0 hki
                have f5 : wr.cell? ⟨gZ1, k, none⟩ = some (.int .i64 (q : Int)) := by
                  rw [f4]
                  rw [← HZ1.out, List.getElem?_eq_getElem (by rw [hl1]; omega)] at hq2
                  rw [Option.some.inj hq2]
                have HQ3 := hid hq3
                have HSEP := hid (show some gZ1 ≠ (vv2 2).ownBlock from fun e => S6.out.fam.sep 1 2 (by omega) (by omega) (by omega) gZ1 (by rw [E1.out, HVZ1.out]; rfl) e.symm)
                clear hx o0 o1 f4 hq2 hq3
                go_wp2_with (first
                  | ((with_reducible refine apK Ybad.E54' (t := 44) (u := 49) w2.heap.size (vv2 2) (Y2 2).length (rowT (Y2 2)) [.int .i64 (x : Int)] wr.heap.size ?_ ?_ ?_ ?_ ?_ ?_ ?_ ?_ ?_); (exact rfl); (exact rfl); (exact (S6.out.fam.own 2 (by omega)).alloc _); (exact heap_alloc_new _ _); (exact rfl); (intro x hx; simp at hx; subst hx; rfl); omega; (simp; omega); (intro g1 cap1 wE hownE hgE hatE hltE); (have S7 := hid ((S6.out.alloc _).turn (r := 2) (by omega) (l := Y2 2 ++ [(x : Int)]) (v' := .slice (some ⟨g1, 0, none⟩) ((Y2 2).length + 1) cap1) (by rw [List.length_append, rowT_snoc]; exact hownE) hgE (fun g e => by simp only [Value.ownBlock, Option.some.injEq] at e; subst e; rcases hatE with h | h; exact .inl h; exact .inr (by omega)))); (have f6 : wE.cell? ⟨gZ1, k, none⟩ = some (.int .i64 (q : Int)) := (by rw [← f5]; have := (hgE.block gZ1 (by simp; omega) HSEP.out).trans (Below.heap_alloc _ _ _ hg4); unfold World.cell?; simp only [this])); clear hownE hgE hatE hltE))
                go_roundg q
                case measure => omega
                case rel => exact ⟨q, C ++ [x], _, _, by omega, rfl, by rw [updL_same, hl2], rfl, S7.out, by rw [updL_other _ (by omega)]; exact E0.out, by rw [updL_other _ (by omega)]; exact E1.out, by rw [updL_other _ (by omega)]; exact E2.out, by rw [updL_other _ (by omega)]; exact E3.out, by rw [updL_same, E4.out, toI_snoc], by have := HB.out.step (n := n) (start := start) (Z := Z) (met := met) hq1 HQ3.out; rw [HX.out] at this; exact this⟩
              · obtain rfl : k = 0 := by omega
                have HCY := hid (HB.out.stop HXL.out HST0.out (by omega))
                go_wp2_with (first
                  | ((with_reducible refine apK Ybad.E54' (t := 51) (u := 53) w2.heap.size (vv2 2) (Y2 2).length (rowT (Y2 2)) [.int .i64 (start : Int)] wr.heap.size ?_ ?_ ?_ ?_ ?_ ?_ ?_ ?_ ?_); (exact rfl); (exact rfl); (exact (S6.out.fam.own 2 (by omega)).alloc _); (exact heap_alloc_new _ _); (exact rfl); (intro x hx; simp at hx; subst hx; rfl); omega; (simp; omega); (intro g1 cap1 wE hownE hgE hatE hltE); (have S7 := hid ((S6.out.alloc _).turn (r := 2) (by omega) (l := Y2 2 ++ [(start : Int)]) (v' := .slice (some ⟨g1, 0, none⟩) ((Y2 2).length + 1) cap1) (by rw [List.length_append, rowT_snoc]; exact hownE) hgE (fun g e => by simp only [Value.ownBlock, Option.some.injEq] at e; subst e; rcases hatE with h | h; exact .inl h; exact .inr (by omega)))); (have HRV := hid (rev_at wE w2.heap.size g1 cap1 C start (Y2 2) E4.out (by omega) hownE)); (have HG1 := hid (show w2.heap.size ≤ g1 from own_ge hownE rfl)); clear hownE hgE hatE hltE)
                  | (go_at_call 67; refine Calls.mono HRV.out ?_; rintro e w9 ⟨rfl, ho9, hg9⟩; have HO9 := hid ho9; have HG9 := hid hg9; clear ho9 hg9; dsimp only))
                go_ret
                refine ⟨_, _, rfl, HO9.out, HCY.out, S7.out.cw.bel.grown HG9.out (by have := S7.out.cw.lt; omega) (fun g e => by cases e; have := HG1.out; omega)⟩
          · have hb1 : ((y : Int) == (start : Int)) = false := by simp; omega
            go_wp2_with (first
              | ((with_reducible refine apK Ybad.E54' (t := 58) (u := 60) w2.heap.size (vv1 0) (Y1 0).length (rowT (Y1 0)) [.int .i64 (y : Int)] wr.heap.size ?_ ?_ ?_ ?_ ?_ ?_ ?_ ?_ ?_); (exact rfl); (exact rfl); (exact (S4.out.fam.own 0 (by omega)).alloc _); (exact heap_alloc_new _ _); (exact rfl); (intro x hx; simp at hx; subst hx; rfl); omega; (simp; omega); (intro g1 cap1 wE hownE hgE hatE hltE); (have S5 := hid ((S4.out.alloc _).turn (r := 0) (by omega) (l := Y1 0 ++ [(y : Int)]) (v' := .slice (some ⟨g1, 0, none⟩) ((Y1 0).length + 1) cap1) (by rw [List.length_append, rowT_snoc]; exact hownE) hgE (fun g e => by simp only [Value.ownBlock, Option.some.injEq] at e; subst e; rcases hatE with h | h; exact .inl h; exact .inr (by omega)))); (have FK5 := hid (HFK.out.turn HLF.out (r := 0) (by omega) _ hgE (v' := .slice (some ⟨g1, 0, none⟩) ((Y1 0).length + 1) cap1) rfl hatE)); (have hsz5 := S5.out.sz); clear hownE hgE hatE hltE)
              | ((with_reducible refine apK Ybad.E54' (t := 62) (u := 64) w2.heap.size (vv1 1) (Y1 1).length (rowT (Y1 1)) [.int .i64 (i : Int)] wE.heap.size ?_ ?_ ?_ ?_ ?_ ?_ ?_ ?_ ?_); (exact rfl); (exact rfl); (exact (show wE.ownsRow w2.heap.size 3 1 (vv1 1) (Y1 1).length (rowT (Y1 1)) from (by have := S5.out.fam.own 1 (by omega); rw [updL_other _ (by omega), updL_other _ (by omega)] at this; exact this)).alloc _); (exact heap_alloc_new _ _); (exact rfl); (intro x hx; simp at hx; subst hx; rfl); omega; (simp; omega); (intro g2 cap2 wF hownE hgE hatE hltE); (have S6 := hid ((S5.out.alloc _).turn (r := 1) (by omega) (l := Y1 1 ++ [(i : Int)]) (v' := .slice (some ⟨g2, 0, none⟩) ((Y1 1).length + 1) cap2) (by rw [List.length_append, rowT_snoc]; exact hownE) (by rw [updL_other _ (by omega)]; exact hgE) (fun g e => by simp only [Value.ownBlock, Option.some.injEq] at e; subst e; rw [updL_other _ (by omega)]; rcases hatE with h | h; exact .inl h; exact .inr (by omega)))); (have FK6 := hid (FK5.out.turn HLF.out (r := 1) (by omega) _ (by rw [updL_other _ (by omega)]; exact hgE) (v' := .slice (some ⟨g2, 0, none⟩) ((Y1 1).length + 1) cap2) rfl (by rw [updL_other _ (by omega)]; exact hatE))); clear hownE hgE hatE hltE))
            have HTK := hid (show F.take (j + 1) = F.take j ++ [y] from by rw [List.take_succ_eq_append_getElem hjl, HYY.out])
            go_roundg (F.length - (j + 1))
            case measure => omega
            case rel =>
              refine ⟨j + 1, _, _, by omega, rfl, ?_, ?_, by go_num, S6.out, ?_, ?_, ?_, ?_, ?_, FK6.out⟩
              · rw [updL_other _ (by omega), updL_same, hl0]
              · rw [updL_same, hl1]
              · rw [updL_other _ (by omega), updL_same, HZ0.out, HTK.out, ← List.append_assoc, toI_snoc]
              · rw [updL_same, HZ1.out, List.append_assoc]; congr 1; rw [List.replicate_succ']
              · rw [updL_other _ (by omega), updL_other _ (by omega)]; exact HW2.out
              · rw [updL_other _ (by omega), updL_other _ (by omega)]; exact HZ2.out
              · rw [HTK.out]; simp only [List.mem_append, List.mem_singleton, not_or]; exact ⟨HNS.out, fun e => hys e.symm⟩
        · obtain rfl : j = F.length := by omega
          have HBN := hid (HBF.out.next hlt HU.out HF.out HM3.out HA3.out HND.out (by have := HNS.out; rwa [List.take_length] at this))
          go_wp2_with fail
          go_roundg (n + 1 - (i + 1))
          case measure => omega
          case rel => exact ⟨i + 1, N ++ F, _, met3, rd3, wn3, X3, vv1, Y1, rfl, rfl, rfl, by go_num, S4.out, by rw [HZ0.out, List.take_length], HZ1.out, HW2.out, HZ2.out, HW3.out, HBN.out⟩
    · obtain rfl : i = N.length := by omega
      exact absurd (HBF.out.back HCY.out) (fun h => h)

end Go.Proofs.YbulkbgasDoor

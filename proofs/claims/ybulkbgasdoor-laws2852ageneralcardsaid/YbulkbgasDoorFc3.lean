import Derived.Test.YbulkbgasDoorFc3b
namespace Go.Proofs.YbulkbgasDoor
open Go.RowKit Go.Maps
set_option linter.unusedVariables false
attribute [local go_sem ↓] Go.wp_at_zero Go.wp_at_succ

set_option maxRecDepth 100000 in
set_option maxHeartbeats 4000000 in
theorem first_any (w : World) (back : Bool) (Bc n m capt Bo Bm : Nat) (at_ : Option Addr) (va vl : Value) (A : List Acc) (S : List Sp) (ow : Nat → Nat) (hA : A.length ≤ 300) (hS : S.length ≤ 300) (hn : n ≤ 1000) (hm : m ≤ 1000) (hB : Bc < w.heap.size) (hbx : w.heap[Bc]? = some (.cells #[.slice at_ n capt, .int .i64 (m : Int), va] 63 (0, 0))) (hs : SlX w va A) (hl : SlS w vl S) (ho : Fix w Bo 3 A.length (fun j => .int .i64 (ow j : Int))) (hsm : ∀ a ∈ A, a.x < n ∧ a.i < m) (how : ∀ q, q < A.length → ow q < S.length) (htx : ∀ i, i < S.length → txOf S i < n) :
    Calls Ybad.prog 23 #[.pointer (some ⟨Bc, 0, none⟩), .agg #[vl, .slice (some ⟨Bo, 0, none⟩) A.length A.length, .map (some Bm)], .bool back] w fun e w' => e = .returned (.slice (some ⟨w.heap.size + 1, 0, none⟩) n n) ∧ Fix w' (w.heap.size + 1) 65 (n * 2) (fun j => .int .i64 ((fcF back A (txOf S) ow A.length).F j)) ∧ Below w.heap.size w w' := by
  obtain ⟨a, cap, rfl, hcap, hel⟩ := hs
  obtain ⟨al, capl, rfl, hcapl, hell⟩ := hl
  have HS := hid hel
  have HL := hid hell
  have HO := hid ho
  have HM := hid hsm
  have HW := hid how
  have HTX := hid htx
  have HBX := hid hbx
  have cc0 : ∀ o, (w.alloc o).cell? ⟨Bc, 0, none⟩ = some (.slice at_ n capt) := fun o => by rw [cell_of_row _ _ _ _ _ _ ((Below.heap_alloc _ _ _ hB).trans hbx)]; rfl
  clear hel hell ho hsm how htx hbx
  obtain ⟨bx, hbxe⟩ : ∃ bx : Array Value, bx = #[.slice al S.length capl, .slice (some ⟨Bo, 0, none⟩) A.length A.length, .map (some Bm)] := ⟨_, rfl⟩
  have HBE := hid hbxe
  clear hbxe
  have hmk1 := fun (W : World) => mk2 Ybad.E59 n (by omega) W
  have hmk2 := fun (W : World) => mk2 Ybad.E104 S.length (by omega) W
  have hmk3 := fun (W : World) => mk2 Ybad.E107 m (by omega) W
  go_enter Ybad.func23, Ybad.ntmps23
  go_wp2_with fail
  go_loopg [33] n (fun g i wr => ∃ k : Nat, k ≤ n ∧ g = n - k ∧ i = .int .i64 (k : Int) ∧ FcA w wr bx n k)
  case atStart =>
    refine ⟨0, Nat.zero_le _, rfl, rfl, ?_, ?_, by simp, ((Below.refl _ w).alloc (Nat.le_refl _) _).alloc (by simp) _⟩
    · rw [HBE.out]; exact (Below.heap_alloc _ _ _ (by simp)).trans (heap_alloc_new w _)
    · rw [fill1_zero]; exact alloc_at (by simp)
  case round =>
    obtain ⟨k, hk, rfl, rfl, hst⟩ := hrel
    have ST := hid hst
    clear hst
    by_cases hlt : k < n
    · have hki : (k : Int) < (n : Int) := by omega
      have c0 := ST.out.fi.cell (j := k * 2) (by omega)
      have f0 := ST.out.fi.free (k * 2)
      have c1 := ST.out.fi.cell (j := k * 2 + 1) (by omega)
      have f1 := ST.out.fi.free (k * 2 + 1)
      go_wp2_with fail
      go_roundg (n - (k + 1))
      case measure => omega
      case rel => exact ⟨k + 1, by omega, rfl, by go_num, ST.out.set hlt⟩
    · obtain rfl : k = n := by omega
      have b0 : wr.cell? ⟨w.heap.size, 0, none⟩ = some (.slice al S.length capl) := by rw [cell_of_row _ _ _ _ _ _ ST.out.box, HBE.out]; rfl
      have ST1 := hid (ST.out.next S.length)
      have hz := ST.out.sz
      clear ST
      go_wp2_with fail
      go_loopg [47] S.length (fun g i wr => ∃ k0 : Nat, k0 ≤ S.length ∧ g = S.length - k0 ∧ i = .int .i64 (k0 : Int) ∧ FcB w wr bx k S.length k0)
      case atStart => exact ⟨0, Nat.zero_le _, rfl, rfl, ST1.out⟩
      case round =>
        obtain ⟨k0, hk0, rfl, rfl, hst⟩ := hrel
        have ST := hid hst
        clear hst ST1
        by_cases hlt : k0 < S.length
        · have hki : (k0 : Int) < (S.length : Int) := by omega
          have c0 := ST.out.wa.cell (j := k0 * 2) (by omega)
          have f0 := ST.out.wa.free (k0 * 2)
          have c1 := ST.out.wa.cell (j := k0 * 2 + 1) (by omega)
          have f1 := ST.out.wa.free (k0 * 2 + 1)
          go_wp2_with fail
          go_roundg (S.length - (k0 + 1))
          case measure => omega
          case rel => exact ⟨k0 + 1, by omega, rfl, by go_num, ST.out.set hlt⟩
        · obtain rfl : k0 = S.length := by omega
          have hz2 := ST.out.sz
          have b1 : wr.cell? ⟨Bc, 1, none⟩ = some (.int .i64 (m : Int)) := (ST.out.bel.cell (p := ⟨Bc, 1, none⟩) hB).trans (by rw [cell_of_row _ _ _ _ _ _ HBX.out]; rfl)
          have ST1 := hid (ST.out.next m)
          have b2 : (wr.alloc (.cells (rowF (m * 2) fun _ => .slice none 0 0) 109)).cell? ⟨Bc, 2, none⟩ = some (.slice a A.length cap) := (ST1.out.bel.cell (p := ⟨Bc, 2, none⟩) hB).trans (by rw [cell_of_row _ _ _ _ _ _ HBX.out]; rfl)
          clear ST
          go_wp2_with fail
          go_loopg [65] A.length (fun g i wr => ∃ (q : Nat) (v : Nat → Value), q ≤ A.length ∧ g = A.length - q ∧ i = .int .i64 (q : Int) ∧ FcSt w wr bx k S.length m v (fcF back A (txOf S) ow q))
          case atStart => exact ⟨0, _, Nat.zero_le _, rfl, rfl, ST1.out⟩
          case round =>
            obtain ⟨q, v, hq, rfl, rfl, hst⟩ := hrel
            have ST := hid hst
            clear hst ST1 b0 b1 b2
            by_cases hlt : q < A.length
            · have hki : (q : Int) < (A.length : Int) := by omega
              have b2 : wr.cell? ⟨Bc, 2, none⟩ = some (.slice a A.length cap) := (ST.out.bel.cell (p := ⟨Bc, 2, none⟩) hB).trans (by rw [cell_of_row _ _ _ _ _ _ HBX.out]; rfl)
              have HST := hid (show fcF back A (txOf S) ow (q + 1) = fcStep back (fun q => (A.getD q a0).p) (txOf S) (ow (fcAt back A.length q)) (A.getD (fcAt back A.length q) a0) (fcAt back A.length q) (fcF back A (txOf S) ow q) from rfl)
              have HOK := hid (fcF_ok back A (txOf S) ow S.length HW.out q (by omega))
              obtain ⟨s, hs⟩ : ∃ s, fcF back A (txOf S) ow q = s := ⟨_, rfl⟩
              rw [hs] at HST HOK ST
              clear hs
              obtain ⟨p, hp⟩ : ∃ p, fcAt back A.length q = p := ⟨_, rfl⟩
              have hpl : p < A.length := by rw [← hp]; unfold fcAt; split <;> omega
              go_upto_if 69 with fail
              go_cut [2, 13] (fun b t wc => b = .bool back ∧ t = .int .i64 (p : Int) ∧ FcSt w wc bx k S.length m v s)
              case first =>
                rcases Bool.eq_false_or_eq_true back with hb | hb
                · subst hb
                  go_wp2_with fail
                  go_meet
                  refine ⟨rfl, ?_, ST.out⟩
                  have : (p : Int) = (A.length : Int) - 1 - (q : Int) := by rw [← hp]; unfold fcAt; rw [if_pos rfl]; omega
                  rw [this]
                · subst hb
                  go_wp2_with fail
                  go_meet
                  refine ⟨rfl, ?_, ST.out⟩
                  rw [← hp]; rfl
              case rest =>
                obtain ⟨rfl, rfl, hc1⟩ := hcut
                have N1 := hid hc1
                rw [hp] at HST
                clear hc1 ST b2 hp
                obtain ⟨b, off, rfl, hbl, c0', c1', c2', c3'⟩ := acc_at HS.out hpl hpl
                obtain ⟨c, hc⟩ : ∃ c, A[p] = c := ⟨_, rfl⟩
                have hgd : A.getD p a0 = c := by rw [← hc]; simp [List.getD_eq_getElem?_getD, List.getElem?_eq_getElem hpl]
                rw [hgd] at HST
                have hsm := HM.out c (by rw [← hc]; exact List.getElem_mem _)
                rw [hc] at c0' c1' c2' c3'
                have c0 : wc.cell? ⟨b, off + p * 4, none⟩ = some (.int .i64 (c.x : Int)) := (N1.out.bel.cell (p := ⟨b, off + p * 4, none⟩) hbl).trans c0'
                have c1 : wc.cell? ⟨b, off + p * 4 + 1, none⟩ = some (.int .i64 (c.i : Int)) := (N1.out.bel.cell (p := ⟨b, off + p * 4 + 1, none⟩) hbl).trans c1'
                have c2 : wc.cell? ⟨b, off + p * 4 + 2, none⟩ = some (.int .i64 (c.p : Int)) := (N1.out.bel.cell (p := ⟨b, off + p * 4 + 2, none⟩) hbl).trans c2'
                have c3 : wc.cell? ⟨b, off + p * 4 + 3, none⟩ = some (.bool c.w) := (N1.out.bel.cell (p := ⟨b, off + p * 4 + 3, none⟩) hbl).trans c3'
                have d0 : wc.cell? ⟨w.heap.size, 1, none⟩ = some (.slice (some ⟨Bo, 0, none⟩) A.length A.length) := by rw [cell_of_row _ _ _ _ _ _ N1.out.box, HBE.out]; rfl
                have d1 : wc.cell? ⟨Bo, p, none⟩ = some (.int .i64 (ow p : Int)) := (N1.out.bel.cell (p := ⟨Bo, p, none⟩) HO.out.lt).trans (HO.out.cell hpl)
                have d2 : wc.cell? ⟨Bc, 2, none⟩ = some (.slice (some ⟨b, off, none⟩) A.length cap) := (N1.out.bel.cell (p := ⟨Bc, 2, none⟩) hB).trans (by rw [cell_of_row _ _ _ _ _ _ HBX.out]; rfl)
                have hsz := N1.out.lt
                have hbo := HO.out.lt
                have hpi : (p : Int) < (A.length : Int) := by omega
                have hp0 : (0 : Int) ≤ (p : Int) := by omega
                have HC := hid hc
                clear c0' c1' c2' c3' hc hgd
                go_upto_region 20 with fail
                go_cut [14, 15] (fun pp t wd => ∃ B, pp = .pointer (some ⟨B, 0, none⟩) ∧ t = .int .i64 (ow p : Int) ∧ FcC w wd bx k S.length m v s B c)
                case first =>
                  have hn1 : b ≠ wc.heap.size := by have := N1.out.bel.size; omega
                  have hn2 : w.heap.size ≠ wc.heap.size := by omega
                  have hn3 : Bo ≠ wc.heap.size := by omega
                  have hn4 : Bc ≠ wc.heap.size := by omega
                  go_region_held3 (fun W => W.cell? ⟨Bc, 2, none⟩ = some (.slice (some ⟨b, off, none⟩) A.length cap) ∧ W.cell? ⟨b, off + p * 4, none⟩ = some (.int .i64 (c.x : Int)) ∧ W.cell? ⟨b, off + p * 4 + 1, none⟩ = some (.int .i64 (c.i : Int)) ∧ W.cell? ⟨b, off + p * 4 + 2, none⟩ = some (.int .i64 (c.p : Int)) ∧ W.cell? ⟨b, off + p * 4 + 3, none⟩ = some (.bool c.w) ∧ W.cell? ⟨w.heap.size, 1, none⟩ = some (.slice (some ⟨Bo, 0, none⟩) A.length A.length) ∧ W.cell? ⟨Bo, p, none⟩ = some (.int .i64 (ow p : Int))) (go_keep) (fail)
                  all_goals go_wp2
                  all_goals go_meet
                  all_goals exact ⟨wc.heap.size, rfl, rfl, FcC.drew ⟨N1.out.alloc _, ⟨heap_alloc_new _ _, by omega⟩, hsz⟩⟩
                case rest =>
                  obtain ⟨B, rfl, rfl, hc1⟩ := hcut
                  have N2 := hid hc1
                  clear hc1 N1 c0 c1 c2 c3 d0 d1 d2 hsz
                  have e1 := N2.out.cp.c1
                  have hci : (c.i : Int) < (m : Int) := by omega
                  have hci0 : (0 : Int) ≤ (c.i : Int) := by omega
                  obtain ⟨own, hown⟩ : ∃ own, ow p = own := ⟨_, rfl⟩
                  have hownS : own < S.length := by rw [← hown]; exact HW.out p hpl
                  rw [hown] at HST ⊢
                  clear hown
                  go_wp2_with fail
                  go_loopg [96] 2 (fun g i wi => ∃ (h : Nat) (v' : Nat → Value), h ≤ 2 ∧ g = 2 - h ∧ i = .int .i64 (h : Int) ∧ FcC w wi bx k S.length m v' (fcHs back (fun q => (A.getD q a0).p) (txOf S) own c s h) B c)
                  case atStart => exact ⟨0, v, by omega, rfl, rfl, N2.out⟩
                  case round =>
                    obtain ⟨h, v', hh, rfl, rfl, hst⟩ := hrel
                    have N3 := hid hst
                    clear hst N2
                    by_cases hlt2 : h < 2
                    · have hli := N3.out.li (i := c.i * 2 + h) (by omega)
                      have hh2 : (h : Int) < 2 := by omega
                      have hh0 : (0 : Int) ≤ (h : Int) := by omega
                      have e3 := N3.out.cp.c3
                      have HOK3 := hid (fcHs_ok (back := back) (P := fun q => (A.getD q a0).p) (tx := txOf S) (own := own) (c := c) HOK.out h)
                      have HSN := hid (show fcHs back (fun q => (A.getD q a0).p) (txOf S) own c s (h + 1) = fcHalf back (fun q => (A.getD q a0).p) (txOf S) own c (fcHs back (fun q => (A.getD q a0).p) (txOf S) own c s h) h from rfl)
                      obtain ⟨s1, hs1⟩ : ∃ s1, fcHs back (fun q => (A.getD q a0).p) (txOf S) own c s h = s1 := ⟨_, rfl⟩
                      rw [hs1] at N3 HOK3 HSN
                      clear hs1
                      obtain ⟨la, lcap, hvl, hllc, hA1, hA2⟩ := own_form (N3.out.st.fam.own (c.i * 2 + h) (by omega))
                      obtain ⟨l, hll⟩ : ∃ l, s1.L (c.i * 2 + h) = l := ⟨_, rfl⟩
                      rw [hll] at hvl hllc hA2
                      rw [hvl] at hli
                      have hll2 : l.length ≤ 300 := by rw [← hll]; have := HOK3.out.len (c.i * 2 + h); omega
                      have HLL := hid hll
                      have HVL := hid hvl
                      clear hll hvl
                      go_upto_region 24 with fail
                      go_cut [17, 18] (fun t1 t2 wd => t1 = .int .i64 (h : Int) ∧ t2 = .slice la l.length lcap ∧ FcC w wd bx k S.length m v' s1 B c)
                      case first =>
                        go_quiet (fail)
                        go_wp2
                        go_meet
                        exact ⟨rfl, rfl, N3.out.drewN _⟩
                      case rest =>
                        obtain ⟨rfl, rfl, hc1⟩ := hcut
                        have N4 := hid hc1
                        clear hc1 N3 hli e3
                        have e3 := N4.out.cp.c3
                        go_upto_region 25 with fail
                        go_cut [108] (fun t wd => t = .bool (decide (h = 0 ∧ c.w = false)) ∧ FcC w wd bx k S.length m v' s1 B c)
                        case first =>
                          by_cases h0 : h = 0
                          · subst h0
                            cases hcw : c.w with
                            | true =>
                              rw [hcw] at e3
                              go_wp2_with fail
                              go_meet
                              exact ⟨by simp [hcw], N4.out⟩
                            | false =>
                              rw [hcw] at e3
                              go_wp2_with fail
                              go_meet
                              exact ⟨by simp [hcw], N4.out⟩
                          · have hb1 : ((h : Int) == 0) = false := by simp; omega
                            go_wp2_with fail
                            go_meet
                            exact ⟨by simp [h0], N4.out⟩
                        case rest =>
                          obtain ⟨rfl, hc1⟩ := hcut
                          have N5 := hid hc1
                          clear hc1 N4 e3
                          by_cases hsk : h = 0 ∧ c.w = false
                          · have hd : decide (h = 0 ∧ c.w = false) = true := decide_eq_true hsk
                            go_wp2_with fail
                            go_roundg (2 - (h + 1))
                            case measure => omega
                            case rel => exact ⟨h + 1, v', by omega, rfl, by go_num, by rw [HSN.out]; unfold fcHalf; rw [if_pos hsk]; exact N5.out⟩
                          · have hd : decide (h = 0 ∧ c.w = false) = false := decide_eq_false hsk
                            have hcap0 : (0 : Int) ≤ (lcap : Int) := by omega
                            have HHF := hid (show fcHalf back (fun q => (A.getD q a0).p) (txOf S) own c s1 h = ⟨l.foldl (fcIn back (fun q => (A.getD q a0).p) (txOf S) s1.U own c) s1.F, s1.U, updL s1.L (c.i * 2 + h) (l.filter (· == own))⟩ from by unfold fcHalf; rw [if_neg hsk, HLL.out])
                            have hlti : (l.length : Int) ≤ 300 := by omega
                            rw [hd]
                            clear hd
                            go_wp2_with fail
                            go_loopg [19, 113] l.length (fun g kept i wi => ∃ (j : Nat) (M : List Nat), j ≤ l.length ∧ g = l.length - j ∧ i = .int .i64 (j : Int) ∧ kept = .slice la ((l.take j).filter (· == own)).length lcap ∧ M.length = l.length ∧ M.drop j = l.drop j ∧ M.take ((l.take j).filter (· == own)).length = (l.take j).filter (· == own) ∧ FcC w wi bx k S.length m v' ⟨(l.take j).foldl (fcIn back (fun q => (A.getD q a0).p) (txOf S) s1.U own c) s1.F, s1.U, updL s1.L (c.i * 2 + h) M⟩ B c)
                            case atStart =>
                              refine ⟨0, l, Nat.zero_le _, rfl, rfl, rfl, rfl, rfl, rfl, ?_⟩
                              have e : updL s1.L (c.i * 2 + h) l = s1.L := by rw [← HLL.out]; exact updL_self _ _
                              rw [e]; exact N5.out
                            case round =>
                              obtain ⟨j, M, hj, rfl, rfl, rfl, hM1, hM2, hM3, hst⟩ := hrel
                              have N6 := hid hst
                              have HM1 := hid hM1
                              have HM2 := hid hM2
                              have HM3 := hid hM3
                              clear hst N5 hM1 hM2 hM3
                              have HO6 := hid (show wr.ownsRow (w.heap.size + 4) 3 1 (.slice la l.length lcap) M.length (rowI M) from by have := N6.out.st.fam.own (c.i * 2 + h) (by omega); rw [HVL.out] at this; dsimp only at this; rw [updL_same] at this; exact this)
                              by_cases hjl : j < l.length
                              · refine fc_round5 w wr back Bc k m capt Bo Bm cap capl B own lcap h j at_ (some ⟨b, off, none⟩) al la A S c s1 l M v' bx hA hS hn hm hB HS HL HTX HBX HBE hsm hlt2 hsk hll2 hllc _ rfl q HOK3 HLL HVL hjl HM1 HM2 HM3 N6 _ _ _ _ _ _ _ _ _ _ _ _ _ _ _ _ _ _ _ _ _ _ _ _ _ _ _ _ _ _ _ _ _ _ _ _ _ _ _ _ _ _ _ _ _ _ _ _ _ _ _ _ _ _ _ _ _ _ _ _ _ _ _ _ _ _ _ _ _ _ _ _ _ _ _ _ _ _ _ _ _ _ _ _ _ _ _ _ _ _ _ _ _ _ _ _ _ _ _ _ _ _ _ _ _ _ _ _ _ _ _ _ _ _ _ _ _ _ _ _ _ _ _ _ _ _ _ _ _ _ _ _ _ _ _ _ _ _ _ _ _ _ _ _ _ _ _ _ _ _ _ _ _ _ _ _ _ _ _ _ _ _ _ _ _ _ _ _ _ _ _ _ _ _ _ _ _ _ _ _ _ _ _ _ _ _ _ _ _ _ _ _ _ _ _ _ _ _ _ _ _ _ _ _ _ _ _ _ _ _ _ _ _ _ _ _ _ _ _ _ _ _ _ _ ?_
                                intro u21 u22 u23 u114 u115 u116 u117 u118 u119 u120 u121 u122 u123 u124 u125 u126 u127 u128 u129 u130 u131 u132 u133 u134 u135 u136 u137 u138 u139 u140 u141 u142 u143 u144 u145 u146 u147 u148 u149 u150 u151 u152 u153 u154 u155 u156 u157 u158 u159 u160 u161 u162 u163 u164 u165 u166 u167 u168 u169 u170 u171 u172 u173 u174 u175 u176 u177 wi hM
                                obtain ⟨M', hM1, hM2, hM3, hst⟩ := hM
                                dsimp only [Exit.then]
                                go_wp2_with fail
                                go_roundg (l.length - (j + 1))
                                case measure => omega
                                case rel => exact ⟨j + 1, M', by omega, rfl, rfl, rfl, hM1, hM2, hM3, hst⟩
                              · obtain rfl : j = l.length := by omega
                                rw [List.take_length] at N6 HM3 ⊢
                                have hli := N6.out.li (i := c.i * 2 + h) (by omega)
                                have hlf := N6.out.st.wt.free (c.i * 2 + h)
                                have HO7 : wr.ownsRow (w.heap.size + 4) 3 1 (.slice la l.length lcap) l.length (rowI M) := by have := HO6.out; rw [HM1.out] at this; exact this
                                have HO8 := own_take' HO7 (k := (l.filter (· == own)).length) (List.length_filter_le _ _)
                                rw [HM3.out] at HO8
                                have H8 := N6.out.turn (i := c.i * 2 + h) (by omega) HO8 (World.grownBy.refl wr _) (fun g hg => .inl (by rw [HVL.out]; cases la with | none => simp [Value.ownBlock] at hg | some x => exact hg))
                                have H9 := hid H8.2.2
                                clear H8 HO7 HO8
                                rw [HVL.out] at hli
                                go_wp2_with fail
                                go_roundg (2 - (h + 1))
                                case measure => omega
                                case rel =>
                                  have HX := H9.out.out
                                  rw [updL_updL] at HX
                                  exact ⟨h + 1, _, by omega, rfl, by go_num, by rw [HSN.out, HHF.out]; exact HX⟩
                    · obtain rfl : h = 2 := by omega
                      have HS2 := hid (show fcStep back (fun q => (A.getD q a0).p) (txOf S) own c p s = fcReg2 own c p (fcReg1 own c p (fcHs back (fun q => (A.getD q a0).p) (txOf S) own c s 2)) from rfl)
                      have HOK3 := hid (fcHs_ok (back := back) (P := fun q => (A.getD q a0).p) (tx := txOf S) (own := own) (c := c) HOK.out 2)
                      obtain ⟨s2, hs2⟩ : ∃ s2, fcHs back (fun q => (A.getD q a0).p) (txOf S) own c s 2 = s2 := ⟨_, rfl⟩
                      rw [hs2] at N3 HOK3 HS2
                      clear hs2
                      go_upto_if 97 with fail
                      refine wp_cond_false rfl (wp_exit ?_)
                      dsimp only [Exit.then, Exit.inBlock]
                      simp only [if_true]
                      apply_assumption
                      refine fc_post w wr Bc k m A.length q p B own S c s2 v' bx hA hS hlt hm hsm hownS hpl HOK3 N3 _ _ _ _ _ _ _ _ _ _ _ _ _ _ _ _ _ _ _ _ _ _ _ _ _ _ _ _ _ _ _ _ _ _ _ _ _ _ _ _ _ _ _ _ _ _ _ _ _ _ _ _ _ _ _ _ _ _ _ _ _ _ _ _ _ _ _ _ _ _ _ _ _ _ _ _ _ _ _ _ _ _ _ _ _ _ _ _ _ _ _ _ _ _ _ _ _ _ _ _ _ _ _ _ _ _ _ _ _ _ _ _ _ _ _ _ _ _ _ _ _ _ _ _ _ _ _ _ _ _ _ _ _ _ _ _ _ _ _ _ _ _ _ _ _ _ _ _ _ _ _ _ _ _ _ _ _ _ _ _ _ _ _ _ _ _ _ _ _ _ _ _ _ _ _ _ _ _ _ _ _ _ _ _ _ _ _ _ _ _ _ _ _ _ _ _ _ _ _ _ _ _ _ _ _ _ _ _ _ _ _ _ _ _ _ _ _ _ _ _ _ _ _ _ _ _ _ _ _ ?_
                      intro u24 u184 u185 u186 u187 u188 u189 u190 u191 u192 u193 u194 u195 u196 u197 u198 u199 u200 u201 u202 u203 u204 u205 u206 u207 u208 u209 u210 u211 u212 u213 u214 u215 u216 u217 u218 u219 u220 u221 u222 u223 u224 u225 u226 u227 u228 u229 u230 u231 wi hst
                      obtain ⟨v2, hst⟩ := hst
                      dsimp only [Exit.then]
                      go_wp2_with fail
                      go_roundg (A.length - (q + 1))
                      case measure => omega
                      case rel => exact ⟨q + 1, v2, by omega, rfl, by go_num, by rw [HST.out, HS2.out]; exact hst⟩
            · obtain rfl : q = A.length := by omega
              go_wp2_with fail
              go_ret
              exact ⟨rfl, ST.out.fi, ST.out.bel⟩

end Go.Proofs.YbulkbgasDoor

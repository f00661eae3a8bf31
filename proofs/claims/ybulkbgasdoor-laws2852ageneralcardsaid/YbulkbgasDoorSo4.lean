import Derived.Test.YbulkbgasDoorSo3
namespace Go.Proofs.YbulkbgasDoor
open Go.RowKit Go.Maps
set_option linter.unusedVariables false
attribute [local go_sem ↓] Go.wp_at_zero Go.wp_at_succ

/-- serialOrder stops short only where every node left has an arc from a node left. -/
theorem Kahn.stuck {X : Nat → List Nat} {n : Nat} {O : List Nat} {D : Nat → Int} (h : Kahn X n O [] D) : ∀ j, j < n → j ∉ O → ∃ i, i < n ∧ i ∉ O ∧ j ∈ X i := by
  intro j hj hjO
  apply Classical.byContradiction
  intro hn
  have hz : deg X n O j = 0 := deg_of_in fun i hi hm => by
    apply Classical.byContradiction
    intro hi2
    exact hn ⟨i, hi, hi2, hm⟩
  have := (h.zr j hj).2 (by rw [h.dg j hj, hz]; rfl)
  exact hjO (by simpa using this)

set_option maxRecDepth 100000 in
set_option maxHeartbeats 4000000 in
theorem order_gen (w : World) (vt : Value) (tx : List Int) (Bn n : Nat) (X : Nat → List Nat) (v : Nat → Value) (htl : tx.length = n) (hst : SlI w vt tx) (hn : n ≤ 100) (hsc : Fix w Bn 54 n v) (hrow : ∀ i, i < n → ∃ base, w.ownsRow base 3 1 (v i) (X i).length (rowI (X i))) (hup : ∀ i, i < n → ∀ j ∈ X i, j < n) (hlen : ∀ i, i < n → (X i).length ≤ 100000) :
    Calls Ybad.prog 26 #[vt, .slice (some ⟨Bn, 0, none⟩) n n] w fun e w' => Below w.heap.size w w' ∧ ((∃ vo O, e = .returned (.tuple #[vo, .bool true]) ∧ (∃ bo co, vo = .slice (some ⟨bo, 0, none⟩) n co) ∧ O.length = n ∧ O.Nodup ∧ (∀ j ∈ O, j < n) ∧ Topo X n O ∧ SlI w' vo (O.map fun i => tx.getD i 0)) ∨ ∃ O : List Nat, e = .returned (.tuple #[.slice none 0 0, .bool false]) ∧ O.length < n ∧ O.Nodup ∧ (∀ j ∈ O, j < n) ∧ ∀ j, j < n → j ∉ O → ∃ i, i < n ∧ i ∉ O ∧ j ∈ X i) := by
  obtain ⟨a, capt, rfl, hcap, hel⟩ := hst
  have HT := hid hel
  have HR := hid hrow
  have HU := hid hup
  have HLN := hid hlen
  have HSC := hid hsc
  have HTL := hid htl
  have hBn := hsc.lt
  rw [htl]
  clear hel hrow hup hlen hsc htl hcap
  have hmk := fun (W : World) => mkRow1 Ybad.E54 rfl n (by omega) W
  go_enter Ybad.func26, Ybad.ntmps26
  go_wp2_with fail
  go_loopg [23] n (fun g i wr => ∃ r : Nat, r ≤ n ∧ g = n - r ∧ i = .int .i64 (r : Int) ∧ SoA w wr n (degTo X r))
  case atStart => exact ⟨0, Nat.zero_le _, rfl, rfl, alloc_at rfl, by simp, (Below.refl _ w).alloc (Nat.le_refl _) _⟩
  case round =>
    obtain ⟨r, hr, rfl, rfl, hst⟩ := hrel
    have ST := hid hst
    clear hst
    by_cases hlt : r < n
    · have hri : (r : Int) < (n : Int) := by omega
      obtain ⟨base, hown⟩ := HR.out r hlt
      have HOW := hid hown
      obtain ⟨ar, capr, hvr, hlr, hA1, hA2⟩ := own_form hown
      have c0 : wr.cell? ⟨Bn, r, none⟩ = some (v r) := (ST.out.bel.cell (p := ⟨Bn, r, none⟩) hBn).trans (HSC.out.cell hlt)
      rw [hvr] at c0
      have HV := hid hvr
      have hl2 : ((X r).length : Int) ≤ 100000 := by have := HLN.out r hlt; omega
      clear hown hvr
      go_wp2_with fail
      go_loopg [29] (X r).length (fun g i wi => ∃ t : Nat, t ≤ (X r).length ∧ g = (X r).length - t ∧ i = .int .i64 (t : Int) ∧ SoA w wi n (fun j => degTo X r j + ((X r).take t).count j))
      case atStart => exact ⟨0, Nat.zero_le _, rfl, rfl, by simpa using ST.out⟩
      case round =>
        obtain ⟨t, ht, rfl, rfl, hst⟩ := hrel
        have S2 := hid hst
        clear hst ST
        by_cases hlt2 : t < (X r).length
        · have hti : (t : Int) < ((X r).length : Int) := by omega
          have ho := HOW.out
          rw [HV.out] at ho
          obtain ⟨g, cap1, hv1, hg1, hg2, hg3, hc1⟩ := ownI_cell ho hlt2
          simp only [Value.slice.injEq] at hv1
          obtain ⟨rfl, hjunk, rfl⟩ := hv1
          clear hjunk ho
          obtain ⟨j, hj⟩ : ∃ j, (X r)[t] = j := ⟨_, rfl⟩
          rw [hj] at hc1
          have hjn : j < n := HU.out r hlt j (by rw [← hj]; exact List.getElem_mem _)
          have hc2 : wr.cell? ⟨g, t, none⟩ = some (.int .i64 (j : Int)) := (S2.out.bel.cell (p := ⟨g, t, none⟩) hg2).trans hc1
          have d0 := S2.out.fx.cell hjn
          have f0 := S2.out.fx.free j
          have hb := degTo_le (r := r) (L := 100000) (fun i hi => HLN.out i (by omega)) j
          have hb2 : ((X r).take t).count j ≤ 100000 := Nat.le_trans List.count_le_length (by rw [List.length_take]; omega)
          have hb3 : (r : Int) * ((100000 : Nat) : Int) ≤ 100 * 100000 := by omega
          have HJ := hid hj
          obtain ⟨dj, hdj⟩ : ∃ dj : Int, degTo X r j + (((X r).take t).count j : Int) = dj := ⟨_, rfl⟩
          try dsimp only at d0
          rw [hdj] at d0
          have hdj1 : 0 ≤ dj := by omega
          have hdj2 : dj ≤ 100000000 := by omega
          have HD := hid hdj
          have hji : (j : Int) < (n : Int) := by omega
          have hj0 : (0 : Int) ≤ (j : Int) := by omega
          clear hj hdj hc1 hb hb2 hb3
          go_wp2_with fail
          go_roundg ((X r).length - (t + 1))
          case measure => omega
          case rel =>
            refine ⟨t + 1, by omega, rfl, by go_num, ?_⟩
            have H9 := S2.out.setD hjn (dj + 1)
            have e : (fun k => degTo X r k + (((X r).take (t + 1)).count k : Int)) = updL (fun j => degTo X r j + (((X r).take t).count j : Int)) j (dj + 1) := by
              funext k
              rw [count_take_succ hlt2, HJ.out]
              unfold updL
              dsimp only
              by_cases ek : k = j
              · subst ek; rw [if_pos rfl, if_pos rfl, ← HD.out]; omega
              · rw [if_neg ek, if_neg (fun h => ek h.symm)]; omega
            rw [e]; exact H9
        · obtain rfl : t = (X r).length := by omega
          go_wp2_with fail
          go_roundg (n - (r + 1))
          case measure => omega
          case rel =>
            refine ⟨r + 1, by omega, rfl, by go_num, ?_⟩
            have e : degTo X (r + 1) = fun j => degTo X r j + (((X r).take (X r).length).count j : Int) := by funext j; rw [List.take_length, degTo_succ]
            rw [e]; exact S2.out
    · obtain rfl : r = n := by omega
      have S3 := hid ST.out.begin
      have hz := ST.out.sz
      clear ST
      go_wp2_with fail
      go_loopg [43] r (fun g i wr => ∃ (k : Nat) (vH : Value), k ≤ r ∧ g = r - k ∧ i = .int .i64 (k : Int) ∧ SoB w wr r (degTo X r) (kBegin (degTo X r) k) vH)
      case atStart => exact ⟨0, _, Nat.zero_le _, rfl, rfl, S3.out⟩
      case round =>
        obtain ⟨k, vH, hk, rfl, rfl, hst⟩ := hrel
        have S4 := hid hst
        clear hst S3
        by_cases hlt2 : k < r
        · have hki : (k : Int) < (r : Int) := by omega
          have d0 := S4.out.fx.cell hlt2
          have HKB := hid (kBegin_succ (degTo X r) k)
          obtain ⟨dk, hdk⟩ : ∃ dk, degTo X r k = dk := ⟨_, rfl⟩
          try dsimp only at d0
          rw [hdk] at d0 HKB
          clear hdk
          by_cases h0 : dk = 0
          · subst h0
            rw [if_pos rfl] at HKB
            have b0 := S4.out.hp.cell
            have hkl : (kBegin (degTo X r) k).length ≤ k := by unfold kBegin; exact Nat.le_trans (List.length_filter_le _ _) (by simp)
            have hsz := S4.out.lt
            obtain ⟨Hk, hHk⟩ : ∃ Hk, kBegin (degTo X r) k = Hk := ⟨_, rfl⟩
            rw [hHk] at S4 HKB hkl
            clear hHk
            go_wp2_with (first
              | ((with_reducible refine apK Ybad.E115 (t := 50) (u := 52) (w.heap.size + 2) vH Hk.length (rowI Hk) [.int .i64 (k : Int)] wr.heap.size ?_ ?_ ?_ ?_ ?_ ?_ ?_ ?_ ?_); (exact rfl); (exact rfl); (exact (S4.out.hp.own).alloc _); (exact heap_alloc_new _ _); (exact rfl); (intro x hx; simp at hx; subst hx; rfl); omega; (simp; omega); (intro g1 cap1 wE hownE hgE hatE _); (obtain ⟨k1, k2, H9⟩ := pushed ((HpTo.refl S4.out.hp).alloc _) hgE hownE hatE); clear hownE hgE hatE))
            go_roundg (r - (k + 1))
            case measure => omega
            case rel => exact ⟨k + 1, _, by omega, rfl, by go_num, by rw [HKB.out]; exact S4.out.to H9.out⟩
          · have hb1 : (dk == 0) = false := by simp [h0]
            rw [if_neg h0, List.append_nil] at HKB
            go_wp2_with fail
            go_roundg (r - (k + 1))
            case measure => omega
            case rel => exact ⟨k + 1, vH, by omega, rfl, by go_num, by rw [HKB.out]; exact S4.out⟩
        · obtain rfl : k = r := by omega
          have HK0 := hid (kahn_begin (X := X) (n := k) (D := degTo X k) (fun j _ => degTo_all X k j))
          obtain ⟨ie, hie, hz0, hsz0, hb0⟩ := info_parts Ybad.E47.info
          have hsz := S4.out.lt
          obtain ⟨w2, hmk2, hown2, hg2⟩ := run_make_own (P := Ybad.prog) wr (w.heap.size + 2) 47 32 ie _ 1 Ybad.E47.und hie hz0 hsz0 .i64 .i64 k (by rw [hb0]; omega) (by unfold maxLen; omega) (by omega)
          have S5 := hid (S4.out.make hown2 hg2)
          clear hie hz0 hsz0 hb0 hown2 hg2 S4 hmk
          obtain ⟨B3, hB3⟩ : ∃ B3, wr.heap.size = B3 := ⟨_, rfl⟩
          rw [hB3] at hmk2 S5
          clear hB3
          go_wp2_with fail
          go_loopg [14] k (fun g o wi => ∃ (O H : List Nat) (D : Nat → Int) (vH vO : Value), g = k - O.length ∧ o = vO ∧ Kahn X k O H D ∧ SoC w wi k D H vH (O.map fun i => tx.getD i 0) vO ∧ ∃ bo co, vO = .slice (some ⟨bo, 0, none⟩) O.length co)
          case atStart => exact ⟨[], _, _, _, _, rfl, rfl, HK0.out, S5.out, _, _, rfl⟩
          case round =>
            obtain ⟨O, H, D, vH, vO, rfl, rfl, hka, hst, hfm⟩ := hrel
            have HFM := hid hfm
            clear hfm
            have KA := hid hka
            have S6 := hid hst
            have hOH := hka.heapLen
            clear hst hka S5 HK0 hmk2
            obtain ⟨aH, capH, hvH, hlH, hA1, hA2⟩ := own_form S6.out.st.hp.own
            subst hvH
            have b0 := S6.out.st.hp.cell
            by_cases hH : H.length = 0
            · have hHn : H = [] := List.length_eq_zero_iff.1 hH
              subst hHn
              obtain ⟨aO, capO, hvO, hlO, hB1, hB2⟩ := own_form S6.out.ord
              subst hvO
              have hOle : O.length ≤ k := by simpa using hOH
              have hmap : (O.map fun i => tx.getD i 0).length = O.length := List.length_map _
              have HMP := hid hmap
              rw [hmap]
              clear hmap hH
              have hOH2 := hid hOH
              clear hOH
              by_cases hOl : O.length = k
              · have HOL := hid hOl
                rw [hOl]
                clear hOl
                go_wp2_with (go_at_call 39; refine Calls.mono (len_any _ _ _ _) ?_; rintro e w' ⟨rfl, rfl⟩)
                go_ret2
                refine ⟨S6.out.st.bel, .inl ⟨_, O, rfl, by obtain ⟨bo, co, e⟩ := HFM.out; simp only [Value.slice.injEq] at e; exact ⟨bo, capO, by obtain ⟨h1, _⟩ := e; subst h1; rfl⟩, HOL.out, by simpa using KA.out.nd, fun j hj => KA.out.lt j (by simpa using hj), KA.out.topo, ?_⟩⟩
                have := SlI.of_own S6.out.ord
                rw [HMP.out, HOL.out] at this
                exact this
              · have hOi : (O.length : Int) < (k : Int) := by omega
                go_wp2_with (go_at_call 39; refine Calls.mono (len_any _ _ _ _) ?_; rintro e w' ⟨rfl, rfl⟩)
                go_ret2
                exact ⟨S6.out.st.bel, .inr ⟨O, rfl, by omega, by simpa using KA.out.nd, fun j hj => KA.out.lt j (by simpa using hj), KA.out.stuck⟩⟩
            · have hHi : (0 : Int) < (H.length : Int) := by omega
              obtain ⟨aO, capO, hvO, hlO, hB1, hB2⟩ := own_form S6.out.ord
              subst hvO
              have hOl : (O.map fun i => tx.getD i 0).length = O.length := List.length_map _
              obtain ⟨T, hT⟩ : ∃ T, (O.map fun i => tx.getD i 0) = T := ⟨_, rfl⟩
              rw [hT] at S6 hOl ⊢
              have HTT := hid hT
              clear hT hB1 hB2 hlO
              have HPOP := hid (hpop_any S6.out.st.hp (by omega) (by omega))
              have hlt4 := S6.out.st.lt
              have hk0 : 0 < k := by omega
              obtain ⟨bt, offt, hat, hbt, _⟩ := int_at HT.out (k := 0) (by rw [HTL.out]; exact hk0) (by rw [HTL.out]; exact hk0)
              subst hat
              go_upto_region 21 with (first
                | (go_at_call 39; refine Calls.mono (len_any _ _ _ _) ?_; rintro e w' ⟨rfl, rfl⟩)
                | (go_at_call 40; refine Calls.mono HPOP.out ?_; rintro e w5 ⟨i, H1, vH1, rfl, hperm, hto⟩; have S7 := hid (S6.out.to hto); have KI := hid (KA.out.pop hperm); have hik := (KA.out.pop hperm).i_lt; have hta := ta3 (.int .i64 (i : Int)); clear hperm hto))
              have ct : w5.cell? ⟨bt, offt + i, none⟩ = some (.int .i64 (tx.getD i 0)) := (S7.out.st.bel.cell (p := ⟨bt, offt + i, none⟩) hbt).trans (int_cell HT.out (by rw [HTL.out]; exact hik))
              have hii : (i : Int) < (k : Int) := by omega
              have hi0 : (0 : Int) ≤ (i : Int) := by omega
              have hlt5 := S7.out.st.lt
              obtain ⟨bi, howi⟩ := HR.out i hik
              obtain ⟨ai, capi, hvi, hli, _, _⟩ := own_form howi
              have HOI := hid howi
              have HVI := hid hvi
              clear hvi howi
              have hti : T.length = O.length := hOl
              go_wp2_with (first
                | ((with_reducible refine apK Ybad.E47 (t := 64) (u := 69) (w.heap.size + 2) (.slice aO O.length capO) O.length (rowT T) [.int .i64 (tx.getD i 0)] w5.heap.size ?_ ?_ ?_ ?_ ?_ ?_ ?_ ?_ ?_); (exact rfl); (exact rfl); (exact (show w5.ownsRow _ _ _ _ _ _ from by have := S7.out.ord; rw [hOl] at this; exact this).alloc _); (exact heap_alloc_new _ _); (exact rfl); (intro x hx; simp at hx; subst hx; rfl); omega; (simp; omega); (intro g1 cap1 wE hownE hgE hatE _); (have S8 := hid (S7.out.ap _ (by rw [hOl]; exact hownE) (by rw [hOl]; exact hgE))); (have cs : wE.cell? ⟨Bn, i, none⟩ = some (.slice ai (X i).length capi) := (S8.out.st.bel.cell (p := ⟨Bn, i, none⟩) hBn).trans (by rw [HSC.out.cell hik, HVI.out])); clear hownE hgE hatE))
              have HXL := hid (HLN.out i hik)
              have hxl : ((X i).length : Int) ≤ 100000 := by have := HLN.out i hik; omega
              clear S7 cs ct
              obtain ⟨vO1, hvO1⟩ : ∃ vO1 : Value, vO1 = .slice (some ⟨g1, 0, none⟩) (O.length + 1) cap1 := ⟨_, rfl⟩
              rw [hOl, ← hvO1] at S8
              rw [← hvO1]
              have HVO1 := hid hvO1
              clear hvO1
              go_loopg [76] (X i).length (fun g0 iv wi => ∃ (t : Nat) (H2 : List Nat) (D2 : Nat → Int) (vH2 : Value), t ≤ (X i).length ∧ g0 = (X i).length - t ∧ iv = .int .i64 (t : Int) ∧ KIn X k O i ((X i).take t) H2 D2 ∧ SoC w wi k D2 H2 vH2 (T ++ [tx.getD i 0]) vO1)
              case atStart => exact ⟨0, _, _, _, Nat.zero_le _, rfl, rfl, KI.out, S8.out⟩
              case round =>
                obtain ⟨t, H2, D2, vH2, ht, rfl, rfl, hki, hst⟩ := hrel
                have K2 := hid hki
                have S9 := hid hst
                have hlen2 := hki.heapLen
                clear hki hst KI S8
                by_cases hlt3 : t < (X i).length
                · have hti2 : (t : Int) < ((X i).length : Int) := by omega
                  have ho := HOI.out
                  rw [HVI.out] at ho
                  obtain ⟨g, cap2, hv1, hg1, hg2, hg3, hc1⟩ := ownI_cell ho hlt3
                  simp only [Value.slice.injEq] at hv1
                  obtain ⟨rfl, hjunk, rfl⟩ := hv1
                  clear hjunk ho
                  obtain ⟨j, hj⟩ : ∃ j, (X i)[t] = j := ⟨_, rfl⟩
                  rw [hj] at hc1
                  have hjn : j < k := HU.out i hik j (by rw [← hj]; exact List.getElem_mem _)
                  have hc2 : wr.cell? ⟨g, t, none⟩ = some (.int .i64 (j : Int)) := (S9.out.st.bel.cell (p := ⟨g, t, none⟩) hg2).trans hc1
                  have HX := hid (show X i = (X i).take t ++ j :: (X i).drop (t + 1) from by conv => lhs; rw [← List.take_append_drop t (X i), List.drop_eq_getElem_cons hlt3, hj])
                  have HTK := hid (show (X i).take (t + 1) = (X i).take t ++ [j] from by rw [List.take_succ_eq_append_getElem hlt3, hj])
                  have HST := hid (K2.out.step HX.out hjn)
                  have d0 := S9.out.st.fx.cell hjn
                  have f0 := S9.out.st.fx.free j
                  have hb1 := K2.out.dg j hjn
                  have hb2 := deg_le X k O j
                  have hb3 := (degTo_le (r := k) (L := 100000) (fun i hi => HLN.out i hi) j).2
                  have hb4 : (k : Int) * ((100000 : Nat) : Int) ≤ 100 * 100000 := by omega
                  have hd1 := HST.out.1
                  obtain ⟨dj, hdj⟩ : ∃ dj, D2 j = dj := ⟨_, rfl⟩
                  rw [hdj] at d0 HST hb1 hd1
                  have hdj2 : dj ≤ 100000000 := by omega
                  have hji : (j : Int) < (k : Int) := by omega
                  have hj0 : (0 : Int) ≤ (j : Int) := by omega
                  have SA := hid (S9.out.setD hjn (dj - 1))
                  have HJ := hid hj
                  have HDJ := hid hdj
                  clear hj hdj hc1 hb1 hb2 hb3 hb4
                  by_cases h0 : dj - 1 = 0
                  · obtain rfl : dj = 1 := by omega
                    have HPU := hid (hpush_any SA.out.st.hp (by omega) (by have := SA.out.st.lt; omega) j)
                    have hz9 := SA.out.st.fx.cell hjn
                    go_wp2_with (go_at_call 41; refine Calls.mono HPU.out ?_; rintro e w6 ⟨rfl, H3, vH3, hperm, hto⟩)
                    go_roundg ((X i).length - (t + 1))
                    case measure => omega
                    case rel => exact ⟨t + 1, H3, _, vH3, by omega, rfl, by go_num, by rw [HTK.out]; exact HST.out.2.2 rfl H3 hperm, SA.out.to hto⟩
                  · have hb5 : (dj - 1 == 0) = false := by simp [h0]
                    go_wp2_with fail
                    go_roundg ((X i).length - (t + 1))
                    case measure => omega
                    case rel => exact ⟨t + 1, H2, _, vH2, by omega, rfl, by go_num, by rw [HTK.out]; exact HST.out.2.1 h0, SA.out⟩
                · obtain rfl : t = (X i).length := by omega
                  rw [List.take_length] at K2
                  go_wp2_with fail
                  go_roundg (k - (O.length + 1))
                  case measure => omega
                  case rel =>
                    refine ⟨O ++ [i], H2, D2, vH2, vO1, by simp, rfl, K2.out.done, ?_, g1, cap1, by rw [HVO1.out]; simp⟩
                    rw [List.map_append, HTT.out]
                    exact S9.out
end Go.Proofs.YbulkbgasDoor

import Derived.Test.YbulkbgasDoorTk1
namespace Go.Proofs.YbulkbgasDoor
open Go.RowKit Go.Maps
set_option linter.unusedVariables false
attribute [local go_sem ↓] Go.wp_at_zero Go.wp_at_succ

theorem TkI.flen {n u : Nat} {Tx : List Nat} {fr i : Nat} {met0 met : Nat → Bool} {F0 F : List Nat} {R : Nat → Nat} (h : TkI n u Tx fr i met0 F0 met F R) : F.length ≤ F0.length + n := by
  obtain ⟨G, h1, h2, h3, _⟩ := h.gr
  have := nodup_lenN' (List.range n) G h2 (fun t ht => List.mem_range.2 (h3 t ht).1)
  rw [List.length_range] at this
  rw [h1, List.length_append]
  omega

set_option maxRecDepth 1000000 in
set_option maxHeartbeats 4000000 in
theorem take_any (w0 w1 w : World) (n m L Bc : Nat) (b : Nat → Nat) (met : Nat → Bool) (ia nw rd wn : Nat → Nat) (v : Nat → Value) (X : Nat → List Nat) (T u : Nat) (vf : Value) (F : List Nat) (hM : TkM w0 w1 w n m L Bc b met ia nw rd wn v X T u vf F)
    (r r2 k g fr : Nat) (R : Nat → Nat) (hr : r < cwN n m) (hr2 : r2 < cwN n m) (hne : r2 ≠ r) (hv : v r = .slice (some ⟨g, 0, none⟩) (k + 1) (k + 1)) (hX : X r = rowR k R) (hk : (X r2).length = k) (hkl : k ≤ 300) (hfr : fr ≤ k) (hF : F.length + n ≤ 1000) (hR : Rem k R) (hlt : ∀ x ∈ X r2, x < n) (hd : ∀ j (hj : j < (X r2).length), R j ≠ j → met (X r2)[j] = true) :
    Calls Ybad.prog 46 #[v r2, v r, .int .i64 (fr : Int), .pointer (some ⟨w1.heap.size + 1, 0, none⟩), .pointer (some ⟨w1.heap.size, 0, none⟩), .pointer (some ⟨w1.heap.size + 2, 0, none⟩)] w fun e w' => e = .returned (.tuple #[]) ∧ ∃ met' vf' F' R', TkM w0 w1 w' n m L Bc b met' ia nw rd wn v (updL X r (rowR k R')) T u vf' F' ∧ TkI n u (X r2) fr k met F met' F' R' ∧ Kp T (w1.heap.size + 2) w vf w' vf' := by
  obtain ⟨Tx, hTx⟩ : ∃ Tx, X r2 = Tx := ⟨_, rfl⟩
  rw [hTx] at hk hlt hd ⊢
  obtain ⟨aT, capT, hvT, hcT, hA1, hA2⟩ := own_form (hM.cw.fam.own r2 hr2)
  rw [hTx, hk] at hvT
  rw [hvT, hv]
  subst hk
  have HM := hid hM
  have HV := hid hv
  have HX := hid hX
  have HTX := hid hTx
  have HVT := hid hvT
  have HR := hid hR
  have HD := hid hd
  have HLT := hid hlt
  have hfx0 := hM.rem hr hv hX
  have HRA := hid (rem_any w g Tx.length R fr hfr (by omega) hR hfx0)
  have hgT := hM.top r hr g (by rw [hv]; rfl)
  have hbT : b 0 < T := by have := (hM.cw.rng 0 (by omega)).2; have := hM.tb; omega
  have HGT := hid hgT
  have HBT := hid hbT
  clear hM hv hX hTx hvT hR hd hlt hfx0 hgT hbT
  go_enter Ybad.func46, Ybad.ntmps46
  go_wp2_with (go_at_call 47; refine Calls.mono HRA.out ?_; rintro e wa ⟨j0, R0, rfl, hfx, hre, heq, hj1, hj2, hj3, hj4, hgr⟩; have HST := hid (show TkM w0 w1 wa n m L Bc b met ia nw rd wn v (updL X r (rowR Tx.length R0)) T u vf F from HM.out.remNew hr (by omega) HV.out hfx hgr); have HTI := hid (show TkI n u Tx fr j0 met F met F R0 from TkI.begin hre (fun j hj hne => HD.out j hj (fun e => hne ((heq j).2 e))) (fun j h1 h2 => fun e => hj4 j h1 h2 ((heq j).1 e))); have HJ := hid (show R0 j0 = j0 from (heq j0).2 hj3); have HKP := hid ((Kp.refl T (w1.heap.size + 2) w vf).inner HGT.out hgr); clear hfx hre heq hj3 hj4 hgr; dsimp only)
  go_loopg [9] (Tx.length - j0) (fun g0 iv wi => ∃ (i : Nat) (met' : Nat → Bool) (vf' : Value) (F' : List Nat) (R' : Nat → Nat), i ≤ Tx.length ∧ fr ≤ i ∧ g0 = Tx.length - i ∧ iv = .int .i64 (i : Int) ∧ TkM w0 w1 wi n m L Bc b met' ia nw rd wn v (updL X r (rowR Tx.length R')) T u vf' F' ∧ TkI n u Tx fr i met F met' F' R' ∧ R' i = i ∧ Kp T (w1.heap.size + 2) w vf wi vf')
  case atStart => exact ⟨j0, met, vf, F, R0, hj2, hj1, rfl, rfl, HST.out, HTI.out, HJ.out, HKP.out⟩
  case round =>
    obtain ⟨i, met', vf', F', R', hi, hfi, rfl, rfl, hst, hti, hri, hkp⟩ := hrel
    have HS := hid hst
    have HI := hid hti
    have HRI := hid hri
    have HK := hid hkp
    clear hst hti hri hkp HST HTI HJ HRA HKP
    have hXr : (updL X r (rowR Tx.length R')) r = rowR Tx.length R' := updL_same _ _ _
    have hXo : (updL X r (rowR Tx.length R')) r2 = Tx := (updL_other _ hne _).trans HTX.out
    have HXR := hid hXr
    have HXO := hid hXo
    clear hXr hXo
    by_cases hlt : i < Tx.length
    · have hii : (i : Int) < (Tx.length : Int) := by omega
      have hi0 : (0 : Int) ≤ (i : Int) := by omega
      have ho := HS.out.cw.fam.own r2 hr2
      rw [HXO.out] at ho
      obtain ⟨gT, cap1, hv1, hg1, hg2, hg3, hc1⟩ := ownI_cell ho hlt
      rw [HVT.out] at hv1
      simp only [Value.slice.injEq] at hv1
      obtain ⟨rfl, _, rfl⟩ := hv1
      obtain ⟨t, ht0⟩ : ∃ t, Tx[i] = t := ⟨_, rfl⟩
      have htn : t < n := by rw [← ht0]; exact HLT.out _ (List.getElem_mem _)
      have hti : (t : Int) < (n : Int) := by omega
      have ht00 : (0 : Int) ≤ (t : Int) := by omega
      rw [ht0] at hc1
      have cu := HS.out.cu
      have cx := HS.out.cx
      have fm : wr.cell? ⟨w0.heap.size + 10, 1, none⟩ = some (.slice (some ⟨b 0, 0, none⟩) n n) := HS.out.cw.g.fld 1 _ rfl
      have cm : wr.cell? ⟨b 0, t, none⟩ = some (.bool (met' t)) := HS.out.cw.g.cell (k := 0) (j := t) (by omega) htn
      have HT0 := hid ht0
      clear ht0 ho
      have hi1 : (i + 1 : Nat) ≤ Tx.length := by omega
      by_cases htu : t = u
      · have hb1 : ((t : Int) == (u : Int)) = true := by simp [htu]
        have hfx := HS.out.rem hr HV.out HXR.out
        have HRA := hid (rem_any wr g Tx.length R' (i + 1) hi1 (by omega) HI.out.rem hfx)
        clear hfx
        go_wp2_with (go_at_call 47; refine Calls.mono HRA.out ?_; rintro e wa ⟨j1, R1, rfl, hfx, hre, heq, hj1, hj2, hj3, hj4, hgr⟩; have HST := hid (show TkM w0 w1 wa n m L Bc b met' ia nw rd wn v (updL X r (rowR Tx.length R1)) T u vf' F' from (by have := HS.out.remNew hr (by omega) HV.out hfx hgr; rw [updL_updL] at this; exact this)); have HTI := hid (HI.out.next (k := j1) hre heq (fun h => .inl (HT0.out.trans htu)) hj4); have HKP := hid (HK.out.inner HGT.out hgr); have HJ := hid (show R1 j1 = j1 from (heq j1).2 hj3); clear hfx hre heq hj3 hj4 hgr; dsimp only)
        go_roundg (Tx.length - j1)
        case measure => omega
        case rel => exact ⟨j1, met', vf', F', R1, hj2, by omega, rfl, rfl, HST.out, HTI.out, HJ.out, HKP.out⟩
      · have hb1 : ((t : Int) == (u : Int)) = false := by simp; omega
        go_upto_if 36 with fail
        go_cut [] (fun wc => ∃ met2 vf2 F2, TkM w0 w1 wc n m L Bc b met2 ia nw rd wn v (updL X r (rowR Tx.length R')) T u vf2 F2 ∧ TkI n u Tx fr i met F met2 F2 R' ∧ met2 t = true ∧ Kp T (w1.heap.size + 2) w vf wc vf2)
        case first =>
          obtain ⟨bm, hbm⟩ : ∃ bm, met' t = bm := ⟨_, rfl⟩
          rw [hbm] at cm ⊢
          have HBM := hid hbm
          clear hbm
          cases bm with
          | true =>
            go_wp2_with fail
            go_meet
            exact ⟨met', vf', F', HS.out, HI.out, HBM.out, HK.out⟩
          | false =>
            have fz := HS.out.cw.g.free (k := 0) (by omega) t
            have H1 := hid (HS.out.setMet htn true)
            have K1 := hid (HK.out.inner HBT.out (gr_set wr (b 0) t (.bool true)))
            obtain ⟨wm, hwm⟩ : ∃ wm, wm = wr.setCell ⟨b 0, t, none⟩ (.bool true) := ⟨_, rfl⟩
            rw [← hwm] at H1 K1
            have cf1 := H1.out.cf
            have hz1 := H1.out.lt
            go_upto_region 7 with fail
            rw [← hwm]
            clear hwm
            have hfl : F'.length ≤ 1000 := by have := HI.out.flen; omega
            go_wp2_with (first
              | ((with_reducible refine apK Ybad.E54' (t := 43) (u := 45) (w1.heap.size + 3) vf' F'.length (rowI F') [.int .i64 (t : Int)] wm.heap.size ?_ ?_ ?_ ?_ ?_ ?_ ?_ ?_ ?_); (exact rfl); (exact rfl); (exact H1.out.fr.alloc _); (exact heap_alloc_new _ _); (exact rfl); (intro x hx; simp at hx; subst hx; rfl); omega; (simp; omega); (intro g1 cap1 wE hownE hgE hatE _); (obtain ⟨cfE, ffE, H2⟩ := (H1.out.alloc _).app (F' := F' ++ [t]) (by rw [List.length_append, rowI_snoc]; exact hownE) hgE); have K2 := hid (K1.out.app _ hgE (vE := .slice (some ⟨g1, 0, none⟩) (F'.length + 1) cap1) rfl hatE); clear hownE hgE hatE))
            go_meet
            refine ⟨_, _, _, H2.out, ?_, by rw [updL_same], K2.out⟩
            have := HI.out.meet hlt hfi (by rw [HT0.out]; exact htu) (by rw [HT0.out]; exact htn) (by rw [HT0.out]; exact HBM.out)
            rw [HT0.out] at this
            exact this
        case rest =>
          obtain ⟨met2, vf2, F2, hst2, hti2, hmt2, hkp2⟩ := hcut
          have HK2 := hid hkp2
          have HS2 := hid hst2
          have HI2 := hid hti2
          have HMT := hid hmt2
          clear hst2 hti2 hmt2 hkp2 HK HS HI cx cu fm cm hc1
          have hfx := HS2.out.rem hr HV.out HXR.out
          have HDA := hid (drop_any wc g Tx.length R' i hlt (by omega) hfx)
          clear hfx
          have HID := hid (HI2.out.drop hlt (by rw [HT0.out]; exact HMT.out) HRI.out)
          go_wp2_with (first
            | (go_at_call 48; refine Calls.mono HDA.out ?_; rintro e wd ⟨rfl, hfx, hgr⟩; have HS3 := hid (show TkM w0 w1 wd n m L Bc b met2 ia nw rd wn v (updL X r (rowR Tx.length (updL R' i (i + 1)))) T u vf2 F2 from (by have := HS2.out.remNew hr (by omega) HV.out hfx hgr; rw [updL_updL] at this; exact this)); have HRA := hid (rem_any wd g Tx.length (updL R' i (i + 1)) (i + 1) hi1 (by omega) HID.out.rem (HS3.out.rem hr HV.out (updL_same _ _ _))); have HK3 := hid (HK2.out.inner HGT.out hgr); clear hfx hgr; dsimp only)
            | (go_at_call 47; refine Calls.mono HRA.out ?_; rintro e wa ⟨j1, R1, rfl, hfx, hre, heq, hj1, hj2, hj3, hj4, hgr⟩; have HST := hid (show TkM w0 w1 wa n m L Bc b met2 ia nw rd wn v (updL X r (rowR Tx.length R1)) T u vf2 F2 from (by have := HS3.out.remNew hr (by omega) HV.out hfx hgr; rw [updL_updL] at this; exact this)); have HTI := hid (HID.out.next (k := j1) hre heq (fun h => .inr (by rw [HT0.out]; exact HMT.out)) hj4); have HKP := hid (HK3.out.inner HGT.out hgr); have HJ := hid (show R1 j1 = j1 from (heq j1).2 hj3); clear hfx hre heq hj3 hj4 hgr; dsimp only))
          go_roundg (Tx.length - j1)
          case measure => omega
          case rel => exact ⟨j1, met2, vf2, F2, R1, hj2, by omega, rfl, rfl, HST.out, HTI.out, HJ.out, HKP.out⟩
    · obtain rfl : i = Tx.length := by omega
      go_wp2_with fail
      go_end0
      exact ⟨rfl, met', vf', F', R', HS.out, HI.out, HK.out⟩
end Go.Proofs.YbulkbgasDoor

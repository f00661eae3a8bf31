import Derived.Test.YbulkbgasDoorGka
import Derived.Test.YbulkbgasDoorLaw
import Derived.Test.YbulkbgasDoorEqual
import Derived.Test.YbulkbgasDoorChain
namespace Go.Proofs.YbulkbgasDoor
open Go.RowKit Go.Maps
set_option linter.unusedVariables false

/-- The schedule that lock lays. -/
noncomputable abbrev lkG (l : List Ac) (L : Nat → Nat) (O : List Nat) : List Ac := gF l (spF (acL l)) (txL l) (gbAll (spF (acL l)) L O) (gaAll (spF (acL l)) L O) (ptAll L O) (l.length + 1)
/-- What the plain law gives, in general. -/
structure FinG (s : List Ac) : Prop where
  pl : Gen7 (keptA s)
  fin : ∀ L O, LkP (txL (keptA s)).length (fcL false (keptA s)) (fcL true (keptA s)) (naF (txL (keptA s)).length (acL (keptA s))).X L O → LgOk (keptA s) (spF (acL (keptA s))) (txL (keptA s)).length L O →
    (lkG (keptA s) L O).filter (fun x => !isLk x.k) = keptA s ∧ (lkG (keptA s) L O).length ≤ 10000 ∧ ∃ M', Cks Md0 (lkG (keptA s) L O) M'

set_option maxRecDepth 100000 in
set_option maxHeartbeats 2000000 in
theorem general_long (w : World) (a : Option Addr) (n cap : Nat) (hn : 300 < n) (hb : n ≤ 9223372036854775807) :
    Calls Ybad.prog 3 #[.slice a n cap] w fun e w' => e = .returned (.bool true) ∧ Below w.heap.size w w' := by
  have hni : (300 : Int) < (n : Int) := by omega
  go_enter Ybad.func3, Ybad.ntmps3
  go_wp2
  go_ret
  exact ⟨rfl, Below.refl _ _⟩

set_option maxRecDepth 100000 in
set_option maxHeartbeats 2000000 in
theorem general_walk (w : World) (a : Option Addr) (cap : Nat) (sts : List St) (hn : sts.length ≤ 300) (hs : Els w 3 a sts.length fun i => (sts.getD i ⟨0, 0, 0⟩).cells) (hok : ∀ s ∈ sts, s.Ok) (hld : Laid w) (hpl : FinG (sts.map acOf)) :
    Calls Ybad.prog 3 #[.slice a sts.length cap] w fun e w' => e = .returned (.bool true) ∧ Below w.heap.size w w' := by
  have hni : ¬ (300 : Int) < (sts.length : Int) := by omega
  have HB := hid (fun (W : World) (hb : Below w.heap.size w W) => build_any W a cap sts hn (hs.below hb) hok)
  have HT := hid (show ∀ x ∈ sts.map acOf, 1 ≤ x.t ∧ x.t ≤ 4 from fun x hx => by obtain ⟨s, hs, rfl⟩ := List.mem_map.1 hx; exact acOf_t (hok s hs))
  have HIT := hid (show ∀ x ∈ sts.map acOf, x.it.size ≤ 100 from fun x hx => by obtain ⟨s, hs, rfl⟩ := List.mem_map.1 hx; exact acOf_it s)
  have HLD := hid hld
  have HPL := hid hpl
  have HAL := hid (show (sts.map acOf).length = sts.length from List.length_map _)
  clear hs hok hld hpl
  obtain ⟨all, hall⟩ : ∃ all, sts.map acOf = all := ⟨_, rfl⟩
  rw [hall] at HT HIT HPL HAL HB
  clear hall
  have hal : all.length ≤ 300 := by have := HAL.out; omega
  go_enter Ybad.func3, Ybad.ntmps3
  go_upto_region 4 with (go_at_call 6; refine Calls.mono (HB.out _ (Below.refl _ _)) ?_; rintro e w1 ⟨v, rfl, hown, hb⟩; rw [← HAL.out] at hown; have HS := hid (SlA.of_own hown); have HB1 := hid hb; clear hown hb; obtain ⟨a1, cap1, hv1, _, hel⟩ := id HS.out; subst hv1; have HE := hid hel; clear hel; dsimp only)
  have hz1 := HB1.out.size
  have HLK := hid (lockable_gen w1 (.slice a1 all.length cap1) all hal HS.out HT.out HIT.out (HLD.out.below HB1.out) HPL.out.pl)
  go_upto_region 5 with (go_at_call 7; refine Calls.mono HLK.out ?_; rintro e w5 ⟨vL, vC, cy, rfl, hgo, hb5⟩; have HB5 := hid hb5; clear hb5; rcases hgo with ⟨rfl, rfl, L, O, hlk, hlg, hsl⟩ | ⟨rfl, g, k, capk, Bf, Af, rfl, hk, hel, hln⟩ <;> first | (obtain ⟨lk, hlkd⟩ : ∃ lk, lkG (keptA all) L O = lk := ⟨_, rfl⟩; have HSL5 := hid (show SlA w5 vL lk from by rw [← hlkd]; exact hsl); have HFIN := hid (HPL.out.fin L O hlk hlg); rw [hlkd] at HFIN; clear hlk hlg hsl hlkd; obtain ⟨aL, capL, hvL, _, _⟩ := id HSL5.out; subst hvL; dsimp only) | (have HEL := hid hel; have HLN := hid hln; clear hel hln; dsimp only))
  · obtain ⟨f1, f2, M', f3⟩ := HFIN.out
    have F1 := hid f1
    have F3 := hid f3
    clear f1 f3
    have hz5 := HB5.out.size
    obtain ⟨w8, hw8⟩ : ∃ w8, w8 = w5.alloc (.cells #[.slice aL lk.length capL, .slice none 0 0, .bool false] 28) := ⟨_, rfl⟩
    have hz8 : w8.heap.size = w5.heap.size + 1 := by rw [hw8]; simp
    have HB85 := hid (show Below w5.heap.size w5 w8 from by rw [hw8]; exact (Below.refl _ _).alloc (Nat.le_refl _) _)
    have HX8 := hid (show w8.heap[w5.heap.size]? = some (.cells #[.slice aL lk.length capL, .slice none 0 0, .bool false] 28 (0, 0)) from by rw [hw8]; exact heap_alloc_new _ _)
    rw [← hw8]
    clear hw8
    have HB81 := hid (HB5.out.trans (HB85.out.mono hz5))
    have HB80 := hid (HB1.out.trans (HB81.out.mono hz1))
    have HBL := hid (HB.out w8 HB80.out)
    go_upto_if 16 with (first
      | (go_at_call 6; refine Calls.mono HBL.out ?_; rintro e w9 ⟨v, rfl, hown, hb⟩; rw [← HAL.out] at hown; have HS9 := hid (SlA.of_own hown); have HB9 := hid hb; clear hown hb; obtain ⟨a9, cap9, hv9, _, hel9⟩ := id HS9.out; subst hv9; have HE9 := hid hel9; clear hel9; have HEQ := hid (equalA_true a1 a9 cap1 cap9 all w9 (by omega) ((HE.out.below HB81.out).below HB9.out) HE9.out); dsimp only)
      | (go_at_call 8; refine Calls.mono HEQ.out ?_; rintro e wq ⟨rfl, q, rfl⟩; dsimp only))
    refine wp_cond_false rfl (wp_skip ?_)
    dsimp only [Exit.then]
    apply_assumption
    obtain ⟨wa, hwa⟩ : ∃ wa, wa = w9.drewN q := ⟨_, rfl⟩
    have HBA := hid (show Below w8.heap.size w8 wa from by rw [hwa]; exact below_drewN HB9.out _)
    rw [← hwa]
    clear hwa
    have hza := HBA.out.size
    have HXA := hid ((HBA.out.block _ (by omega)).trans HX8.out)
    have HBA0 := hid (HB80.out.trans (HBA.out.mono HB80.out.size))
    have HBA5 := hid (HB85.out.trans (HBA.out.mono HB85.out.size))
    have HBA1 := hid (HB81.out.trans (HBA.out.mono HB81.out.size))
    have q1 : wa.cell? ⟨w5.heap.size, 1, none⟩ = some (.slice none 0 0) := by rw [cell_of_row _ _ _ _ _ _ HXA.out]; rfl
    have hnil : ∀ w', (binOp .eql 26 (.slice none 0 0) (.slice none 0 0)).run Ybad.prog w' = .ok (.bool true) w' := fun w' => Lib.run_eql_slice_nil w' 26 67 _ _ _ _ _ Ybad.underlying26
    go_upto_if 19 with fail
    refine wp_cond_true rfl ?_
    have q0 : wa.cell? ⟨w5.heap.size, 0, none⟩ = some (.slice aL lk.length capL) := by rw [cell_of_row _ _ _ _ _ _ HXA.out]; rfl
    have HSTR := hid (fun W hb => strip_at wa (.slice a1 all.length cap1) all hal (HS.out.below HBA1.out) w5.heap.size (by omega) _ q0 W hb)
    have HCHK := hid (fun W v1 h1 hb => check_at wa _ all lk M' f2 F1.out (HSL5.out.below HBA5.out) F3.out w5.heap.size (by omega) q0 W v1 h1 hb)
    have q3 : Below wa.heap.size wa wa.drew := (Below.refl _ _).drew
    clear q1
    go_upto_region 8 with fail
    go_region_held3 (fun W => Below wa.heap.size wa W ∧ W.cell? ⟨w5.heap.size, 0, none⟩ = some (.slice aL lk.length capL)) ((refine ⟨by first | assumption | exact Below.drew (by assumption), ?_⟩; go_keep)) (first
      | (go_at_call 10; refine Calls.mono (HSTR.out _ (by go_split_ands; assumption)) ?_; rintro e wU ⟨v', rfl, hU, hU7, hU0⟩; have HU := hid hU; clear hU; dsimp only)
      | (go_at_call 9; refine Calls.mono (HCHK.out _ _ HU.out (by go_split_ands; assumption)) ?_; rintro e wV ⟨rfl, hV7, hV0⟩; dsimp only))
    go_wp2
    go_ret
    exact ⟨rfl, HBA0.out.trans (hV7.mono HBA0.out.size)⟩
  · have hz5 := HB5.out.size
    obtain ⟨w8, hw8⟩ : ∃ w8, w8 = w5.alloc (.cells #[.slice none 0 0, .slice (some ⟨g, 0, none⟩) k capk, .bool cy] 28) := ⟨_, rfl⟩
    have hz8 : w8.heap.size = w5.heap.size + 1 := by rw [hw8]; simp
    have HB85 := hid (show Below w5.heap.size w5 w8 from by rw [hw8]; exact (Below.refl _ _).alloc (Nat.le_refl _) _)
    have HX8 := hid (show w8.heap[w5.heap.size]? = some (.cells #[.slice none 0 0, .slice (some ⟨g, 0, none⟩) k capk, .bool cy] 28 (0, 0)) from by rw [hw8]; exact heap_alloc_new _ _)
    rw [← hw8]
    clear hw8
    have HB81 := hid (HB5.out.trans (HB85.out.mono hz5))
    have HB80 := hid (HB1.out.trans (HB81.out.mono hz1))
    have HBL := hid (HB.out w8 HB80.out)
    go_upto_if 16 with (first
      | (go_at_call 6; refine Calls.mono HBL.out ?_; rintro e w9 ⟨v, rfl, hown, hb⟩; rw [← HAL.out] at hown; have HS9 := hid (SlA.of_own hown); have HB9 := hid hb; clear hown hb; obtain ⟨a9, cap9, hv9, _, hel9⟩ := id HS9.out; subst hv9; have HE9 := hid hel9; clear hel9; have HEQ := hid (equalA_true a1 a9 cap1 cap9 all w9 (by omega) ((HE.out.below HB81.out).below HB9.out) HE9.out); dsimp only)
      | (go_at_call 8; refine Calls.mono HEQ.out ?_; rintro e wq ⟨rfl, q, rfl⟩; dsimp only))
    refine wp_cond_false rfl (wp_skip ?_)
    dsimp only [Exit.then]
    apply_assumption
    obtain ⟨wa, hwa⟩ : ∃ wa, wa = w9.drewN q := ⟨_, rfl⟩
    have HBA := hid (show Below w8.heap.size w8 wa from by rw [hwa]; exact below_drewN HB9.out _)
    rw [← hwa]
    clear hwa
    have hza := HBA.out.size
    have HXA := hid ((HBA.out.block _ (by omega)).trans HX8.out)
    have HBA0 := hid (HB80.out.trans (HBA.out.mono HB80.out.size))
    have HBA5 := hid (HB85.out.trans (HBA.out.mono HB85.out.size))
    have HBA1 := hid (HB81.out.trans (HBA.out.mono HB81.out.size))
    have q1 : wa.cell? ⟨w5.heap.size, 1, none⟩ = some (.slice (some ⟨g, 0, none⟩) k capk) := by rw [cell_of_row _ _ _ _ _ _ HXA.out]; rfl
    have hnil : ∀ w', (binOp .eql 26 (.slice (some ⟨g, 0, none⟩) k capk) (.slice none 0 0)).run Ybad.prog w' = .ok (.bool false) w' := fun w' => Lib.run_eql_slice_nil w' 26 67 _ _ _ _ _ Ybad.underlying26
    go_upto_if 19 with fail
    refine wp_cond_false rfl (wp_skip ?_)
    dsimp only [Exit.then]
    apply_assumption
    have q0 : wa.cell? ⟨w5.heap.size, 0, none⟩ = some (.slice none 0 0) := by rw [cell_of_row _ _ _ _ _ _ HXA.out]; rfl
    have q2 : wa.cell? ⟨w5.heap.size, 2, none⟩ = some (.bool cy) := by rw [cell_of_row _ _ _ _ _ _ HXA.out]; rfl
    have HCH := hid (chain_true wa (some ⟨g, 0, none⟩) k capk Bf Af cy hk (HEL.out.below HBA5.out) HLN.out)
    go_wp2_with (go_at_call 11; refine Calls.mono HCH.out ?_; rintro e wV ⟨rfl, hV7⟩; have HV7 := hid hV7; clear hV7; dsimp only)
    go_ret
    exact ⟨rfl, HBA0.out.trans (HV7.out.mono HBA0.out.size)⟩

end Go.Proofs.YbulkbgasDoor

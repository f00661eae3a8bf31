import Derived.Test.YbulkbgasDoorHp4
import Derived.Test.YbulkbgasDoorGs
namespace Go.Proofs.YbulkbgasDoor
open Go.RowKit Go.Maps
set_option linter.unusedVariables false
attribute [local go_sem ↓] Go.wp_at_zero Go.wp_at_succ

/-- So far turned: the first k and the last k have changed places. -/
def RvI (l L : List Nat) (k : Nat) : Prop := L.length = l.length ∧ ∀ m (h1 : m < L.length) (h2 : m < l.length), L[m] = if m < k ∨ l.length - k ≤ m then l[l.length - 1 - m] else l[m]
theorem RvI.begin (l : List Nat) : RvI l l 0 := ⟨rfl, fun m h1 h2 => by rw [if_neg (by omega)]⟩
theorem RvI.step {l L : List Nat} {k : Nat} (h : RvI l L k) (hk : k < l.length - 1 - k) (h1 : k < L.length) (h2 : l.length - 1 - k < L.length) : RvI l ((L.set k L[l.length - 1 - k]).set (l.length - 1 - k) L[k]) (k + 1) := by
  obtain ⟨hl, hg⟩ := h
  refine ⟨by simp [hl], fun m m1 m2 => ?_⟩
  have e1 := hg k h1 (by omega)
  rw [if_neg (by omega)] at e1
  have e2 := hg (l.length - 1 - k) h2 (by omega)
  rw [if_neg (by omega)] at e2
  rw [List.getElem_set]
  by_cases a : l.length - 1 - k = m
  · rw [if_pos a, if_pos (by omega), e1]
    congr 1
    omega
  · rw [if_neg a, List.getElem_set]
    by_cases b : k = m
    · subst b
      rw [if_pos rfl, if_pos (by omega), e2]
    · rw [if_neg b, hg m (by simpa using m1) m2]
      by_cases c : m < k ∨ l.length - k ≤ m
      · rw [if_pos c, if_pos (by omega)]
      · rw [if_neg c, if_neg (by omega)]
theorem RvI.stop {l L : List Nat} {k : Nat} (h : RvI l L k) (hk : ¬ k < l.length - 1 - k) (hk2 : k ≤ l.length) : L = l.reverse := by
  obtain ⟨hl, hg⟩ := h
  refine List.ext_getElem (by simp [hl]) fun m m1 m2 => ?_
  rw [hg m m1 (by omega), List.getElem_reverse]
  split
  · rfl
  · congr 1; omega

theorem own_drew {w : World} {base e k m : Nat} {v : Value} {xs : List Value} (h : w.ownsRow base e k v m xs) : w.drew.ownsRow base e k v m xs :=
  h.kept (w' := w.drew) (show w.grownBy w.drew none from ⟨rfl, rfl, rfl, Nat.le_refl _, fun _ _ _ => rfl⟩) (by cases e : v.ownBlock <;> simp)
theorem gr_drew {w w' : World} {row : Option Nat} (h : w.grownBy w' row) : w.grownBy w'.drew row := ⟨h.os, h.tape, h.output, h.size, h.block⟩
set_option maxRecDepth 100000 in
set_option maxHeartbeats 2000000 in
theorem rev_any (w : World) (base g cap : Nat) (l : List Nat) (hn : l.length ≤ 1000) (hp : 0 < l.length) (ho : w.ownsRow base 3 1 (.slice (some ⟨g, 0, none⟩) l.length cap) l.length (rowI l)) :
    Calls Ybad.prog 67 #[.slice (some ⟨g, 0, none⟩) l.length cap] w fun e w' => e = .returned (.tuple #[]) ∧ w'.ownsRow base 3 1 (.slice (some ⟨g, 0, none⟩) l.length cap) l.length (rowI l.reverse) ∧ w.grownBy w' (some g) := by
  have HO := hid ho
  obtain ⟨n, hln⟩ : ∃ n, l.length = n := ⟨_, rfl⟩
  have HL := hid hln
  rw [hln] at hn hp ⊢
  clear ho hln
  go_enter Ybad.func67, Ybad.ntmps67
  go_wp2_with fail
  go_loopg [2, 3] n (fun g0 iv jv wi => ∃ (k : Nat) (L : List Nat), k ≤ n - 1 - k + 1 ∧ g0 = n - k ∧ iv = .int .i64 (k : Int) ∧ jv = .int .i64 ((n : Int) - 1 - (k : Int)) ∧ RvI l L k ∧ wi.ownsRow base 3 1 (.slice (some ⟨g, 0, none⟩) L.length cap) L.length (rowI L) ∧ w.grownBy wi (some g))
  case atStart => exact ⟨0, l, by omega, rfl, rfl, by simp, RvI.begin l, HO.out, gr_refl _ _⟩
  case round =>
    obtain ⟨k, L, hk, rfl, rfl, rfl, hrv, how, hgr⟩ := hrel
    have HRV := hid hrv
    have HOW := hid how
    have HGR := hid hgr
    have hL : L.length = n := hrv.1.trans HL.out
    clear hrv how hgr
    by_cases hlt : k < n - 1 - k
    · obtain ⟨j, hj⟩ : ∃ j, j = n - 1 - k := ⟨_, rfl⟩
      have hji : (n : Int) - 1 - (k : Int) = (j : Int) := by omega
      rw [hji]
      have hkL : k < L.length := by omega
      have hjL : j < L.length := by omega
      obtain ⟨c0, f0⟩ := rowI_cell HOW.out hkL
      obtain ⟨c1, f1⟩ := rowI_cell HOW.out hjL
      have HO2 := hid (own_setCell HOW.out (j := k) (by rw [rowI_length]; exact hkL) (.int .i64 (L[j] : Int)))
      have HO3 := hid (own_setCell HO2.out (j := j) (by rw [List.length_set, rowI_length]; exact hjL) (.int .i64 (L[k] : Int)))
      have c2 := own_cell HO2.out (j := j) (by rw [List.length_set, rowI_length]; exact hjL)
      rw [List.getElem_set_ne (by omega), rowI_get hjL] at c2
      obtain ⟨c2, f2⟩ := c2
      have HE := hid (show ((rowI L).set k (.int .i64 (L[j] : Int))).set j (.int .i64 (L[k] : Int)) = rowI ((L.set k L[j]).set j L[k]) from by simp [rowI, List.map_set])
      have hki : (k : Int) < (n : Int) := by omega
      have hk0 : (0 : Int) ≤ (k : Int) := by omega
      have hjn : (j : Int) < (n : Int) := by omega
      have hj0 : (0 : Int) ≤ (j : Int) := by omega
      have hlt2 : (k : Int) < (j : Int) := by omega
      have HG3 := hid (gr_trans HGR.out (gr_trans (gr_set wr g k (.int .i64 (L[j] : Int))) (gr_set _ g j (.int .i64 (L[k] : Int)))))
      obtain ⟨x, hx⟩ : ∃ x, L[k] = x := ⟨_, rfl⟩
      obtain ⟨y, hy⟩ : ∃ y, L[j] = y := ⟨_, rfl⟩
      have HX := hid hx
      have HY := hid hy
      have HST := hid (show RvI l ((L.set k y).set j x) (k + 1) from by
        have := HRV.out.step (k := k) (by rw [HL.out]; exact hlt) hkL (by rw [HL.out, ← hj]; exact hjL)
        simp only [HL.out, ← hj, HX.out, HY.out] at this
        exact this)
      rw [hx] at c0 HO3 HE HG3
      rw [hy] at c1 c2 HO3 HE HG3 HO2
      rw [hy] at f2
      have hL2 := hid hL
      have hj2 := hid hj
      clear hx hy HX HY HO2 hj hji hkL hjL hL
      go_upto_region 3 with fail
      go_region_law (fail)
      all_goals go_wp2_with fail
      all_goals go_roundg (n - (k + 1))
      all_goals first
        | omega
        | (refine ⟨k + 1, (L.set k y).set j x, by omega, rfl, by go_num, by have := hj2.out; go_num, HST.out, ?_, gr_drew HG3.out⟩
           refine own_drew ?_
           have := HO3.out
           rw [HE.out] at this
           simpa using this)
    · have hb : ¬ ((k : Int) < (n : Int) - 1 - (k : Int)) := by omega
      go_wp2_with fail
      go_end0
      have e := HRV.out.stop (by rw [HL.out]; exact hlt) (by rw [HL.out]; omega)
      subst e
      refine ⟨rfl, ?_, HGR.out⟩
      have := HOW.out
      rw [hL] at this
      exact this
end Go.Proofs.YbulkbgasDoor

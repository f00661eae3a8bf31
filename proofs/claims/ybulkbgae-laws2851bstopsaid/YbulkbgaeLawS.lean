import Derived.Test.YbulkbgaeCalls2
import Derived.Test.YbulkbgaeLawO
namespace Go.Proofs.Ybulkbgae
open Go.RowKit Go.Shelf
set_option linter.unusedVariables false
set_option linter.unusedSimpArgs false

set_option maxRecDepth 100000 in
set_option maxHeartbeats 1000000 in
theorem stop_big (w : World) (sh kk : Int) (ca na : Option Addr) (clen ccap nlen ncap : Nat) (hb : 1024 < clen) (hm : clen ≤ maxLen) :
    Calls Yba.prog 6 #[.int .u8 sh, .slice ca clen ccap, .slice na nlen ncap, .int .u8 kk] w fun e w' => e = .returned (.bool true) ∧ Below w.heap.size w w' := by
  have hbi : (1024 : Int) < (clen : Int) := by omega
  unfold maxLen at hm
  go_enter Yba.func6, Yba.ntmps6
  go_wp2
  go_ret
  exact ⟨rfl, Below.refl _ _⟩

/-- The world where Calls' function is called. -/
abbrev W6 (w1 : World) (c : Co) (st : Nat) : World :=
  ((((((w1.alloc (.cells c.cells 53)).alloc (.cells #[.int .i64 (st : Int)] 3)).alloc (.cells #[.slice none 0 0] 34)).alloc (.cells #[.bool false] 4)).alloc (.cells #[.bool false] 4)).alloc (.cells #[.pointer (some ⟨w1.heap.size, 0, none⟩)] 66))

theorem w6_below (w1 : World) (c : Co) (st : Nat) : Below (w1.alloc (.cells c.cells 53)).heap.size (w1.alloc (.cells c.cells 53)) (W6 w1 c st) :=
  (((((Below.refl _ _).alloc (Nat.le_refl _) _).alloc (by simp only [World.size_alloc]; omega) _).alloc (by simp only [World.size_alloc]; omega) _).alloc (by simp only [World.size_alloc]; omega) _).alloc (by simp only [World.size_alloc]; omega) _

theorem w6_boxes (w1 : World) (c : Co) (st : Nat) : Boxed (W6 w1 c st) (w1.heap.size + 1) 3 (.int .i64 (st : Int)) ∧ Boxed (W6 w1 c st) (w1.heap.size + 1 + 1) 34 (.slice none 0 0) ∧ Boxed (W6 w1 c st) (w1.heap.size + 1 + 1 + 1) 4 (.bool false) ∧ Boxed (W6 w1 c st) (w1.heap.size + 1 + 1 + 1 + 1) 4 (.bool false) ∧ Boxed (W6 w1 c st) (w1.heap.size + 1 + 1 + 1 + 1 + 1) 66 (.pointer (some ⟨w1.heap.size, 0, none⟩)) := by
  have h1 := ((((Boxed.new (w1.alloc (.cells c.cells 53)) 3 (.int .i64 (st : Int))).alloc (.cells #[.slice none 0 0] 34)).alloc (.cells #[.bool false] 4)).alloc (.cells #[.bool false] 4)).alloc (.cells #[.pointer (some ⟨w1.heap.size, 0, none⟩)] 66)
  have h2 := (((Boxed.new ((w1.alloc (.cells c.cells 53)).alloc (.cells #[.int .i64 (st : Int)] 3)) 34 (.slice none 0 0)).alloc (.cells #[.bool false] 4)).alloc (.cells #[.bool false] 4)).alloc (.cells #[.pointer (some ⟨w1.heap.size, 0, none⟩)] 66)
  have h3 := ((Boxed.new (((w1.alloc (.cells c.cells 53)).alloc (.cells #[.int .i64 (st : Int)] 3)).alloc (.cells #[.slice none 0 0] 34)) 4 (.bool false)).alloc (.cells #[.bool false] 4)).alloc (.cells #[.pointer (some ⟨w1.heap.size, 0, none⟩)] 66)
  have h4 := (Boxed.new ((((w1.alloc (.cells c.cells 53)).alloc (.cells #[.int .i64 (st : Int)] 3)).alloc (.cells #[.slice none 0 0] 34)).alloc (.cells #[.bool false] 4)) 4 (.bool false)).alloc (.cells #[.pointer (some ⟨w1.heap.size, 0, none⟩)] 66)
  have h5 := Boxed.new (((((w1.alloc (.cells c.cells 53)).alloc (.cells #[.int .i64 (st : Int)] 3)).alloc (.cells #[.slice none 0 0] 34)).alloc (.cells #[.bool false] 4)).alloc (.cells #[.bool false] 4)) 66 (.pointer (some ⟨w1.heap.size, 0, none⟩))
  simp only [World.size_alloc] at h1 h2 h3 h4 h5
  exact ⟨h1, h2, h3, h4, h5⟩

/-- What Calls leaves behind it. -/
theorem stop_calls (w1 : World) (c : Co) (st m lo : Nat) (hk : CoOk m lo (w1.alloc (.cells c.cells 53)) c) (hnd : (c.nd w1.heap.size 0).length ≤ 100000) (hst : (st = 0 ∧ c.names.length = 0) ∨ (1 ≤ st ∧ st ≤ c.names.length)) (hn : c.names.length ≤ 1024) :
    Calls Yba.prog 16 #[.func (.func 13) #[] #[.pointer (some ⟨w1.heap.size + 1 + 1 + 1 + 1, 0, none⟩), .pointer (some ⟨w1.heap.size + 1 + 1 + 1, 0, none⟩), .pointer (some ⟨w1.heap.size + 1 + 1, 0, none⟩), .pointer (some ⟨w1.heap.size + 1, 0, none⟩)], .pointer (some ⟨w1.heap.size + 1 + 1 + 1 + 1 + 1, 0, none⟩)] (W6 w1 c st)
      fun e W => (∃ v, e = .returned v) ∧ Below w1.heap.size w1 W ∧ Boxed W (w1.heap.size + 1) 3 (.int .i64 (st : Int)) ∧ Boxed W (w1.heap.size + 1 + 1 + 1) 4 (.bool false) ∧ GotAt w1.heap.size (w1.heap.size + 1 + 1) (c.names.take st) W := by
  obtain ⟨b1, b2, b3, b4, b5⟩ := w6_boxes w1 c st
  have h := calls1_stop (w1.heap.size + 1 + 1 + 1 + 1) (w1.heap.size + 1 + 1 + 1) (w1.heap.size + 1 + 1) (w1.heap.size + 1) 100000 (w1.alloc (.cells c.cells 53)) (StopG w1.heap.size (w1.heap.size + 1 + 1) (w1.heap.size + 1 + 1 + 1 + 1) (w1.heap.size + 1 + 1 + 1) (w1.heap.size + 1) st) (StopX w1.heap.size (w1.heap.size + 1 + 1) (w1.heap.size + 1 + 1 + 1 + 1) (w1.heap.size + 1 + 1 + 1) (w1.heap.size + 1) st)
    (by rw [World.size_alloc]; exact stop1 _ _ _ _ _ st (by omega) (by omega) (by omega) (by omega) (by omega) (by omega) (by omega) (by omega)) (stopG_own _ _ _ _ _ _) (stopX_own _ _ _ _ _ _) m lo w1.heap.size 0 c (lies_new w1 c) hk hnd
    (w1.heap.size + 1 + 1 + 1 + 1 + 1) (W6 w1 c st) b5.lt (w6_below w1 c st) b5.cell ⟨b1, b3, b4, ⟨_, b2, World.ownsRow_nil _ _ _ _⟩, .inl rfl⟩
  refine h.mono ?_
  rintro e W ⟨hv, hb, hg⟩
  have hb1 : Below w1.heap.size w1 W := (((Below.refl _ w1).alloc (Nat.le_refl _) _).trans ((w6_below w1 c st).mono (by simp))).trans (hb.mono (by simp))
  refine ⟨hv, hb1, ?_⟩
  rcases hg with ⟨h1, h2, h3, h4, h5⟩ | ⟨q, hq, h1, h2, h4, h5⟩
  · refine ⟨h1, h2, ?_⟩
    have : c.names.take st = c.names := by
      rcases h5 with h5 | h5
      · rw [h5]; simp
      · rw [List.take_of_length_le (by omega)]
    rw [this]; exact h4
  · refine ⟨h1, h2, ?_⟩
    have hle := hq.length_le
    have : c.names.take st = q := by
      obtain ⟨r, hr⟩ := hq
      have hq1 : q.length = st := by omega
      rw [← hr, ← hq1]; simp
    rw [this]; exact h4

set_option maxRecDepth 100000 in
set_option maxHeartbeats 1000000 in
theorem stop_small (w : World) (sh kk : Int) (hs0 : 0 ≤ sh) (hs1 : sh ≤ 255) (hk0 : 0 ≤ kk) (hk1 : kk ≤ 255) (ca na : Option Addr) (clen ccap nlen ncap : Nat) (hC : Codes w.heap.size w ca clen) (hN : Names w.heap.size w na nlen) :
    Calls Yba.prog 6 #[.int .u8 sh, .slice ca clen ccap, .slice na nlen ncap, .int .u8 kk] w fun e w' => e = .returned (.bool true) ∧ Below w.heap.size w w' := by
  have hc4 : clen ≤ 1024 := hC.1
  have hbi : (clen : Int) ≤ 1024 := by omega
  have HB := hid (build_any w.heap.size ca na clen ccap nlen ncap 0 [] (.slice none 0 0) (w.alloc (G37 ca na clen ccap nlen ncap)) sh hs0 hs1 (hC.below ((Below.refl _ w).alloc (Nat.le_refl _) _)) (hN.below ((Below.refl _ w).alloc (Nat.le_refl _) _)) (gen0 w ca na clen ccap nlen ncap hc4))
  clear hC hN
  go_enter Yba.func6, Yba.ntmps6
  go_wp2_with fail
  refine Calls.mono HB.out ?_
  clear HB
  rintro e w1 ⟨c, pos', wv, rfl, hf, hG, hk⟩
  obtain ⟨hB, c4, hn, hnd, hbw, hk0', a2, cp2, rfl, hcp, hw2⟩ := built_facts hf hG hk
  have HW := hid hw2
  have HK := hid hk0'
  have HBW := hid hbw
  clear hf hG hk hw2 hk0' hbw
  have c4a : (w1.alloc (.cells c.cells 53)).cell? ⟨w.heap.size, 4, none⟩ = some (.slice a2 c.names.length cp2) := (((Below.refl w1.heap.size w1).alloc (Nat.le_refl _) _).cell (p := ⟨w.heap.size, 4, none⟩) hB).trans c4
  have hB1 : w.heap.size ≠ w1.heap.size + 1 := by omega
  have hB2 : w.heap.size < w1.heap.size + 1 := by omega
  by_cases hz : c.names.length = 0
  · rw [hz] at c4a
    go_wp2_with (first
      | ((with_reducible refine st53 (t := 10) (u := 24) w1 c ?_ ?_ ?_ ?_); (exact rfl); (exact rfl); (exact rfl))
      | (go_at_call 10; refine (calls_any _ _).mono ?_; rintro e w' ⟨rfl, rfl⟩))
    refine Calls.mono (stop_calls w1 c 0 2 _ HK.out hnd (.inl ⟨rfl, hz⟩) hn) ?_
    rintro e W ⟨⟨v, rfl⟩, hbW, hbs, hba, hgot⟩
    obtain ⟨vg, hvg, hrg⟩ := hgot
    have cg := hvg.cell
    have cs := hbs.cell
    have cA := hba.cell
    obtain ⟨a1, cp1, rfl, hcp1, hw1⟩ := own_slice hrg
    have c4' : W.cell? ⟨w.heap.size, 4, none⟩ = some (.slice a2 0 cp2) := by
      rw [hz] at c4
      exact (hbW.cell (p := ⟨w.heap.size, 4, none⟩) hB).trans c4
    have hcpi : (0 : Int) ≤ (cp2 : Int) := by omega
    have HE := hid (show ∀ q, Calls Yba.prog 12 #[.slice a1 0 cp1, .slice a2 0 cp2] (W.drewN q) fun e w' => e = .returned (.bool true) ∧ ∃ k, w' = (W.drewN q).drewN k from fun q => equal_true a1 a2 0 cp1 cp2 _ (by omega) fun i hi => absurd hi (by omega))
    clear hw1
    go_wp2
    go_quiet ((go_at_call 12; exact Calls.quiet_of (HE.out _)))
    go_wp2
    go_ret
    exact ⟨rfl, below_drewN (HBW.out.trans (hbW.mono (Nat.le_of_lt hB))) _⟩
  · have hpos : (0 : Int) < (c.names.length : Int) := by omega
    go_wp2_with (first
      | ((with_reducible refine st53 (t := 10) (u := 24) w1 c ?_ ?_ ?_ ?_); (exact rfl); (exact rfl); (exact rfl))
      | (go_at_call 10; refine (calls_any _ _).mono ?_; rintro e w' ⟨rfl, rfl⟩))
    obtain ⟨st, hst⟩ : ∃ st : Nat, 1 + kk % (c.names.length : Int) = (st : Int) := ⟨(1 + kk % (c.names.length : Int)).toNat, by have := Int.emod_nonneg kk (show (c.names.length : Int) ≠ 0 by omega); omega⟩
    have hm0 := Int.emod_nonneg kk (show (c.names.length : Int) ≠ 0 by omega)
    have hm1 := Int.emod_lt_of_pos kk hpos
    have hst1 : 1 ≤ st := by omega
    have hst2 : st ≤ c.names.length := by omega
    have hwr : wrap64 (1 + kk % (c.names.length : Int)) = (st : Int) := by rw [hst]; unfold wrap64; omega
    rw [hwr]
    clear hst hm0 hm1 hwr
    refine Calls.mono (stop_calls w1 c st 2 _ HK.out hnd (.inr ⟨hst1, hst2⟩) hn) ?_
    rintro e W ⟨⟨v, rfl⟩, hbW, hbs, hba, hgot⟩
    obtain ⟨vg, hvg, hrg⟩ := hgot
    have cg := hvg.cell
    have cs := hbs.cell
    have cA := hba.cell
    obtain ⟨a1, cp1, e1, hcp1, hw1⟩ := own_slice hrg
    have hlen : (c.names.take st).length = st := by rw [List.length_take]; omega
    rw [hlen] at e1
    subst e1
    have c4' : W.cell? ⟨w.heap.size, 4, none⟩ = some (.slice a2 c.names.length cp2) := (hbW.cell (p := ⟨w.heap.size, 4, none⟩) hB).trans c4
    have hsti : (st : Int) ≤ (cp2 : Int) := by omega
    have hst0 : (0 : Int) ≤ (st : Int) := by omega
    have HE := hid (show ∀ q, Calls Yba.prog 12 #[.slice a1 st cp1, .slice a2 st cp2] (W.drewN q) fun e w' => e = .returned (.bool true) ∧ ∃ k, w' = (W.drewN q).drewN k from fun q => equal_true a1 a2 st cp1 cp2 _ (by omega) fun i hi => by
      obtain ⟨g1, e1, _, _, e3⟩ := hw1 i (by omega)
      obtain ⟨g2, e4, e5, e6⟩ := HW.out i (by omega)
      rw [List.getElem_take] at e3
      exact ⟨g1, 0, g2, 0, c.names[i], e1, e4, e3, (hbW.cell (p := ⟨g2, 0 + i, none⟩) e5).trans e6⟩)
    clear hw1
    go_wp2
    go_quiet ((go_at_call 12; exact Calls.quiet_of (HE.out _)))
    go_wp2
    go_ret
    exact ⟨rfl, below_drewN (HBW.out.trans (hbW.mono (Nat.le_of_lt hB))) _⟩

end Go.Proofs.Ybulkbgae

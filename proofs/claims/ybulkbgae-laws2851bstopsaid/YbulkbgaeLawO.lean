import Derived.Test.YbulkbgaeCalls
namespace Go.Proofs.Ybulkbgae
open Go.RowKit Go.Shelf
set_option linter.unusedVariables false
set_option linter.unusedSimpArgs false

set_option maxHeartbeats 1000000 in
theorem calls_any (p0 : Option Addr) (w : World) :
    Calls Yba.prog 10 #[.pointer p0] w fun e w' => e = .returned (.func (.func 16) #[] #[.pointer (some ⟨w.heap.size, 0, none⟩)]) ∧ w' = w.alloc (.cells #[.pointer p0] 66) := by
  go_enter Yba.func10, Yba.ntmps10
  go_wp2
  go_ret
  exact ⟨rfl, rfl⟩

/-- What a row that one owns says of its slice. -/
theorem own_slice {W : World} {base : Nat} {v : Value} {ys : List ByteArray} (h : W.ownsRow base 9 1 v ys.length (ys.map Value.string)) :
    ∃ a c, v = .slice a ys.length c ∧ ys.length ≤ c ∧ (∀ i (hi : i < ys.length), ∃ g, a = some ⟨g, 0, none⟩ ∧ base ≤ g ∧ g < W.heap.size ∧ W.cell? ⟨g, 0 + i, none⟩ = some (.string ys[i])) := by
  rcases h.2 with ⟨rfl, h0⟩ | ⟨g, cap, cur, rfl, hb, hh, h6, h7, h8, ht⟩
  · exact ⟨none, 0, by rw [h0], by omega, fun i hi => absurd hi (by omega)⟩
  · refine ⟨some ⟨g, 0, none⟩, cap, rfl, by omega, fun i hi => ⟨g, rfl, hb, (Array.getElem?_eq_some_iff.1 hh).1, ?_⟩⟩
    rw [cell_of_row _ _ _ _ _ _ hh, Nat.zero_add]
    have : (cur.toList.take (ys.length * 1))[i]? = some (.string ys[i]) := by rw [ht]; simp [hi]
    rw [List.getElem?_take_of_lt (by omega)] at this
    simpa using this

set_option maxRecDepth 100000 in
set_option maxHeartbeats 1000000 in
theorem order_big (w : World) (sh : Int) (ca na : Option Addr) (clen ccap nlen ncap : Nat) (hb : 1024 < clen) (hm : clen ≤ maxLen) :
    Calls Yba.prog 5 #[.int .u8 sh, .slice ca clen ccap, .slice na nlen ncap] w fun e w' => e = .returned (.bool true) ∧ Below w.heap.size w w' := by
  have hbi : (1024 : Int) < (clen : Int) := by omega
  unfold maxLen at hm
  go_enter Yba.func5, Yba.ntmps5
  go_wp2
  go_ret
  exact ⟨rfl, Below.refl _ _⟩

theorem below_drewN {n : Nat} {w w' : World} (h : Below n w w') (k : Nat) : Below n w (w'.drewN k) := ⟨h.os, h.tape, h.output, h.size, h.block⟩

/-- The generator as it is made. -/
abbrev G37 (ca na : Option Addr) (clen ccap nlen ncap : Nat) : Obj := .cells #[.slice ca clen ccap, .slice na nlen ncap, .int .i64 0, .int .i64 0, .slice none 0 0] 37

theorem gen0 (w : World) (ca na : Option Addr) (clen ccap nlen ncap : Nat) (hc : clen ≤ 1024) : Gen w.heap.size ca na clen ccap nlen ncap (w.alloc (G37 ca na clen ccap nlen ncap)) 0 [] (.slice none 0 0) :=
  ⟨heap_alloc_new w _, World.ownsRow_nil _ _ _ _, Nat.le_refl _, Nat.zero_le _, hc⟩

theorem lies_new (w1 : World) (c : Co) : LiesC (w1.alloc (.cells c.cells 53)) w1.heap.size 0 c :=
  ⟨by simp, fun j _ => by rw [cell_of_row _ _ _ _ _ _ (heap_alloc_new w1 _), Nat.zero_add]⟩

theorem CoOk.alloc {k lo : Nat} {w : World} {c : Co} (h : CoOk k lo w c) (o : Obj) : CoOk k lo (w.alloc o) c :=
  h.keep (Nat.le_refl _) fun g cur t _ _ hh => (Below.heap_alloc w o g (Array.getElem?_eq_some_iff.1 hh).1).trans hh

/-- What stands when the tree is built and laid down. -/
theorem built_facts {w w1 : World} {ca na : Option Addr} {clen ccap nlen ncap pos' : Nat} {c : Co} {wv : Value}
    (hf : Fr w.heap.size (w.alloc (G37 ca na clen ccap nlen ncap)) w1) (hG : Gen w.heap.size ca na clen ccap nlen ncap w1 pos' ([] ++ c.names) wv) (hk : CoOk 2 (w.alloc (G37 ca na clen ccap nlen ncap)).heap.size w1 c) :
    w.heap.size < w1.heap.size ∧ w1.cell? ⟨w.heap.size, 4, none⟩ = some wv ∧ c.names.length ≤ 1024 ∧ (c.nd w1.heap.size 0).length ≤ 100000 ∧
      Below w.heap.size w w1 ∧ CoOk 2 (w.alloc (G37 ca na clen ccap nlen ncap)).heap.size (w1.alloc (.cells c.cells 53)) c ∧
      ∃ a cp, wv = .slice a c.names.length cp ∧ c.names.length ≤ cp ∧ ∀ i (hi : i < c.names.length), ∃ g, a = some ⟨g, 0, none⟩ ∧ g < w1.heap.size ∧ w1.cell? ⟨g, 0 + i, none⟩ = some (.string c.names[i]) := by
  have h1 := hG.own
  rw [List.nil_append] at h1 hG
  obtain ⟨a, cp, e1, e1', e2⟩ := own_slice h1
  refine ⟨hG.lt, hG.c4, ?_, ?_, ?_, hk.alloc _, a, cp, e1, e1', fun i hi => ?_⟩
  · have := hG.hx; have := hG.hp; have := hG.hc; omega
  · have := hk.few w1.heap.size 0
    omega
  · exact ((Below.refl _ w).alloc (Nat.le_refl _) _).trans (hf.below (by simp))
  · obtain ⟨g, h1, h2, h3, h4⟩ := e2 i hi
    exact ⟨g, h1, h3, h4⟩

theorem order_c66 (w1 : World) (c : Co) : (((w1.alloc (.cells c.cells 53)).alloc (.cells #[.slice none 0 0] 34)).alloc (.cells #[.pointer (some ⟨w1.heap.size, 0, none⟩)] 66)).cell? ⟨w1.heap.size + 1 + 1, 0, none⟩ = some (.pointer (some ⟨w1.heap.size, 0, none⟩)) := by
  have := (Boxed.new ((w1.alloc (.cells c.cells 53)).alloc (.cells #[.slice none 0 0] 34)) 66 (.pointer (some ⟨w1.heap.size, 0, none⟩))).cell
  rwa [World.size_alloc, World.size_alloc] at this

theorem order_g34 (w1 : World) (c : Co) : GotAt w1.heap.size (w1.heap.size + 1) [] (((w1.alloc (.cells c.cells 53)).alloc (.cells #[.slice none 0 0] 34)).alloc (.cells #[.pointer (some ⟨w1.heap.size, 0, none⟩)] 66)) := by
  have := (Boxed.new (w1.alloc (.cells c.cells 53)) 34 (.slice none 0 0)).alloc (.cells #[.pointer (some ⟨w1.heap.size, 0, none⟩)] 66)
  rw [World.size_alloc] at this
  exact ⟨_, this, World.ownsRow_nil _ _ _ _⟩

set_option maxRecDepth 100000 in
set_option maxHeartbeats 1000000 in
theorem order_small (w : World) (sh : Int) (hs0 : 0 ≤ sh) (hs1 : sh ≤ 255) (ca na : Option Addr) (clen ccap nlen ncap : Nat) (hC : Codes w.heap.size w ca clen) (hN : Names w.heap.size w na nlen) :
    Calls Yba.prog 5 #[.int .u8 sh, .slice ca clen ccap, .slice na nlen ncap] w fun e w' => e = .returned (.bool true) ∧ Below w.heap.size w w' := by
  have hc4 : clen ≤ 1024 := hC.1
  have hbi : (clen : Int) ≤ 1024 := by omega
  have HB := hid (build_any w.heap.size ca na clen ccap nlen ncap 0 [] (.slice none 0 0) (w.alloc (G37 ca na clen ccap nlen ncap)) sh hs0 hs1 (hC.below ((Below.refl _ w).alloc (Nat.le_refl _) _)) (hN.below ((Below.refl _ w).alloc (Nat.le_refl _) _)) (gen0 w ca na clen ccap nlen ncap hc4))
  clear hC hN
  go_enter Yba.func5, Yba.ntmps5
  go_wp2_with fail
  refine Calls.mono HB.out ?_
  clear HB
  rintro e w1 ⟨c, pos', wv, rfl, hf, hG, hk⟩
  obtain ⟨hB, c4, hn, hnd, hbw, hk0, a2, cp2, rfl, hcp, hw2⟩ := built_facts hf hG hk
  have HW := hid hw2
  have HK := hid hk0
  have HBW := hid hbw
  clear hf hG hk hw2 hk0 hbw
  go_wp2_with (first
    | ((with_reducible refine st53 (t := 8) (u := 19) w1 c ?_ ?_ ?_ ?_); (exact rfl); (exact rfl); (exact rfl))
    | (go_at_call 10; refine (calls_any _ _).mono ?_; rintro e w' ⟨rfl, rfl⟩))
  have hcall := calls1_order (w1.heap.size + 1) 100000 (w1.alloc (.cells c.cells 53)) (GotAt w1.heap.size (w1.heap.size + 1)) (fun _ _ => False) (by rw [World.size_alloc]; exact order1 w1.heap.size (w1.heap.size + 1) (Nat.le_refl _)) (got_own _ _) (fun _ _ _ _ h _ _ => h) 2 _ w1.heap.size 0 c (lies_new w1 c) HK.out hnd
    (w1.heap.size + 1 + 1) (((w1.alloc (.cells c.cells 53)).alloc (.cells #[.slice none 0 0] 34)).alloc (.cells #[.pointer (some ⟨w1.heap.size, 0, none⟩)] 66)) (by simp) (((Below.refl _ _).alloc (Nat.le_refl _) _).alloc (by simp) _) (order_c66 w1 c) (order_g34 w1 c)
  refine Calls.mono hcall ?_
  clear hcall
  rintro e W ⟨⟨v, rfl⟩, hbW, hgot | ⟨_, _, hno⟩⟩
  rotate_left
  · exact hno.elim
  obtain ⟨vg, hvg, hrg⟩ := hgot
  have cg := hvg.cell
  obtain ⟨a1, cp1, rfl, hcp1, hw1⟩ := own_slice hrg
  have hbW1 : Below w1.heap.size w1 W := (((((Below.refl _ w1).alloc (Nat.le_refl _) _).alloc (by simp) _).alloc (by simp; omega) _)).trans (hbW.mono (by simp))
  have HE := hid (show ∀ q, Calls Yba.prog 12 #[.slice a1 c.names.length cp1, .slice a2 c.names.length cp2] (W.drewN q) fun e w' => e = .returned (.bool true) ∧ ∃ k, w' = (W.drewN q).drewN k from fun q => equal_true a1 a2 c.names.length cp1 cp2 _ (by omega) fun i hi => by
    obtain ⟨g1, e1, _, _, e3⟩ := hw1 i hi
    obtain ⟨g2, e4, e5, e6⟩ := HW.out i hi
    exact ⟨g1, 0, g2, 0, c.names[i], e1, e4, e3, (hbW1.cell (p := ⟨g2, 0 + i, none⟩) e5).trans e6⟩)
  have c4' : W.cell? ⟨w.heap.size, 4, none⟩ = some (.slice a2 c.names.length cp2) := (hbW1.cell (p := ⟨w.heap.size, 4, none⟩) (by omega)).trans c4
  go_wp2
  clear hw1
  go_quiet ((go_at_call 12; exact Calls.quiet_of (HE.out _)))
  go_wp2
  go_ret
  exact ⟨rfl, below_drewN (HBW.out.trans (hbW1.mono (Nat.le_of_lt hB))) _⟩

end Go.Proofs.Ybulkbgae

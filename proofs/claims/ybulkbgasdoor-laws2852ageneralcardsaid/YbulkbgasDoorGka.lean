import Derived.Test.YbulkbgasDoorGk9
namespace Go.Proofs.YbulkbgasDoor
open Go.RowKit Go.Maps
set_option linter.unusedVariables false
attribute [local go_sem ↓] Go.wp_at_zero Go.wp_at_succ

abbrev GO7 (l : List Ac) (wi : World) (vL vC : Value) (cy : Bool) : Prop := GOut l (spF (acL l)) (txL l) (txL l).length (fcL false l) (fcL true l) (naF (txL l).length (acL l)).X wi vL vC cy

set_option maxRecDepth 1000000 in
set_option maxHeartbeats 4000000 in
theorem lockable_gen (w : World) (v : Value) (s : List Ac) (hn : s.length ≤ 300) (hs : SlA w v s) (ht : ∀ a ∈ s, 1 ≤ a.t ∧ a.t ≤ 4) (hit : ∀ a ∈ s, a.it.size ≤ 100) (hld : Laid w) (hpl : Gen7 (keptA s)) :
    Calls Ybad.prog 7 #[v] w fun e w' => ∃ vL vC cy, e = .returned (.agg #[vL, vC, .bool cy]) ∧ GO7 (keptA s) w' vL vC cy ∧ Below w.heap.size w w' := by
  have HT := hid (show ∀ a ∈ keptA s, 1 ≤ a.t ∧ a.t ≤ 4 from fun a ha => ht a (List.mem_filter.1 ha).1)
  have HIT := hid (show ∀ a ∈ keptA s, a.it.size ≤ 100 from fun a ha => hit a (List.mem_filter.1 ha).1)
  have hkl : (keptA s).length ≤ s.length := List.length_filter_le _ _
  have HPL := hid hpl
  have HLD := hid hld
  have HS := hid hs
  obtain ⟨as_, capl, rfl, hcl, hel⟩ := hs
  clear ht hit hpl hld hel
  obtain ⟨w1, hw1⟩ : ∃ w1, w1 = w.alloc (.cells #[.slice none 0 0, .slice none 0 0, .bool false] 28) := ⟨_, rfl⟩
  have HB1 := hid (show Below w.heap.size w w1 from by rw [hw1]; exact (Below.refl _ _).alloc (Nat.le_refl _) _)
  have HX1 := hid (show w1.heap[w.heap.size]? = some (.cells #[.slice none 0 0, .slice none 0 0, .bool false] 28 (0, 0)) from by rw [hw1]; exact heap_alloc_new _ _)
  have hz1 : w1.heap.size = w.heap.size + 1 := by rw [hw1]; simp
  have HC := hid (contains_any w1 (.slice as_ s.length capl) s (by omega) (HS.out.below HB1.out))
  by_cases hlk : 0 ≤ idxLk s
  · have hpos : 0 < s.length := by
      rcases Nat.eq_zero_or_pos s.length with h0 | h0
      · have := List.eq_nil_of_length_eq_zero h0; subst this; simp [idxLk] at hlk
      · exact h0
    go_enter Ybad.func7, Ybad.ntmps7
    go_upto_region 1 with fail
    rw [← hw1]
    clear hw1
    go_upto_if 34 with (go_at_call 13; refine Calls.mono HC.out ?_; rintro e w2 ⟨rfl, hb⟩; have HB2 := hid hb; clear hb; rw [decide_eq_true hlk]; dsimp only)
    have HB12 := hid (HB1.out.trans (HB2.out.mono (by omega)))
    have hz2 := HB2.out.size
    have HCL := hid (clone_any w2 (.slice as_ s.length capl) s hpos (by omega) (HS.out.below HB12.out))
    refine wp_cond_true rfl ?_
    go_cut [0] from 35 to 37 (fun v0 wd => ∃ g cap, v0 = .slice (some ⟨g, 0, none⟩) (keptA s).length cap ∧ (keptA s).length ≤ cap ∧ g < wd.heap.size ∧ (∀ x (hx : x < (keptA s).length), wd.rangeAt g (x * 3) (keptA s)[x].cells) ∧ Below w2.heap.size w2 wd)
    case first =>
      go_wp2_with (first
        | (go_at_call 17; refine Calls.mono HCL.out ?_; rintro e w3 ⟨g, cap, rfl, hown, hb⟩; have HOW := hid hown; have HB3 := hid hb; clear hown hb; have HR := hid (own_rangeA HOW.out); dsimp only)
        | (go_at_call 16; refine Calls.mono (del_any w3 g cap s HR.out.2.2.2.2 (by omega) hlk HR.out.2.2.2.1 HR.out.1 HR.out.2.1) ?_; rintro e w4 ⟨rfl, hr, hg⟩; have HR4 := hid hr; have HG4 := hid hg; clear hr hg; dsimp only))
      go_meet
      have := HR.out.2.2
      exact ⟨g, cap, rfl, by omega, by have := HG4.out.size; omega, HR4.out, HB3.out.grown HG4.out HB3.out.size (fun k hk => by cases hk; omega)⟩
    case rest =>
      obtain ⟨g, cap, rfl, h1, h2, h3, h4⟩ := hcut
      have H3 := hid h3
      have H4 := hid h4
      have hz4 := h4.size
      clear h3 h4
      have HB14 := hid (HB12.out.trans (H4.out.mono (by omega)))
      apply_assumption
      refine gk_front _ w.heap.size (keptA s).length cap (some ⟨g, 0, none⟩) (keptA s) rfl (by omega) h1 HT HIT (hid fun i hi => ⟨g, 0, rfl, h2, by
        have := H3.out i hi
        rw [Nat.zero_add]
        simpa [List.getD_eq_getElem?_getD, List.getElem?_eq_getElem hi] using this⟩) (hid (HLD.out.below HB14.out)) (hid ((H4.out.block _ (by omega)).trans ((HB2.out.block _ (by omega)).trans HX1.out))) HPL _ _ _ _ _ _ _ _ _ _ _ _ _ _ _ _ _ _ _ _ _ _ _ _ _ _ _ _ _ _ _ _ _ _ _ _ _ _ _ _ _ _ _ _ _ _ _ _ _ _ _ _ _ _ _ _ _ _ _ _ _ _ _ _ _ _ _ _ _ _ _ _ _ _ _ _ _ _ _ _ _ _ _ _ _ _ _ _ _ _ _ _ _ _ _ _ _ _ _ _ _ _ _ _ _ _ _ _ _ _ _ _ _ _ _ _ _ _ _ _ _ _ _ _ _ _ _ _ _ _ _ _ _ _ _ _ _ _ _ _ _ _ _ _ _ _ _ _ _ _ _ _ _ _ _ _ _ _ _ _ _ _ _ _ _ _ _ _ _ _ _ _ _ _ _ _ _ _ _ _ _ _ _ _ _ _ _ _ _ _ _ _ _ _ _ _ _ _ _ _ _ _ _ _ _ _ _ _ _ _ _ _ _ _ _ _ _ _ _ _ _ _ _ _ _ _ _ _ _ _ _ _ _ _ _ _ _ _ _ _ _ _ _ _ _ _ _ _ _ _ _ _ _ _ _ _ _ _ _ _ _ _ _ _ _ _ _ _ _ _ _ _ _ _ _ _ _ _ _ _ _ _ _ _ _ _ _ _ _ _ _ _ _ _ _ _ _ _ _ _ _ _ _ ?_
      intro tm wi h1 h2
      obtain ⟨vL, vC, cy, r1, r2, r3⟩ := h2
      refine bodyPost_ret (results_cell_row rfl _ _ w.heap.size 28 #[vL, vC, .bool cy] (0, 0) _ h1 r1 Ybad.underlying28 rfl Ybad.size28) rfl ?_
      have hz14 := HB14.out.size
      exact ⟨vL, vC, cy, rfl, r2, r3.os.trans HB14.out.os, r3.tape.trans HB14.out.tape, r3.output.trans HB14.out.output, by have := r3.size; omega, fun k hk => (r3.block k (by omega) (by omega)).trans (HB14.out.block k hk)⟩
  · have hk : keptA s = s := filter_none hlk
    have HK := hid hk
    go_enter Ybad.func7, Ybad.ntmps7
    go_upto_region 1 with fail
    rw [← hw1]
    clear hw1
    go_upto_if 34 with (go_at_call 13; refine Calls.mono HC.out ?_; rintro e w2 ⟨rfl, hb⟩; have HB2 := hid hb; clear hb; rw [decide_eq_false hlk]; dsimp only)
    have HB12 := hid (HB1.out.trans (HB2.out.mono (by omega)))
    have hz2 := HB2.out.size
    refine wp_cond_false rfl (wp_skip ?_)
    dsimp only [Exit.then]
    apply_assumption
    obtain ⟨as2, capl2, e1, e2, e3⟩ := HS.out.below HB12.out
    simp only [Value.slice.injEq, true_and] at e1
    obtain ⟨rfl, rfl⟩ := e1
    refine gk_front _ w.heap.size s.length capl as_ (keptA s) (by rw [hk]) (by omega) hcl HT HIT (hid (by rw [hk]; exact e3)) (hid (HLD.out.below HB12.out)) (hid ((HB2.out.block _ (by omega)).trans HX1.out)) HPL _ _ _ _ _ _ _ _ _ _ _ _ _ _ _ _ _ _ _ _ _ _ _ _ _ _ _ _ _ _ _ _ _ _ _ _ _ _ _ _ _ _ _ _ _ _ _ _ _ _ _ _ _ _ _ _ _ _ _ _ _ _ _ _ _ _ _ _ _ _ _ _ _ _ _ _ _ _ _ _ _ _ _ _ _ _ _ _ _ _ _ _ _ _ _ _ _ _ _ _ _ _ _ _ _ _ _ _ _ _ _ _ _ _ _ _ _ _ _ _ _ _ _ _ _ _ _ _ _ _ _ _ _ _ _ _ _ _ _ _ _ _ _ _ _ _ _ _ _ _ _ _ _ _ _ _ _ _ _ _ _ _ _ _ _ _ _ _ _ _ _ _ _ _ _ _ _ _ _ _ _ _ _ _ _ _ _ _ _ _ _ _ _ _ _ _ _ _ _ _ _ _ _ _ _ _ _ _ _ _ _ _ _ _ _ _ _ _ _ _ _ _ _ _ _ _ _ _ _ _ _ _ _ _ _ _ _ _ _ _ _ _ _ _ _ _ _ _ _ _ _ _ _ _ _ _ _ _ _ _ _ _ _ _ _ _ _ _ _ _ _ _ _ _ _ _ _ _ _ _ _ _ _ _ _ _ _ _ _ _ _ _ _ _ _ _ _ _ _ _ _ _ _ ?_
    intro tm wi h1 h2
    obtain ⟨vL, vC, cy, r1, r2, r3⟩ := h2
    refine bodyPost_ret (results_cell_row rfl _ _ w.heap.size 28 #[vL, vC, .bool cy] (0, 0) _ h1 r1 Ybad.underlying28 rfl Ybad.size28) rfl ?_
    have hz14 := HB12.out.size
    exact ⟨vL, vC, cy, rfl, r2, r3.os.trans HB12.out.os, r3.tape.trans HB12.out.tape, r3.output.trans HB12.out.output, by have := r3.size; omega, fun k hk => (r3.block k (by omega) (by omega)).trans (HB12.out.block k hk)⟩

end Go.Proofs.YbulkbgasDoor

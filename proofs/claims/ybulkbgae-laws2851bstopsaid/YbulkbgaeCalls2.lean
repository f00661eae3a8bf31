import Derived.Test.YbulkbgaeCalls
namespace Go.Proofs.Ybulkbgae
open Go.RowKit Go.Shelf
set_option linter.unusedVariables false
set_option linter.unusedSimpArgs false
attribute [local go_sem] Oper.semAt_some

set_option maxRecDepth 100000 in
set_option maxHeartbeats 2000000 in
theorem calls1_stop (Bd Ba Bg Bs N : Nat) (w0 : World) (G Gx : List ByteArray → World → Prop) (hcl : ClOk 13 #[.pointer (some ⟨Bd, 0, none⟩), .pointer (some ⟨Ba, 0, none⟩), .pointer (some ⟨Bg, 0, none⟩), .pointer (some ⟨Bs, 0, none⟩)] w0.heap.size N G Gx) (hG : Own G) (hGx : Own Gx) (m lo b off : Nat) (c : Co) (hl : LiesC w0 b off c) (hk : CoOk m lo w0 c) (hN : (c.nd b off).length ≤ N)
    (Bc : Nat) (w : World) (hBcl : Bc < w.heap.size) (hbel : Below w0.heap.size w0 w) (hBc : w.cell? ⟨Bc, 0, none⟩ = some (.pointer (some ⟨b, off, none⟩))) (h0 : G [] w) :
    Calls Yba.prog 16 #[.func (.func 13) #[] #[.pointer (some ⟨Bd, 0, none⟩), .pointer (some ⟨Ba, 0, none⟩), .pointer (some ⟨Bg, 0, none⟩), .pointer (some ⟨Bs, 0, none⟩)], .pointer (some ⟨Bc, 0, none⟩)] w fun e W' => (∃ v, e = .returned v) ∧ Below w0.heap.size w W' ∧ (G c.names W' ∨ ∃ q, q <+: c.names ∧ Gx q W') := by
  obtain ⟨L, hL⟩ := lift_nodes (CoOk.ok hl hk)
  have hnm : nmA L = c.names := by unfold nmA; rw [hL, Co.names_nd]
  rw [← hL, List.length_map] at hN
  refine (callsIn_wide (n := 5)).1 ?_
  refine callsIn_of_wp_marks Yba.func16 rfl trivial ?_ rfl
  simp only [Yba.ntmps16, List.size_toArray, List.length_cons, List.length_nil, Nat.reduceAdd, Nat.reduceSub, Array.replicate_succ, Array.replicate_zero, List.push_toArray, List.append_toArray, List.nil_append, List.cons_append]
  have hBc1 : ∀ o, (w.alloc o).cell? ⟨Bc, 0, none⟩ = some (.pointer (some ⟨b, off, none⟩)) := fun o => (((Below.refl w.heap.size w).alloc (Nat.le_refl _) o).cell (p := ⟨Bc, 0, none⟩) hBcl).trans hBc
  gi_wp2_with (refine ⟨trivial, ?_⟩; gi_at_call 17; refine (exprs_in Fence.wide _ trivial rfl _ _).mono ?_; rintro e w' ⟨rfl, rfl⟩)
  have hB0 : Below w.heap.size w ((w.alloc (.cells #[(.func (.func 13) #[] #[.pointer (some ⟨Bd, 0, none⟩), .pointer (some ⟨Ba, 0, none⟩), .pointer (some ⟨Bg, 0, none⟩), .pointer (some ⟨Bs, 0, none⟩)])] 58)).alloc (.cells #[.pointer (some ⟨b, off, none⟩)] 66)) := ((Below.refl _ w).alloc (Nat.le_refl _) _).alloc (by simp) _
  have c2 : Boxed ((w.alloc (.cells #[(.func (.func 13) #[] #[.pointer (some ⟨Bd, 0, none⟩), .pointer (some ⟨Ba, 0, none⟩), .pointer (some ⟨Bg, 0, none⟩), .pointer (some ⟨Bs, 0, none⟩)])] 58)).alloc (.cells #[.pointer (some ⟨b, off, none⟩)] 66)) (w.heap.size + 1) 66 (.pointer (some ⟨b, off, none⟩)) := by
    have := Boxed.new (w.alloc (.cells #[(.func (.func 13) #[] #[.pointer (some ⟨Bd, 0, none⟩), .pointer (some ⟨Ba, 0, none⟩), .pointer (some ⟨Bg, 0, none⟩), .pointer (some ⟨Bs, 0, none⟩)])] 58)) 66 (.pointer (some ⟨b, off, none⟩)); rwa [World.size_alloc] at this
  have c1 : Boxed ((w.alloc (.cells #[(.func (.func 13) #[] #[.pointer (some ⟨Bd, 0, none⟩), .pointer (some ⟨Ba, 0, none⟩), .pointer (some ⟨Bg, 0, none⟩), .pointer (some ⟨Bs, 0, none⟩)])] 58)).alloc (.cells #[.pointer (some ⟨b, off, none⟩)] 66)) w.heap.size 58 (.func (.func 13) #[] #[.pointer (some ⟨Bd, 0, none⟩), .pointer (some ⟨Ba, 0, none⟩), .pointer (some ⟨Bg, 0, none⟩), .pointer (some ⟨Bs, 0, none⟩)]) := (Boxed.new w 58 _).alloc _
  have hsz := hbel.size
  refine wpIn_rangeFunc_ownF rfl (by omega) (gf := 19) (lb := #[.pointer (some ⟨w.heap.size + 1, 0, none⟩)]) rfl trivial (enters_of Yba.func19 (by kernel_rfl) rfl)
    (exprs_stops Fence.wide rfl _ trivial trivial trivial trivial rfl (w.heap.size + 1) w0 m lo b off c hl hk L hL _ (by simp) (hbel.trans (hB0.mono hsz)) c2.cell) belowK_t (belowK_b (by simp; omega)) (Below.refl _ _) (fun _ => rfl)
    (fun pre W => (G (nmA pre) W ∧ Boxed W w.heap.size 58 (.func (.func 13) #[] #[.pointer (some ⟨Bd, 0, none⟩), .pointer (some ⟨Ba, 0, none⟩), .pointer (some ⟨Bg, 0, none⟩), .pointer (some ⟨Bs, 0, none⟩)])) ∧ Below w0.heap.size w W)
    (fun c pre W => (c = .ret ∧ Gx (nmA pre) W) ∧ Below w0.heap.size w W)
    (OwnFrom.and (Own.from (fun s A B row hs hg hr => ⟨hG _ A B row hs.1 hg hr, boxed_own (β := Unit) _ 58 (fun _ => (.func (.func 13) #[] #[.pointer (some ⟨Bd, 0, none⟩), .pointer (some ⟨Ba, 0, none⟩), .pointer (some ⟨Bg, 0, none⟩), .pointer (some ⟨Bs, 0, none⟩)])) () A B row hs.2 hg hr⟩) _) (ownFrom_below hsz (by simp; omega)))
    (fun c => OwnFrom.and (Own.from (fun s A B row hs hg hr => ⟨hs.1, hGx _ A B row hs.2 hg hr⟩) _) (ownFrom_below hsz (by simp; omega)))
    ⟨⟨hG [] _ _ none (hG [] _ _ none h0 (World.grownBy_alloc w _ none) (fun r e => by cases e)) (World.grownBy_alloc _ _ none) (fun r e => by cases e), c1⟩, hB0.mono hsz⟩
    (fun x => { tmps := #[(.func (.func 13) #[] #[.pointer (some ⟨Bd, 0, none⟩), .pointer (some ⟨Ba, 0, none⟩), .pointer (some ⟨Bg, 0, none⟩), .pointer (some ⟨Bs, 0, none⟩)]), .pointer (some ⟨Bc, 0, none⟩), .pointer (some ⟨w.heap.size, 0, none⟩), .pointer (some ⟨x.1.b, x.1.off, none⟩), .pointer (some ⟨b, off, none⟩), .func (.func 19) #[] #[.pointer (some ⟨w.heap.size + 1, 0, none⟩)], .pointer (some ⟨x.1.b, x.1.off, none⟩), undef, undef, undef, undef, undef, undef, undef, undef, undef, undef, undef, undef, undef, undef], defers := [] }) ?assign ?body ?done ?stop
  case assign =>
    intro l x W K hK
    gi_wp2
    exact hK
  case body =>
    rintro l pre x W ⟨⟨hGp, hbx⟩, hB⟩ hlt
    have hmx : Yba.prog.follows .mixedOrders = true := by kernel_rfl
    have hB1 : Below w0.heap.size w0 W := hbel.trans hB
    have x0 : W.cell? ⟨x.1.b, x.1.off, none⟩ = some (.int .u8 x.1.op) := (hB1.cell (p := ⟨x.1.b, x.1.off, none⟩) x.2.1).trans x.2.2.1
    have x7 : W.cell? ⟨x.1.b, x.1.off + 7, none⟩ = some (.string x.1.fn) := (hB1.cell (p := ⟨x.1.b, x.1.off + 7, none⟩) x.2.1).trans x.2.2.2
    have y0 := hbx.cell
    by_cases hx : x.1.op = 2
    · have hn1 := nmA_yes pre x hx
      have hlen : (nmA pre).length < N := by have := nmA_le pre; omega
      have hcl' : ∀ W1 : World, W1.os = W.os → W1.tape = W.tape → W1.output = W.output → W1.heap = W.heap → Calls Yba.prog 13 #[.string x.1.fn, .pointer (some ⟨Bd, 0, none⟩), .pointer (some ⟨Ba, 0, none⟩), .pointer (some ⟨Bg, 0, none⟩), .pointer (some ⟨Bs, 0, none⟩)] W1 fun e W' => ((e = .returned (.bool true) ∧ G (nmA pre ++ [x.1.fn]) W') ∨ (e = .returned (.bool false) ∧ Gx (nmA pre ++ [x.1.fn]) W')) ∧ Below w0.heap.size W1 W' ∧ KeepsOthers W1 W' ∧ ∀ B v, Boxed W1 B 58 v → Boxed W' B 58 v := fun W1 e1 e2 e3 e4 => hcl (nmA pre) x.1.fn W1 (hG _ W W1 none hGp ⟨e1, e2, e3, by rw [e4]; exact Nat.le_refl _, fun k _ _ => by rw [e4]⟩ (fun r e => by cases e)) hlen (by rw [e4]; exact Nat.le_trans hsz hB.size)
      have HC := hid hcl'
      have HG := hid hGp
      clear hcl' hGp
      have HT := hid ((CallsIn.inRound l ((callsIn_wide (n := 2)).2 (HC.out W.drew rfl rfl rfl rfl))).mono (R' := fun e W' => ∃ bv, e = .returned (.bool bv) ∧ Hid ((if bv then G (nmA pre ++ [x.1.fn]) W' else Gx (nmA pre ++ [x.1.fn]) W') ∧ Below w0.heap.size W.drew W' ∧ KeepsOthers W.drew W' ∧ ∀ B v, Boxed W.drew B 58 v → Boxed W' B 58 v)) (fun e W' h => by rcases h with ⟨⟨rfl, h1⟩ | ⟨rfl, h1⟩, h2⟩ <;> exact ⟨_, rfl, hid ⟨by simpa using h1, h2⟩⟩))
      gi_wp2
      gi_region_with_o ((with_reducible refine And.intro ?_ ?_); (exact trivial); gi_at_call 13; refine CallsIn.mono HT.out ?_; rintro e W1 ⟨bv, rfl, H1⟩)
      all_goals cases bv
      all_goals gi_wp2
      all_goals (try go_bits)
      all_goals obtain ⟨hG1, hb1, hk1, h58⟩ := H1.out
      all_goals (first
        | exact ⟨(KeepsOthers.drew _).trans hk1, ((Below.refl w0.heap.size W).drew).trans hb1, ⟨by rw [hn1]; exact hG1, h58 _ _ hbx⟩, (hB.drew).trans hb1⟩
        | exact ⟨(KeepsOthers.drew _).trans hk1, ⟨rfl, by rw [hn1]; exact hG1⟩, (hB.drew).trans hb1⟩)
    · have hx' : (x.1.op == 2) = false := by simpa using hx
      have hn1 := nmA_no pre x hx
      gi_wp2
      gi_region_with_o ((with_reducible refine And.intro ?_ ?_); (exact fun _ _ => trivial))
      all_goals gi_wp2
      all_goals (try go_bits)
      all_goals exact ⟨KeepsOthers.drew _, (Below.refl w0.heap.size W).drew, ⟨by rw [hn1]; exact hG _ W W.drew none hGp ⟨rfl, rfl, rfl, Nat.le_refl _, fun _ _ _ => rfl⟩ (fun r e => by cases e), hbx⟩, hB.drew⟩
  case done =>
    rintro D ys W hD rfl ⟨⟨hGp, _⟩, hB⟩ hK
    gi_wp2
    refine ⟨by simp, .inl ⟨_, _, rfl, run_takeDeferred hK, ?_⟩⟩
    have hbD := hB.trans (belowK_b (w := w) hsz W D _ (.deferred none) (by simp at hD; omega) hK rfl rfl)
    refine ⟨_, results_none rfl _ _ _, ⟨_, rfl⟩, hbD, .inl ?_⟩
    rw [← hnm]
    exact hG _ _ _ (some D) hGp (grownBy_putObj' _ D _) (fun r e => by cases e; exact ⟨_, hK, rfl⟩)
  case stop =>
    rintro D c pre W hD hpre ⟨⟨rfl, hGp⟩, hB⟩ hK
    gi_wp2
    refine ⟨by simp, .inl ⟨_, _, rfl, run_takeDeferred hK, ?_⟩⟩
    have hbD := hB.trans (belowK_b (w := w) hsz W D _ (.deferred none) (by simp at hD; omega) hK rfl rfl)
    refine ⟨_, results_none rfl _ _ _, ⟨_, rfl⟩, hbD, .inr ⟨nmA pre, by rw [← hnm]; exact nmA_prefix hpre, ?_⟩⟩
    exact hGx _ _ _ (some D) hGp (grownBy_putObj' _ D _) (fun r e => by cases e; exact ⟨_, hK, rfl⟩)

end Go.Proofs.Ybulkbgae

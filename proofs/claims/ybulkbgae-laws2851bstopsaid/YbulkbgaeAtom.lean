import Derived.Test.YbulkbgaeCon
import Derived.Test.YbulkbgaeExprAll
namespace Go.Proofs.Ybulkbgae
open Go.RowKit
set_option linter.unusedVariables false
set_option linter.unusedSimpArgs false

/-- atom's word. -/
def AtomSaid (B : Nat) (ca na : Option Addr) (clen ccap nlen ncap : Nat) (w : World) (pos : Nat) (xs : List ByteArray) (e : Ending) (w' : World) : Prop :=
  ∃ (c : Co) (pos' : Nat) (wv' : Value), e = .returned (.agg c.cells) ∧ Fr B w w' ∧ Gen B ca na clen ccap nlen ncap w' pos' (xs ++ c.names) wv' ∧ 3 ≤ c.op ∧ Sides w.heap.size w' c ∧ pos ≤ pos'

theorem atom_close {B : Nat} {ca na : Option Addr} {clen ccap nlen ncap pos : Nat} {xs : List ByteArray} {wv : Value} {w W : World} {c : Co} {pos' : Nat} {a : Act}
    (hfr : Fr B w W) (hG : Gen B ca na clen ccap nlen ncap W pos' (xs ++ c.names) wv) (hpos : pos ≤ pos')
    (hold : W.heap[w.heap.size]? = some Z53) (hB : B < w.heap.size)
    (hp : a.tmps.getD 2 undef = .pointer (some ⟨w.heap.size, 0, none⟩)) (hd : a.defers = []) (hop : 3 ≤ c.op) (hlo : Sides (w.heap.size + 1) W c) :
    bodyPost Yba.prog Yba.f15 (AtomSaid B ca na clen ccap nlen ncap w pos xs) Exit.ret a (W.setRow w.heap.size c.cells) := by
  refine bodyPost_ret (results_cell_row rfl _ _ w.heap.size 53 c.cells (0, 0) _ hp (setRow_heap _ _ co0.cells _ _ _ hold) Yba.underlying53 rfl Yba.size53) hd ?_
  refine ⟨c, pos', wv, rfl, hfr.setRow (Nat.le_refl _) _, ?_, hop, ?_, hpos⟩
  · exact hG.grown (row := some w.heap.size) ⟨rfl, rfl, rfl, by simp, fun k _ hk => setRow_other _ _ _ _ (by intro e; exact hk (by rw [e]))⟩ (by simp; omega) (.inr (own_apart hG.own hold (by decide)))
  · exact hlo.keep (by omega) fun g cur hg hh => by rw [setRow_other _ _ _ _ (by omega)]; exact hh

/-- What a call of expr leaves, for a caller whose box lies at w.heap.size. -/
theorem expr_facts {B : Nat} {ca na : Option Addr} {clen ccap nlen ncap n : Nat} {w W w1 : World} {xs : List ByteArray} {c : Ch} {p1 : Nat} {wv1 : Value} {old : Array Value} {t : TypeId}
    (hF : Fr B w W) (hbox : W.heap[w.heap.size]? = some (.cells old t (0, 0))) (ht : t ≠ 9) (hB : B < w.heap.size)
    (hf : Fr B W w1) (hG : Gen B ca na clen ccap nlen ncap w1 p1 (xs ++ c.names) wv1) (hk : Kid n W.heap.size w1 c.a c.len c.L) :
    Hid (Fr B w w1 ∧ w1.heap[w.heap.size]? = some (.cells old t (0, 0)) ∧ Gen B ca na clen ccap nlen ncap w1 p1 (xs ++ c.names) wv1 ∧ Kid n (w.heap.size + 1) w1 c.a c.len c.L) ∧ w.heap.size < w1.heap.size := by
  have hlt := (Array.getElem?_eq_some_iff.1 hbox).1
  exact ⟨⟨hF.trans hf, hf.keeps ht (by omega) hbox, hG, hk.low (by omega)⟩, Nat.lt_of_lt_of_le hlt hf.size⟩

theorem expr_top (B : Nat) (ca na : Option Addr) (clen ccap nlen ncap : Nat) : ExprAt B ca na clen ccap nlen ncap 4 0 := expr_any B ca na clen ccap nlen ncap 4 0 (by omega)

theorem names_atom {op : Int} {a : Option Addr} {len cap : Nat} {c1 c2 : Ch} {L : List Nd} (h : 3 ≤ op) : (Co.mk op a len cap c1 c2 L).names = c1.names ++ c2.names := by
  simp [Co.names, h]

set_option maxRecDepth 100000 in
set_option maxHeartbeats 1000000 in
theorem atom_more (B : Nat) (ca na : Option Addr) (clen ccap nlen ncap pos : Nat) (xs : List ByteArray) (wv : Value) (w : World) (z : Int) (b off : Nat)
    (hC : Codes B w ca clen) (hN : Names B w na nlen)
    (hG : Gen B ca na clen ccap nlen ncap w pos xs wv) (hp : pos < clen) (hca : ca = some ⟨b, off, none⟩) (hb : b < B) (hz : w.cell? ⟨b, off + pos, none⟩ = some (.int .u8 z)) (hz0 : 0 ≤ z) (hz1 : z ≤ 255) :
    Calls Yba.prog 15 #[.pointer (some ⟨B, 0, none⟩)] w (AtomSaid B ca na clen ccap nlen ncap w pos xs) := by
  have HI := hid (expr_top B ca na clen ccap nlen ncap)
  have HC := hid hC
  have HN := hid hN
  clear hC hN
  subst hca
  have hB := hG.lt
  have h0 := hG.c0
  have h2 := hG.c2
  have f2 := hG.free 2
  have hpi : (pos : Int) < (clen : Int) := by omega
  have hc := hG.hc
  have hp0 : (0 : Int) ≤ (pos : Int) := by omega
  have hbs : b < w.heap.size := by omega
  have HG := hid (show ∀ k, Gen B (some ⟨b, off, none⟩) na clen ccap nlen ncap (((w.alloc Z53).drewN k).setCell ⟨B, 2, none⟩ (.int .i64 ((pos : Int) + 1))) (pos + 1) xs wv from fun k => ((hG.alloc Z53).drewN k).bump hp)
  have HF := hid (show ∀ k, Fr B w (((w.alloc Z53).drewN k).setCell ⟨B, 2, none⟩ (.int .i64 ((pos : Int) + 1))) from fun k => (((Fr.refl B w).alloc _).drewN _).setB _ _)
  have HX := hid (show ∀ k, (((w.alloc Z53).drewN k).setCell ⟨B, 2, none⟩ (.int .i64 ((pos : Int) + 1))).heap[w.heap.size]? = some Z53 from fun k => by rw [heap_setCell_other _ _ _ _ (by simp; omega)]; exact heap_alloc_new w Z53)
  clear hG
  go_enter Yba.func15, Yba.ntmps15
  go_wp2
  go_quiet (fail)
  go_wp2
  go_quiet (fail)
  go_wp2_with fail
  refine Calls.mono (HI.out _ _ _ _ (HC.out.below ((HF.out _).below (Nat.le_of_lt hB))) (HN.out.below ((HF.out _).below (Nat.le_of_lt hB))) (HG.out _)) ?_
  rintro e w1 ⟨c1, p1, wv1, rfl, hf1, hG1, hk1, hp1⟩
  obtain ⟨H1, hs1⟩ := expr_facts (HF.out _) (HX.out _) (by decide) hB hf1 hG1 hk1
  clear hf1 hG1 hk1 h0 h2 f2 hz HG HF HX
  go_wp2_with ((with_reducible refine st50 (t := 4) w1 c1 ?_ ?_ ?_ ?_); (exact rfl); (exact rfl); (exact rfl))
  refine Calls.mono (HI.out (w1.alloc (.cells c1.cells 50)) _ _ _ (HC.out.below ((H1.out.1.alloc _).below (Nat.le_of_lt hB))) (HN.out.below ((H1.out.1.alloc _).below (Nat.le_of_lt hB))) (H1.out.2.2.1.alloc _)) ?_
  rintro e w2 ⟨c2, p2, wv2, rfl, hf2, hG2, hk2, hp2⟩
  obtain ⟨H2, hs2⟩ := expr_facts (H1.out.1.alloc (.cells c1.cells 50)) ((Below.heap_alloc w1 (.cells c1.cells 50) _ hs1).trans H1.out.2.1) (by decide) hB hf2 hG2 hk2
  have X2 := hid (hf2.keeps (by decide) (by omega) (heap_alloc_new w1 (.cells c1.cells 50)))
  have hs3 : w1.heap.size < w2.heap.size := (Array.getElem?_eq_some_iff.1 X2.out).1
  have K1 := hid ((H1.out.2.2.2.alloc (.cells c1.cells 50)).fr (by omega) hf2)
  clear hf2 hG2 hk2 H1
  go_wp2_with (first
    | ((with_reducible refine st50 (t := 5) w2 c2 ?_ ?_ ?_ ?_); (exact rfl); (exact rfl); (exact rfl))
    | ((with_reducible refine ld50 (t := 4) w1.heap.size c1 ?_ ?_ ?_); (exact rfl); (exact (Below.heap_alloc _ _ _ hs3).trans X2.out))
    | ((with_reducible refine ld50 (t := 5) w2.heap.size c2 ?_ ?_ ?_); (exact rfl); (exact heap_alloc_new w2 _))
    | ((with_reducible refine bd53 (t := 39) (u := 40) (v := 41) (3 + z % 8) c1 c2 ?_ ?_ ?_ ?_); (exact rfl); (exact rfl); (exact rfl))
    | ((with_reducible refine st53r (t := 2) (u := 42) w.heap.size ⟨3 + z % 8, none, 0, 0, c1, c2, []⟩ ?_ ?_ ?_ ?_); (exact rfl); (exact rfl); (exact (Below.heap_alloc _ _ _ hs2).trans H2.out.2.1)))
  exact atom_close (pos' := p2) (wv := wv2) (c := ⟨3 + z % 8, none, 0, 0, c1, c2, []⟩) (H2.out.1.alloc _) (by rw [names_atom (by omega)]; have := H2.out.2.2.1.alloc (.cells c2.cells 50); rwa [List.append_assoc] at this) (by omega) ((Below.heap_alloc _ _ _ hs2).trans H2.out.2.1) hB rfl rfl (by show 3 ≤ 3 + z % 8; omega) ⟨K1.out.alloc _, H2.out.2.2.2.alloc _⟩


set_option maxRecDepth 100000 in
set_option maxHeartbeats 1000000 in
theorem atom_less (B : Nat) (ca na : Option Addr) (clen ccap nlen ncap pos : Nat) (xs : List ByteArray) (wv : Value) (w : World)
    (hC : Codes B w ca clen) (hN : Names B w na nlen)
    (hG : Gen B ca na clen ccap nlen ncap w pos xs wv) (hp : clen ≤ pos) :
    Calls Yba.prog 15 #[.pointer (some ⟨B, 0, none⟩)] w (AtomSaid B ca na clen ccap nlen ncap w pos xs) := by
  have HI := hid (expr_top B ca na clen ccap nlen ncap)
  have HC := hid hC
  have HN := hid hN
  clear hC hN
  have hB := hG.lt
  have h0 := hG.c0
  have h2 := hG.c2
  have hpi : (clen : Int) ≤ (pos : Int) := by omega
  have hpc := hG.hp
  have hc := hG.hc
  have hp0 : (0 : Int) ≤ (pos : Int) := by omega
  have HG := hid (show ∀ k, Gen B ca na clen ccap nlen ncap ((w.alloc Z53).drewN k) pos xs wv from fun k => (hG.alloc Z53).drewN k)
  have HF := hid (show ∀ k, Fr B w ((w.alloc Z53).drewN k) from fun k => ((Fr.refl B w).alloc _).drewN _)
  have HX := hid (show ∀ k, ((w.alloc Z53).drewN k).heap[w.heap.size]? = some Z53 from fun k => heap_alloc_new w Z53)
  clear hG
  go_enter Yba.func15, Yba.ntmps15
  go_wp2
  go_quiet (fail)
  go_wp2_with fail
  refine Calls.mono (HI.out _ _ _ _ (HC.out.below ((HF.out _).below (Nat.le_of_lt hB))) (HN.out.below ((HF.out _).below (Nat.le_of_lt hB))) (HG.out _)) ?_
  rintro e w1 ⟨c1, p1, wv1, rfl, hf1, hG1, hk1, hp1⟩
  obtain ⟨H1, hs1⟩ := expr_facts (HF.out _) (HX.out _) (by decide) hB hf1 hG1 hk1
  clear hf1 hG1 hk1 h0 h2 HG HF HX
  go_wp2_with ((with_reducible refine st50 (t := 4) w1 c1 ?_ ?_ ?_ ?_); (exact rfl); (exact rfl); (exact rfl))
  refine Calls.mono (HI.out (w1.alloc (.cells c1.cells 50)) _ _ _ (HC.out.below ((H1.out.1.alloc _).below (Nat.le_of_lt hB))) (HN.out.below ((H1.out.1.alloc _).below (Nat.le_of_lt hB))) (H1.out.2.2.1.alloc _)) ?_
  rintro e w2 ⟨c2, p2, wv2, rfl, hf2, hG2, hk2, hp2⟩
  obtain ⟨H2, hs2⟩ := expr_facts (H1.out.1.alloc (.cells c1.cells 50)) ((Below.heap_alloc w1 (.cells c1.cells 50) _ hs1).trans H1.out.2.1) (by decide) hB hf2 hG2 hk2
  have X2 := hid (hf2.keeps (by decide) (by omega) (heap_alloc_new w1 (.cells c1.cells 50)))
  have hs3 : w1.heap.size < w2.heap.size := (Array.getElem?_eq_some_iff.1 X2.out).1
  have K1 := hid ((H1.out.2.2.2.alloc (.cells c1.cells 50)).fr (by omega) hf2)
  clear hf2 hG2 hk2 H1
  go_wp2_with (first
    | ((with_reducible refine st50 (t := 5) w2 c2 ?_ ?_ ?_ ?_); (exact rfl); (exact rfl); (exact rfl))
    | ((with_reducible refine ld50 (t := 4) w1.heap.size c1 ?_ ?_ ?_); (exact rfl); (exact (Below.heap_alloc _ _ _ hs3).trans X2.out))
    | ((with_reducible refine ld50 (t := 5) w2.heap.size c2 ?_ ?_ ?_); (exact rfl); (exact heap_alloc_new w2 _))
    | ((with_reducible refine bd53 (t := 39) (u := 40) (v := 41) (3) c1 c2 ?_ ?_ ?_ ?_); (exact rfl); (exact rfl); (exact rfl))
    | ((with_reducible refine st53r (t := 2) (u := 42) w.heap.size ⟨3, none, 0, 0, c1, c2, []⟩ ?_ ?_ ?_ ?_); (exact rfl); (exact rfl); (exact (Below.heap_alloc _ _ _ hs2).trans H2.out.2.1)))
  exact atom_close (pos' := p2) (wv := wv2) (c := ⟨3, none, 0, 0, c1, c2, []⟩) (H2.out.1.alloc _) (by rw [names_atom (by omega)]; have := H2.out.2.2.1.alloc (.cells c2.cells 50); rwa [List.append_assoc] at this) (by omega) ((Below.heap_alloc _ _ _ hs2).trans H2.out.2.1) hB rfl rfl (by show (3 : Int) ≤ 3; omega) ⟨K1.out.alloc _, H2.out.2.2.2.alloc _⟩


/-- atom, whole. -/
theorem atom_any (B : Nat) (ca na : Option Addr) (clen ccap nlen ncap pos : Nat) (xs : List ByteArray) (wv : Value) (w : World)
    (hC : Codes B w ca clen) (hN : Names B w na nlen) (hG : Gen B ca na clen ccap nlen ncap w pos xs wv) :
    Calls Yba.prog 15 #[.pointer (some ⟨B, 0, none⟩)] w (AtomSaid B ca na clen ccap nlen ncap w pos xs) := by
  by_cases hp : pos < clen
  · obtain ⟨b, off, z, h1, h2, h3, h4, h5⟩ := hC.2 pos hp
    exact atom_more B ca na clen ccap nlen ncap pos xs wv w z b off hC hN hG hp h1 h2 h3 h4 h5
  · exact atom_less B ca na clen ccap nlen ncap pos xs wv w hC hN hG (by omega)

end Go.Proofs.Ybulkbgae

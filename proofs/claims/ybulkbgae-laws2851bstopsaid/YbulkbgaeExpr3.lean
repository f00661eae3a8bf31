import Derived.Test.YbulkbgaeLaws
namespace Go.Proofs.Ybulkbgae
open Go.RowKit
set_option linter.unusedVariables false

theorem Kid.pair {n lo : Nat} {w : World} {c1 c2 : Ch} (h1 : Kid n lo w c1.a c1.len c1.L) (h2 : Kid n lo w c2.a c2.len c2.L) (hl : lo ≤ w.heap.size + 1) :
    Kid (n + 1) lo ((w.alloc (.cells c2.cells 50)).alloc (.cells (rowOf [c1, c2]).toArray 50)) (some ⟨w.heap.size + 1, 0, none⟩) 2 (nodes (w.heap.size + 1) 0 [c1, c2]) := by
  refine .inr ⟨w.heap.size + 1, (rowOf [c1, c2]).toArray, [c1, c2], rfl, hl, heap_alloc2_new w _ _, ⟨rfl, by decide⟩, ?_, ?_, rfl⟩
  · rw [show 2 * 12 = (rowOf [c1, c2]).length from (rowOf_length [c1, c2]).symm]; exact List.take_length
  · intro c hc
    simp only [List.mem_cons, List.not_mem_nil, or_false] at hc
    rcases hc with rfl | rfl
    · exact (h1.alloc _).alloc _
    · exact (h2.alloc _).alloc _

theorem names_pair {op : Int} (g : Nat) {s u fn : ByteArray} {a : Option Addr} {len cap : Nat} {c1 c2 : Ch} (h : op ≠ 2) : (Ch.mk op s u fn a len cap (nodes g 0 [c1, c2])).names = c1.names ++ c2.names := by
  simp [Ch.names, h, names_nodes]

set_option maxRecDepth 100000 in
set_option maxHeartbeats 1000000 in
theorem expr_sum (B : Nat) (ca na : Option Addr) (clen ccap nlen ncap n d pos : Nat) (xs : List ByteArray) (wv : Value) (w : World) (z : Int) (b off : Nat) (ih : ExprAt B ca na clen ccap nlen ncap n ((d : Int) + 1))
    (hC : Codes B w ca clen) (hN : Names B w na nlen)
    (hG : Gen B ca na clen ccap nlen ncap w pos xs wv) (hp : pos < clen) (hca : ca = some ⟨b, off, none⟩) (hb : b < B) (hz : w.cell? ⟨b, off + pos, none⟩ = some (.int .u8 z)) (hz0 : 0 ≤ z) (hz1 : z ≤ 255) (hd : d < 4) (hz4 : z % 4 = 3) :
    Calls Yba.prog 18 #[.pointer (some ⟨B, 0, none⟩), .int .i64 d] w (ExprSaid B ca na clen ccap nlen ncap (n + 1) w pos xs) := by
  have HI := hid ih
  have HC := hid hC
  have HN := hid hN
  clear ih hC hN
  subst hca
  have hB := hG.lt
  have h0 := hG.c0
  have h2 := hG.c2
  have f2 := hG.free 2
  have hpi : (pos : Int) < (clen : Int) := by omega
  have hc := hG.hc
  have hdi : (d : Int) < 4 := by omega
  have hp0 : (0 : Int) ≤ (pos : Int) := by omega
  have hbs : b < w.heap.size := by omega
  have HG := hid hG
  clear hG
  go_enter Yba.func18, Yba.ntmps18
  go_wp2
  go_quiet (fail)
  go_wp2
  go_quiet (fail)
  go_wp2_with fail
  all_goals
    refine Calls.mono (HI.out (W0 w B pos _) _ _ _ (HC.out.below ((W0_fr _ _).below (Nat.le_of_lt hB))) (HN.out.below ((W0_fr _ _).below (Nat.le_of_lt hB))) (W0_gen HG.out hp _)) ?_
    rintro e w1 ⟨c1, p1, wv1, rfl, hf1, hG1, hk1, hp1⟩
    have F1 := hid ((W0_fr (B := B) (w := w) pos _).trans hf1)
    have R1 := hid (hf1.keeps (by decide) (by omega) (W0_box hB pos _))
    have K1 := hid hk1
    rw [W0_size] at K1
    have G1 := hid hG1
    have hs1 : w.heap.size < w1.heap.size := (Array.getElem?_eq_some_iff.1 R1.out).1
    clear hk1 hf1 hG1 h0 h2 f2 hz
    go_wp2_with ((with_reducible refine st50 (t := 12) w1 c1 ?_ ?_ ?_ ?_); (exact rfl); (exact rfl); (exact rfl))
    refine Calls.mono (HI.out (w1.alloc (.cells c1.cells 50)) _ _ _ (HC.out.below ((F1.out.alloc _).below (Nat.le_of_lt hB))) (HN.out.below ((F1.out.alloc _).below (Nat.le_of_lt hB))) (G1.out.alloc _)) ?_
    rintro e w2 ⟨c2, p2, wv2, rfl, hf2, hG2, hk2, hp2⟩
    have F2 := hid ((F1.out.alloc _).trans hf2)
    have R2 := hid (hf2.keeps (by decide) (by omega) ((Below.heap_alloc _ _ _ hs1).trans R1.out))
    have X2 := hid (hf2.keeps (by decide) (by omega) (heap_alloc_new w1 (.cells c1.cells 50)))
    have K12 := hid ((K1.out.alloc (.cells c1.cells 50)).fr (by omega) hf2)
    have K2 := hid (hk2.low (lo' := w.heap.size + 1) (by simp; omega))
    have G2 := hid hG2
    have hs2 : w1.heap.size < w2.heap.size := (Array.getElem?_eq_some_iff.1 X2.out).1
    clear hk2 hf2 hG2 F1 R1 K1 G1
    have R3 := hid ((Below.heap_alloc _ (.cells (rowOf [c1, c2]).toArray 50) _ (by simp; omega)).trans ((Below.heap_alloc _ (.cells c2.cells 50) _ (by omega)).trans R2.out))
    have G3 := hid (show Gen B (some ⟨b, off, none⟩) na clen ccap nlen ncap ((w2.alloc (.cells c2.cells 50)).alloc (.cells (rowOf [c1, c2]).toArray 50)) p2 (xs ++ (c1.names ++ c2.names)) wv2 by rw [← List.append_assoc]; exact (G2.out.alloc _).alloc _)
    have K3 := hid (Kid.pair (K12.out) (K2.out) (by omega : w.heap.size + 1 ≤ w2.heap.size + 1))
    go_wp2_with (first
      | ((with_reducible refine st50 (t := 13) w2 c2 ?_ ?_ ?_ ?_); (exact rfl); (exact rfl); (exact rfl))
      | ((with_reducible refine ld50 (t := 12) w1.heap.size c1 ?_ ?_ ?_); (exact rfl); (exact (Below.heap_alloc _ _ _ hs2).trans X2.out))
      | ((with_reducible refine bs50_2 (t := 132) (u := 133) c1 c2 ?_ ?_ ?_); (exact rfl); (exact rfl))
      | ((with_reducible refine st50r (t := 4) (u := 135) w.heap.size ⟨4, ⟨#[]⟩, ⟨#[]⟩, ⟨#[]⟩, some ⟨w2.heap.size + 1, 0, none⟩, 2, 2, nodes (w2.heap.size + 1) 0 [c1, c2]⟩ ?_ ?_ ?_ ?_); (exact rfl); (exact rfl); (exact R3.out))
      | ((with_reducible refine st50r (t := 4) (u := 135) w.heap.size ⟨3, ⟨#[]⟩, ⟨#[]⟩, ⟨#[]⟩, some ⟨w2.heap.size + 1, 0, none⟩, 2, 2, nodes (w2.heap.size + 1) 0 [c1, c2]⟩ ?_ ?_ ?_ ?_); (exact rfl); (exact rfl); (exact R3.out))
      | ((with_reducible refine ld50 (t := 13) w2.heap.size c2 ?_ ?_ ?_); (exact rfl); (exact heap_alloc_new w2 _)))
    first
      | exact expr_close (pos' := p2) (wv := wv2) (c := ⟨4, ⟨#[]⟩, ⟨#[]⟩, ⟨#[]⟩, some ⟨w2.heap.size + 1, 0, none⟩, 2, 2, nodes (w2.heap.size + 1) 0 [c1, c2]⟩) ((F2.out.alloc _).alloc _) (by rw [names_pair _ (by decide)]; exact G3.out) (by omega) _ R3.out hB rfl rfl K3.out
      | exact expr_close (pos' := p2) (wv := wv2) (c := ⟨3, ⟨#[]⟩, ⟨#[]⟩, ⟨#[]⟩, some ⟨w2.heap.size + 1, 0, none⟩, 2, 2, nodes (w2.heap.size + 1) 0 [c1, c2]⟩) ((F2.out.alloc _).alloc _) (by rw [names_pair _ (by decide)]; exact G3.out) (by omega) _ R3.out hB rfl rfl K3.out

end Go.Proofs.Ybulkbgae

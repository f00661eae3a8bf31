import Derived.Test.YbulkbgaeLaws
namespace Go.Proofs.Ybulkbgae
open Go.RowKit
set_option linter.unusedVariables false
set_option linter.unusedSimpArgs false

theorem size_set (w : World) (a : Addr) (v : Value) : (w.setCell a v).heap.size = w.heap.size := by simp [World.setCell]

theorem alloc_at {X : World} {o : Obj} {n : Nat} (h : X.heap.size = n) : (X.alloc o).heap[n]? = some o := h ▸ heap_alloc_new X o

theorem named_facts {B : Nat} {ca na : Option Addr} {clen ccap nlen ncap p : Nat} {xs : List ByteArray} {wv : Value} {w X w1 : World} {s : ByteArray} {g cap : Nat}
    (hG : Gen B ca na clen ccap nlen ncap X p xs wv) (hF : Fr B w X) (hbox : X.heap[w.heap.size]? = some Z50) (hB : B < w.heap.size) (hlt : xs.length < p)
    (ho : w1.ownsRow (B + 1) 9 1 (.slice (some ⟨g, 0, none⟩) (xs.length + 1) cap) (xs.length + 1) (xs.map Value.string ++ [.string s]))
    (hg : ((X.setCell ⟨B, 3, none⟩ (.int .i64 ((xs.length : Int) + 1))).alloc (.cells #[.string s] 9)).grownBy w1 wv.ownBlock) :
    w1.cell? ⟨B, 4, none⟩ = some wv ∧ w1.frozen? ⟨B, 4, none⟩ = false ∧ w.heap.size < w1.heap.size ∧
    Hid (Gen B ca na clen ccap nlen ncap (w1.setCell ⟨B, 4, none⟩ (.slice (some ⟨g, 0, none⟩) (xs.length + 1) cap)) p (xs ++ [s]) (.slice (some ⟨g, 0, none⟩) (xs.length + 1) cap) ∧
      Fr B w (w1.setCell ⟨B, 4, none⟩ (.slice (some ⟨g, 0, none⟩) (xs.length + 1) cap)) ∧ (w1.setCell ⟨B, 4, none⟩ (.slice (some ⟨g, 0, none⟩) (xs.length + 1) cap)).heap[w.heap.size]? = some Z50) := by
  have hown : ((X.setCell ⟨B, 3, none⟩ (.int .i64 ((xs.length : Int) + 1))).alloc (.cells #[.string s] 9)).ownsRow (B + 1) 9 1 wv xs.length (xs.map Value.string) := (ownsRow_setCell_below hG.own (by simp) _).alloc _
  have hb3 : (X.setCell ⟨B, 3, none⟩ (.int .i64 ((xs.length : Int) + 1))).heap[B]? = some (.cells #[.slice ca clen ccap, .slice na nlen ncap, .int .i64 p, .int .i64 ((xs.length : Int) + 1), wv] 37 (0, 0)) := by
    rw [heap_setCell_same _ _ _ _ _ _ hG.blk]; simp
  have hlt3 : B < (X.setCell ⟨B, 3, none⟩ (.int .i64 ((xs.length : Int) + 1))).heap.size := (Array.getElem?_eq_some_iff.1 hb3).1
  have hb1 : w1.heap[B]? = some (.cells #[.slice ca clen ccap, .slice na nlen ncap, .int .i64 p, .int .i64 ((xs.length : Int) + 1), wv] 37 (0, 0)) := by
    rw [hg.block B (Nat.lt_of_lt_of_le hlt3 (by simp)) (fun e => by have := hown.lt B e.symm; omega), Below.heap_alloc _ _ _ hlt3]; exact hb3
  have hF1 : Fr B w w1 := ((hF.setB _ _).alloc _).trans (Fr.grownStr hown hg)
  have hFX : Fr B X w1 := (((Fr.refl B X).setB _ _).alloc _).trans (Fr.grownStr hown hg)
  have hbox1 : w1.heap[w.heap.size]? = some Z50 := hFX.keeps (by decide) (by omega) hbox
  refine ⟨by rw [cell_of_row _ _ _ _ _ _ hb1]; rfl, frozen_of_row _ _ _ _ _ hb1, (Array.getElem?_eq_some_iff.1 hbox1).1, hG.named hlt ho hb1, hF1.setB _ _, ?_⟩
  rw [heap_setCell_other _ _ _ _ (by simp; omega)]; exact hbox1

theorem made_facts {B : Nat} {ca na : Option Addr} {clen ccap nlen ncap p : Nat} {xs : List ByteArray} {v : Value} {w W w5 : World}
    (h : Gen B ca na clen ccap nlen ncap W p xs v ∧ Fr B w W ∧ W.heap[w.heap.size]? = some Z50) (hB : B < w.heap.size) (hg : W.grownBy w5 none) :
    Hid (Gen B ca na clen ccap nlen ncap w5 p xs v ∧ Fr B w w5 ∧ w5.heap[w.heap.size]? = some Z50) := by
  have hlt := (Array.getElem?_eq_some_iff.1 h.2.2).1
  exact ⟨h.1.grown hg (by simp) (by cases v.ownBlock <;> simp), h.2.1.grownNew hg (fun k e => by cases e), (hg.block _ hlt (by simp)).trans h.2.2⟩

theorem round_facts {B : Nat} {ca na : Option Addr} {clen ccap nlen ncap p n g0 j m : Nat} {xs : List ByteArray} {v : Value} {w wr w6 : World} {cs : List Ch} {c : Ch} {p6 : Nat} {wv6 : Value}
    (hG : Gen B ca na clen ccap nlen ncap wr p xs v) (hF : Fr B w wr) (hbox : wr.heap[w.heap.size]? = some Z50) (ho : wr.ownsRow (w.heap.size + 1) 50 12 (.slice (some ⟨g0, 0, none⟩) j m) j (rowOf cs)) (hk : ∀ c ∈ cs, Kid n (g0 + 1) wr c.a c.len c.L)
    (hB : B < w.heap.size) (hg0 : w.heap.size < g0) (hf6 : Fr B wr w6) (hG6 : Gen B ca na clen ccap nlen ncap w6 p6 (xs ++ c.names) wv6) (hk6 : Kid n wr.heap.size w6 c.a c.len c.L) :
    Hid (Gen B ca na clen ccap nlen ncap w6 p6 (xs ++ c.names) wv6 ∧ Fr B w w6 ∧ w6.heap[w.heap.size]? = some Z50 ∧ w6.ownsRow (w.heap.size + 1) 50 12 (.slice (some ⟨g0, 0, none⟩) j m) j (rowOf cs) ∧ (∀ c' ∈ cs ++ [c], Kid n (g0 + 1) w6 c'.a c'.len c'.L)) := by
  have hlt := (ho.lt g0 rfl).2
  refine ⟨hG6, hF.trans hf6, hf6.keeps (by decide) (by omega) hbox, own_fr ho (by omega) hf6, fun c' hc => ?_⟩
  rcases List.mem_append.1 hc with hc | hc
  · exact (hk c' hc).fr (by omega) hf6
  · simp at hc
    subst hc
    exact hk6.low (by omega)

theorem round_close {B : Nat} {ca na : Option Addr} {clen ccap nlen ncap n g0 j m : Nat} {xs : List ByteArray} {w w6 w7 : World} {cs : List Ch} {c : Ch} {p6 : Nat} {wv6 : Value} {o1 o2 : Obj}
    (h : Gen B ca na clen ccap nlen ncap w6 p6 xs wv6 ∧ Fr B w w6 ∧ w6.heap[w.heap.size]? = some Z50 ∧ w6.ownsRow (w.heap.size + 1) 50 12 (.slice (some ⟨g0, 0, none⟩) j m) j (rowOf cs) ∧ (∀ c' ∈ cs ++ [c], Kid n (g0 + 1) w6 c'.a c'.len c'.L))
    (hB : B < w.heap.size) (hg0 : w.heap.size < g0) (hg : ((w6.alloc o1).alloc o2).grownBy w7 (some g0)) :
    Gen B ca na clen ccap nlen ncap w7 p6 xs wv6 ∧ Fr B w w7 ∧ w7.heap[w.heap.size]? = some Z50 ∧ (∀ c' ∈ cs ++ [c], Kid n (g0 + 1) w7 c'.a c'.len c'.L) := by
  obtain ⟨h1, h2, h3, h4, h5⟩ := h
  have hlt := (h4.lt g0 rfl).2
  have hgb : ∃ cur, w6.heap[g0]? = some (.cells cur 50 (0, 0)) := by
    rcases h4.2 with ⟨e, _⟩ | ⟨g, cap, cur, e, _, hh, _⟩
    · simp at e
    · simp at e
      obtain ⟨rfl, _⟩ := e
      exact ⟨cur, hh⟩
  obtain ⟨cur, hgb⟩ := hgb
  have hold : ∀ k o, w6.heap[k]? = some o → k ≠ g0 → w7.heap[k]? = some o := fun k o hk hne => by
    have hl := (Array.getElem?_eq_some_iff.1 hk).1
    rw [hg.block k (by simp; omega) (by simpa using hne), Below.heap_alloc _ _ _ (by simp; omega), Below.heap_alloc _ _ _ hl]
    exact hk
  refine ⟨?_, ((h2.alloc _).alloc _).grownNew hg (fun k e => by cases e; omega), hold _ _ h3 (by omega), fun c' hc => ?_⟩
  · refine ((h1.alloc _).alloc _).grown hg (by have := h1.lt; simp; omega) (.inr ?_)
    exact own_apart h1.own hgb (by decide)
  · exact (h5 c' hc).keep (Nat.le_refl _) fun g cur hg hh => hold g _ hh (by omega)

theorem names_call {s : ByteArray} {a : Option Addr} {len cap : Nat} {L : List Nd} {cs : List Ch} (h : names L = cs.flatMap Ch.names) : (Ch.mk 2 ⟨#[]⟩ ⟨#[]⟩ s a len cap L).names = [s] ++ cs.flatMap Ch.names := by
  simp [Ch.names, h]

set_option maxRecDepth 100000 in
set_option maxHeartbeats 1000000 in
theorem expr_call (B : Nat) (ca na : Option Addr) (clen ccap nlen ncap n d pos : Nat) (xs : List ByteArray) (wv : Value) (w : World) (z : Int) (b off : Nat) (ih : ExprAt B ca na clen ccap nlen ncap n ((d : Int) + 1))
    (hC : Codes B w ca clen) (hN : Names B w na nlen)
    (hG : Gen B ca na clen ccap nlen ncap w pos xs wv) (hp : pos < clen) (hca : ca = some ⟨b, off, none⟩) (hb : b < B) (hz : w.cell? ⟨b, off + pos, none⟩ = some (.int .u8 z)) (hz0 : 0 ≤ z) (hz1 : z ≤ 255) (hd : d < 4) (hz4 : z % 4 = 2)
    (hn : 0 < nlen) (nb noff : Nat) (s : ByteArray) (hna : na = some ⟨nb, noff, none⟩) (hnb : nb < B) (hs : w.cell? ⟨nb, noff + xs.length % nlen, none⟩ = some (.string s)) :
    Calls Yba.prog 18 #[.pointer (some ⟨B, 0, none⟩), .int .i64 d] w (ExprSaid B ca na clen ccap nlen ncap (n + 1) w pos xs) := by
  have HI := hid ih
  have HC := hid hC
  have HN := hid hN
  have hnl := hN.1
  unfold maxLen at hnl
  clear ih hC hN
  subst hca hna
  have hB := hG.lt
  have h0 := hG.c0
  have h1 := hG.c1
  have h2 := hG.c2
  have h3 := hG.c3
  have h4 := hG.c4
  have f2 := hG.free 2
  have f3 := hG.free 3
  have f4 := hG.free 4
  have hpi : (pos : Int) < (clen : Int) := by omega
  have hc := hG.hc
  have hxp := hG.hx
  have hdi : (d : Int) < 4 := by omega
  have hp0 : (0 : Int) ≤ (pos : Int) := by omega
  have hbs : b < w.heap.size := by omega
  have hnbs : nb < w.heap.size := by omega
  have hni : (0 : Int) < (nlen : Int) := by omega
  have hix : (xs.length : Int) % (nlen : Int) < (nlen : Int) := Int.emod_lt_of_pos _ (by omega)
  have hix0 : 0 ≤ (xs.length : Int) % (nlen : Int) := Int.emod_nonneg _ (by omega)
  have HG := hid hG
  clear hG
  go_enter Yba.func18, Yba.ntmps18
  go_wp2
  go_quiet (fail)
  go_wp2
  go_quiet (fail)
  go_wp2_with fail
  go_quiet (fail)
  obtain ⟨m, hm3⟩ : ∃ m : Nat, z / 4 % 3 = (m : Int) := ⟨(z / 4 % 3).toNat, by omega⟩
  have hm : m ≤ 2 := by omega
  go_wp2_with (first
    | ((with_reducible refine ap9 (t := 91) (u := 93) B wv xs s (w.heap.size + 1) ?_ ?_ ?_ ?_ ?_ ?_ ?_); (exact rfl); (exact rfl); (exact (ownsRow_setCell_below ((W0_gen HG.out hp _).drewN _).own (by simp) _).alloc _); (exact alloc_at (by simp [World.setCell, World.drewN])); omega; (simp; omega); (intro g cap w1 hown1 hgrow); (obtain ⟨c4, z4, hs1, HH⟩ := named_facts ((W0_gen HG.out hp _).drewN _) ((W0_fr _ _).drewN _) (W0_box hB _ _) hB (by omega) hown1 hgrow); clear hgrow hown1 h0 h1 h2 h3 h4 f2 f3 f4 hz hs)
    | ((with_reducible refine mk50 (t := 101) (w.heap.size + 1) m ?_ ?_ ?_ ?_); omega; (exact congrArg (Value.int .i64) hm3); (simp [World.setCell]; omega); (intro w5 hown5 hgrow5); (have H5 := made_facts HH.out hB hgrow5); (rw [size_set] at hown5); (have O5 := hid hown5); clear HH hgrow5 hown5 c4 z4))
  generalize w1.heap.size = g0 at *
  clear hix hix0 hni hpi hp0
  go_loopw [8, 9] (fun v i wr => ∃ (j : Nat) (cs : List Ch) (p : Nat) (wv' : Value), j ≤ m ∧ i = .int .i64 j ∧ v = .slice (some ⟨g0, 0, none⟩) j m ∧ cs.length = j ∧ pos ≤ p ∧ Gen B (some ⟨b, off, none⟩) (some ⟨nb, noff, none⟩) clen ccap nlen ncap wr p (xs ++ ([s] ++ cs.flatMap Ch.names)) wv' ∧ Fr B w wr ∧ wr.heap[w.heap.size]? = some Z50 ∧
      wr.ownsRow (w.heap.size + 1) 50 12 (.slice (some ⟨g0, 0, none⟩) j m) j (rowOf cs) ∧ (∀ c ∈ cs, Kid n (g0 + 1) wr c.a c.len c.L)) (fun _ i _ => m - (intOf i).toNat)
  case atStart => exact ⟨0, [], pos + 1, _, Nat.zero_le _, rfl, rfl, rfl, by omega, by simpa using H5.out.1, H5.out.2.1, H5.out.2.2, O5.out, fun c hc => by cases hc⟩
  case round =>
    obtain ⟨j, cs, p, wv', hj, rfl, rfl, hcs, hpp, hGr, hFr, hbx, hor, hkr⟩ := hrel
    clear H5 O5
    have HGr := hid hGr
    have HFr := hid hFr
    have HBx := hid hbx
    have HOr := hid hor
    have HKr := hid hkr
    have HCs := hid hcs
    clear hGr hFr hbx hor hkr hcs
    by_cases hjm : j < m
    · go_wp2_with fail
      refine Calls.mono (HI.out wr _ _ _ (HC.out.below (HFr.out.below (Nat.le_of_lt hB))) (HN.out.below (HFr.out.below (Nat.le_of_lt hB))) HGr.out) ?_
      rintro e w6 ⟨c, p6, wv6, rfl, hf6, hG6, hk6, hp6⟩
      have H6 := round_facts HGr.out HFr.out HBx.out HOr.out HKr.out hB hs1 hf6 hG6 hk6
      clear hf6 hG6 hk6
      go_wp2_with (first
        | ((with_reducible refine st50 (t := 10) w6 c ?_ ?_ ?_ ?_); (exact rfl); (exact rfl); (exact rfl))
        | ((with_reducible refine ld50 (t := 10) w6.heap.size c ?_ ?_ ?_); (exact rfl); (exact heap_alloc_new w6 _))
        | ((with_reducible refine bs50_1 (t := 113) c ?_ ?_); (exact rfl))
        | ((with_reducible refine ap50 (t := 112) (u := 114) (w.heap.size + 1) g0 j m cs c (w6.alloc (.cells c.cells 50)).heap.size ?_ ?_ ?_ ?_ ?_ ?_); (exact rfl); (exact rfl); (exact (H6.out.2.2.2.1.alloc _).alloc _); (exact heap_alloc_new _ _); omega; (intro w7 hown7 hgrow7); (have H7 := hid hown7); (have J7 := hid hgrow7); clear hown7 hgrow7))
      go_roundw
      case rel =>
        have H8 := round_close H6.out hB hs1 J7.out
        refine ⟨j + 1, cs ++ [c], p6, wv6, by omega, by go_num, rfl, by simp [HCs.out], by omega, ?_, H8.2.1, H8.2.2.1, H7.out, H8.2.2.2⟩
        have := H8.1
        simpa [List.append_assoc] using this
      case measure => simp [intOf]; omega
    · obtain rfl : j = m := by omega
      obtain ⟨L, hKL, hnL⟩ := Kid.of_own (n := n) (lo := w.heap.size + 1) HOr.out (Nat.le_refl _) (by omega) (fun c hc => (HKr.out c hc).low (by omega))
      have HKL := hid hKL
      have HnL := hid hnL
      clear hKL hnL
      go_wp2_with ((with_reducible refine st50r (t := 4) (u := 118) w.heap.size ⟨2, ⟨#[]⟩, ⟨#[]⟩, s, some ⟨g0, 0, none⟩, j, j, L⟩ ?_ ?_ ?_ ?_); (exact rfl); (exact rfl); (exact HBx.out))
      exact expr_close (pos' := p) (wv := wv') (c := ⟨2, ⟨#[]⟩, ⟨#[]⟩, s, some ⟨g0, 0, none⟩, j, j, L⟩) HFr.out (by rw [names_call HnL.out]; exact HGr.out) hpp _ HBx.out hB rfl rfl HKL.out

end Go.Proofs.Ybulkbgae

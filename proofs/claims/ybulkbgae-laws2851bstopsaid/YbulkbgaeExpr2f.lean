import Derived.Test.YbulkbgaeExpr2
namespace Go.Proofs.Ybulkbgae
open Go.RowKit
set_option linter.unusedVariables false
set_option linter.unusedSimpArgs false

set_option maxRecDepth 100000 in
set_option maxHeartbeats 1000000 in
theorem expr_callf (B : Nat) (ca na : Option Addr) (clen ccap nlen ncap n d pos : Nat) (xs : List ByteArray) (wv : Value) (w : World) (z : Int) (b off : Nat) (ih : ExprAt B ca na clen ccap nlen ncap n ((d : Int) + 1))
    (hC : Codes B w ca clen) (hN : Names B w na nlen)
    (hG : Gen B ca na clen ccap nlen ncap w pos xs wv) (hp : pos < clen) (hca : ca = some ⟨b, off, none⟩) (hb : b < B) (hz : w.cell? ⟨b, off + pos, none⟩ = some (.int .u8 z)) (hz0 : 0 ≤ z) (hz1 : z ≤ 255) (hd : d < 4) (hz4 : z % 4 = 2)
    (hn : nlen = 0) :
    Calls Yba.prog 18 #[.pointer (some ⟨B, 0, none⟩), .int .i64 d] w (ExprSaid B ca na clen ccap nlen ncap (n + 1) w pos xs) := by
  have HI := hid ih
  have HC := hid hC
  have HN := hid hN
  have hnl := hN.1
  unfold maxLen at hnl
  clear ih hC hN
  subst hca hn
  have hB := hG.lt
  have h0 := hG.c0
  have h1 := hG.c1
  have h2 := hG.c2
  have h3 := hG.c3
  have h4 := hG.c4
  have f2 := hG.free 2
  have f3 := hG.free 3
  have f4 := hG.free 4
  have hpi : (pos : Int) < (clen : Int) := by omega
  have hc := hG.hc
  have hxp := hG.hx
  have hdi : (d : Int) < 4 := by omega
  have hp0 : (0 : Int) ≤ (pos : Int) := by omega
  have hbs : b < w.heap.size := by omega
  have HG := hid hG
  clear hG
  go_enter Yba.func18, Yba.ntmps18
  go_wp2
  go_quiet (fail)
  go_wp2
  go_quiet (fail)
  obtain ⟨m, hm3⟩ : ∃ m : Nat, z / 4 % 3 = (m : Int) := ⟨(z / 4 % 3).toNat, by omega⟩
  have hm : m ≤ 2 := by omega
  go_wp2_with (first
    | ((with_reducible refine ap9 (t := 91) (u := 93) B wv xs ⟨#[102]⟩ (w.heap.size + 1) ?_ ?_ ?_ ?_ ?_ ?_ ?_); (exact rfl); (exact rfl); (exact (ownsRow_setCell_below (W0_gen HG.out hp _).own (by simp) _).alloc _); (exact alloc_at (by simp [World.setCell, World.drewN])); omega; (simp; omega); (intro g cap w1 hown1 hgrow); (obtain ⟨c4, z4, hs1, HH⟩ := named_facts (W0_gen HG.out hp _) (W0_fr _ _) (W0_box hB _ _) hB (by omega) hown1 hgrow); clear hgrow hown1 h0 h1 h2 h3 h4 f2 f3 f4 hz)
    | ((with_reducible refine mk50 (t := 101) (w.heap.size + 1) m ?_ ?_ ?_ ?_); omega; (exact congrArg (Value.int .i64) hm3); (simp [World.setCell]; omega); (intro w5 hown5 hgrow5); (have H5 := made_facts HH.out hB hgrow5); (rw [size_set] at hown5); (have O5 := hid hown5); clear HH hgrow5 hown5 c4 z4))
  generalize w1.heap.size = g0 at *
  clear hpi hp0
  go_loopw [8, 9] (fun v i wr => ∃ (j : Nat) (cs : List Ch) (p : Nat) (wv' : Value), j ≤ m ∧ i = .int .i64 j ∧ v = .slice (some ⟨g0, 0, none⟩) j m ∧ cs.length = j ∧ pos ≤ p ∧ Gen B (some ⟨b, off, none⟩) na clen ccap 0 ncap wr p (xs ++ ([⟨#[102]⟩] ++ cs.flatMap Ch.names)) wv' ∧ Fr B w wr ∧ wr.heap[w.heap.size]? = some Z50 ∧
      wr.ownsRow (w.heap.size + 1) 50 12 (.slice (some ⟨g0, 0, none⟩) j m) j (rowOf cs) ∧ (∀ c ∈ cs, Kid n (g0 + 1) wr c.a c.len c.L)) (fun _ i _ => m - (intOf i).toNat)
  case atStart => exact ⟨0, [], pos + 1, _, Nat.zero_le _, rfl, rfl, rfl, by omega, by simpa using H5.out.1, H5.out.2.1, H5.out.2.2, O5.out, fun c hc => by cases hc⟩
  case round =>
    obtain ⟨j, cs, p, wv', hj, rfl, rfl, hcs, hpp, hGr, hFr, hbx, hor, hkr⟩ := hrel
    clear H5 O5
    have HGr := hid hGr
    have HFr := hid hFr
    have HBx := hid hbx
    have HOr := hid hor
    have HKr := hid hkr
    have HCs := hid hcs
    clear hGr hFr hbx hor hkr hcs
    by_cases hjm : j < m
    · go_wp2_with fail
      refine Calls.mono (HI.out wr _ _ _ (HC.out.below (HFr.out.below (Nat.le_of_lt hB))) (HN.out.below (HFr.out.below (Nat.le_of_lt hB))) HGr.out) ?_
      rintro e w6 ⟨c, p6, wv6, rfl, hf6, hG6, hk6, hp6⟩
      have H6 := round_facts HGr.out HFr.out HBx.out HOr.out HKr.out hB hs1 hf6 hG6 hk6
      clear hf6 hG6 hk6
      go_wp2_with (first
        | ((with_reducible refine st50 (t := 10) w6 c ?_ ?_ ?_ ?_); (exact rfl); (exact rfl); (exact rfl))
        | ((with_reducible refine ld50 (t := 10) w6.heap.size c ?_ ?_ ?_); (exact rfl); (exact heap_alloc_new w6 _))
        | ((with_reducible refine bs50_1 (t := 113) c ?_ ?_); (exact rfl))
        | ((with_reducible refine ap50 (t := 112) (u := 114) (w.heap.size + 1) g0 j m cs c (w6.alloc (.cells c.cells 50)).heap.size ?_ ?_ ?_ ?_ ?_ ?_); (exact rfl); (exact rfl); (exact (H6.out.2.2.2.1.alloc _).alloc _); (exact heap_alloc_new _ _); omega; (intro w7 hown7 hgrow7); (have H7 := hid hown7); (have J7 := hid hgrow7); clear hown7 hgrow7))
      go_roundw
      case rel =>
        have H8 := round_close H6.out hB hs1 J7.out
        refine ⟨j + 1, cs ++ [c], p6, wv6, by omega, by go_num, rfl, by simp [HCs.out], by omega, ?_, H8.2.1, H8.2.2.1, H7.out, H8.2.2.2⟩
        have := H8.1
        simpa [List.append_assoc] using this
      case measure => simp [intOf]; omega
    · obtain rfl : j = m := by omega
      obtain ⟨L, hKL, hnL⟩ := Kid.of_own (n := n) (lo := w.heap.size + 1) HOr.out (Nat.le_refl _) (by omega) (fun c hc => (HKr.out c hc).low (by omega))
      have HKL := hid hKL
      have HnL := hid hnL
      clear hKL hnL
      go_wp2_with ((with_reducible refine st50r (t := 4) (u := 118) w.heap.size ⟨2, ⟨#[]⟩, ⟨#[]⟩, ⟨#[102]⟩, some ⟨g0, 0, none⟩, j, j, L⟩ ?_ ?_ ?_ ?_); (exact rfl); (exact rfl); (exact HBx.out))
      exact expr_close (pos' := p) (wv := wv') (c := ⟨2, ⟨#[]⟩, ⟨#[]⟩, ⟨#[102]⟩, some ⟨g0, 0, none⟩, j, j, L⟩) HFr.out (by rw [names_call HnL.out]; exact HGr.out) hpp _ HBx.out hB rfl rfl HKL.out

end Go.Proofs.Ybulkbgae

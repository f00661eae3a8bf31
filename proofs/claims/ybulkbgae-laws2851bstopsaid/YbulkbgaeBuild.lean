import Derived.Test.YbulkbgaeAtom
namespace Go.Proofs.Ybulkbgae
open Go.RowKit
set_option linter.unusedVariables false
set_option linter.unusedSimpArgs false

/-- build's word. -/
def BuildSaid (B : Nat) (ca na : Option Addr) (clen ccap nlen ncap : Nat) (w : World) (xs : List ByteArray) (e : Ending) (w' : World) : Prop :=
  ∃ (c : Co) (pos' : Nat) (wv' : Value), e = .returned (.agg c.cells) ∧ Fr B w w' ∧ Gen B ca na clen ccap nlen ncap w' pos' (xs ++ c.names) wv' ∧ CoOk 2 w.heap.size w' c

theorem build_close {B : Nat} {ca na : Option Addr} {clen ccap nlen ncap : Nat} {xs : List ByteArray} {wv : Value} {w W : World} {c : Co} {pos' : Nat} {a : Act}
    (hfr : Fr B w W) (hG : Gen B ca na clen ccap nlen ncap W pos' (xs ++ c.names) wv)
    (hold : W.heap[w.heap.size]? = some Z53) (hB : B < w.heap.size)
    (hp : a.tmps.getD 4 undef = .pointer (some ⟨w.heap.size, 0, none⟩)) (hd : a.defers = []) (hlo : CoOk 2 (w.heap.size + 1) W c) :
    bodyPost Yba.prog Yba.f9 (BuildSaid B ca na clen ccap nlen ncap w xs) Exit.ret a (W.setRow w.heap.size c.cells) := by
  refine bodyPost_ret (results_cell_row rfl _ _ w.heap.size 53 c.cells (0, 0) _ hp (setRow_heap _ _ co0.cells _ _ _ hold) Yba.underlying53 rfl Yba.size53) hd ?_
  refine ⟨c, pos', wv, rfl, hfr.setRow (Nat.le_refl _) _, ?_, ?_⟩
  · exact hG.grown (row := some w.heap.size) ⟨rfl, rfl, rfl, by simp, fun k _ hk => setRow_other _ _ _ _ (by intro e; exact hk (by rw [e]))⟩ (by simp; omega) (.inr (own_apart hG.own hold (by decide)))
  · exact hlo.keep (by omega) fun g cur t _ hg hh => by rw [setRow_other _ _ _ _ (by omega)]; exact hh

theorem Par.of_own {m lo base len : Nat} {w : World} {a : Option Addr} {cap : Nat} {cs : List Co} (h : w.ownsRow base 53 27 (.slice a len cap) len (rowC cs)) (hb : lo ≤ base) (hm : len ≤ 8)
    (hc : ∀ c ∈ cs, (3 ≤ c.op ∧ Sides lo w c) ∨ (0 ≤ c.op ∧ c.op < 3 ∧ Par m lo w c.a c.len c.L)) : ∃ L, Par (m + 1) lo w a len L ∧ names L = cs.flatMap Co.names := by
  have hl : cs.length = len := by have := h.1; rw [rowC_length] at this; omega
  rcases h.2 with ⟨hv, h0⟩ | ⟨g, cap', cur, hv, hg, hh, _, _, _, ht⟩
  · subst h0
    have : cs = [] := List.length_eq_zero_iff.1 hl
    subst this
    exact ⟨[], .inl ⟨rfl, rfl⟩, rfl⟩
  · simp only [Value.slice.injEq] at hv
    obtain ⟨rfl, _, rfl⟩ := hv
    exact ⟨nodesC g 0 cs, .inr ⟨g, cur, cs, rfl, by omega, hh, ⟨hl, hm⟩, ht, hc, rfl⟩, names_nodesC g 0 cs⟩

theorem Par.more : ∀ {m lo : Nat} {w : World} {a : Option Addr} {len : Nat} {L : List Nd}, Par m lo w a len L → Par (m + 1) lo w a len L
  | 0, _, _, _, _, _, h => .inl h
  | m + 1, lo, w, a, len, L, h => by
    rcases h with h | ⟨g, cur, cs, h1, h2, h3, h4, h5, h6, h7⟩
    · exact .inl h
    · refine .inr ⟨g, cur, cs, h1, h2, h3, h4, h5, fun c hc => ?_, h7⟩
      rcases h6 c hc with h | ⟨a1, a2, a3⟩
      · exact .inl h
      · exact .inr ⟨a1, a2, a3.more⟩

/-- What a call of atom leaves. -/
theorem atom_facts {B : Nat} {ca na : Option Addr} {clen ccap nlen ncap : Nat} {w W w1 : World} {xs : List ByteArray} {c : Co} {p1 : Nat} {wv1 : Value} {old : Array Value} {t : TypeId}
    (hF : Fr B w W) (hbox : W.heap[w.heap.size]? = some (.cells old t (0, 0))) (ht : t ≠ 9) (hB : B < w.heap.size)
    (hf : Fr B W w1) (hG : Gen B ca na clen ccap nlen ncap w1 p1 (xs ++ c.names) wv1) (hk : Sides W.heap.size w1 c) :
    Hid (Fr B w w1 ∧ w1.heap[w.heap.size]? = some (.cells old t (0, 0)) ∧ Gen B ca na clen ccap nlen ncap w1 p1 (xs ++ c.names) wv1 ∧ Sides (w.heap.size + 1) w1 c) ∧ w.heap.size < w1.heap.size := by
  have hlt := (Array.getElem?_eq_some_iff.1 hbox).1
  exact ⟨⟨hF.trans hf, hf.keeps ht (by omega) hbox, hG, ⟨hk.1.low (by omega), hk.2.low (by omega)⟩⟩, Nat.lt_of_lt_of_le hlt hf.size⟩

set_option maxRecDepth 100000 in
set_option maxHeartbeats 1000000 in
theorem build_atom (B : Nat) (ca na : Option Addr) (clen ccap nlen ncap pos : Nat) (xs : List ByteArray) (wv : Value) (w : World) (sh : Int) (hs0 : 0 ≤ sh) (hs1 : sh ≤ 255) (hs3 : sh % 3 = 0)
    (hC : Codes B w ca clen) (hN : Names B w na nlen) (hG : Gen B ca na clen ccap nlen ncap w pos xs wv) :
    Calls Yba.prog 9 #[.pointer (some ⟨B, 0, none⟩), .int .u8 sh] w (BuildSaid B ca na clen ccap nlen ncap w xs) := by
  have HA := hid (atom_any B ca na clen ccap nlen ncap pos xs wv (w.alloc Z53) (hC.below (((Fr.refl B w).alloc _).below (Nat.le_of_lt hG.lt))) (hN.below (((Fr.refl B w).alloc _).below (Nat.le_of_lt hG.lt))) (hG.alloc _))
  have hB := hG.lt
  clear hC hN hG
  go_enter Yba.func9, Yba.ntmps9
  go_wp2_with fail
  refine Calls.mono HA.out ?_
  rintro e w1 ⟨c, p1, wv1, rfl, hf1, hG1, hop, hk1, hp1⟩
  obtain ⟨H1, hs2⟩ := atom_facts ((Fr.refl B w).alloc Z53) (heap_alloc_new w Z53) (by decide) hB hf1 hG1 hk1
  have HO : Hid (3 ≤ c.op) := hop
  clear hf1 hG1 hk1 hop HA
  go_wp2_with ((with_reducible refine st53r (t := 4) (u := 11) w.heap.size c ?_ ?_ ?_ ?_); (exact rfl); (exact rfl); (exact H1.out.2.1))
  exact build_close (pos' := p1) (wv := wv1) H1.out.1 H1.out.2.2.1 H1.out.2.1 hB rfl rfl (.inl ⟨HO.out, H1.out.2.2.2⟩)

end Go.Proofs.Ybulkbgae

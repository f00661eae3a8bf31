import Derived.Test.YbulkbgaeRows
import Derived.Test.YbulkbgaePlain
import Derived.WalkKit
import Derived.WalkSpells
import Derived.WalkLawsBesides
import Derived.BigQuiet
import Derived.Deep.QuietTactic
namespace Go.Proofs.Ybulkbgae
open Go.RowKit
set_option linter.unusedVariables false

theorem Yba.size50 : (Yba.prog.info? 50).map (·.size) = some 12 := by kernel_rfl

/-- expr's word. -/
def ExprSaid (B : Nat) (ca na : Option Addr) (clen ccap nlen ncap n : Nat) (w : World) (pos : Nat) (xs : List ByteArray) (e : Ending) (w' : World) : Prop :=
  ∃ (c : Ch) (pos' : Nat) (wv' : Value), e = .returned (.agg c.cells) ∧ Fr B w w' ∧ Gen B ca na clen ccap nlen ncap w' pos' (xs ++ c.names) wv' ∧ Kid n w.heap.size w' c.a c.len c.L ∧ pos ≤ pos'

abbrev Z50 : Obj := .cells (exC 0 ⟨#[]⟩ ⟨#[]⟩ ⟨#[]⟩ (.slice none 0 0)) 50

theorem exC_one (op : Int) (s u fn : ByteArray) (a : Option Addr) (len cap : Nat) : (exC op s u fn (.slice a len cap)).all (·.oneCell') = true := by
  simp [Value.oneCell']

/-- What is laid into the result's box is handed back. -/
theorem expr_close {B : Nat} {ca na : Option Addr} {clen ccap nlen ncap n pos : Nat} {xs : List ByteArray} {wv : Value} {w W : World} {c : Ch} {pos' : Nat} {a : Act}
    (hfr : Fr B w W) (hG : Gen B ca na clen ccap nlen ncap W pos' (xs ++ c.names) wv) (hpos : pos ≤ pos')
    (old : Array Value) (hold : W.heap[w.heap.size]? = some (.cells old 50 (0, 0))) (hB : B < w.heap.size)
    (hp : a.tmps.getD 4 undef = .pointer (some ⟨w.heap.size, 0, none⟩)) (hd : a.defers = []) (hlo : Kid n (w.heap.size + 1) W c.a c.len c.L) :
    bodyPost Yba.prog Yba.f18 (ExprSaid B ca na clen ccap nlen ncap n w pos xs) Exit.ret a (W.setRow w.heap.size c.cells) := by
  refine bodyPost_ret (results_cell_row rfl _ _ w.heap.size 50 c.cells (0, 0) _ hp (setRow_heap _ _ old _ _ _ hold) Yba.underlying50 rfl Yba.size50) hd ?_
  refine ⟨c, pos', wv, rfl, hfr.setRow (Nat.le_refl _) _, ?_, ?_, hpos⟩
  · exact hG.grown (row := some w.heap.size) ⟨rfl, rfl, rfl, by simp, fun k _ hk => setRow_other _ _ _ _ (by intro e; exact hk (by rw [e]))⟩ (by simp; omega) (.inr (own_apart hG.own hold (by decide)))
  · exact hlo.keep (by omega) fun g cur hg hh => by rw [setRow_other _ _ _ _ (by omega)]; exact hh

set_option maxRecDepth 100000 in
set_option maxHeartbeats 400000 in
theorem expr_out (B : Nat) (ca na : Option Addr) (clen ccap nlen ncap n d pos : Nat) (xs : List ByteArray) (wv : Value) (w : World)
    (hG : Gen B ca na clen ccap nlen ncap w pos xs wv) (hp : clen ≤ pos) :
    Calls Yba.prog 18 #[.pointer (some ⟨B, 0, none⟩), .int .i64 d] w (ExprSaid B ca na clen ccap nlen ncap n w pos xs) := by
  have hB := hG.lt
  have h0 := hG.c0
  have h2 := hG.c2
  have hpi : (clen : Int) ≤ (pos : Int) := by omega
  have hc := hG.hc
  have hpc := hG.hp
  have HR := hid (show ∀ k, ((w.alloc Z50).drewN k).heap[w.heap.size]? = some Z50 from fun k => heap_alloc_new w Z50)
  go_enter Yba.func18, Yba.ntmps18
  go_wp2
  go_quiet (fail)
  go_wp2_with (refine wpList_store_row (by rfl) 50 (.tmp 4) (.tmp 25) (by rfl) w.heap.size (exC 0 ⟨#[63, 120]⟩ ⟨#[]⟩ ⟨#[]⟩ (.slice none 0 0)) (by rfl) (by rfl) 50 _ (HR.out _) Yba.size50 rfl (exC_one _ _ _ _ _ _ _) ?_)
  have hG1 : ∀ k, Gen B ca na clen ccap nlen ncap ((w.alloc Z50).drewN k) pos (xs ++ (Ch.mk 0 ⟨#[63, 120]⟩ ⟨#[]⟩ ⟨#[]⟩ none 0 0 []).names) wv := fun k => by
    have := (hG.alloc Z50).drewN k
    simpa [Ch.names, names] using this
  exact expr_close (W := (w.alloc Z50).drewN nq) (c := ⟨0, ⟨#[63, 120]⟩, ⟨#[]⟩, ⟨#[]⟩, none, 0, 0, []⟩) (((Fr.refl B w).alloc _).drewN _) (hG1 _) (Nat.le_refl _) _ (HR.out _) hB rfl rfl (Kid.nil _ _ _ _)

set_option maxRecDepth 100000 in
set_option maxHeartbeats 400000 in
theorem expr_deep (B : Nat) (ca na : Option Addr) (clen ccap nlen ncap n d pos : Nat) (xs : List ByteArray) (wv : Value) (w : World) (z : Int) (b off : Nat)
    (hG : Gen B ca na clen ccap nlen ncap w pos xs wv) (hp : pos < clen) (hca : ca = some ⟨b, off, none⟩) (hb : b < B) (hz : w.cell? ⟨b, off + pos, none⟩ = some (.int .u8 z)) (hd : 4 ≤ d) :
    Calls Yba.prog 18 #[.pointer (some ⟨B, 0, none⟩), .int .i64 d] w (ExprSaid B ca na clen ccap nlen ncap n w pos xs) := by
  subst hca
  have hB := hG.lt
  have h0 := hG.c0
  have h2 := hG.c2
  have f2 := hG.free 2
  have hpi : (pos : Int) < (clen : Int) := by omega
  have hc := hG.hc
  have hdi : (4 : Int) ≤ (d : Int) := by omega
  have hp0 : (0 : Int) ≤ (pos : Int) := by omega
  have hbs : b < w.heap.size := by omega
  have HR := hid (show ∀ k, (((w.alloc Z50).drewN k).setCell ⟨B, 2, none⟩ (.int .i64 ((pos : Int) + 1))).heap[w.heap.size]? = some Z50 from fun k => by rw [heap_setCell_other _ _ _ _ (by simp; omega)]; exact heap_alloc_new w Z50)
  have hG1 : ∀ k, Gen B (some ⟨b, off, none⟩) na clen ccap nlen ncap (((w.alloc Z50).drewN k).setCell ⟨B, 2, none⟩ (.int .i64 ((pos : Int) + 1))) (pos + 1) (xs ++ (Ch.mk 0 ⟨#[63, 121]⟩ ⟨#[]⟩ ⟨#[]⟩ none 0 0 []).names) wv := fun k => by
    have := ((hG.alloc Z50).drewN k).bump hp
    simpa [Ch.names, names] using this
  go_enter Yba.func18, Yba.ntmps18
  go_wp2
  go_quiet (fail)
  go_wp2
  go_quiet (fail)
  go_wp2_with (refine wpList_store_row (by rfl) 50 (.tmp 4) (.tmp 46) (by rfl) w.heap.size (exC 0 ⟨#[63, 121]⟩ ⟨#[]⟩ ⟨#[]⟩ (.slice none 0 0)) (by rfl) (by rfl) 50 _ (HR.out _) Yba.size50 rfl (exC_one _ _ _ _ _ _ _) ?_)
  exact expr_close (W := ((w.alloc Z50).drewN _).setCell ⟨B, 2, none⟩ (.int .i64 ((pos : Int) + 1))) (c := ⟨0, ⟨#[63, 121]⟩, ⟨#[]⟩, ⟨#[]⟩, none, 0, 0, []⟩) ((((Fr.refl B w).alloc _).drewN _).setB _ _) (hG1 _) (Nat.le_succ _) _ (HR.out _) hB rfl rfl (Kid.nil _ _ _ _)

end Go.Proofs.Ybulkbgae

import Derived.Test.YbulkbgaeExpr
namespace Go.Proofs.Ybulkbgae
open Go.RowKit
set_option linter.unusedVariables false

set_option maxRecDepth 100000 in
set_option maxHeartbeats 400000 in
theorem expr_zero (B : Nat) (ca na : Option Addr) (clen ccap nlen ncap n d pos : Nat) (xs : List ByteArray) (wv : Value) (w : World) (z : Int) (b off : Nat)
    (hG : Gen B ca na clen ccap nlen ncap w pos xs wv) (hp : pos < clen) (hca : ca = some ⟨b, off, none⟩) (hb : b < B) (hz : w.cell? ⟨b, off + pos, none⟩ = some (.int .u8 z)) (hz0 : 0 ≤ z) (hz1 : z ≤ 255) (hd : d < 4) (hz4 : z % 4 = 0) :
    Calls Yba.prog 18 #[.pointer (some ⟨B, 0, none⟩), .int .i64 d] w (ExprSaid B ca na clen ccap nlen ncap n w pos xs) := by
  subst hca
  have hB := hG.lt
  have h0 := hG.c0
  have h2 := hG.c2
  have f2 := hG.free 2
  have hpi : (pos : Int) < (clen : Int) := by omega
  have hc := hG.hc
  have hdi : (d : Int) < 4 := by omega
  have hp0 : (0 : Int) ≤ (pos : Int) := by omega
  have hbs : b < w.heap.size := by omega
  have HR := hid (show ∀ k, (((w.alloc Z50).drewN k).setCell ⟨B, 2, none⟩ (.int .i64 ((pos : Int) + 1))).heap[w.heap.size]? = some Z50 from fun k => by rw [heap_setCell_other _ _ _ _ (by simp; omega)]; exact heap_alloc_new w Z50)
  have hG1 : ∀ k, Gen B (some ⟨b, off, none⟩) na clen ccap nlen ncap (((w.alloc Z50).drewN k).setCell ⟨B, 2, none⟩ (.int .i64 ((pos : Int) + 1))) (pos + 1) (xs ++ (Ch.mk 0 ⟨#[63, 122]⟩ ⟨#[]⟩ ⟨#[]⟩ none 0 0 []).names) wv := fun k => by
    have := ((hG.alloc Z50).drewN k).bump hp
    simpa [Ch.names, names] using this
  go_enter Yba.func18, Yba.ntmps18
  go_wp2
  go_quiet (fail)
  go_wp2
  go_quiet (fail)
  go_wp2_with (refine wpList_store_row (by rfl) 50 (.tmp 4) (.tmp 52) (by rfl) w.heap.size (exC 0 ⟨#[63, 122]⟩ ⟨#[]⟩ ⟨#[]⟩ (.slice none 0 0)) (by rfl) (by rfl) 50 _ (HR.out _) Yba.size50 rfl (exC_one _ _ _ _ _ _ _) ?_)
  exact expr_close (W := ((w.alloc Z50).drewN _).setCell ⟨B, 2, none⟩ (.int .i64 ((pos : Int) + 1))) (c := ⟨0, ⟨#[63, 122]⟩, ⟨#[]⟩, ⟨#[]⟩, none, 0, 0, []⟩) ((((Fr.refl B w).alloc _).drewN _).setB _ _) (hG1 _) (Nat.le_succ _) _ (HR.out _) hB rfl rfl (Kid.nil _ _ _ _)

set_option maxRecDepth 100000 in
set_option maxHeartbeats 400000 in
theorem expr_one (B : Nat) (ca na : Option Addr) (clen ccap nlen ncap n d pos : Nat) (xs : List ByteArray) (wv : Value) (w : World) (z : Int) (b off : Nat)
    (hG : Gen B ca na clen ccap nlen ncap w pos xs wv) (hp : pos < clen) (hca : ca = some ⟨b, off, none⟩) (hb : b < B) (hz : w.cell? ⟨b, off + pos, none⟩ = some (.int .u8 z)) (hz0 : 0 ≤ z) (hz1 : z ≤ 255) (hd : d < 4) (hz4 : z % 4 = 1) :
    Calls Yba.prog 18 #[.pointer (some ⟨B, 0, none⟩), .int .i64 d] w (ExprSaid B ca na clen ccap nlen ncap n w pos xs) := by
  subst hca
  have hB := hG.lt
  have h0 := hG.c0
  have h2 := hG.c2
  have f2 := hG.free 2
  have hpi : (pos : Int) < (clen : Int) := by omega
  have hc := hG.hc
  have hdi : (d : Int) < 4 := by omega
  have hp0 : (0 : Int) ≤ (pos : Int) := by omega
  have hbs : b < w.heap.size := by omega
  have HR := hid (show ∀ k, (((w.alloc Z50).drewN k).setCell ⟨B, 2, none⟩ (.int .i64 ((pos : Int) + 1))).heap[w.heap.size]? = some Z50 from fun k => by rw [heap_setCell_other _ _ _ _ (by simp; omega)]; exact heap_alloc_new w Z50)
  have hG1 : ∀ k, Gen B (some ⟨b, off, none⟩) na clen ccap nlen ncap (((w.alloc Z50).drewN k).setCell ⟨B, 2, none⟩ (.int .i64 ((pos : Int) + 1))) (pos + 1) (xs ++ (Ch.mk 1 ⟨#[]⟩ ⟨#[104, 111, 117, 114, 115]⟩ ⟨#[]⟩ none 0 0 []).names) wv := fun k => by
    have := ((hG.alloc Z50).drewN k).bump hp
    simpa [Ch.names, names] using this
  go_enter Yba.func18, Yba.ntmps18
  go_wp2
  go_quiet (fail)
  go_wp2
  go_quiet (fail)
  go_wp2_with (refine wpList_store_row (by rfl) 50 (.tmp 4) (.tmp 55) (by rfl) w.heap.size (exC 1 ⟨#[]⟩ ⟨#[104, 111, 117, 114, 115]⟩ ⟨#[]⟩ (.slice none 0 0)) (by rfl) (by rfl) 50 _ (HR.out _) Yba.size50 rfl (exC_one _ _ _ _ _ _ _) ?_)
  exact expr_close (W := ((w.alloc Z50).drewN _).setCell ⟨B, 2, none⟩ (.int .i64 ((pos : Int) + 1))) (c := ⟨1, ⟨#[]⟩, ⟨#[104, 111, 117, 114, 115]⟩, ⟨#[]⟩, none, 0, 0, []⟩) ((((Fr.refl B w).alloc _).drewN _).setB _ _) (hG1 _) (Nat.le_succ _) _ (HR.out _) hB rfl rfl (Kid.nil _ _ _ _)

end Go.Proofs.Ybulkbgae

import Derived.Test.YbulkbgasDoorLk
namespace Go.Proofs.YbulkbgasDoor
open Go.RowKit Go.Maps
set_option linter.unusedVariables false

theorem sp_at5 {W : World} {a : Option Addr} {n : Nat} {l : List Sp} (h : Els W 5 a n fun i => (l.getD i sp0).cells) {k : Nat} (hk : k < n) :
    ∃ b off, a = some ⟨b, off, none⟩ ∧ b < W.heap.size ∧ W.cell? ⟨b, off + k * 5, none⟩ = some (.int .i64 ((l.getD k sp0).x : Int)) ∧ W.cell? ⟨b, off + k * 5 + 1, none⟩ = some (.int .i64 ((l.getD k sp0).i : Int)) ∧ W.cell? ⟨b, off + k * 5 + 2, none⟩ = some (.int .i64 ((l.getD k sp0).f : Int)) ∧ W.cell? ⟨b, off + k * 5 + 3, none⟩ = some (.int .i64 (l.getD k sp0).w) ∧ W.cell? ⟨b, off + k * 5 + 4, none⟩ = some (.int .i64 ((l.getD k sp0).la : Int)) := by
  obtain ⟨b, off, h1, h2, h3⟩ := h k hk
  exact ⟨b, off, h1, h2, h3 0 _ rfl, h3 1 _ rfl, h3 2 _ rfl, h3 3 _ rfl, h3 4 _ rfl⟩
theorem copy_kept {wa wE : World} {B t : Nat} {cs : Array Value} {fr : Nat × Nat} {row : Option Nat} (hB : wa.heap[B]? = some (.cells cs t fr)) (hg : wa.grownBy wE row) (hne : row ≠ some B) : wE.heap[B]? = some (.cells cs t fr) :=
  (hg.block B (Array.getElem?_eq_some_iff.1 hB).1 (fun e => hne e.symm)).trans hB
noncomputable def lp32 (k : Nat) : Code := ((Ybad.f32.body.map loopsOf).getD [])[k]?.getD .skip

/-! ### The second loop: what stands right before an action, and the points -/
structure LkC (w2 wr : World) (n : Nat) (bf : Nat → ByteArray) (v2 : Nat → Value) (Pt : Nat → List Nat) : Prop where
  be : Fix wr w2.heap.size 31 n (fun j => .string (bf j))
  af : Fix wr (w2.heap.size + 1) 4 n (fun _ => .bool false)
  po : Fix wr (w2.heap.size + 2) 54 (n + 1) v2
  fam : FamI wr (w2.heap.size + 3) 3 1 (n + 1) v2 Pt
  bel : Below w2.heap.size w2 wr
section
variable {w2 wr : World} {n : Nat} {bf : Nat → ByteArray} {v2 : Nat → Value} {Pt : Nat → List Nat}
theorem LkC.lt (h : LkC w2 wr n bf v2 Pt) : w2.heap.size + 2 < wr.heap.size := h.po.lt
theorem LkC.alloc (h : LkC w2 wr n bf v2 Pt) (o : Obj) : LkC w2 (wr.alloc o) n bf v2 Pt := by
  have hl := h.lt
  exact ⟨h.be.alloc o, h.af.alloc o, h.po.alloc o, h.fam.alloc o, h.bel.alloc (by omega) o⟩
theorem LkC.heap {wr' : World} (h : LkC w2 wr n bf v2 Pt) (e : wr'.heap = wr.heap) (hb : Below w2.heap.size w2 wr') : LkC w2 wr' n bf v2 Pt := by
  refine ⟨by unfold Fix; rw [e]; exact h.be, by unfold Fix; rw [e]; exact h.af, by unfold Fix; rw [e]; exact h.po, ⟨fun i hi => ?_, h.fam.sep⟩, hb⟩
  have := h.fam.own i hi
  unfold World.ownsRow at this ⊢
  rw [e]; exact this
theorem LkC.drew (h : LkC w2 wr n bf v2 Pt) : LkC w2 wr.drew n bf v2 Pt := h.heap rfl ⟨h.bel.os, h.bel.tape, h.bel.output, h.bel.size, h.bel.block⟩
theorem LkC.drewN (h : LkC w2 wr n bf v2 Pt) (k : Nat) : LkC w2 (wr.drewN k) n bf v2 Pt := h.heap rfl (below_drewN h.bel k)
theorem LkC.setB (h : LkC w2 wr n bf v2 Pt) {j : Nat} (hj : j < n) (x : ByteArray) : LkC w2 (wr.setCell ⟨w2.heap.size, j, none⟩ (.string x)) n (updL bf j x) v2 Pt := by
  refine ⟨(h.be.set hj _).congr fun i _ => ?_, h.af.other _ _ (by omega) _, h.po.other _ _ (by omega) _, h.fam.setCell (by omega) _ _, h.bel.setCell (p := ⟨w2.heap.size, j, none⟩) (by simp) _⟩
  unfold upd updL; split <;> rfl
theorem LkC.setA (h : LkC w2 wr n bf v2 Pt) {j : Nat} (hj : j < n) : LkC w2 (wr.setCell ⟨w2.heap.size + 1, j, none⟩ (.bool false)) n bf v2 Pt := by
  refine ⟨h.be.other _ _ (by omega) _, (h.af.set hj _).congr fun i _ => ?_, h.po.other _ _ (by omega) _, h.fam.setCell (by omega) _ _, h.bel.setCell (p := ⟨w2.heap.size + 1, j, none⟩) (by simp) _⟩
  unfold upd; split <;> rfl
/-- A point is appended. -/
theorem LkC.app (h : LkC w2 wr n bf v2 Pt) {i : Nat} (hi : i < n + 1) {wE : World} {g cap x : Nat} (ho : wE.ownsRow (w2.heap.size + 3) 3 1 (.slice (some ⟨g, 0, none⟩) ((Pt i).length + 1) cap) ((Pt i).length + 1) (rowI (Pt i) ++ [.int .i64 (x : Int)])) (hg : wr.grownBy wE (v2 i).ownBlock) (hn : (v2 i).ownBlock = some g ∨ g = wr.heap.size) :
    wE.cell? ⟨w2.heap.size + 2, i, none⟩ = some (v2 i) ∧ wE.frozen? ⟨w2.heap.size + 2, i, none⟩ = false ∧ Hid (LkC w2 (wE.setCell ⟨w2.heap.size + 2, i, none⟩ (.slice (some ⟨g, 0, none⟩) ((Pt i).length + 1) cap)) n bf (updL v2 i (.slice (some ⟨g, 0, none⟩) ((Pt i).length + 1) cap)) (updL Pt i (Pt i ++ [x]))) := by
  have hlt := h.lt
  have nn : ∀ b, b < w2.heap.size + 3 → some b ≠ (v2 i).ownBlock := fun b hb e => by have := own_ge (h.fam.own i hi) e.symm; omega
  have po1 := h.po.grown hg (nn _ (by omega))
  have ho2 : wE.ownsRow (w2.heap.size + 3) 3 1 (.slice (some ⟨g, 0, none⟩) ((Pt i).length + 1) cap) (Pt i ++ [x]).length (rowI (Pt i ++ [x])) := by
    rw [rowI_snoc, List.length_append]; exact ho
  refine ⟨po1.cell hi, po1.free i, hid ⟨(h.be.grown hg (nn _ (by omega))).other _ _ (by omega) _, (h.af.grown hg (nn _ (by omega))).other _ _ (by omega) _, (po1.set hi _).congr fun j hj => rfl, (h.fam.turn hi ho2 hg (fun g' e => ?_)).setCell (by omega) _ _, (h.bel.grown hg (by omega) fun k hk => ?_).setCell (p := ⟨w2.heap.size + 2, i, none⟩) (by simp) _⟩⟩
  · simp [Value.ownBlock] at e; subst e
    rcases hn with h | h
    · exact .inl h
    · exact .inr (by omega)
  · have := own_ge (h.fam.own i hi) hk; omega
end
/-- With the copy of a span. -/
structure LkE (w2 wr : World) (n : Nat) (bf : Nat → ByteArray) (v2 : Nat → Value) (Pt : Nat → List Nat) (B : Nat) (s : Sp) : Prop where
  st : LkC w2 wr n bf v2 Pt
  cp : wr.heap[B]? = some (.cells s.cells.toArray 102 (0, 0))
  ge : w2.heap.size + 2 < B
section
variable {w2 wr : World} {n : Nat} {bf : Nat → ByteArray} {v2 : Nat → Value} {Pt : Nat → List Nat} {B : Nat} {s : Sp}
theorem LkC.copy (h : LkC w2 wr n bf v2 Pt) (s : Sp) : LkE w2 (wr.alloc (.cells #[.int .i64 (s.x : Int), .int .i64 (s.i : Int), .int .i64 (s.f : Int), .int .i64 s.w, .int .i64 (s.la : Int)] 102)) n bf v2 Pt wr.heap.size s := ⟨h.alloc _, heap_alloc_new _ _, h.lt⟩
theorem LkE.d2 (h : LkE w2 wr n bf v2 Pt B s) : wr.cell? ⟨B, 2, none⟩ = some (.int .i64 (s.f : Int)) := by rw [cell_of_row _ _ _ _ _ _ h.cp]; rfl
theorem LkE.d3 (h : LkE w2 wr n bf v2 Pt B s) : wr.cell? ⟨B, 3, none⟩ = some (.int .i64 s.w) := by rw [cell_of_row _ _ _ _ _ _ h.cp]; rfl
theorem LkE.d4 (h : LkE w2 wr n bf v2 Pt B s) : wr.cell? ⟨B, 4, none⟩ = some (.int .i64 (s.la : Int)) := by rw [cell_of_row _ _ _ _ _ _ h.cp]; rfl
theorem LkE.drew (h : LkE w2 wr n bf v2 Pt B s) : LkE w2 wr.drew n bf v2 Pt B s := ⟨h.st.drew, h.cp, h.ge⟩
theorem LkE.drewN (h : LkE w2 wr n bf v2 Pt B s) (k : Nat) : LkE w2 (wr.drewN k) n bf v2 Pt B s := ⟨h.st.drewN k, h.cp, h.ge⟩
theorem LkE.same {w' : World} (h : LkE w2 wr n bf v2 Pt B s) (e : w'.heap = wr.heap) (e1 : w'.os = wr.os) (e2 : w'.tape = wr.tape) (e3 : w'.output = wr.output) : LkE w2 w' n bf v2 Pt B s :=
  ⟨h.st.heap e ⟨e1.trans h.st.bel.os, e2.trans h.st.bel.tape, e3.trans h.st.bel.output, by rw [e]; exact h.st.bel.size, fun k hk => by rw [e]; exact h.st.bel.block k hk⟩, by rw [e]; exact h.cp, h.ge⟩
theorem LkE.setB (h : LkE w2 wr n bf v2 Pt B s) {j : Nat} (hj : j < n) (x : ByteArray) : LkE w2 (wr.setCell ⟨w2.heap.size, j, none⟩ (.string x)) n (updL bf j x) v2 Pt B s :=
  ⟨h.st.setB hj x, (heap_setCell_other _ _ _ _ (by have := h.ge; show B ≠ w2.heap.size; omega)).trans h.cp, h.ge⟩
end
/-- lockAction, where the tables' cells are known. -/
theorem lockAct_cells (b : Bool) (w : World) {b0 o0 c0 b1 o1 c1 : Nat} (h1 : w.cell? ⟨0, 0, none⟩ = some (.slice (some ⟨b0, o0, none⟩) 2 c0)) (h2 : w.cell? ⟨1, 0, none⟩ = some (.slice (some ⟨b1, o1, none⟩) 2 c1)) (h7 : w.cell? ⟨b0, o0 + 1, none⟩ = some (.string kRl)) (h8 : w.cell? ⟨b0, o0 + 3 + 1, none⟩ = some (.string kWl)) (h9 : w.cell? ⟨b1, o1, none⟩ = some (.string mSh)) (h10 : w.cell? ⟨b1, o1 + 1, none⟩ = some (.string mEx)) :
    Calls Ybad.prog 52 #[.string (if b then mEx else mSh)] w fun e w' => e = .returned (.string (if b then kWl else kRl)) ∧ ∃ q, w' = w.drewN q :=
  lockAct_any b w ⟨b0, o0, c0, b1, o1, c1, h1, h2, World.block_lt_of_cell? w _ h1, World.block_lt_of_cell? w _ h2, World.block_lt_of_cell? w _ h7, World.block_lt_of_cell? w _ h9, h7, h8, h9, h10⟩
theorem lockFor_t (w : World) : Calls Ybad.prog 53 #[.bool true] w fun e w' => e = .returned (.string mEx) ∧ w' = w := lockFor_any true w
theorem lockFor_f (w : World) : Calls Ybad.prog 53 #[.bool false] w fun e w' => e = .returned (.string mSh) ∧ w' = w := lockFor_any false w
section
variable (w : World) {b0 o0 c0 b1 o1 c1 : Nat} (h1 : w.cell? ⟨0, 0, none⟩ = some (.slice (some ⟨b0, o0, none⟩) 2 c0)) (h2 : w.cell? ⟨1, 0, none⟩ = some (.slice (some ⟨b1, o1, none⟩) 2 c1)) (h7 : w.cell? ⟨b0, o0 + 1, none⟩ = some (.string kRl)) (h8 : w.cell? ⟨b0, o0 + 3 + 1, none⟩ = some (.string kWl)) (h9 : w.cell? ⟨b1, o1, none⟩ = some (.string mSh)) (h10 : w.cell? ⟨b1, o1 + 1, none⟩ = some (.string mEx))
include h1 h2 h7 h8 h9 h10
theorem lockAct_t : Calls Ybad.prog 52 #[.string mEx] w fun e w' => e = .returned (.string kWl) ∧ ∃ q, w' = w.drewN q := lockAct_cells true w h1 h2 h7 h8 h9 h10
theorem lockAct_f : Calls Ybad.prog 52 #[.string mSh] w fun e w' => e = .returned (.string kRl) ∧ ∃ q, w' = w.drewN q := lockAct_cells false w h1 h2 h7 h8 h9 h10
end
end Go.Proofs.YbulkbgasDoor

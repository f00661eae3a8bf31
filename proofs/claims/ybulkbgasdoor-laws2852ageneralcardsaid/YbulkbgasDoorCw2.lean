import Derived.Test.YbulkbgasDoorRl
namespace Go.Proofs.YbulkbgasDoor
open Go.RowKit Go.Maps
set_option linter.unusedVariables false

/-! ### The walk's memory -/
abbrev cwN (n m : Nat) : Nat := m + m + n + (m + m)
def cwBox (Bc n m L : Nat) (b : Nat → Nat) : Array Value := #[.pointer (some ⟨Bc, 0, none⟩), .slice (some ⟨b 0, 0, none⟩) n n, .slice (some ⟨b 1, 0, none⟩) m m, .slice (some ⟨b 2, 0, none⟩) m m, .slice (some ⟨b 3, 0, none⟩) m m, .slice (some ⟨b 4, 0, none⟩) m m, .slice (some ⟨b 5, 0, none⟩) L L, .slice (some ⟨b 6, 0, none⟩) L L, .slice (some ⟨b 7, 0, none⟩) n n, .slice (some ⟨b 8, 0, none⟩) m m, .slice (some ⟨b 9, 0, none⟩) m m]

structure CwG (w0 wr : World) (n m L Bc : Nat) (b : Nat → Nat) (V : Nat → Nat → Value) (v : Nat → Value) (X : Nat → List Nat) : Prop where
  inj : ∀ j k, j < 10 → k < 10 → b j = b k → j = k
  rng : ∀ k, k < 10 → w0.heap.size ≤ b k ∧ b k < w0.heap.size + 10
  box : wr.heap[w0.heap.size + 10]? = some (.cells (cwBox Bc n m L b) 126 (0, 0))
  fx : ∀ k, k < 10 → Fix wr (b k) (cwTy k) (cwLn n m L k) (V k)
  fam : FamI wr (w0.heap.size + 11) 3 1 (cwN n m) v X
  bel : Below w0.heap.size w0 wr
section
variable {w0 wr w' : World} {n m L Bc : Nat} {b : Nat → Nat} {V : Nat → Nat → Value} {v : Nat → Value} {X : Nat → List Nat}
theorem CwG.lt (h : CwG w0 wr n m L Bc b V v X) : w0.heap.size + 10 < wr.heap.size := (Array.getElem?_eq_some_iff.1 h.box).1
theorem CwG.ge (h : CwG w0 wr n m L Bc b V v X) {r : Nat} (hr : r < cwN n m) {g : Nat} (e : (v r).ownBlock = some g) : w0.heap.size + 11 ≤ g := own_ge (h.fam.own r hr) e
theorem CwG.alloc (h : CwG w0 wr n m L Bc b V v X) (o : Obj) : CwG w0 (wr.alloc o) n m L Bc b V v X :=
  ⟨h.inj, h.rng, (Below.heap_alloc _ _ _ h.lt).trans h.box, fun k hk => (h.fx k hk).alloc o, h.fam.alloc o, h.bel.alloc (by have := h.lt; omega) o⟩
theorem CwG.grownNew (h : CwG w0 wr n m L Bc b V v X) (hg : wr.grownBy w' none) : CwG w0 w' n m L Bc b V v X :=
  ⟨h.inj, h.rng, (hg.block _ h.lt (by simp)).trans h.box, fun k hk => (h.fx k hk).grown hg (by simp), h.fam.keptOut hg (fun _ _ _ _ => by simp), h.bel.grown hg (by have := h.lt; omega) (fun b e => by cases e)⟩
theorem CwG.heap (h : CwG w0 wr n m L Bc b V v X) (e : w'.heap = wr.heap) (e1 : w'.os = wr.os) (e2 : w'.tape = wr.tape) (e3 : w'.output = wr.output) : CwG w0 w' n m L Bc b V v X :=
  h.grownNew ⟨e1, e2, e3, by rw [e]; exact Nat.le_refl _, fun _ _ _ => by rw [e]⟩
theorem CwG.drew (h : CwG w0 wr n m L Bc b V v X) : CwG w0 wr.drew n m L Bc b V v X := h.heap rfl rfl rfl rfl
theorem CwG.drewN (h : CwG w0 wr n m L Bc b V v X) (q : Nat) : CwG w0 (wr.drewN q) n m L Bc b V v X := h.heap rfl rfl rfl rfl
theorem CwG.congr (h : CwG w0 wr n m L Bc b V v X) {V' : Nat → Nat → Value} (he : ∀ k, k < 10 → ∀ j, j < cwLn n m L k → V k j = V' k j) : CwG w0 wr n m L Bc b V' v X :=
  ⟨h.inj, h.rng, h.box, fun k hk => (h.fx k hk).congr (he k hk), h.fam, h.bel⟩
theorem CwG.congrX (h : CwG w0 wr n m L Bc b V v X) {X' : Nat → List Nat} (he : ∀ r, r < cwN n m → X r = X' r) : CwG w0 wr n m L Bc b V v X' :=
  ⟨h.inj, h.rng, h.box, h.fx, h.fam.congr (fun _ _ => rfl) he, h.bel⟩
theorem CwG.cell (h : CwG w0 wr n m L Bc b V v X) {k j : Nat} (hk : k < 10) (hj : j < cwLn n m L k) : wr.cell? ⟨b k, j, none⟩ = some (V k j) := (h.fx k hk).cell hj
theorem CwG.free (h : CwG w0 wr n m L Bc b V v X) {k : Nat} (hk : k < 10) (j : Nat) : wr.frozen? ⟨b k, j, none⟩ = false := (h.fx k hk).free j
theorem CwG.fld (h : CwG w0 wr n m L Bc b V v X) (i : Nat) (u : Value) (hi : (cwBox Bc n m L b)[i]? = some u) : wr.cell? ⟨w0.heap.size + 10, i, none⟩ = some u := by rw [cell_of_row _ _ _ _ _ _ h.box]; exact hi
/-- A cell of one of the ten rows is turned. -/
theorem CwG.set (h : CwG w0 wr n m L Bc b V v X) {k0 j : Nat} (hk : k0 < 10) (hj : j < cwLn n m L k0) (u : Value) : CwG w0 (wr.setCell ⟨b k0, j, none⟩ u) n m L Bc b (fun k => if k = k0 then upd (V k0) j u else V k) v X := by
  have hr := h.rng k0 hk
  refine ⟨h.inj, h.rng, ?_, fun k hk' => ?_, h.fam.setCell (by omega) _ _, h.bel.setCell (p := ⟨b k0, j, none⟩) (by simpa using hr.1) _⟩
  · rw [heap_setCell_other wr _ _ u (by show _ ≠ b k0; omega)]; exact h.box
  · by_cases e : k = k0
    · subst e; simp only [if_true]; exact (h.fx k hk').set hj u
    · simp only [if_neg e]; exact (h.fx k hk').other _ _ (fun e' => e (h.inj _ _ hk' hk e')) u
/-- One of the rows that grow has turned. -/
theorem CwG.turn (h : CwG w0 wr n m L Bc b V v X) {r : Nat} (hr : r < cwN n m) {v' : Value} {l : List Nat} (ho : w'.ownsRow (w0.heap.size + 11) 3 1 v' l.length (rowI l)) (hg : wr.grownBy w' (v r).ownBlock) (hn : ∀ g, v'.ownBlock = some g → (v r).ownBlock = some g ∨ wr.heap.size ≤ g) : CwG w0 w' n m L Bc b V (updL v r v') (updL X r l) := by
  refine ⟨h.inj, h.rng, (hg.block _ h.lt (fun e => ?_)).trans h.box, fun k hk => (h.fx k hk).grown hg (fun e => ?_), h.fam.turn hr ho hg hn, h.bel.grown hg (by have := h.lt; omega) (fun g e => ?_)⟩
  · have := h.ge hr e.symm; omega
  · have := h.ge hr e.symm; have := (h.rng k hk).2; omega
  · have := h.ge hr e; omega
end

def cwV (n m : Nat) (met : Nat → Bool) (ia nw rd wn : Nat → Nat) (v : Nat → Value) : Nat → Nat → Value := fun k j => match k with
  | 0 => .bool (met j)
  | 1 => v j
  | 2 => v (m + j)
  | 3 => v (m + m + n + j)
  | 4 => v (m + m + n + (m + j))
  | 5 => .int .i64 (ia j : Int)
  | 6 => .int .i64 (nw j : Int)
  | 7 => v (m + m + j)
  | 8 => .int .i64 (rd j : Int)
  | _ => .int .i64 (wn j : Int)
/-- The walk in a state. -/
def CwS (w0 wr : World) (n m L Bc : Nat) (b : Nat → Nat) (met : Nat → Bool) (ia nw rd wn : Nat → Nat) (v : Nat → Value) (X : Nat → List Nat) : Prop := CwG w0 wr n m L Bc b (cwV n m met ia nw rd wn v) v X
/-- The place among the rows of the j-th entry of the k-th row of slices. -/
def cwR (n m k j : Nat) : Nat := match k with | 1 => j | 2 => m + j | 3 => m + m + n + j | 4 => m + m + n + (m + j) | _ => m + m + j

section
variable {w0 wr w' : World} {n m L Bc : Nat} {b : Nat → Nat} {met : Nat → Bool} {ia nw rd wn : Nat → Nat} {v : Nat → Value} {X : Nat → List Nat}
theorem CwS.g (h : CwS w0 wr n m L Bc b met ia nw rd wn v X) : CwG w0 wr n m L Bc b (cwV n m met ia nw rd wn v) v X := h
theorem upd_int (f : Nat → Nat) (i x j : Nat) : upd (fun j => Value.int .i64 ((f j : Nat) : Int)) i (.int .i64 (x : Int)) j = .int .i64 ((updL f i x j : Nat) : Int) := by
  unfold upd updL; split <;> rfl
theorem CwS.setIa (h : CwS w0 wr n m L Bc b met ia nw rd wn v X) {j : Nat} (hj : j < L) (x : Nat) : CwS w0 (wr.setCell ⟨b 5, j, none⟩ (.int .i64 (x : Int))) n m L Bc b met (updL ia j x) nw rd wn v X :=
  (h.g.set (k0 := 5) (by omega) hj _).congr (lt10 (fun _ _ => rfl) (fun _ _ => rfl) (fun _ _ => rfl) (fun _ _ => rfl) (fun _ _ => rfl) (fun i _ => upd_int ia j x i) (fun _ _ => rfl) (fun _ _ => rfl) (fun _ _ => rfl) (fun _ _ => rfl))
theorem CwS.setNw (h : CwS w0 wr n m L Bc b met ia nw rd wn v X) {j : Nat} (hj : j < L) (x : Nat) : CwS w0 (wr.setCell ⟨b 6, j, none⟩ (.int .i64 (x : Int))) n m L Bc b met ia (updL nw j x) rd wn v X :=
  (h.g.set (k0 := 6) (by omega) hj _).congr (lt10 (fun _ _ => rfl) (fun _ _ => rfl) (fun _ _ => rfl) (fun _ _ => rfl) (fun _ _ => rfl) (fun _ _ => rfl) (fun i _ => upd_int nw j x i) (fun _ _ => rfl) (fun _ _ => rfl) (fun _ _ => rfl))
theorem CwS.setRd (h : CwS w0 wr n m L Bc b met ia nw rd wn v X) {j : Nat} (hj : j < m) (x : Nat) : CwS w0 (wr.setCell ⟨b 8, j, none⟩ (.int .i64 (x : Int))) n m L Bc b met ia nw (updL rd j x) wn v X :=
  (h.g.set (k0 := 8) (by omega) hj _).congr (lt10 (fun _ _ => rfl) (fun _ _ => rfl) (fun _ _ => rfl) (fun _ _ => rfl) (fun _ _ => rfl) (fun _ _ => rfl) (fun _ _ => rfl) (fun _ _ => rfl) (fun i _ => upd_int rd j x i) (fun _ _ => rfl))
theorem CwS.setWn (h : CwS w0 wr n m L Bc b met ia nw rd wn v X) {j : Nat} (hj : j < m) (x : Nat) : CwS w0 (wr.setCell ⟨b 9, j, none⟩ (.int .i64 (x : Int))) n m L Bc b met ia nw rd (updL wn j x) v X :=
  (h.g.set (k0 := 9) (by omega) hj _).congr (lt10 (fun _ _ => rfl) (fun _ _ => rfl) (fun _ _ => rfl) (fun _ _ => rfl) (fun _ _ => rfl) (fun _ _ => rfl) (fun _ _ => rfl) (fun _ _ => rfl) (fun _ _ => rfl) (fun i _ => upd_int wn j x i))
theorem CwS.setMet (h : CwS w0 wr n m L Bc b met ia nw rd wn v X) {j : Nat} (hj : j < n) (x : Bool) : CwS w0 (wr.setCell ⟨b 0, j, none⟩ (.bool x)) n m L Bc b (updL met j x) ia nw rd wn v X :=
  (h.g.set (k0 := 0) (by omega) hj _).congr (lt10 (fun i _ => by show upd (fun j => Value.bool (met j)) j (.bool x) i = .bool (updL met j x i); unfold upd updL; split <;> rfl) (fun _ _ => rfl) (fun _ _ => rfl) (fun _ _ => rfl) (fun _ _ => rfl) (fun _ _ => rfl) (fun _ _ => rfl) (fun _ _ => rfl) (fun _ _ => rfl) (fun _ _ => rfl))
/-- An entry of a row of slices is laid anew. -/
theorem CwG.setRow {v' : Nat → Value} (h : CwG w0 wr n m L Bc b (cwV n m met ia nw rd wn v) v' X) {k0 j r : Nat} (hk : (k0 = 1 ∧ j < m ∧ r = j) ∨ (k0 = 2 ∧ j < m ∧ r = m + j) ∨ (k0 = 3 ∧ j < m ∧ r = m + m + n + j) ∨ (k0 = 4 ∧ j < m ∧ r = m + m + n + (m + j)) ∨ (k0 = 7 ∧ j < n ∧ r = m + m + j)) {u : Value} (hv : v' = updL v r u) :
    CwS w0 (wr.setCell ⟨b k0, j, none⟩ u) n m L Bc b met ia nw rd wn v' X := by
  subst hv
  unfold CwS
  rcases hk with ⟨rfl, hj, hr⟩ | ⟨rfl, hj, hr⟩ | ⟨rfl, hj, hr⟩ | ⟨rfl, hj, hr⟩ | ⟨rfl, hj, hr⟩
  all_goals
    refine (h.set (by omega) (by first | exact hj) u).congr (lt10 (fun i hi => ?_) (fun i hi => ?_) (fun i hi => ?_) (fun i hi => ?_) (fun i hi => ?_) (fun i hi => ?_) (fun i hi => ?_) (fun i hi => ?_) (fun i hi => ?_) (fun i hi => ?_))
    all_goals first
      | rfl
      | (simp only [cwLn] at hi; exact (updL_other v (by omega) u).symm)
      | (simp only [cwLn] at hi; show (if i = j then u else _) = (if _ = r then u else _); split <;> split <;> first | rfl | omega)
end

/-! ### The copy of an access -/
structure CwC (w0 wr : World) (B : Nat) (c : Acc) : Prop where
  cp : wr.heap[B]? = some (.cells #[.int .i64 (c.x : Int), .int .i64 (c.i : Int), .int .i64 (c.p : Int), .bool c.w] 100 (0, 0))
  ge : w0.heap.size + 11 ≤ B
section
variable {w0 wr w' : World} {B : Nat} {c : Acc}
theorem CwC.lt (h : CwC w0 wr B c) : B < wr.heap.size := (Array.getElem?_eq_some_iff.1 h.cp).1
theorem CwC.c0 (h : CwC w0 wr B c) : wr.cell? ⟨B, 0, none⟩ = some (.int .i64 (c.x : Int)) := by rw [cell_of_row _ _ _ _ _ _ h.cp]; rfl
theorem CwC.c1 (h : CwC w0 wr B c) : wr.cell? ⟨B, 1, none⟩ = some (.int .i64 (c.i : Int)) := by rw [cell_of_row _ _ _ _ _ _ h.cp]; rfl
theorem CwC.c2 (h : CwC w0 wr B c) : wr.cell? ⟨B, 2, none⟩ = some (.int .i64 (c.p : Int)) := by rw [cell_of_row _ _ _ _ _ _ h.cp]; rfl
theorem CwC.c3 (h : CwC w0 wr B c) : wr.cell? ⟨B, 3, none⟩ = some (.bool c.w) := by rw [cell_of_row _ _ _ _ _ _ h.cp]; rfl
theorem CwC.grown (h : CwC w0 wr B c) {row : Option Nat} (hg : wr.grownBy w' row) (hne : some B ≠ row) : CwC w0 w' B c := ⟨(hg.block B h.lt hne).trans h.cp, h.ge⟩
theorem CwC.alloc (h : CwC w0 wr B c) (o : Obj) : CwC w0 (wr.alloc o) B c := ⟨(Below.heap_alloc _ _ _ h.lt).trans h.cp, h.ge⟩
theorem CwC.drew (h : CwC w0 wr B c) : CwC w0 wr.drew B c := ⟨h.cp, h.ge⟩
theorem CwC.setCell (h : CwC w0 wr B c) {g : Nat} (hg : g < w0.heap.size + 11) (j : Nat) (u : Value) : CwC w0 (wr.setCell ⟨g, j, none⟩ u) B c := h.grown (gr_set wr g j u) (by have := h.ge; simp; omega)
theorem CwC.apart (h : CwC w0 wr B c) {base : Nat} {v : Value} {n : Nat} {xs : List Value} (ho : wr.ownsRow base 3 1 v n xs) : some B ≠ v.ownBlock := fun e => own_apart ho h.cp (by decide) e.symm
end

end Go.Proofs.YbulkbgasDoor

import Derived.Test.YbulkbgasDoorFam
namespace Go.Proofs.YbulkbgasDoor
open Go.RowKit Go.Maps
set_option linter.unusedVariables false

/-! ### nearestArcs, plainly -/
/-- The last writer of each item; the rows: those below n are the arcs, those from n on the readers. -/
structure Na where
  wt : Nat → Int
  X : Nat → List Nat
def naArc (s : Na) (a : Acc) : Na := if 0 ≤ s.wt a.i ∧ s.wt a.i ≠ (a.x : Int) then { s with X := updL s.X (s.wt a.i).toNat (s.X (s.wt a.i).toNat ++ [a.x]) } else s
def naRead (n : Nat) (s : Na) (a : Acc) : Na := if (s.X (n + a.i)).getLast? = some a.x then s else { s with X := updL s.X (n + a.i) (s.X (n + a.i) ++ [a.x]) }
def naOne (x : Nat) (X : Nat → List Nat) (r : Nat) : Nat → List Nat := if r = x then X else updL X r (X r ++ [x])
def naWrite (n : Nat) (s : Na) (a : Acc) : Na := ⟨updL s.wt a.i (a.x : Int), updL ((s.X (n + a.i)).foldl (naOne a.x) s.X) (n + a.i) []⟩
def naStep (n : Nat) (s : Na) (a : Acc) : Na := if a.w = true then naWrite n (naArc s a) a else naRead n (naArc s a) a
def naF (n : Nat) (A : List Acc) : Na := A.foldl (naStep n) ⟨fun _ => -1, fun _ => []⟩
theorem naF_snoc (n : Nat) (A : List Acc) (a : Acc) : naF n (A ++ [a]) = naStep n (naF n A) a := by unfold naF; rw [List.foldl_append]; rfl

/-- What holds of the rows: every number is below n, the last writers too. -/
structure NaOk (n m : Nat) (s : Na) : Prop where
  wt : ∀ i, s.wt i < (n : Int)
  wl : ∀ i, -1 ≤ s.wt i
  X : ∀ i, ∀ x ∈ s.X i, x < n
theorem updL_mem {X : Nat → List Nat} {j x i : Nat} {P : Nat → Prop} (h : ∀ i, ∀ x ∈ X i, P x) (hx : P x) : ∀ i, ∀ y ∈ updL X j (X j ++ [x]) i, P y := by
  intro i y hy
  unfold updL at hy
  split at hy
  · rcases List.mem_append.1 hy with h1 | h1
    · exact h _ _ h1
    · simp at h1; subst h1; exact hx
  · exact h _ _ hy
theorem naArc_ok {n m : Nat} {s : Na} {a : Acc} (h : NaOk n m s) (hx : a.x < n) : NaOk n m (naArc s a) := by
  unfold naArc
  split
  · exact ⟨h.wt, h.wl, updL_mem (i := 0) h.X hx⟩
  · exact h
theorem naOne_mem {x : Nat} {X : Nat → List Nat} {r : Nat} {P : Nat → Prop} (h : ∀ i, ∀ x ∈ X i, P x) (hx : P x) : ∀ i, ∀ y ∈ naOne x X r i, P y := by
  unfold naOne
  split
  · exact h
  · exact updL_mem (i := 0) h hx
theorem naFold_mem {x : Nat} {P : Nat → Prop} (hx : P x) : ∀ (l : List Nat) (X : Nat → List Nat), (∀ i, ∀ x ∈ X i, P x) → ∀ i, ∀ y ∈ l.foldl (naOne x) X i, P y
  | [], X, h => h
  | r :: l, X, h => naFold_mem hx l _ (naOne_mem h hx)
theorem naStep_ok {n m : Nat} {s : Na} {a : Acc} (h : NaOk n m s) (hx : a.x < n) : NaOk n m (naStep n s a) := by
  have h1 := naArc_ok h hx
  unfold naStep
  split
  · unfold naWrite
    refine ⟨fun i => ?_, fun i => ?_, fun i y hy => ?_⟩
    · dsimp only; unfold updL; split
      · omega
      · exact h1.wt i
    · dsimp only; unfold updL; split
      · omega
      · exact h1.wl i
    · dsimp only at hy
      unfold updL at hy
      split at hy
      · simp at hy
      · exact naFold_mem (P := fun y => y < n) hx _ _ h1.X i y hy
  · unfold naRead
    split
    · exact h1
    · exact ⟨h1.wt, h1.wl, updL_mem (i := 0) h1.X hx⟩
theorem naF_ok (n m : Nat) (A : List Acc) (h : ∀ a ∈ A, a.x < n) : NaOk n m (naF n A) := by
  suffices ∀ (A : List Acc) (s : Na), NaOk n m s → (∀ a ∈ A, a.x < n) → NaOk n m (A.foldl (naStep n) s) from this A _ ⟨fun _ => by simp; omega, fun _ => by simp, fun _ _ h => by simp at h⟩ h
  intro A
  induction A with
  | nil => intro s h _; exact h
  | cons a A ih => intro s h hA; exact ih _ (naStep_ok h (hA a List.mem_cons_self)) (fun b hb => hA b (List.mem_cons_of_mem _ hb))
/-- The rows' lengths. -/
def naB (A : List Acc) : Nat := 0

/-! ### How it stands in memory -/
def itF (n : Nat) (v : Nat → Value) (wt : Nat → Int) : Nat → Value := fun j => if j % 2 = 0 then .int .i64 (wt (j / 2)) else v (n + j / 2)
structure NaSt (w wr : World) (n m : Nat) (v : Nat → Value) (s : Na) : Prop where
  it : Fix wr w.heap.size 113 (m * 2) (itF n v s.wt)
  sc : Fix wr (w.heap.size + 1) 54 n v
  fam : FamI wr (w.heap.size + 2) 3 1 (n + m) v s.X
  bel : Below w.heap.size w wr
section
variable {w wr : World} {n m : Nat} {v : Nat → Value} {s : Na}
theorem NaSt.lt (h : NaSt w wr n m v s) : w.heap.size + 1 < wr.heap.size := h.sc.lt
theorem NaSt.alloc (h : NaSt w wr n m v s) (o : Obj) : NaSt w (wr.alloc o) n m v s := ⟨h.it.alloc o, h.sc.alloc o, h.fam.alloc o, h.bel.alloc (by have := h.lt; omega) o⟩
theorem NaSt.wt (h : NaSt w wr n m v s) {k : Nat} (hk : k < m) : wr.cell? ⟨w.heap.size, k * 2, none⟩ = some (.int .i64 (s.wt k)) := by
  rw [h.it.cell (by omega)]; unfold itF; rw [if_pos (by omega), show k * 2 / 2 = k by omega]
theorem NaSt.rd (h : NaSt w wr n m v s) {k : Nat} (hk : k < m) : wr.cell? ⟨w.heap.size, k * 2 + 1, none⟩ = some (v (n + k)) := by
  rw [h.it.cell (by omega)]; unfold itF; rw [if_neg (by omega), show (k * 2 + 1) / 2 = k by omega]
theorem NaSt.su (h : NaSt w wr n m v s) {k : Nat} (hk : k < n) : wr.cell? ⟨w.heap.size + 1, k, none⟩ = some (v k) := h.sc.cell hk
theorem NaSt.ne (h : NaSt w wr n m v s) {i : Nat} (hi : i < n + m) {b : Nat} (hb : b < w.heap.size + 2) : some b ≠ (v i).ownBlock := fun e => by have := own_ge (h.fam.own i hi) e.symm; omega
/-- A row has grown; the arcs'. -/
theorem NaSt.appS (h : NaSt w wr n m v s) {i : Nat} (hi : i < n) {wE : World} {v' : Value} {x : Nat} (ho : wE.ownsRow (w.heap.size + 2) 3 1 v' ((s.X i).length + 1) (rowI (s.X i) ++ [.int .i64 (x : Int)])) (hg : wr.grownBy wE (v i).ownBlock) (hn : ∀ g, v'.ownBlock = some g → (v i).ownBlock = some g ∨ wr.heap.size ≤ g) :
    wE.cell? ⟨w.heap.size + 1, i, none⟩ = some (v i) ∧ wE.frozen? ⟨w.heap.size + 1, i, none⟩ = false ∧ Hid (NaSt w (wE.setCell ⟨w.heap.size + 1, i, none⟩ v') n m (updL v i v') { s with X := updL s.X i (s.X i ++ [x]) }) := by
  have hlt := h.lt
  have it1 := h.it.grown hg (h.ne (i := i) (by omega) (by omega))
  have sc1 := h.sc.grown hg (h.ne (i := i) (by omega) (by omega))
  refine ⟨sc1.cell hi, sc1.free i, hid ⟨(it1.other _ _ (by omega) _).congr fun j hj => ?_, (sc1.set hi v').congr fun j hj => rfl, ?_, (h.bel.grown hg (by omega) fun k hk => ?_).setCell (p := ⟨w.heap.size + 1, i, none⟩) (by simp) _⟩⟩
  · unfold itF; split
    · rfl
    · rw [updL_other _ (by omega)]
  · refine (h.fam.turn (l := s.X i ++ [x]) (by omega) ?_ hg hn).setCell (by omega) _ _
    rw [List.length_append, rowI_snoc]; exact ho
  · have := own_ge (h.fam.own i (by omega)) hk; omega
/-- The same, the readers'. -/
theorem NaSt.appR (h : NaSt w wr n m v s) {k : Nat} (hk : k < m) {wE : World} {v' : Value} {x : Nat} (ho : wE.ownsRow (w.heap.size + 2) 3 1 v' ((s.X (n + k)).length + 1) (rowI (s.X (n + k)) ++ [.int .i64 (x : Int)])) (hg : wr.grownBy wE (v (n + k)).ownBlock) (hn : ∀ g, v'.ownBlock = some g → (v (n + k)).ownBlock = some g ∨ wr.heap.size ≤ g) :
    wE.cell? ⟨w.heap.size, k * 2 + 1, none⟩ = some (v (n + k)) ∧ wE.frozen? ⟨w.heap.size, k * 2 + 1, none⟩ = false ∧ Hid (NaSt w (wE.setCell ⟨w.heap.size, k * 2 + 1, none⟩ v') n m (updL v (n + k) v') { s with X := updL s.X (n + k) (s.X (n + k) ++ [x]) }) := by
  have hlt := h.lt
  have it1 := h.it.grown hg (h.ne (i := n + k) (by omega) (by omega))
  have sc1 := h.sc.grown hg (h.ne (i := n + k) (by omega) (by omega))
  refine ⟨?_, it1.free _, hid ⟨(it1.set (j := k * 2 + 1) (by omega) v').congr fun j hj => ?_, (sc1.other _ _ (by omega) _).congr fun j hj => (updL_other _ (by omega) _).symm, ?_, (h.bel.grown hg (by omega) fun k hk => ?_).setCell (p := ⟨w.heap.size, k * 2 + 1, none⟩) (by simp) _⟩⟩
  · rw [it1.cell (by omega)]; unfold itF; rw [if_neg (by omega), show (k * 2 + 1) / 2 = k by omega]
  · unfold upd itF
    by_cases e : j = k * 2 + 1
    · subst e
      rw [if_pos rfl, if_neg (by omega), show (k * 2 + 1) / 2 = k by omega, updL_same]
    · rw [if_neg e]
      split
      · rfl
      · rw [updL_other _ (by omega)]
  · refine (h.fam.turn (l := s.X (n + k) ++ [x]) (by omega) ?_ hg hn).setCell (by omega) _ _
    rw [List.length_append, rowI_snoc]; exact ho
  · have := own_ge (h.fam.own _ (by omega)) hk; omega
/-- The writer is laid down, the readers forgotten. -/
theorem NaSt.wrote (h : NaSt w wr n m v s) {k : Nat} (hk : k < m) {a : Option Addr} {cap : Nat} (hv : v (n + k) = .slice a (s.X (n + k)).length cap) (x : Nat) :
    NaSt w ((wr.setCell ⟨w.heap.size, k * 2, none⟩ (.int .i64 (x : Int))).setCell ⟨w.heap.size, k * 2 + 1, none⟩ (.slice a 0 cap)) n m (updL v (n + k) (.slice a 0 cap)) ⟨updL s.wt k (x : Int), updL s.X (n + k) []⟩ := by
  have hlt := h.lt
  refine ⟨((h.it.set (j := k * 2) (by omega) _).set (j := k * 2 + 1) (by omega) _).congr fun j hj => ?_, ((h.sc.other _ _ (by omega) _).other _ _ (by omega) _).congr fun j hj => (updL_other _ (by omega) _).symm, ?_, (h.bel.setCell (p := ⟨w.heap.size, k * 2, none⟩) (by simp) _).setCell (p := ⟨w.heap.size, k * 2 + 1, none⟩) (by simp) _⟩
  · unfold upd itF
    by_cases e : j = k * 2 + 1
    · subst e
      rw [if_pos rfl, if_neg (by omega), show (k * 2 + 1) / 2 = k by omega, updL_same]
    · rw [if_neg e]
      by_cases e2 : j = k * 2
      · subst e2
        rw [if_pos rfl, if_pos (by omega), show k * 2 / 2 = k by omega]; simp [updL]
      · rw [if_neg e2]
        split
        · show _ = Value.int .i64 (updL s.wt k (x : Int) (j / 2)); rw [updL_other _ (by omega)]
        · rw [updL_other _ (by omega)]
  · have h0 : FamI wr (w.heap.size + 2) 3 1 (n + m) (updL v (n + k) (.slice a 0 cap)) (updL s.X (n + k) []) := by
      refine h.fam.turn (W' := wr) (by omega) ?_ ⟨rfl, rfl, rfl, Nat.le_refl _, fun _ _ _ => rfl⟩ fun g hg => .inl ?_
      · exact own_cut (h.fam.own _ (by omega)) hv
      · rw [hv]; revert hg; cases a <;> simp [Value.ownBlock]
    exact (h0.setCell (by omega) _ _).setCell (by omega) _ _
end

end Go.Proofs.YbulkbgasDoor

import Derived.Test.YbulkbgasDoorNa
import Derived.Deep.DeepCutAuto
import Derived.Deep.LoopGhost
import Derived.Deep.RegionHeld3
import Derived.Deep.DrawnRows
import Derived.Deep.RegionLaw
namespace Go.Proofs.YbulkbgasDoor
open Go.RowKit Go.Maps
set_option linter.unusedVariables false

theorem Ybad.E69 : ElemT 69 54 1 24 (.slice none 0 0) := ⟨Ybad.underlying69, by kernel_rfl, rfl, by decide, by decide⟩
theorem Ybad.E111 : ElemT 111 113 2 32 (.agg #[.int .i64 0, .slice none 0 0]) := ⟨Ybad.underlying111, by kernel_rfl, rfl, by decide, by decide⟩

/-- A box with a copy of an access. -/
structure Cp (w wr : World) (B : Nat) (c : Acc) : Prop where
  cp : wr.heap[B]? = some (.cells #[.int .i64 (c.x : Int), .int .i64 (c.i : Int), .int .i64 (c.p : Int), .bool c.w] 100 (0, 0))
  ge : w.heap.size + 1 < B
section
variable {w wr wr' : World} {B : Nat} {c : Acc}
theorem Cp.lt (h : Cp w wr B c) : B < wr.heap.size := (Array.getElem?_eq_some_iff.1 h.cp).1
theorem Cp.c0 (h : Cp w wr B c) : wr.cell? ⟨B, 0, none⟩ = some (.int .i64 (c.x : Int)) := by rw [cell_of_row _ _ _ _ _ _ h.cp]; rfl
theorem Cp.c1 (h : Cp w wr B c) : wr.cell? ⟨B, 1, none⟩ = some (.int .i64 (c.i : Int)) := by rw [cell_of_row _ _ _ _ _ _ h.cp]; rfl
theorem Cp.c2 (h : Cp w wr B c) : wr.cell? ⟨B, 2, none⟩ = some (.int .i64 (c.p : Int)) := by rw [cell_of_row _ _ _ _ _ _ h.cp]; rfl
theorem Cp.c3 (h : Cp w wr B c) : wr.cell? ⟨B, 3, none⟩ = some (.bool c.w) := by rw [cell_of_row _ _ _ _ _ _ h.cp]; rfl
theorem Cp.alloc (h : Cp w wr B c) (o : Obj) : Cp w (wr.alloc o) B c := ⟨(Below.heap_alloc _ _ _ h.lt).trans h.cp, h.ge⟩
theorem Cp.grown (h : Cp w wr B c) {row : Option Nat} (hg : wr.grownBy wr' row) (hne : row ≠ some B) : Cp w wr' B c := ⟨(hg.block B h.lt (fun e => hne e.symm)).trans h.cp, h.ge⟩
theorem Cp.setCell (h : Cp w wr B c) {b : Nat} (hb : b ≠ B) (j : Nat) (v : Value) : Cp w (wr.setCell ⟨b, j, none⟩ v) B c := h.grown (grownBy_setCell'' wr b j v) (by simpa using hb)
end

structure NaC (w wr : World) (n m : Nat) (v : Nat → Value) (s : Na) (B : Nat) (c : Acc) : Prop where
  st : NaSt w wr n m v s
  cp : Cp w wr B c
section
variable {w wr : World} {n m : Nat} {v : Nat → Value} {s : Na} {B : Nat} {c : Acc}
theorem NaC.alloc (h : NaC w wr n m v s B c) (o : Obj) : NaC w (wr.alloc o) n m v s B c := ⟨h.st.alloc o, h.cp.alloc o⟩
theorem NaC.heap {wr' : World} (h : NaC w wr n m v s B c) (e : wr'.heap = wr.heap) (hb : Below w.heap.size w wr') : NaC w wr' n m v s B c := by
  have hs : wr.grownBy wr' none → True := fun _ => trivial
  refine ⟨⟨?_, ?_, ?_, hb⟩, ⟨?_, h.cp.ge⟩⟩
  · unfold Fix; rw [e]; exact h.st.it
  · unfold Fix; rw [e]; exact h.st.sc
  · refine ⟨fun i hi => ?_, h.st.fam.sep⟩
    have := h.st.fam.own i hi
    unfold World.ownsRow at this ⊢
    rw [e]; exact this
  · rw [e]; exact h.cp.cp
theorem NaC.drewN (h : NaC w wr n m v s B c) (k : Nat) : NaC w (wr.drewN k) n m v s B c := h.heap rfl (below_drewN h.st.bel k)
theorem NaC.drew (h : NaC w wr n m v s B c) : NaC w wr.drew n m v s B c := h.heap rfl ⟨h.st.bel.os, h.st.bel.tape, h.st.bel.output, h.st.bel.size, h.st.bel.block⟩
theorem NaC.apart (h : NaC w wr n m v s B c) {i : Nat} (hi : i < n + m) : (v i).ownBlock ≠ some B := own_apart (h.st.fam.own i hi) h.cp.cp (by decide)
theorem NaC.appS (h : NaC w wr n m v s B c) {i : Nat} (hi : i < n) {wE : World} {g cap x : Nat} (ho : wE.ownsRow (w.heap.size + 2) 3 1 (.slice (some ⟨g, 0, none⟩) ((s.X i).length + 1) cap) ((s.X i).length + 1) (rowI (s.X i) ++ [.int .i64 (x : Int)])) (hg : wr.grownBy wE (v i).ownBlock) (hn : (v i).ownBlock = some g ∨ g = wr.heap.size) :
    wE.cell? ⟨w.heap.size + 1, i, none⟩ = some (v i) ∧ wE.frozen? ⟨w.heap.size + 1, i, none⟩ = false ∧ (∀ j, j < m → wE.cell? ⟨w.heap.size, j * 2, none⟩ = some (.int .i64 (s.wt j))) ∧ wE.cell? ⟨B, 0, none⟩ = some (.int .i64 (c.x : Int)) ∧ Hid (NaC w (wE.setCell ⟨w.heap.size + 1, i, none⟩ (.slice (some ⟨g, 0, none⟩) ((s.X i).length + 1) cap)) n m (updL v i (.slice (some ⟨g, 0, none⟩) ((s.X i).length + 1) cap)) { s with X := updL s.X i (s.X i ++ [x]) } B c) := by
  obtain ⟨h1, h2, h3⟩ := h.st.appS hi ho hg (fun g' e => by
    simp [Value.ownBlock] at e; subst e
    rcases hn with h | h
    · exact .inl h
    · exact .inr (by omega))
  refine ⟨h1, h2, fun j hj => ?_, (h.cp.grown hg (h.apart (by omega))).c0, hid ⟨h3.out, (h.cp.grown hg (h.apart (by omega))).setCell (by have := h.cp.ge; omega) _ _⟩⟩
  rw [(h.st.it.grown hg (h.st.ne (i := i) (by omega) (by omega))).cell (by omega)]; unfold itF; rw [if_pos (by omega), show j * 2 / 2 = j by omega]
theorem NaC.appR (h : NaC w wr n m v s B c) {k : Nat} (hk : k < m) {wE : World} {g cap x : Nat} (ho : wE.ownsRow (w.heap.size + 2) 3 1 (.slice (some ⟨g, 0, none⟩) ((s.X (n + k)).length + 1) cap) ((s.X (n + k)).length + 1) (rowI (s.X (n + k)) ++ [.int .i64 (x : Int)])) (hg : wr.grownBy wE (v (n + k)).ownBlock) (hn : (v (n + k)).ownBlock = some g ∨ g = wr.heap.size) :
    wE.cell? ⟨w.heap.size, k * 2 + 1, none⟩ = some (v (n + k)) ∧ wE.frozen? ⟨w.heap.size, k * 2 + 1, none⟩ = false ∧ wE.cell? ⟨B, 0, none⟩ = some (.int .i64 (c.x : Int)) ∧ Hid (NaC w (wE.setCell ⟨w.heap.size, k * 2 + 1, none⟩ (.slice (some ⟨g, 0, none⟩) ((s.X (n + k)).length + 1) cap)) n m (updL v (n + k) (.slice (some ⟨g, 0, none⟩) ((s.X (n + k)).length + 1) cap)) { s with X := updL s.X (n + k) (s.X (n + k) ++ [x]) } B c) := by
  obtain ⟨h1, h2, h3⟩ := h.st.appR hk ho hg (fun g' e => by
    simp [Value.ownBlock] at e; subst e
    rcases hn with h | h
    · exact .inl h
    · exact .inr (by omega))
  exact ⟨h1, h2, (h.cp.grown hg (h.apart (by omega))).c0, hid ⟨h3.out, (h.cp.grown hg (h.apart (by omega))).setCell (by have := h.cp.ge; omega) _ _⟩⟩
theorem NaC.wrote (h : NaC w wr n m v s B c) {k : Nat} (hk : k < m) {a : Option Addr} {cap : Nat} (hv : v (n + k) = .slice a (s.X (n + k)).length cap) (x : Nat) :
    NaC w ((wr.setCell ⟨w.heap.size, k * 2, none⟩ (.int .i64 (x : Int))).setCell ⟨w.heap.size, k * 2 + 1, none⟩ (.slice a 0 cap)) n m (updL v (n + k) (.slice a 0 cap)) ⟨updL s.wt k (x : Int), updL s.X (n + k) []⟩ B c :=
  ⟨h.st.wrote hk hv x, (h.cp.setCell (by have := h.cp.ge; omega) _ _).setCell (by have := h.cp.ge; omega) _ _⟩
end

/-- 'append(v, x)' of an int, at a step of a region that draws. -/
theorem apD {ops : Array Oper} {o : Oper} {a : Act} {w : World} {K : Act → World → Prop} {Q : Exit → Act → World → Prop} {E : Prop} (hgd : o.guard = none) (s x : Operand)
    (ho : o.op = .call { callee := .builtin .append, args := #[s, x], argTypes := #[54, 54] }) (base : Nat) (v : Value) (l : List Nat) (y : Int) (h0 H : Nat) (hs : a.eval s = v) (hx : a.eval x = .slice (some ⟨h0, 0, none⟩) 1 1)
    (hown : w.ownsRow base 3 1 v l.length (rowI l)) (hh : w.heap[h0]? = some (.cells #[.int .i64 y] 3 (0, 0))) (hn : l.length ≤ 100000) (hb : base ≤ w.heap.size) (hH : w.heap.size = H)
    (hK : ∀ g cap w', w'.ownsRow base 3 1 (.slice (some ⟨g, 0, none⟩) (l.length + 1) cap) (l.length + 1) (rowI l ++ [.int .i64 y]) → w.grownBy w' v.ownBlock → (v.ownBlock = some g ∨ g = H) → g < w'.heap.size → K (a.put o.dst (.slice (some ⟨g, 0, none⟩) (l.length + 1) cap)) w') :
    if Region.wanted o (yielded ops a.tmps) = true then Oper.wp Ybad.prog o a w K Q else E := by
  obtain ⟨ie, hie, hz, hsz, hb2⟩ := info_parts Ybad.E54.info
  exact step_append_lies w hgd s x 54 ho base 3 ie _ 1 8 Ybad.E54.und hie hz hsz hb2 Ybad.E54.zc Ybad.E54.pos v l.length (rowI l) hs hown ⟨h0, 0, none⟩ 1 1 [.int .i64 y] hx rfl (World.news_of_block (cs := #[.int .i64 y]) (t := 3) (fr := (0, 0)) hh) (by simp [Value.oneCell']) (by decide) (by unfold maxLen; omega) (by omega) hb H hH hK

end Go.Proofs.YbulkbgasDoor

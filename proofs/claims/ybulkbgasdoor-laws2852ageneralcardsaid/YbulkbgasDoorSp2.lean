import Derived.Test.YbulkbgasDoorSp
namespace Go.Proofs.YbulkbgasDoor
open Go.RowKit Go.Maps
set_option linter.unusedVariables false

abbrev a0 : Acc := ⟨0, 0, 0, false⟩
/-- The number of each access's span, the first q of them. -/
noncomputable def ofN (A : List Acc) (q : Nat) : Nat → Value := fun j => .int .i64 (if j < q then (ix (keysF A) (A.getD j a0).key : Int) else 0)

abbrev Z57 : Obj := .cells #[.slice none 0 0, .slice none 0 0, .map none] 57

/-- How it stands in accessSpans: the rows of spans are S, the map holds the keys K. -/
structure SpSt (w wr : World) (A : List Acc) (q m : Nat) (S : List Sp) (vl : Value) : Prop where
  res : wr.heap[w.heap.size]? = some Z57
  of : Fix wr (w.heap.size + 1) 3 A.length (ofN A q)
  mp : MapI F98 wr (w.heap.size + 2) m (S.map Sp.key).length (loc (S.map Sp.key))
  box : wr.heap[w.heap.size + 3]? = some (.cells #[vl, .slice (some ⟨w.heap.size + 1, 0, none⟩) A.length A.length, .map (some (w.heap.size + 2))] 57 (0, 0))
  own : wr.ownsRow (w.heap.size + 4) 102 5 vl S.length (rowS S)
  bel : Below w.heap.size w wr

section
variable {w wr : World} {A : List Acc} {q m : Nat} {S : List Sp} {vl : Value}
theorem SpSt.lt (h : SpSt w wr A q m S vl) : w.heap.size + 3 < wr.heap.size := (Array.getElem?_eq_some_iff.1 h.box).1
theorem SpSt.b0 (h : SpSt w wr A q m S vl) : wr.cell? ⟨w.heap.size + 3, 0, none⟩ = some vl := by rw [cell_of_row _ _ _ _ _ _ h.box]; rfl
theorem SpSt.b1 (h : SpSt w wr A q m S vl) : wr.cell? ⟨w.heap.size + 3, 1, none⟩ = some (.slice (some ⟨w.heap.size + 1, 0, none⟩) A.length A.length) := by rw [cell_of_row _ _ _ _ _ _ h.box]; rfl
theorem SpSt.b2 (h : SpSt w wr A q m S vl) : wr.cell? ⟨w.heap.size + 3, 2, none⟩ = some (.map (some (w.heap.size + 2))) := by rw [cell_of_row _ _ _ _ _ _ h.box]; rfl
theorem SpSt.fr (h : SpSt w wr A q m S vl) (j : Nat) : wr.frozen? ⟨w.heap.size + 3, j, none⟩ = false := frozen_of_row _ _ _ _ _ h.box
theorem SpSt.alloc (h : SpSt w wr A q m S vl) (o : Obj) : SpSt w (wr.alloc o) A q m S vl := by
  have hlt := h.lt
  exact ⟨(Below.heap_alloc _ _ _ (by omega)).trans h.res, h.of.alloc o, MapF.alloc h.mp o, (Below.heap_alloc _ _ _ (by omega)).trans h.box, h.own.alloc o, h.bel.alloc (by omega) o⟩
/-- A turn of a block that is one's own row. -/
theorem SpSt.ne (h : SpSt w wr A q m S vl) {g : Nat} (hg : vl.ownBlock = some g) : w.heap.size + 4 ≤ g := own_ge h.own hg

/-- The cells of the span at k. -/
theorem SpSt.at {g cap : Nat} (h : SpSt w wr A q m S (.slice (some ⟨g, 0, none⟩) S.length cap)) {k : Nat} (hk : k < S.length) :
    wr.cell? ⟨g, k * 5 + 3, none⟩ = some (.int .i64 S[k].w) ∧ wr.frozen? ⟨g, k * 5 + 3, none⟩ = false ∧ wr.cell? ⟨g, k * 5 + 4, none⟩ = some (.int .i64 (S[k].la : Int)) ∧ wr.frozen? ⟨g, k * 5 + 4, none⟩ = false := by
  have hl := rowS_length S
  have e : ∀ j (hj : j < 5), (rowS S)[k * 5 + j]? = S[k].cells[j]? := fun j hj => by
    rw [← rowS_get S k hk, List.getElem?_take_of_lt hj, List.getElem?_drop]
  have h3 := own_cell h.own (j := k * 5 + 3) (by omega)
  have h4 := own_cell h.own (j := k * 5 + 4) (by omega)
  have e3 := e 3 (by decide)
  have e4 := e 4 (by decide)
  rw [List.getElem?_eq_getElem (by omega)] at e3 e4
  refine ⟨?_, h3.2, ?_, h4.2⟩
  · rw [h3.1, e3]; rfl
  · rw [h4.1, e4]; rfl

theorem SpSt.setS {g cap : Nat} (h : SpSt w wr A q m S (.slice (some ⟨g, 0, none⟩) S.length cap)) {k j : Nat} (hk : k < S.length) (hj : j < 5) (v : Value) (s' : Sp) (hs : s'.cells = S[k].cells.set j v) (hkey : s'.key = S[k].key) :
    SpSt w (wr.setCell ⟨g, k * 5 + j, none⟩ v) A q m (S.set k s') (.slice (some ⟨g, 0, none⟩) (S.set k s').length cap) := by
  rw [List.length_set]
  have hge : w.heap.size + 4 ≤ g := h.ne rfl
  have hl := rowS_length S
  have hmap : (S.set k s').map Sp.key = S.map Sp.key := by
    apply List.ext_getElem?
    intro i
    simp only [List.getElem?_map, List.getElem?_set]
    split
    · rename_i e
      subst e
      simp [hkey, List.getElem?_eq_getElem hk]
    · rfl
  refine ⟨?_, h.of.other _ _ (by omega) _, ?_, ?_, ?_, h.bel.setCell (p := ⟨g, k * 5 + j, none⟩) (by show _ ≤ g; omega) _⟩
  · rw [heap_setCell_other _ _ _ _ (by show _ ≠ g; omega)]; exact h.res
  · rw [hmap]; exact MapF.setCell h.mp (by show _ ≠ g; omega) _
  · rw [heap_setCell_other _ _ _ _ (by show _ ≠ g; omega)]; exact h.box
  · rw [List.length_set, ← rowS_set S k j hk hj v s' hs]
    exact own_setCell h.own (by omega) v

theorem SpSt.setOf (h : SpSt w wr A q m S vl) (hq : q < A.length) {k : Nat} (hk : ix (keysF A) A[q].key = k) : SpSt w (wr.setCell ⟨w.heap.size + 1, q, none⟩ (.int .i64 (k : Int))) A (q + 1) m S vl := by
  have hb1 := h.of
  refine ⟨?_, (h.of.set hq _).congr fun i hi => ?_, MapF.setCell h.mp (by show _ ≠ _; simp) _, ?_, h.own.kept (grownBy_setCell'' _ _ _ _) (.inr (own_apart h.own h.of (by decide))), h.bel.setCell (p := ⟨w.heap.size + 1, q, none⟩) (by show _ ≤ _; simp) _⟩
  · rw [heap_setCell_other _ _ _ _ (by show _ ≠ _; simp)]; exact h.res
  · unfold upd ofN
    by_cases e : i = q
    · subst e
      rw [if_pos rfl, if_pos (by omega)]
      have : A.getD i a0 = A[i] := by simp [List.getD_eq_getElem?_getD, List.getElem?_eq_getElem hq]
      rw [this, hk]
    · rw [if_neg e]
      by_cases h1 : i < q
      · rw [if_pos h1, if_pos (by omega)]
      · rw [if_neg h1, if_neg (by omega)]
  · rw [heap_setCell_other _ _ _ _ (by show _ ≠ _; simp)]; exact h.box
theorem SpSt.few (h : SpSt w wr A q m S vl) {m' : Nat} (hm : m ≤ m') : SpSt w wr A q m' S vl := ⟨h.res, h.of, MapF.few h.mp hm, h.box, h.own, h.bel⟩

theorem SpSt.own1 (h : SpSt w wr A q m S vl) {w1 : World} (hg1 : wr.grownBy w1 (some (w.heap.size + 2))) : w1.ownsRow (w.heap.size + 4) 102 5 vl S.length (rowS S) ∧ w.heap.size + 4 ≤ w1.heap.size ∧ w1.cell? ⟨w.heap.size + 3, 0, none⟩ = some vl := by
  have hlt := h.lt
  have hz1 := hg1.size
  obtain ⟨es, c, hmap⟩ := MapF.isMap h.mp
  have box1 : w1.heap[w.heap.size + 3]? = _ := (hg1.block _ (by omega) (by simp)).trans h.box
  exact ⟨h.own.kept hg1 (.inr (own_not_map h.own hmap).symm), by omega, by rw [cell_of_row _ _ _ _ _ _ box1]; rfl⟩

theorem SpSt.len {g n cap : Nat} (h : SpSt w wr A q m S (.slice (some ⟨g, 0, none⟩) n cap)) (hn : n = S.length) : SpSt w wr A q m S (.slice (some ⟨g, 0, none⟩) S.length cap) := by subst hn; exact h

/-- The copy of the access stays as it is. -/
theorem SpSt.copy (h : SpSt w wr A q m S vl) {B : Nat} {cs : Array Value} (hb : wr.heap[B]? = some (.cells cs 100 (0, 0))) (hB : w.heap.size + 3 < B) {w1 wE : World} {o : Obj} (hg1 : wr.grownBy w1 (some (w.heap.size + 2))) (hgE : (w1.alloc o).grownBy wE vl.ownBlock) (v' : Value) :
    w1.heap[B]? = some (.cells cs 100 (0, 0)) ∧ (wE.setCell ⟨w.heap.size + 3, 0, none⟩ v').heap[B]? = some (.cells cs 100 (0, 0)) := by
  have hl := (Array.getElem?_eq_some_iff.1 hb).1
  have h1 : w1.heap[B]? = some (.cells cs 100 (0, 0)) := (hg1.block B hl (fun e => by cases e; omega)).trans hb
  have hl1 := (Array.getElem?_eq_some_iff.1 h1).1
  have h2 : (w1.alloc o).heap[B]? = some (.cells cs 100 (0, 0)) := (Below.heap_alloc _ _ _ hl1).trans h1
  have hne : vl.ownBlock ≠ some B := own_apart ((h.own1 hg1).1.alloc o) h2 (by decide)
  have h3 : wE.heap[B]? = some (.cells cs 100 (0, 0)) := (hgE.block B (Array.getElem?_eq_some_iff.1 h2).1 (fun e => hne e.symm)).trans h2
  refine ⟨h1, ?_⟩
  rw [heap_setCell_other wE ⟨w.heap.size + 3, 0, none⟩ B v' (by show B ≠ w.heap.size + 3; omega)]
  exact h3

/-- The cells of the span that has just been laid down. -/
theorem SpSt.at_new {g cap : Nat} {sp : Sp} (h : SpSt w wr A q m (S ++ [sp]) (.slice (some ⟨g, 0, none⟩) (S ++ [sp]).length cap)) :
    wr.cell? ⟨g, S.length * 5 + 3, none⟩ = some (.int .i64 sp.w) ∧ wr.frozen? ⟨g, S.length * 5 + 3, none⟩ = false ∧ wr.cell? ⟨g, S.length * 5 + 4, none⟩ = some (.int .i64 (sp.la : Int)) ∧ wr.frozen? ⟨g, S.length * 5 + 4, none⟩ = false := by
  have := h.at (k := S.length) (by simp)
  simpa using this

/-- A new span is laid down. -/
theorem SpSt.grow (h : SpSt w wr A q m S vl) {key : Nat × Nat} (hnew : key ∉ S.map Sp.key) {w1 wE : World} {o : Obj} {sp : Sp} (hsp : sp.key = key) {v' : Value}
    (h1 : MapI F98 w1 (w.heap.size + 2) (m + 1) ((S.map Sp.key).length + 1) (fun j => if j = key then some (S.length : Int) else loc (S.map Sp.key) j)) (hg1 : wr.grownBy w1 (some (w.heap.size + 2)))
    (hE : wE.ownsRow (w.heap.size + 4) 102 5 v' (S.length + 1) (rowS S ++ sp.cells)) (hgE : (w1.alloc o).grownBy wE vl.ownBlock) :
    wE.cell? ⟨w.heap.size + 3, 0, none⟩ = some vl ∧ wE.frozen? ⟨w.heap.size + 3, 0, none⟩ = false ∧ Hid (SpSt w (wE.setCell ⟨w.heap.size + 3, 0, none⟩ v') A q (m + 1) (S ++ [sp]) v') := by
  have hlt := h.lt
  rw [loc_put hnew (by simp)] at h1
  obtain ⟨es, c, hmap⟩ := MapF.isMap h.mp
  have own1 : w1.ownsRow (w.heap.size + 4) 102 5 vl S.length (rowS S) := h.own.kept hg1 (.inr (own_not_map h.own hmap).symm)
  have ownD := own1.alloc o
  have hz1 := hg1.size
  have box1 : (w1.alloc o).heap[w.heap.size + 3]? = _ := (Below.heap_alloc _ _ _ (by omega)).trans ((hg1.block _ (by omega) (by simp)).trans h.box)
  have res1 : (w1.alloc o).heap[w.heap.size]? = _ := (Below.heap_alloc _ _ _ (by omega)).trans ((hg1.block _ (by omega) (by simp)).trans h.res)
  have of1 : Fix (w1.alloc o) (w.heap.size + 1) 3 A.length (ofN A q) := (h.of.grown hg1 (by simp)).alloc o
  have hne : ∀ k, k < w.heap.size + 4 → some k ≠ vl.ownBlock := fun k hk e => by have := own_ge ownD e.symm; omega
  have boxE := (hgE.block _ (by simp; omega) (hne _ (by omega))).trans box1
  have hz2 := hgE.size
  simp only [World.size_alloc] at hz2
  refine ⟨by rw [cell_of_row _ _ _ _ _ _ boxE]; rfl, frozen_of_row _ _ _ _ _ boxE, hid ⟨?_, ?_, ?_, ?_, ?_, ?_⟩⟩
  · rw [heap_setCell_other _ _ _ _ (by show _ ≠ _; simp)]; exact (hgE.block _ (by simp; omega) (hne _ (by omega))).trans res1
  · exact (of1.grown hgE (hne _ (by omega))).other _ _ (by simp) _
  · have hk : (S ++ [sp]).map Sp.key = S.map Sp.key ++ [key] := by simp [hsp]
    rw [hk, List.length_append]
    exact MapF.setCell (MapF.kept (MapF.alloc h1 o) hgE (hne _ (by omega))) (by show _ ≠ _; simp) _
  · rw [heap_setCell_same _ _ _ _ _ _ boxE]; simp
  · rw [List.length_append, rowS_append]
    have := ownsRow_setCell_below hE (a := ⟨w.heap.size + 3, 0, none⟩) (by show _ < _; simp) v'
    simpa [rowS] using this
  · exact (((h.bel.grown hg1 (by omega) (fun j ej => by cases ej; omega)).alloc (by omega) _).grown hgE (by simp; omega) (fun j ej => by have := own_ge ownD ej; omega)).setCell (p := ⟨w.heap.size + 3, 0, none⟩) (by show _ ≤ _; simp) _
end

end Go.Proofs.YbulkbgasDoor

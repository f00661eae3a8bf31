import Derived.Test.YbulkbgasDoorNa2
namespace Go.Proofs.YbulkbgasDoor
open Go.RowKit Go.Maps
set_option linter.unusedVariables false
attribute [local go_sem ↓] Go.wp_at_zero Go.wp_at_succ

/-! ### How the methods of a *lowestFirst are reached -/
theorem wrapNil (ats : Array TypeId) (t : TypeId) (a : Addr) (x n : String) : Builtin.ssaWrapNilChk_ ats t #[.pointer (some a), strVal x, strVal n] = pure (.pointer (some a)) := rfl
theorem info118 : Ybad.prog.info? 118 = some (Ybad.prog.info? 118).get! := by kernel_rfl
theorem find118 (name : String) (f : Nat) (pt : Bool) (h : ((Ybad.prog.info? 118).get!.methods.find? (·.name == name)).map (fun m => (m.path, m.func)) = some (#[], some (f, pt))) (w : World) (b : Nat) (v : Value) (hc : w.cell? ⟨b, 0, none⟩ = some v) :
    (method 304 118 (.pointer (some ⟨b, 0, none⟩)) name).run Ybad.prog w = .ok (f, if pt = true then .pointer (some ⟨b, 0, none⟩) else v) w := by
  obtain ⟨m, hm, he⟩ := Option.map_eq_some_iff.1 h
  simp only [Prod.mk.injEq] at he
  obtain ⟨hp, hf⟩ := he
  show (method (303 + 1) 118 _ name).run Ybad.prog w = _
  unfold method
  have h1 : Sem.run Ybad.prog (typeInfo 118) w = .ok (Ybad.prog.info? 118).get! w := by
    unfold typeInfo
    have : (Ybad.prog.info? 118) = some (Ybad.prog.info? 118).get! := info118
    generalize hx : Ybad.prog.info? 118 = x at this ⊢
    simp [hx]
    rw [this]; rfl
  simp [h1, hm, hp, hf, follow, receiverAt]
  cases pt
  · simp [Place.get, wrapNil, asAddr, loadVar, isAgg]
    simp [hc]
  · simp [Place.get]
section
variable {w : World} {b : Nat} {v : Value}
theorem m_len (hc : w.cell? ⟨b, 0, none⟩ = some v) : Sem.run Ybad.prog (method 304 118 (.pointer (some ⟨b, 0, none⟩)) "Len") w = .ok (39, v) w := find118 "Len" 39 false (by kernel_rfl) w b v hc
theorem m_less (hc : w.cell? ⟨b, 0, none⟩ = some v) : Sem.run Ybad.prog (method 304 118 (.pointer (some ⟨b, 0, none⟩)) "Less") w = .ok (112, v) w := find118 "Less" 112 false (by kernel_rfl) w b v hc
theorem m_swap (hc : w.cell? ⟨b, 0, none⟩ = some v) : Sem.run Ybad.prog (method 304 118 (.pointer (some ⟨b, 0, none⟩)) "Swap") w = .ok (113, v) w := find118 "Swap" 113 false (by kernel_rfl) w b v hc
theorem m_pop (hc : w.cell? ⟨b, 0, none⟩ = some v) : Sem.run Ybad.prog (method 304 118 (.pointer (some ⟨b, 0, none⟩)) "Pop") w = .ok (114, .pointer (some ⟨b, 0, none⟩)) w := find118 "Pop" 114 true (by kernel_rfl) w b v hc
theorem m_push (hc : w.cell? ⟨b, 0, none⟩ = some v) : Sem.run Ybad.prog (method 304 118 (.pointer (some ⟨b, 0, none⟩)) "Push") w = .ok (115, .pointer (some ⟨b, 0, none⟩)) w := find118 "Push" 115 true (by kernel_rfl) w b v hc
end

/-! ### The heap in memory: a box with a row of ints -/
structure HpK (b : Nat) (v : Value) (w w' : World) : Prop where
  os : w'.os = w.os
  tape : w'.tape = w.tape
  output : w'.output = w.output
  size : w.heap.size ≤ w'.heap.size
  block : ∀ g, g < w.heap.size → g ≠ b → v.ownBlock ≠ some g → w'.heap[g]? = w.heap[g]?
structure Hp (w : World) (b base : Nat) (l : List Nat) (v : Value) : Prop where
  box : w.heap[b]? = some (.cells #[v] 115 (0, 0))
  own : w.ownsRow base 3 1 v l.length (rowI l)
structure HpTo (b base : Nat) (w : World) (v : Value) (w' : World) (l' : List Nat) (v' : Value) : Prop where
  hp : Hp w' b base l' v'
  kept : HpK b v w w'
  new : ∀ g, v'.ownBlock = some g → v.ownBlock = some g ∨ w.heap.size ≤ g
section
variable {b base : Nat} {w w1 w2 : World} {v v1 v2 : Value} {l l1 l2 : List Nat}
theorem Hp.cell (h : Hp w b base l v) : w.cell? ⟨b, 0, none⟩ = some v := by rw [cell_of_row _ _ _ _ _ _ h.box]; rfl
theorem Hp.free (h : Hp w b base l v) : w.frozen? ⟨b, 0, none⟩ = false := frozen_of_row _ _ _ _ _ h.box
theorem Hp.lt (h : Hp w b base l v) : b < w.heap.size := (Array.getElem?_eq_some_iff.1 h.box).1
theorem Hp.ne (h : Hp w b base l v) : v.ownBlock ≠ some b := own_apart h.own h.box (by decide)
theorem HpK.refl (b : Nat) (v : Value) (w : World) : HpK b v w w := ⟨rfl, rfl, rfl, Nat.le_refl _, fun _ _ _ _ => rfl⟩
theorem HpTo.refl (h : Hp w b base l v) : HpTo b base w v w l v := ⟨h, HpK.refl b v w, fun g hg => .inl hg⟩
theorem HpTo.trans (h : HpTo b base w v w1 l1 v1) (k : HpTo b base w1 v1 w2 l2 v2) : HpTo b base w v w2 l2 v2 := by
  refine ⟨k.hp, ⟨k.kept.os.trans h.kept.os, k.kept.tape.trans h.kept.tape, k.kept.output.trans h.kept.output, Nat.le_trans h.kept.size k.kept.size, fun g hg hb hv => ?_⟩, fun g hg => ?_⟩
  · refine (k.kept.block g (Nat.lt_of_lt_of_le hg h.kept.size) hb (fun e => ?_)).trans (h.kept.block g hg hb hv)
    rcases h.new g e with h1 | h1
    · exact hv h1
    · omega
  · have := h.kept.size
    rcases k.new g hg with h1 | h1
    · exact h.new g h1
    · exact .inr (by omega)
theorem HpTo.heap (h : HpTo b base w v w1 l1 v1) {w' : World} (e : w'.heap = w1.heap) (e1 : w'.os = w1.os) (e2 : w'.tape = w1.tape) (e3 : w'.output = w1.output) : HpTo b base w v w' l1 v1 := by
  refine ⟨⟨by rw [e]; exact h.hp.box, ?_⟩, ⟨e1.trans h.kept.os, e2.trans h.kept.tape, e3.trans h.kept.output, by rw [e]; exact h.kept.size, fun g hg hb hv => by rw [e]; exact h.kept.block g hg hb hv⟩, h.new⟩
  have := h.hp.own
  unfold World.ownsRow at this ⊢
  rw [e]; exact this
theorem HpTo.drewN (h : HpTo b base w v w1 l1 v1) (k : Nat) : HpTo b base w v (w1.drewN k) l1 v1 := h.heap rfl rfl rfl rfl
theorem HpTo.drew (h : HpTo b base w v w1 l1 v1) : HpTo b base w v w1.drew l1 v1 := h.heap rfl rfl rfl rfl
theorem HpTo.alloc (h : HpTo b base w v w1 l1 v1) (o : Obj) : HpTo b base w v (w1.alloc o) l1 v1 := by
  have hs := h.kept.size
  refine ⟨⟨(Below.heap_alloc _ _ _ h.hp.lt).trans h.hp.box, h.hp.own.alloc o⟩, ⟨h.kept.os, h.kept.tape, h.kept.output, by simp; omega, fun g hg hb hv => (Below.heap_alloc _ _ _ (by omega)).trans (h.kept.block g hg hb hv)⟩, h.new⟩
theorem HpTo.own2 (h : HpTo b base w v w1 l1 v1) {row : Option Nat} (hg : w1.grownBy w2 row) (hr : row = v1.ownBlock) (ho : w2.ownsRow base 3 1 v2 l2.length (rowI l2)) (hn : ∀ g, v2.ownBlock = some g → v1.ownBlock = some g ∨ w1.heap.size ≤ g) : w2.heap[b]? = some (.cells #[v1] 115 (0, 0)) ∧ HpTo b base w v (w2.setCell ⟨b, 0, none⟩ v2) l2 v2 := by
  subst hr
  have hb := h.hp.ne
  have hlt := h.hp.lt
  have e1 : w2.heap[b]? = some (.cells #[v1] 115 (0, 0)) := (hg.block b hlt (fun e => hb e.symm)).trans h.hp.box
  refine ⟨e1, ⟨⟨?_, ?_⟩, ⟨hg.os.trans h.kept.os, hg.tape.trans h.kept.tape, hg.output.trans h.kept.output, by have := hg.size; have := h.kept.size; simp; omega, fun g hg1 hgb hgv => ?_⟩, fun g hgg => ?_⟩⟩
  · rw [heap_setCell_same _ _ _ _ _ _ e1]; rfl
  · refine ho.kept (grownBy_setCell'' w2 b 0 v2) ?_
    cases e : v2.ownBlock with
    | none => exact .inl rfl
    | some g =>
      refine .inr fun e' => ?_
      obtain rfl : g = b := by simpa using e'
      rcases hn g e with h1 | h1
      · exact hb h1
      · omega
  · rw [heap_setCell_other _ _ _ _ hgb]
    refine (hg.block g (Nat.lt_of_lt_of_le hg1 h.kept.size) (fun e => ?_)).trans (h.kept.block g hg1 hgb hgv)
    rcases h.new g e.symm with h1 | h1
    · exact hgv h1
    · omega
  · have := h.kept.size
    rcases hn g hgg with h1 | h1
    · exact h.new g h1
    · exact .inr (by omega)
/-- Cells of the row turn. -/
theorem HpTo.put {g n cap : Nat} (h : HpTo b base w v w1 l1 (.slice (some ⟨g, 0, none⟩) n cap)) {j : Nat} (hj : j < l1.length) (y : Nat) : HpTo b base w v (w1.setCell ⟨g, j, none⟩ (.int .i64 (y : Int))) (l1.set j y) (.slice (some ⟨g, 0, none⟩) n cap) := by
  have hb := h.hp.ne
  have hbg : b ≠ g := fun e => hb (by rw [e]; rfl)
  have ho := h.hp.own
  have hnl : n = l1.length := by
    rcases ho.2 with ⟨h1, _⟩ | ⟨g', cap', cur, h1, _⟩
    · cases h1
    · cases h1; rfl
  subst hnl
  have hs := own_setCell ho (j := j) (by rw [rowI_length]; exact hj) (.int .i64 (y : Int))
  have e : (rowI l1).set j (.int .i64 (y : Int)) = rowI (l1.set j y) := by unfold rowI; rw [List.map_set]
  rw [e] at hs
  refine ⟨⟨?_, by rw [List.length_set]; exact hs⟩, ⟨h.kept.os, h.kept.tape, h.kept.output, by have := h.kept.size; simpa using this, fun g' hg1 hgb hgv => ?_⟩, h.new⟩
  · rw [heap_setCell_other _ _ _ _ hbg]; exact h.hp.box
  · have hne : g' ≠ g := fun e => by
      subst e
      rcases h.new g' rfl with h1 | h1
      · exact hgv h1
      · omega
    rw [heap_setCell_other _ _ _ _ hne]; exact h.kept.block g' hg1 hgb hgv
end
end Go.Proofs.YbulkbgasDoor

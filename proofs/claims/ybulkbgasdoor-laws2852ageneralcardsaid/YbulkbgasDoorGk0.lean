import Derived.Test.YbulkbgasDoorAl2
import Derived.Test.YbulkbgasDoorLg9
import Derived.Test.YbulkbgasDoorCk9
namespace Go.Proofs.YbulkbgasDoor
open Go.RowKit Go.Maps
set_option linter.unusedVariables false

/-! ### Two may come up -/
section
variable {P : Program} {ops : Array Oper} {Q : Exit → Act → World → Prop} {md : Region.Mode} {S : World → Prop} {z : Nat}
theorem wpAnyL_two {i j : Nat} {oi oj : Oper} {f : Nat} {listed : Array Bool} {a : Act} {w : World} (hr : Region.ready md ops listed = [i, j]) (hoi : ops[i]? = some oi) (hoj : ops[j]? = some oj)
    (h1 : ∀ K' : Act → World → Prop, Hid (∀ a w, (i ≠ z → S w) → wpAnyL P md ops Q S z f (listed.setIfInBounds i true) a w → K' a w) → if Region.wanted oi (yielded ops a.tmps) = true then Oper.wp P oi a w K' Q else K' (a.put oi.dst undef) w)
    (h2 : ∀ K' : Act → World → Prop, Hid (∀ a w, (j ≠ z → S w) → wpAnyL P md ops Q S z f (listed.setIfInBounds j true) a w → K' a w) → if Region.wanted oj (yielded ops a.tmps) = true then Oper.wp P oj a w K' Q else K' (a.put oj.dst undef) w) : wpAnyL P md ops Q S z (f + 1) listed a w := by
  refine ⟨fun h0 => (by rw [hr] at h0; cases h0), fun k hk => ?_⟩
  rw [hr] at hk
  rcases List.mem_cons.1 hk with e | e
  · subst e
    exact wpOp_step hoi fun K' hK => h1 K' (hid fun a w h1 h2 => hK a w ⟨h1, h2⟩)
  · rw [List.mem_singleton] at e
    subst e
    exact wpOp_step hoj fun K' hK => h2 K' (hid fun a w h1 h2 => hK a w ⟨h1, h2⟩)
end

/-! ### Steps of a region that draws -/
section
variable {ops : Array Oper} {o : Oper} {a : Act} {w : World} {K : Act → World → Prop} {Q : Exit → Act → World → Prop} {E : Prop}
theorem stD28 (hgd : o.guard = none) (x y : Operand) (ho : o.op = .store 28 x y) (g : Nat) (old cells : Array Value) (hx : a.eval x = .pointer (some ⟨g, 0, none⟩)) (hy : a.eval y = .agg cells) (hg : w.heap[g]? = some (.cells old 28 (0, 0))) (hs : old.size = 3) (hc : cells.size = 3) (h1 : cells.all (·.oneCell') = true) (h : K (a.put o.dst undef) (w.setRow g cells)) :
    if Region.wanted o (yielded ops a.tmps) = true then Oper.wp Ybad.prog o a w K Q else E := by
  have hw : Region.wanted o (yielded ops a.tmps) = true := by simp [Region.wanted, hgd]
  rw [if_pos hw]
  exact wp_store_row 28 x y ho g cells hx hy 28 old hg (by rw [hc]; exact Ybad.size28) (by omega) h1 h
theorem fill67_2 (x y x' y' : Ac) : Instr.fill (fun i => some (i * 8, 8)) ((Array.range (2 * 8)).map ((#[.int .i64 0, .int .i64 0, .string ⟨#[]⟩, .int .i64 0, .string ⟨#[]⟩, .string ⟨#[]⟩, .int .i64 0, .string ⟨#[]⟩] : Array Value)[· % 8]!)) [(0, .agg (arcC x y).toArray), (1, .agg (arcC x' y').toArray)] = some (arcC x y ++ arcC x' y').toArray := by
  kernel_rfl
theorem fill67_1 (x y : Ac) : Instr.fill (fun i => some (i * 8, 8)) ((Array.range (1 * 8)).map ((#[.int .i64 0, .int .i64 0, .string ⟨#[]⟩, .int .i64 0, .string ⟨#[]⟩, .string ⟨#[]⟩, .int .i64 0, .string ⟨#[]⟩] : Array Value)[· % 8]!)) [(0, .agg (arcC x y).toArray)] = some (arcC x y).toArray := by
  kernel_rfl
theorem bsD26_2 (hgd : o.guard = none) (t u : Tmp) (ho : o.op = .buildSlice 26 2 #[(0, .tmp t), (1, .tmp u)]) (x y x' y' : Ac) (hx : a.eval (.tmp t) = .agg (arcC x y).toArray) (hy : a.eval (.tmp u) = .agg (arcC x' y').toArray)
    (h : K (a.put o.dst (.slice (some ⟨w.heap.size, 0, none⟩) 2 2)) (w.alloc (.cells (arcC x y ++ arcC x' y').toArray 67))) : if Region.wanted o (yielded ops a.tmps) = true then Oper.wp Ybad.prog o a w K Q else E := by
  have hw : Region.wanted o (yielded ops a.tmps) = true := by simp [Region.wanted, hgd]
  rw [if_pos hw]
  obtain ⟨ie, hie, hz, hs, hb⟩ := info_parts Ybad.E26.info
  refine wp_buildSlice 26 67 2 _ ho (arcC x y ++ arcC x' y').toArray ie _ Ybad.underlying26 hie hz (by rw [hs]; omega) (by rw [hs]; omega) ?_ h
  rw [hs]
  simp only [List.map_toArray, List.map_cons, List.map_nil, hx, hy]
  exact fill67_2 x y x' y'
theorem bsD26_1 (hgd : o.guard = none) (t : Tmp) (ho : o.op = .buildSlice 26 1 #[(0, .tmp t)]) (x y : Ac) (hx : a.eval (.tmp t) = .agg (arcC x y).toArray)
    (h : K (a.put o.dst (.slice (some ⟨w.heap.size, 0, none⟩) 1 1)) (w.alloc (.cells (arcC x y).toArray 67))) : if Region.wanted o (yielded ops a.tmps) = true then Oper.wp Ybad.prog o a w K Q else E := by
  have hw : Region.wanted o (yielded ops a.tmps) = true := by simp [Region.wanted, hgd]
  rw [if_pos hw]
  obtain ⟨ie, hie, hz, hs, hb⟩ := info_parts Ybad.E26.info
  refine wp_buildSlice 26 67 1 _ ho (arcC x y).toArray ie _ Ybad.underlying26 hie hz (by rw [hs]; omega) (by rw [hs]; omega) ?_ h
  rw [hs]
  simp only [List.map_toArray, List.map_cons, List.map_nil, hx]
  exact fill67_1 x y
end
section
variable {ops : Array Oper} {rest : List Oper} {Q : Exit → Act → World → Prop} {a : Act} {w : World} {tt : TypeId} {ps : String} {dst : Option Tmp} {aft : Array Edge}
theorem bs67 {t : Tmp} (x y : Ac) (hx : a.eval (.tmp t) = .agg (arcC x y).toArray)
    (h : wpList Ybad.prog ops Q rest (a.put dst (.slice (some ⟨w.heap.size, 0, none⟩) 1 1)) (w.alloc (.cells (arcC x y).toArray 67))) : wpList Ybad.prog ops Q ({ dst := dst, op := .buildSlice 26 1 #[(0, .tmp t)], type := tt, pos := ps, after := aft, guard := none } :: rest) a w := by
  obtain ⟨ie, hie, hz, hs, hb⟩ := info_parts Ybad.E26.info
  refine wpList_buildSlice rfl 26 67 1 _ rfl (arcC x y).toArray ie _ Ybad.underlying26 hie hz (by rw [hs]; omega) (by rw [hs]; omega) ?_ h
  rw [hs]
  simp only [List.map_toArray, List.map_cons, List.map_nil, hx]
  exact fill67_1 x y
theorem st28 {t u : Tmp} (g : Nat) (old cells : Array Value) (hx : a.eval (.tmp t) = .pointer (some ⟨g, 0, none⟩)) (hy : a.eval (.tmp u) = .agg cells) (hg : w.heap[g]? = some (.cells old 28 (0, 0))) (hs : old.size = 3) (hc : cells.size = 3) (h1 : cells.all (·.oneCell') = true)
    (h : wpList Ybad.prog ops Q rest (a.put dst undef) (w.setRow g cells)) : wpList Ybad.prog ops Q ({ dst := dst, op := .store 28 (.tmp t) (.tmp u), type := tt, pos := ps, after := aft, guard := none } :: rest) a w :=
  wpList_store_row rfl 28 (.tmp t) (.tmp u) rfl g cells hx hy 28 old hg (by rw [hc]; exact Ybad.size28) (by omega) h1 h
end

/-! ### What CheckLockability leaves, in general -/
/-- What the walk leans on, plainly. -/
structure GenP (l : List Ac) (A : List Acc) (tx : List Int) (nT : Nat) (FU FL : Nat → Int) (X : Nat → List Nat) : Prop where
  pt : ∀ c ∈ A, c.p < l.length ∧ (l.getD c.p ac0).t = tx.getD c.x 0
  it : ∀ a ∈ A, ∀ c ∈ A, a.i = c.i → (l.getD a.p ac0).it = (l.getD c.p ac0).it
  tx : ∀ i j, i < nT → j < nT → i ≠ j → tx.getD i 0 ≠ tx.getD j 0
  xl : ∀ c ∈ A, c.x < nT
  so : A.Pairwise (fun a b => a.p < b.p)
  fu : ∀ i, i < nT → 0 ≤ FU (i * 2 + 1) → ∃ a ∈ A, ∃ c ∈ A, FU (i * 2) = (a.p : Int) ∧ FU (i * 2 + 1) = (c.p : Int) ∧ a.x = i ∧ c.x ≠ i ∧ a.i = c.i
  fl : ∀ i, i < nT → 0 ≤ FL (i * 2) → ∃ c ∈ A, ∃ a ∈ A, FL (i * 2) = (c.p : Int) ∧ FL (i * 2 + 1) = (a.p : Int) ∧ a.x = i ∧ c.x ≠ i ∧ a.i = c.i
  ar : ∀ i, i < nT → ∀ j ∈ X i, j < nT ∧ Succ A i j
/-- The lock points, and the order of those that share one. -/
structure LkP (nT : Nat) (FU FL : Nat → Int) (X : Nat → List Nat) (L : Nat → Nat) (O : List Nat) : Prop where
  ol : O.length = nT
  nd : O.Nodup
  mem : ∀ j ∈ O, j < nT
  topo : Topo X nT O
  up : ∀ i, i < nT → ∀ j ∈ X i, L i ≤ L j
  fu : ∀ i, i < nT → 0 ≤ FU (i * 2 + 1) → (L i : Int) ≤ FU (i * 2 + 1)
  fl : ∀ i, i < nT → FL (i * 2) < (L i : Int)
def GOut (l : List Ac) (S : List Sp) (tx : List Int) (nT : Nat) (FU FL : Nat → Int) (X : Nat → List Nat) (wi : World) (vL vC : Value) (cy : Bool) : Prop :=
  (vC = .slice none 0 0 ∧ cy = false ∧ ∃ L O, LkP nT FU FL X L O ∧ LgOk l S nT L O ∧ SlA wi vL (gF l S tx (gbAll S L O) (gaAll S L O) (ptAll L O) (l.length + 1))) ∨
  (vL = .slice none 0 0 ∧ ∃ g k cap B A, vC = .slice (some ⟨g, 0, none⟩) k cap ∧ k ≤ 1000 ∧ Els wi 8 (some ⟨g, 0, none⟩) k (fun j => arcC (B j) (A j)) ∧ Linked k B A cy)
structure KeptB (wb wi : World) (B2 : Nat) : Prop where
  os : wi.os = wb.os
  tape : wi.tape = wb.tape
  output : wi.output = wb.output
  size : wb.heap.size ≤ wi.heap.size
  block : ∀ k, k < wb.heap.size → k ≠ B2 → wi.heap[k]? = wb.heap[k]?
def GRes (l : List Ac) (S : List Sp) (tx : List Int) (nT : Nat) (FU FL : Nat → Int) (X : Nat → List Nat) (wb wi : World) (B2 : Nat) : Prop :=
  ∃ vL vC cy, wi.heap[B2]? = some (.cells #[vL, vC, .bool cy] 28 (0, 0)) ∧ GOut l S tx nT FU FL X wi vL vC cy ∧ KeptB wb wi B2
theorem GRes.up {l : List Ac} {S : List Sp} {tx : List Int} {nT : Nat} {FU FL : Nat → Int} {X : Nat → List Nat} {wa wb wi : World} {B2 : Nat} (h : GRes l S tx nT FU FL X wb wi B2) (hb : Below wa.heap.size wa wb) : GRes l S tx nT FU FL X wa wi B2 := by
  obtain ⟨vL, vC, cy, h1, h2, h3⟩ := h
  exact ⟨vL, vC, cy, h1, h2, h3.os.trans hb.os, h3.tape.trans hb.tape, h3.output.trans hb.output, Nat.le_trans hb.size h3.size, fun k hk hne => (h3.block k (Nat.lt_of_lt_of_le hk hb.size) hne).trans (hb.block k hk)⟩
theorem KeptB.of_set {wb w : World} {B2 : Nat} (hb : Below wb.heap.size wb w) (cs : Array Value) : KeptB wb (w.setRow B2 cs) B2 :=
  ⟨hb.os, hb.tape, hb.output, by simpa using hb.size, fun k hk hne => (setRow_other w B2 k cs hne).trans (hb.block k hk)⟩
/-- A chain is laid. -/
theorem GRes.chain {l : List Ac} {S : List Sp} {tx : List Int} {nT : Nat} {FU FL : Nat → Int} {X : Nat → List Nat} {wb w : World} {B2 g k cap : Nat} {B A : Nat → Ac} {cy : Bool} {old : Array Value} (hb : Below wb.heap.size wb w) (h2 : w.heap[B2]? = some (.cells old 28 (0, 0))) (hg : g ≠ B2) (hgl : g < w.heap.size) (hk : k ≤ 1000) (hr : ∀ j, j < k → w.rangeAt g (j * 8) (arcC (B j) (A j))) (hl : Linked k B A cy) :
    GRes l S tx nT FU FL X wb (w.setRow B2 #[.slice none 0 0, .slice (some ⟨g, 0, none⟩) k cap, .bool cy]) B2 := by
  refine ⟨_, _, cy, setRow_heap w B2 old _ 28 (0, 0) h2, .inr ⟨rfl, g, k, cap, B, A, rfl, hk, fun j hj => ⟨g, 0, rfl, by simpa using hgl, fun m v hv => ?_⟩, hl⟩, KeptB.of_set hb _⟩
  rw [Nat.zero_add, cell_setRow_other w B2 _ _ (by show g ≠ B2; exact hg)]
  exact hr j hj m v hv
theorem rangeAt_two (w : World) (x y x' y' : Ac) (g : Nat) (hg : w.heap[g]? = some (.cells (arcC x y ++ arcC x' y').toArray 67 (0, 0))) : w.rangeAt g 0 (arcC x y) ∧ w.rangeAt g 8 (arcC x' y') := by
  constructor
  · intro j v hv
    have hj : j < 8 := (List.getElem?_eq_some_iff.1 hv).1
    rw [cell_of_row _ _ _ _ _ _ hg, Nat.zero_add]
    simp only [List.getElem?_toArray]
    rw [List.getElem?_append_left (by exact hj)]; exact hv
  · intro j v hv
    rw [cell_of_row _ _ _ _ _ _ hg]
    simp only [List.getElem?_toArray]
    rw [List.getElem?_append_right (by show 8 ≤ 8 + j; omega)]
    have e : 8 + j - (arcC x y).length = j := by show 8 + j - 8 = j; omega
    rw [e]; exact hv
end Go.Proofs.YbulkbgasDoor

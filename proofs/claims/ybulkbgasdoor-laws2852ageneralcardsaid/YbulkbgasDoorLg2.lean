import Derived.Test.YbulkbgasDoorLk4
import Derived.Test.YbulkbgasDoorLk5
namespace Go.Proofs.YbulkbgasDoor
open Go.RowKit Go.Maps
set_option linter.unusedVariables false

/-! ### lock, plainly, in general -/
def gb1 (at_ : Nat) (bf : Nat → ByteArray) (s : Sp) : Nat → ByteArray := if s.f < at_ then updL bf s.f (if s.w = (s.f : Int) then kWl else kRl) else bf
def gbOne (at_ : Nat) (bf : Nat → ByteArray) (s : Sp) : Nat → ByteArray := if (s.f : Int) < s.w ∧ s.w < (at_ : Int) then updL (gb1 at_ bf s) s.w.toNat kWl else gb1 at_ bf s
def gaOne (at_ : Nat) (af : Nat → Bool) (s : Sp) : Nat → Bool := updL af s.la (decide (at_ ≤ s.la))
def gbIn (S : List Sp) (L : Nat → Nat) (bf : Nat → ByteArray) (i : Nat) : Nat → ByteArray := (byT S i).foldl (gbOne (L i)) bf
def gaIn (S : List Sp) (L : Nat → Nat) (af : Nat → Bool) (i : Nat) : Nat → Bool := (byT S i).foldl (gaOne (L i)) af
def gbAll (S : List Sp) (L : Nat → Nat) (O : List Nat) : Nat → ByteArray := O.foldl (gbIn S L) fun _ => ⟨#[]⟩
def gaAll (S : List Sp) (L : Nat → Nat) (O : List Nat) : Nat → Bool := O.foldl (gaIn S L) fun _ => false
def glOne (l : List Ac) (tx : List Int) (i at_ : Nat) (s : Sp) : List Ac :=
  if at_ ≤ s.f then [⟨if 0 ≤ s.w then kWl else kRl, tx.getD i 0, (l.getD s.f ac0).it⟩] else if (at_ : Int) ≤ s.w then [⟨kWl, tx.getD i 0, (l.getD s.f ac0).it⟩] else []
def guOne (l : List Ac) (tx : List Int) (i at_ : Nat) (s : Sp) : List Ac := if s.la < at_ then [lkU l tx i s] else []
def gPt (l : List Ac) (S : List Sp) (tx : List Int) (at_ i : Nat) : List Ac := (byT S i).flatMap (glOne l tx i at_) ++ (byT S i).flatMap (guOne l tx i at_)
def gHd (l : List Ac) (af : Nat → Bool) (at_ : Nat) : List Ac := if 0 < at_ ∧ af (at_ - 1) = true then [⟨kU, (l.getD (at_ - 1) ac0).t, (l.getD (at_ - 1) ac0).it⟩] else []
def gTl (l : List Ac) (bf : Nat → ByteArray) (at_ : Nat) : List Ac := if at_ < l.length then (if bf at_ ≠ ⟨#[]⟩ then [⟨bf at_, (l.getD at_ ac0).t, (l.getD at_ ac0).it⟩] else []) ++ [l.getD at_ ac0] else []
def gAt (l : List Ac) (S : List Sp) (tx : List Int) (bf : Nat → ByteArray) (af : Nat → Bool) (Pt : Nat → List Nat) (at_ : Nat) : List Ac := gHd l af at_ ++ (Pt at_).flatMap (gPt l S tx at_) ++ gTl l bf at_
def gF (l : List Ac) (S : List Sp) (tx : List Int) (bf : Nat → ByteArray) (af : Nat → Bool) (Pt : Nat → List Nat) (k : Nat) : List Ac := (List.range k).flatMap (gAt l S tx bf af Pt)
theorem gF_succ (l : List Ac) (S : List Sp) (tx : List Int) (bf : Nat → ByteArray) (af : Nat → Bool) (Pt : Nat → List Nat) (k : Nat) : gF l S tx bf af Pt (k + 1) = gF l S tx bf af Pt k ++ gAt l S tx bf af Pt k := by
  unfold gF; rw [List.range_succ, List.flatMap_append]; simp

/-! ### The second loop: what stands right before an action, and the points -/
structure LgC (w2 wr : World) (n : Nat) (bf : Nat → ByteArray) (af : Nat → Bool) (v2 : Nat → Value) (Pt : Nat → List Nat) : Prop where
  be : Fix wr w2.heap.size 31 n (fun j => .string (bf j))
  aft : Fix wr (w2.heap.size + 1) 4 n (fun j => .bool (af j))
  po : Fix wr (w2.heap.size + 2) 54 (n + 1) v2
  fam : FamI wr (w2.heap.size + 3) 3 1 (n + 1) v2 Pt
  bel : Below w2.heap.size w2 wr
section
variable {w2 wr : World} {n : Nat} {bf : Nat → ByteArray} {af : Nat → Bool} {v2 : Nat → Value} {Pt : Nat → List Nat}
theorem LgC.lt (h : LgC w2 wr n bf af v2 Pt) : w2.heap.size + 2 < wr.heap.size := h.po.lt
theorem LgC.alloc (h : LgC w2 wr n bf af v2 Pt) (o : Obj) : LgC w2 (wr.alloc o) n bf af v2 Pt := by
  have hl := h.lt
  exact ⟨h.be.alloc o, h.aft.alloc o, h.po.alloc o, h.fam.alloc o, h.bel.alloc (by omega) o⟩
theorem LgC.heap {wr' : World} (h : LgC w2 wr n bf af v2 Pt) (e : wr'.heap = wr.heap) (hb : Below w2.heap.size w2 wr') : LgC w2 wr' n bf af v2 Pt := by
  refine ⟨by unfold Fix; rw [e]; exact h.be, by unfold Fix; rw [e]; exact h.aft, by unfold Fix; rw [e]; exact h.po, ⟨fun i hi => ?_, h.fam.sep⟩, hb⟩
  have := h.fam.own i hi
  unfold World.ownsRow at this ⊢
  rw [e]; exact this
theorem LgC.drew (h : LgC w2 wr n bf af v2 Pt) : LgC w2 wr.drew n bf af v2 Pt := h.heap rfl ⟨h.bel.os, h.bel.tape, h.bel.output, h.bel.size, h.bel.block⟩
theorem LgC.drewN (h : LgC w2 wr n bf af v2 Pt) (k : Nat) : LgC w2 (wr.drewN k) n bf af v2 Pt := h.heap rfl (below_drewN h.bel k)
theorem LgC.setB (h : LgC w2 wr n bf af v2 Pt) {j : Nat} (hj : j < n) (x : ByteArray) : LgC w2 (wr.setCell ⟨w2.heap.size, j, none⟩ (.string x)) n (updL bf j x) af v2 Pt := by
  refine ⟨(h.be.set hj _).congr fun i _ => ?_, h.aft.other _ _ (by omega) _, h.po.other _ _ (by omega) _, h.fam.setCell (by omega) _ _, h.bel.setCell (p := ⟨w2.heap.size, j, none⟩) (by simp) _⟩
  unfold upd updL; split <;> rfl
theorem LgC.setA (h : LgC w2 wr n bf af v2 Pt) {j : Nat} (hj : j < n) (x : Bool) : LgC w2 (wr.setCell ⟨w2.heap.size + 1, j, none⟩ (.bool x)) n bf (updL af j x) v2 Pt := by
  refine ⟨h.be.other _ _ (by omega) _, (h.aft.set hj _).congr fun i _ => ?_, h.po.other _ _ (by omega) _, h.fam.setCell (by omega) _ _, h.bel.setCell (p := ⟨w2.heap.size + 1, j, none⟩) (by simp) _⟩
  unfold upd updL; split <;> rfl
/-- A point is appended. -/
theorem LgC.app (h : LgC w2 wr n bf af v2 Pt) {i : Nat} (hi : i < n + 1) {wE : World} {g cap x : Nat} (ho : wE.ownsRow (w2.heap.size + 3) 3 1 (.slice (some ⟨g, 0, none⟩) ((Pt i).length + 1) cap) ((Pt i).length + 1) (rowI (Pt i) ++ [.int .i64 (x : Int)])) (hg : wr.grownBy wE (v2 i).ownBlock) (hn : (v2 i).ownBlock = some g ∨ g = wr.heap.size) :
    wE.cell? ⟨w2.heap.size + 2, i, none⟩ = some (v2 i) ∧ wE.frozen? ⟨w2.heap.size + 2, i, none⟩ = false ∧ Hid (LgC w2 (wE.setCell ⟨w2.heap.size + 2, i, none⟩ (.slice (some ⟨g, 0, none⟩) ((Pt i).length + 1) cap)) n bf af (updL v2 i (.slice (some ⟨g, 0, none⟩) ((Pt i).length + 1) cap)) (updL Pt i (Pt i ++ [x]))) := by
  have hlt := h.lt
  have nn : ∀ b, b < w2.heap.size + 3 → some b ≠ (v2 i).ownBlock := fun b hb e => by have := own_ge (h.fam.own i hi) e.symm; omega
  have po1 := h.po.grown hg (nn _ (by omega))
  have ho2 : wE.ownsRow (w2.heap.size + 3) 3 1 (.slice (some ⟨g, 0, none⟩) ((Pt i).length + 1) cap) (Pt i ++ [x]).length (rowI (Pt i ++ [x])) := by
    rw [rowI_snoc, List.length_append]; exact ho
  refine ⟨po1.cell hi, po1.free i, hid ⟨(h.be.grown hg (nn _ (by omega))).other _ _ (by omega) _, (h.aft.grown hg (nn _ (by omega))).other _ _ (by omega) _, (po1.set hi _).congr fun j hj => rfl, (h.fam.turn hi ho2 hg (fun g' e => ?_)).setCell (by omega) _ _, (h.bel.grown hg (by omega) fun k hk => ?_).setCell (p := ⟨w2.heap.size + 2, i, none⟩) (by simp) _⟩⟩
  · simp [Value.ownBlock] at e; subst e
    rcases hn with h | h
    · exact .inl h
    · exact .inr (by omega)
  · have := own_ge (h.fam.own i hi) hk; omega
end
/-- With the copy of a span. -/
structure LgE (w2 wr : World) (n : Nat) (bf : Nat → ByteArray) (af : Nat → Bool) (v2 : Nat → Value) (Pt : Nat → List Nat) (B : Nat) (s : Sp) : Prop where
  st : LgC w2 wr n bf af v2 Pt
  cp : wr.heap[B]? = some (.cells s.cells.toArray 102 (0, 0))
  ge : w2.heap.size + 2 < B
section
variable {w2 wr : World} {n : Nat} {bf : Nat → ByteArray} {af : Nat → Bool} {v2 : Nat → Value} {Pt : Nat → List Nat} {B : Nat} {s : Sp}
theorem LgC.copy (h : LgC w2 wr n bf af v2 Pt) (s : Sp) : LgE w2 (wr.alloc (.cells #[.int .i64 (s.x : Int), .int .i64 (s.i : Int), .int .i64 (s.f : Int), .int .i64 s.w, .int .i64 (s.la : Int)] 102)) n bf af v2 Pt wr.heap.size s := ⟨h.alloc _, heap_alloc_new _ _, h.lt⟩
theorem LgE.d2 (h : LgE w2 wr n bf af v2 Pt B s) : wr.cell? ⟨B, 2, none⟩ = some (.int .i64 (s.f : Int)) := by rw [cell_of_row _ _ _ _ _ _ h.cp]; rfl
theorem LgE.d3 (h : LgE w2 wr n bf af v2 Pt B s) : wr.cell? ⟨B, 3, none⟩ = some (.int .i64 s.w) := by rw [cell_of_row _ _ _ _ _ _ h.cp]; rfl
theorem LgE.d4 (h : LgE w2 wr n bf af v2 Pt B s) : wr.cell? ⟨B, 4, none⟩ = some (.int .i64 (s.la : Int)) := by rw [cell_of_row _ _ _ _ _ _ h.cp]; rfl
theorem LgE.drew (h : LgE w2 wr n bf af v2 Pt B s) : LgE w2 wr.drew n bf af v2 Pt B s := ⟨h.st.drew, h.cp, h.ge⟩
theorem LgE.drewN (h : LgE w2 wr n bf af v2 Pt B s) (k : Nat) : LgE w2 (wr.drewN k) n bf af v2 Pt B s := ⟨h.st.drewN k, h.cp, h.ge⟩
theorem LgE.same {w' : World} (h : LgE w2 wr n bf af v2 Pt B s) (e : w'.heap = wr.heap) (e1 : w'.os = wr.os) (e2 : w'.tape = wr.tape) (e3 : w'.output = wr.output) : LgE w2 w' n bf af v2 Pt B s :=
  ⟨h.st.heap e ⟨e1.trans h.st.bel.os, e2.trans h.st.bel.tape, e3.trans h.st.bel.output, by rw [e]; exact h.st.bel.size, fun k hk => by rw [e]; exact h.st.bel.block k hk⟩, by rw [e]; exact h.cp, h.ge⟩
theorem LgE.setB (h : LgE w2 wr n bf af v2 Pt B s) {j : Nat} (hj : j < n) (x : ByteArray) : LgE w2 (wr.setCell ⟨w2.heap.size, j, none⟩ (.string x)) n (updL bf j x) af v2 Pt B s :=
  ⟨h.st.setB hj x, (heap_setCell_other _ _ _ _ (by have := h.ge; show B ≠ w2.heap.size; omega)).trans h.cp, h.ge⟩
end
end Go.Proofs.YbulkbgasDoor

import Derived.Test.YbulkbgasDoorSo3
import Derived.Test.YbulkbgasDoorFc3b
namespace Go.Proofs.YbulkbgasDoor
open Go.RowKit Go.Maps
set_option linter.unusedVariables false

/-- 'append(v, x)' at a step of a region that draws, whatever the elements. -/
theorem apDG {sl e k bytes : Nat} {z : Value} (E : ElemT sl e k bytes z) {ops : Array Oper} {o : Oper} {a : Act} {w : World} {K : Act → World → Prop} {Q : Exit → Act → World → Prop} {Ex : Prop} (hgd : o.guard = none) (s x : Operand)
    (ho : o.op = .call { callee := .builtin .append, args := #[s, x], argTypes := #[sl, sl] }) (base : Nat) (v : Value) (n : Nat) (xs news : List Value) (h0 H : Nat) (hs : a.eval s = v) (hx : a.eval x = .slice (some ⟨h0, 0, none⟩) 1 1)
    (hown : w.ownsRow base e k v n xs) (hh : w.heap[h0]? = some (.cells news.toArray e (0, 0))) (hl : news.length = k) (h1 : ∀ x ∈ news, x.oneCell' = true) (hn : n ≤ 100000) (hb : base ≤ w.heap.size) (hH : w.heap.size = H)
    (hK : ∀ g cap w', w'.ownsRow base e k (.slice (some ⟨g, 0, none⟩) (n + 1) cap) (n + 1) (xs ++ news) → w.grownBy w' v.ownBlock → (v.ownBlock = some g ∨ g = H) → g < w'.heap.size → K (a.put o.dst (.slice (some ⟨g, 0, none⟩) (n + 1) cap)) w') :
    if Region.wanted o (yielded ops a.tmps) = true then Oper.wp Ybad.prog o a w K Q else Ex := by
  obtain ⟨ie, hie, hz, hsz, hb2⟩ := info_parts E.info
  have hf := E.few
  refine step_append_lies w hgd s x sl ho base e ie _ k bytes E.und hie hz hsz hb2 E.zc E.pos v n xs hs hown ⟨h0, 0, none⟩ 1 1 news hx (by rw [hl]; omega) ?_ h1 (by decide) (by unfold maxLen; omega) ?_ hb H hH hK
  · intro j u hj
    rw [add0]
    rw [cell_of_row _ _ _ _ _ _ hh]
    simpa using hj
  · have : (n + 1) * bytes ≤ 100001 * 400 := Nat.mul_le_mul (by omega) hf
    omega

theorem Ybad.E136 : ElemT 136 53 1 24 (.slice none 0 0) := ⟨Ybad.underlying136, by kernel_rfl, rfl, by decide, by decide⟩
theorem Ybad.E137 : ElemT 137 31 1 16 (.string ⟨#[]⟩) := ⟨Ybad.underlying137, by kernel_rfl, rfl, by decide, by decide⟩
theorem Ybad.E121 : ElemT 121 4 1 1 (.bool false) := ⟨Ybad.underlying121, by kernel_rfl, rfl, by decide, by decide⟩

/-! ### lock, plainly, where every lock point lies behind all accesses -/
def byT (S : List Sp) (i : Nat) : List Sp := S.filter fun s => s.x == i
theorem byT_snoc (S : List Sp) (s : Sp) (i : Nat) : byT (S ++ [s]) i = updL (byT S) s.x (byT S s.x ++ [s]) i := by
  unfold byT updL
  rw [List.filter_append]
  by_cases e : i = s.x
  · subst e; simp
  · rw [if_neg e]
    have : (s.x == i) = false := by simpa using fun h => e h.symm
    simp [this]
def bfOne (bf : Nat → ByteArray) (s : Sp) : Nat → ByteArray :=
  if (s.f : Int) < s.w then updL (updL bf s.f (if s.w = (s.f : Int) then kWl else kRl)) s.w.toNat kWl else updL bf s.f (if s.w = (s.f : Int) then kWl else kRl)
def bfIn (S : List Sp) (bf : Nat → ByteArray) (i : Nat) : Nat → ByteArray := (byT S i).foldl bfOne bf
def bfAll (S : List Sp) (places : List Nat) : Nat → ByteArray := places.foldl (bfIn S) fun _ => ⟨#[]⟩
def ptIn (L : Nat → Nat) (Pt : Nat → List Nat) (i : Nat) : Nat → List Nat := updL Pt (L i) (Pt (L i) ++ [i])
def ptAll (L : Nat → Nat) (places : List Nat) : Nat → List Nat := places.foldl (ptIn L) fun _ => []
def ac0 : Ac := ⟨⟨#[]⟩, 0, ⟨#[]⟩⟩
def lkU (l : List Ac) (tx : List Int) (i : Nat) (s : Sp) : Ac := ⟨kU, tx.getD i 0, (l.getD s.f ac0).it⟩
def lkAt (l : List Ac) (S : List Sp) (tx : List Int) (bf : Nat → ByteArray) (Pt : Nat → List Nat) (at_ : Nat) : List Ac :=
  (Pt at_).flatMap (fun i => (byT S i).map (lkU l tx i)) ++ if at_ < l.length then (if bf at_ ≠ ⟨#[]⟩ then [⟨bf at_, (l.getD at_ ac0).t, (l.getD at_ ac0).it⟩] else []) ++ [l.getD at_ ac0] else []
def lkF (l : List Ac) (S : List Sp) (tx : List Int) (bf : Nat → ByteArray) (Pt : Nat → List Nat) (k : Nat) : List Ac := (List.range k).flatMap (lkAt l S tx bf Pt)
theorem lkF_succ (l : List Ac) (S : List Sp) (tx : List Int) (bf : Nat → ByteArray) (Pt : Nat → List Nat) (k : Nat) : lkF l S tx bf Pt (k + 1) = lkF l S tx bf Pt k ++ lkAt l S tx bf Pt k := by
  unfold lkF; rw [List.range_succ, List.flatMap_append]; simp

/-! ### The first loop: the spans by transaction -/
structure LkB (w wr : World) (bx : Array Value) (nT : Nat) (v : Nat → Value) (G : Nat → List Sp) : Prop where
  box : wr.heap[w.heap.size]? = some (.cells bx 57 (0, 0))
  by_ : Fix wr (w.heap.size + 1) 53 nT v
  fam : Fam rowS wr (w.heap.size + 2) 102 5 nT v G
  bel : Below w.heap.size w wr
section
variable {w wr : World} {bx : Array Value} {nT : Nat} {v : Nat → Value} {G : Nat → List Sp}
theorem LkB.lt (h : LkB w wr bx nT v G) : w.heap.size + 1 < wr.heap.size := h.by_.lt
theorem LkB.alloc (h : LkB w wr bx nT v G) (o : Obj) : LkB w (wr.alloc o) bx nT v G := by
  have hl := h.lt
  exact ⟨(Below.heap_alloc _ _ _ (by omega)).trans h.box, h.by_.alloc o, h.fam.alloc o, h.bel.alloc (by omega) o⟩
theorem LkB.heap {wr' : World} (h : LkB w wr bx nT v G) (e : wr'.heap = wr.heap) (hb : Below w.heap.size w wr') : LkB w wr' bx nT v G := by
  refine ⟨by rw [e]; exact h.box, by unfold Fix; rw [e]; exact h.by_, ⟨fun i hi => ?_, h.fam.sep⟩, hb⟩
  have := h.fam.own i hi
  unfold World.ownsRow at this ⊢
  rw [e]; exact this
theorem LkB.drew (h : LkB w wr bx nT v G) : LkB w wr.drew bx nT v G := h.heap rfl ⟨h.bel.os, h.bel.tape, h.bel.output, h.bel.size, h.bel.block⟩
theorem LkB.app (h : LkB w wr bx nT v G) {i : Nat} (hi : i < nT) {wE : World} {g cap : Nat} {s : Sp} (ho : wE.ownsRow (w.heap.size + 2) 102 5 (.slice (some ⟨g, 0, none⟩) ((G i).length + 1) cap) ((G i).length + 1) (rowS (G i) ++ s.cells)) (hg : wr.grownBy wE (v i).ownBlock) (hn : (v i).ownBlock = some g ∨ g = wr.heap.size) :
    wE.cell? ⟨w.heap.size + 1, i, none⟩ = some (v i) ∧ wE.frozen? ⟨w.heap.size + 1, i, none⟩ = false ∧ Hid (LkB w (wE.setCell ⟨w.heap.size + 1, i, none⟩ (.slice (some ⟨g, 0, none⟩) ((G i).length + 1) cap)) bx nT (updL v i (.slice (some ⟨g, 0, none⟩) ((G i).length + 1) cap)) (updL G i (G i ++ [s]))) := by
  have hlt := h.lt
  have nn : ∀ b, b < w.heap.size + 2 → some b ≠ (v i).ownBlock := fun b hb e => by have := own_ge (h.fam.own i hi) e.symm; omega
  have by1 := h.by_.grown hg (nn _ (by omega))
  have ho2 : wE.ownsRow (w.heap.size + 2) 102 5 (.slice (some ⟨g, 0, none⟩) ((G i).length + 1) cap) (G i ++ [s]).length (rowS (G i ++ [s])) := by
    rw [rowS_append, List.length_append]
    have : rowS [s] = s.cells := by simp [rowS]
    rw [this]; exact ho
  refine ⟨by1.cell hi, by1.free i, hid ⟨?_, (by1.set hi _).congr fun j hj => rfl, (h.fam.turn hi ho2 hg (fun g' e => ?_)).setCell (by omega) _ _, (h.bel.grown hg (by omega) fun k hk => ?_).setCell (p := ⟨w.heap.size + 1, i, none⟩) (by simp) _⟩⟩
  · rw [heap_setCell_other _ _ _ _ (by show _ ≠ _; simp)]
    exact (hg.block _ (by omega) (nn _ (by omega))).trans h.box
  · simp [Value.ownBlock] at e; subst e
    rcases hn with h | h
    · exact .inl h
    · exact .inr (by omega)
  · have := own_ge (h.fam.own i hi) hk; omega
end
end Go.Proofs.YbulkbgasDoor

import Derived.Test.YbulkbgasDoorFc1
namespace Go.Proofs.YbulkbgasDoor
open Go.RowKit Go.Maps
set_option linter.unusedVariables false

def sp0 : Sp := ⟨0, 0, 0, 0, 0⟩
def txOf (S : List Sp) (i : Nat) : Nat := (S.getD i sp0).x
theorem sp_at {W : World} {a : Option Addr} {n : Nat} {l : List Sp} (h : Els W 5 a n fun i => (l.getD i sp0).cells) {k : Nat} (hk : k < n) :
    ∃ b off, a = some ⟨b, off, none⟩ ∧ b < W.heap.size ∧ W.cell? ⟨b, off + k * 5, none⟩ = some (.int .i64 (txOf l k : Int)) := by
  obtain ⟨b, off, h1, h2, h3⟩ := h k hk
  exact ⟨b, off, h1, h2, h3 0 _ rfl⟩

/-! ### The first two loops -/
def fill1 (k : Nat) : Nat → Value := fun j => .int .i64 (if j < k then -1 else 0)
theorem fill1_set {W : World} {g t n k : Nat} (h : Fix W g t (n * 2) (fill1 (k * 2))) (hk : k < n) : Fix ((W.setCell ⟨g, k * 2, none⟩ (.int .i64 (-1))).setCell ⟨g, k * 2 + 1, none⟩ (.int .i64 (-1))) g t (n * 2) (fill1 ((k + 1) * 2)) := by
  refine ((h.set (j := k * 2) (by omega) _).set (j := k * 2 + 1) (by omega) _).congr fun j hj => ?_
  unfold upd fill1
  by_cases e : j = k * 2 + 1
  · rw [if_pos e, if_pos (by omega)]
  · rw [if_neg e]
    by_cases e2 : j = k * 2
    · rw [if_pos e2, if_pos (by omega)]
    · rw [if_neg e2]
      by_cases e3 : j < k * 2
      · rw [if_pos e3, if_pos (by omega)]
      · rw [if_neg e3, if_neg (by omega)]
theorem fill1_zero (n : Nat) : rowF n (fun _ => Value.int .i64 0) = rowF n (fill1 (0 * 2)) := rowF_congr fun j _ => by unfold fill1; rw [if_neg (by omega)]
structure FcA (w wr : World) (bx : Array Value) (nT k : Nat) : Prop where
  box : wr.heap[w.heap.size]? = some (.cells bx 57 (0, 0))
  fi : Fix wr (w.heap.size + 1) 65 (nT * 2) (fill1 (k * 2))
  sz : wr.heap.size = w.heap.size + 2
  bel : Below w.heap.size w wr
theorem FcA.set {w wr : World} {bx : Array Value} {nT k : Nat} (h : FcA w wr bx nT k) (hk : k < nT) : FcA w ((wr.setCell ⟨w.heap.size + 1, k * 2, none⟩ (.int .i64 (-1))).setCell ⟨w.heap.size + 1, k * 2 + 1, none⟩ (.int .i64 (-1))) bx nT (k + 1) := by
  refine ⟨?_, fill1_set h.fi hk, by simpa using h.sz, (h.bel.setCell (p := ⟨w.heap.size + 1, k * 2, none⟩) (by simp) _).setCell (p := ⟨w.heap.size + 1, k * 2 + 1, none⟩) (by simp) _⟩
  rw [heap_setCell_other _ _ _ _ (by show _ ≠ _; simp), heap_setCell_other _ _ _ _ (by show _ ≠ _; simp)]; exact h.box
structure FcB (w wr : World) (bx : Array Value) (nT nS k : Nat) : Prop where
  box : wr.heap[w.heap.size]? = some (.cells bx 57 (0, 0))
  fi : Fix wr (w.heap.size + 1) 65 (nT * 2) (fill1 (nT * 2))
  wa : Fix wr (w.heap.size + 2) 106 (nS * 2) (fill1 (k * 2))
  sz : wr.heap.size = w.heap.size + 3
  bel : Below w.heap.size w wr
theorem FcB.set {w wr : World} {bx : Array Value} {nT nS k : Nat} (h : FcB w wr bx nT nS k) (hk : k < nS) : FcB w ((wr.setCell ⟨w.heap.size + 2, k * 2, none⟩ (.int .i64 (-1))).setCell ⟨w.heap.size + 2, k * 2 + 1, none⟩ (.int .i64 (-1))) bx nT nS (k + 1) := by
  refine ⟨?_, (h.fi.other _ _ (by omega) _).other _ _ (by omega) _, fill1_set h.wa hk, by simpa using h.sz, (h.bel.setCell (p := ⟨w.heap.size + 2, k * 2, none⟩) (by simp) _).setCell (p := ⟨w.heap.size + 2, k * 2 + 1, none⟩) (by simp) _⟩
  rw [heap_setCell_other _ _ _ _ (by show _ ≠ _; simp), heap_setCell_other _ _ _ _ (by show _ ≠ _; simp)]; exact h.box
theorem FcA.next {w wr : World} {bx : Array Value} {nT : Nat} (h : FcA w wr bx nT nT) (nS : Nat) : FcB w (wr.alloc (.cells (rowF (nS * 2) fun _ => .int .i64 0) 106)) bx nT nS 0 := by
  refine ⟨(Below.heap_alloc _ _ _ (by have := h.sz; omega)).trans h.box, h.fi.alloc _, ?_, by simp [h.sz], h.bel.alloc (by have := h.sz; omega) _⟩
  rw [fill1_zero]
  exact alloc_at h.sz
theorem FcB.next {w wr : World} {bx : Array Value} {nT nS : Nat} (h : FcB w wr bx nT nS nS) (nI : Nat) : FcSt w (wr.alloc (.cells (rowF (nI * 2) fun _ => .slice none 0 0) 109)) bx nT nS nI (fun _ => .slice none 0 0) fc0 := by
  refine ⟨(Below.heap_alloc _ _ _ (by have := h.sz; omega)).trans h.box, (h.fi.alloc _).congr fun j hj => ?_, (h.wa.alloc _).congr fun j hj => ?_, alloc_at h.sz, Fam.nil _ rfl _ _ _ _ _, h.bel.alloc (by have := h.sz; omega) _⟩
  · unfold fill1; rw [if_pos hj]; rfl
  · unfold fill1; rw [if_pos hj]; rfl

/-! ### With the copy of an access -/
structure FcC (w wr : World) (bx : Array Value) (nT nS nI : Nat) (v : Nat → Value) (s : Fc) (B : Nat) (c : Acc) : Prop where
  st : FcSt w wr bx nT nS nI v s
  cp : Cp w wr B c
  ge : w.heap.size + 3 < B
section
variable {w wr : World} {bx : Array Value} {nT nS nI : Nat} {v : Nat → Value} {s : Fc} {B : Nat} {c : Acc}
theorem FcC.alloc (h : FcC w wr bx nT nS nI v s B c) (o : Obj) : FcC w (wr.alloc o) bx nT nS nI v s B c := ⟨h.st.alloc o, h.cp.alloc o, h.ge⟩
theorem FcC.drewN (h : FcC w wr bx nT nS nI v s B c) (k : Nat) : FcC w (wr.drewN k) bx nT nS nI v s B c := ⟨h.st.drewN k, ⟨h.cp.cp, h.cp.ge⟩, h.ge⟩
theorem FcC.drew (h : FcC w wr bx nT nS nI v s B c) : FcC w wr.drew bx nT nS nI v s B c := ⟨h.st.drew, ⟨h.cp.cp, h.cp.ge⟩, h.ge⟩
theorem FcC.apart (h : FcC w wr bx nT nS nI v s B c) {i : Nat} (hi : i < nI * 2) : (v i).ownBlock ≠ some B := own_apart (h.st.fam.own i hi) h.cp.cp (by decide)
theorem FcC.setF (h : FcC w wr bx nT nS nI v s B c) {t : Nat} (ht : t < nT) (x y : Int) :
    FcC w ((wr.setCell ⟨w.heap.size + 1, t * 2, none⟩ (.int .i64 x)).setCell ⟨w.heap.size + 1, t * 2 + 1, none⟩ (.int .i64 y)) bx nT nS nI v { s with F := upd2 s.F t x y } B c := by
  have := h.ge
  exact ⟨h.st.setF ht x y, (h.cp.setCell (by omega) _ _).setCell (by omega) _ _, h.ge⟩
theorem FcC.setU (h : FcC w wr bx nT nS nI v s B c) {j : Nat} (hj : j < nS * 2) (x : Int) : FcC w (wr.setCell ⟨w.heap.size + 2, j, none⟩ (.int .i64 x)) bx nT nS nI v { s with U := updL s.U j x } B c := by
  have := h.ge
  exact ⟨h.st.setU hj x, h.cp.setCell (by omega) _ _, h.ge⟩
theorem FcC.turn (h : FcC w wr bx nT nS nI v s B c) {i : Nat} (hi : i < nI * 2) {wE : World} {v' : Value} {l : List Nat} (ho : wE.ownsRow (w.heap.size + 4) 3 1 v' l.length (rowI l)) (hg : wr.grownBy wE (v i).ownBlock) (hn : ∀ g, v'.ownBlock = some g → (v i).ownBlock = some g ∨ wr.heap.size ≤ g) :
    wE.cell? ⟨w.heap.size + 3, i, none⟩ = some (v i) ∧ wE.frozen? ⟨w.heap.size + 3, i, none⟩ = false ∧ Hid (FcC w (wE.setCell ⟨w.heap.size + 3, i, none⟩ v') bx nT nS nI (updL v i v') { s with L := updL s.L i l } B c) := by
  obtain ⟨h1, h2, h3⟩ := h.st.turn hi ho hg hn
  have := h.ge
  exact ⟨h1, h2, hid ⟨h3.out, (h.cp.grown hg (h.apart hi)).setCell (by omega) _ _, h.ge⟩⟩
theorem FcC.app (h : FcC w wr bx nT nS nI v s B c) {i : Nat} (hi : i < nI * 2) {wE : World} {g cap x : Nat} (ho : wE.ownsRow (w.heap.size + 4) 3 1 (.slice (some ⟨g, 0, none⟩) ((s.L i).length + 1) cap) ((s.L i).length + 1) (rowI (s.L i) ++ [.int .i64 (x : Int)])) (hg : wr.grownBy wE (v i).ownBlock) (hn : (v i).ownBlock = some g ∨ g = wr.heap.size) :
    wE.cell? ⟨w.heap.size + 3, i, none⟩ = some (v i) ∧ wE.frozen? ⟨w.heap.size + 3, i, none⟩ = false ∧ Hid (FcC w (wE.setCell ⟨w.heap.size + 3, i, none⟩ (.slice (some ⟨g, 0, none⟩) ((s.L i).length + 1) cap)) bx nT nS nI (updL v i (.slice (some ⟨g, 0, none⟩) ((s.L i).length + 1) cap)) { s with L := updL s.L i (s.L i ++ [x]) } B c) := by
  refine h.turn hi (v' := .slice (some ⟨g, 0, none⟩) ((s.L i).length + 1) cap) (l := s.L i ++ [x]) ?_ hg (fun g' e => ?_)
  · rw [rowI_snoc, List.length_append]; exact ho
  · simp [Value.ownBlock] at e; subst e
    rcases hn with h | h
    · exact .inl h
    · exact .inr (by omega)
theorem FcC.inPlace (h : FcC w wr bx nT nS nI v s B c) {i : Nat} (hi : i < nI * 2) {g n cap : Nat} (hv : v i = .slice (some ⟨g, 0, none⟩) n cap) {j : Nat} (hj : j < (s.L i).length) (y : Nat) :
    FcC w (wr.setCell ⟨g, j, none⟩ (.int .i64 (y : Int))) bx nT nS nI v { s with L := updL s.L i ((s.L i).set j y) } B c := by
  refine ⟨h.st.inPlace hi hv hj y, h.cp.setCell (fun e => h.apart hi (by rw [hv, ← e]; rfl)) _ _, h.ge⟩
theorem FcC.li (h : FcC w wr bx nT nS nI v s B c) {i : Nat} (hi : i < nI * 2) : wr.cell? ⟨w.heap.size + 3, i, none⟩ = some (v i) := h.st.wt.cell hi
end

/-- The state behind h of the two lists. -/
def fcHs (back : Bool) (P tx : Nat → Nat) (own : Nat) (c : Acc) (s : Fc) : Nat → Fc
  | 0 => s
  | h + 1 => fcHalf back P tx own c (fcHs back P tx own c s h) h
theorem fcHs_ok {nS nA k : Nat} {s : Fc} {back : Bool} {P tx : Nat → Nat} {own : Nat} {c : Acc} (h : FcOk nS nA k s) : ∀ b, FcOk nS nA k (fcHs back P tx own c s b)
  | 0 => h
  | b + 1 => fcHalf_ok (fcHs_ok h b) b

/-! ### What stands of a list that is cut in place -/
theorem get_of_drop {l M : List Nat} {j : Nat} (h : M.drop j = l.drop j) (hj : j < l.length) : M[j]? = some l[j] := by
  have := congrArg (·[0]?) h
  simpa [List.getElem?_drop, List.getElem?_eq_getElem hj] using this
theorem skip_keep {l M : List Nat} {j : Nat} (h : M.drop j = l.drop j) : M.drop (j + 1) = l.drop (j + 1) := by
  have := congrArg (List.drop 1) h
  simpa [List.drop_drop, Nat.add_comm] using this
theorem keep_set {l M : List Nat} {j k : Nat} (h : M.drop j = l.drop j) (hk : k ≤ j) (y : Nat) : (M.set k y).drop (j + 1) = l.drop (j + 1) := by
  rw [List.drop_set_of_lt (by omega)]
  exact skip_keep h
theorem take_set {M F : List Nat} {k : Nat} (h : M.take k = F) (hk : k < M.length) (y : Nat) : (M.set k y).take (k + 1) = F ++ [y] := by
  rw [List.take_succ_eq_append_getElem (by simpa using hk), List.take_set_of_le (by omega), h]
  simp
theorem filter_succ {l : List Nat} {j own : Nat} (hj : j < l.length) : (l.take (j + 1)).filter (· == own) = (l.take j).filter (· == own) ++ if l[j] = own then [own] else [] := by
  rw [List.take_succ_eq_append_getElem hj, List.filter_append]
  congr 1
  by_cases e : l[j] = own
  · simp [e]
  · simp [e]
theorem filter_le {l : List Nat} {j own : Nat} : ((l.take j).filter (· == own)).length ≤ j := Nat.le_trans (List.length_filter_le _ _) (by simp; omega)
theorem updL_self {α : Type} (f : Nat → α) (j : Nat) : updL f j (f j) = f := by funext i; unfold updL; split <;> simp_all
theorem updL_updL {α : Type} (f : Nat → α) (j : Nat) (x y : α) : updL (updL f j x) j y = updL f j y := by funext i; unfold updL; split <;> simp_all
theorem upd2_upd2 (F : Nat → Int) (t : Nat) (x y x' y' : Int) : upd2 (upd2 F t x y) t x' y' = upd2 F t x' y' := by
  funext i; unfold upd2 updL
  by_cases e : i = t * 2 + 1
  · simp only [if_pos e]
  · by_cases e2 : i = t * 2
    · simp only [if_neg e, if_pos e2]
    · simp only [if_neg e, if_neg e2]
end Go.Proofs.YbulkbgasDoor

import Derived.Test.YbulkbgasDoorCw2
namespace Go.Proofs.YbulkbgasDoor
open Go.RowKit Go.Maps
set_option linter.unusedVariables false

/-! ### What the walk's rows hold -/
def rowAc (A : List Acc) (i : Nat) : List Nat := (A.filter fun a => decide (a.i = i)).map (·.x)
def rowWr (A : List Acc) (i : Nat) : List Nat := (A.filter fun a => decide (a.i = i) && a.w).map (·.x)
def rowBy (A : List Acc) (t : Nat) : List Nat := (A.zipIdx.filter fun p => decide (p.1.x = t)).map (·.2)
theorem rowAc_snoc (A : List Acc) (c : Acc) (i : Nat) : rowAc (A ++ [c]) i = if i = c.i then rowAc A i ++ [c.x] else rowAc A i := by
  unfold rowAc
  rw [List.filter_append, List.map_append]
  by_cases e : i = c.i
  · subst e; simp
  · rw [if_neg e]; simp [Ne.symm e]
theorem rowWr_snoc (A : List Acc) (c : Acc) (i : Nat) : rowWr (A ++ [c]) i = if i = c.i ∧ c.w = true then rowWr A i ++ [c.x] else rowWr A i := by
  unfold rowWr
  rw [List.filter_append, List.map_append]
  by_cases e : i = c.i ∧ c.w = true
  · rw [if_pos e]; simp [e.1, e.2]
  · rw [if_neg e]
    have : (decide (c.i = i) && c.w) = false := by
      cases hw : c.w
      · simp
      · simp; intro h; exact e ⟨h.symm, hw⟩
    rw [List.filter_cons, if_neg (by rw [this]; simp)]; simp
theorem rowBy_snoc (A : List Acc) (c : Acc) (t : Nat) : rowBy (A ++ [c]) t = if t = c.x then rowBy A t ++ [A.length] else rowBy A t := by
  unfold rowBy
  rw [List.zipIdx_append, List.filter_append, List.map_append]
  by_cases e : t = c.x
  · subst e; simp
  · rw [if_neg e]; simp [Ne.symm e]
theorem rowAc_len (A : List Acc) (i : Nat) : (rowAc A i).length ≤ A.length := by unfold rowAc; rw [List.length_map]; exact List.length_filter_le _ _
theorem rowWr_len (A : List Acc) (i : Nat) : (rowWr A i).length ≤ A.length := by unfold rowWr; rw [List.length_map]; exact List.length_filter_le _ _
theorem rowBy_len (A : List Acc) (i : Nat) : (rowBy A i).length ≤ A.length := by unfold rowBy; rw [List.length_map]; exact Nat.le_trans (List.length_filter_le _ _) (by simp)

def cwX (n m : Nat) (A : List Acc) (u1 u2 : Nat) : Nat → List Nat := fun r =>
  if r < m then rowAc A r else if r < m + m then rowWr A (r - m) else if r < m + m + n then rowBy A (r - (m + m))
  else if r < m + m + n + m then (if r - (m + m + n) < u1 then List.range ((rowAc A (r - (m + m + n))).length + 1) else [])
  else (if r - (m + m + n + m) < u2 then List.range ((rowWr A (r - (m + m + n + m))).length + 1) else [])
section
variable {n m : Nat} {A : List Acc} {u1 u2 : Nat}
theorem cwX_ac {i : Nat} (h : i < m) : cwX n m A u1 u2 i = rowAc A i := by unfold cwX; rw [if_pos h]
theorem cwX_wr {i : Nat} (h : i < m) : cwX n m A u1 u2 (m + i) = rowWr A i := by unfold cwX; rw [if_neg (by omega), if_pos (by omega), Nat.add_sub_cancel_left]
theorem cwX_by {t : Nat} (h : t < n) : cwX n m A u1 u2 (m + m + t) = rowBy A t := by unfold cwX; rw [if_neg (by omega), if_neg (by omega), if_pos (by omega), Nat.add_sub_cancel_left]
theorem cwX_la {i : Nat} (h : i < m) : cwX n m A u1 u2 (m + m + n + i) = if i < u1 then List.range ((rowAc A i).length + 1) else [] := by
  unfold cwX; rw [if_neg (by omega), if_neg (by omega), if_neg (by omega), if_pos (by omega), Nat.add_sub_cancel_left]
theorem cwX_lw {i : Nat} (h : i < m) : cwX n m A u1 u2 (m + m + n + (m + i)) = if i < u2 then List.range ((rowWr A i).length + 1) else [] := by
  unfold cwX; rw [if_neg (by omega), if_neg (by omega), if_neg (by omega), if_neg (by omega), show m + m + n + (m + i) - (m + m + n + m) = i by omega]
/-- Every place among the rows. -/
theorem cw_cases {r : Nat} (h : r < cwN n m) : (∃ i, i < m ∧ r = i) ∨ (∃ i, i < m ∧ r = m + i) ∨ (∃ t, t < n ∧ r = m + m + t) ∨ (∃ i, i < m ∧ r = m + m + n + i) ∨ (∃ i, i < m ∧ r = m + m + n + (m + i)) := by
  unfold cwN at h
  by_cases h1 : r < m
  · exact .inl ⟨r, h1, rfl⟩
  · by_cases h2 : r < m + m
    · exact .inr (.inl ⟨r - m, by omega, by omega⟩)
    · by_cases h3 : r < m + m + n
      · exact .inr (.inr (.inl ⟨r - (m + m), by omega, by omega⟩))
      · by_cases h4 : r < m + m + n + m
        · exact .inr (.inr (.inr (.inl ⟨r - (m + m + n), by omega, by omega⟩)))
        · exact .inr (.inr (.inr (.inr ⟨r - (m + m + n + m), by omega, by omega⟩)))
theorem cwX_snoc (c : Acc) (hi : c.i < m) (hx : c.x < n) (X1 X2 : Nat → List Nat) (h1 : X1 = updL (cwX n m A 0 0) c.i (cwX n m A 0 0 c.i ++ [c.x])) (h2 : X2 = if c.w = true then updL X1 (m + c.i) (X1 (m + c.i) ++ [c.x]) else X1) :
    ∀ r, r < cwN n m → updL X2 (m + m + c.x) (X2 (m + m + c.x) ++ [A.length]) r = cwX n m (A ++ [c]) 0 0 r := by
  intro r hr
  have e1 : ∀ r, r ≠ c.i → X1 r = cwX n m A 0 0 r := fun r h => by rw [h1]; exact updL_other _ h _
  have e2 : ∀ r, r ≠ m + c.i → X2 r = X1 r := fun r h => by
    rw [h2]; split
    · exact updL_other _ h _
    · rfl
  rcases cw_cases hr with ⟨i, hl, e0⟩ | ⟨i, hl, rfl⟩ | ⟨i, hl, rfl⟩ | ⟨i, hl, rfl⟩ | ⟨i, hl, rfl⟩
  · subst e0
    rw [updL_other _ (by omega), e2 _ (by omega), cwX_ac hl, rowAc_snoc]
    by_cases e : r = c.i
    · rw [if_pos e, e, h1, updL_same, cwX_ac hi]
    · rw [if_neg e, e1 _ e, cwX_ac hl]
  · rw [updL_other _ (by omega), cwX_wr hl, rowWr_snoc]
    by_cases e : i = c.i
    · subst e
      rw [h2]
      by_cases hw : c.w = true
      · rw [if_pos hw, updL_same, e1 _ (by omega), cwX_wr hl, if_pos ⟨rfl, hw⟩]
      · rw [if_neg hw, e1 _ (by omega), cwX_wr hl, if_neg (fun h => hw h.2)]
    · rw [e2 _ (by omega), e1 _ (by omega), cwX_wr hl, if_neg (fun h => e h.1)]
  · rw [cwX_by hl, rowBy_snoc]
    by_cases e : i = c.x
    · subst e; rw [updL_same, e2 _ (by omega), e1 _ (by omega), cwX_by hl, if_pos rfl]
    · rw [updL_other _ (by omega), e2 _ (by omega), e1 _ (by omega), cwX_by hl, if_neg e]
  · rw [updL_other _ (by omega), e2 _ (by omega), e1 _ (by omega), cwX_la hl, cwX_la hl, if_neg (by omega), if_neg (by omega)]
  · rw [updL_other _ (by omega), e2 _ (by omega), e1 _ (by omega), cwX_lw hl, cwX_lw hl, if_neg (by omega), if_neg (by omega)]
theorem cwX_left (u : Nat) (hu : u < m) (X1 X2 : Nat → List Nat) (h1 : X1 = updL (cwX n m A u u) (m + m + n + u) (List.range ((rowAc A u).length + 1))) (h2 : X2 = updL X1 (m + m + n + (m + u)) (List.range ((rowWr A u).length + 1))) :
    ∀ r, r < cwN n m → X2 r = cwX n m A (u + 1) (u + 1) r := by
  intro r hr
  subst h2 h1
  rcases cw_cases hr with ⟨i, hl, e0⟩ | ⟨i, hl, rfl⟩ | ⟨i, hl, rfl⟩ | ⟨i, hl, rfl⟩ | ⟨i, hl, rfl⟩
  · subst e0; rw [updL_other _ (by omega), updL_other _ (by omega), cwX_ac hl, cwX_ac hl]
  · rw [updL_other _ (by omega), updL_other _ (by omega), cwX_wr hl, cwX_wr hl]
  · rw [updL_other _ (by omega), updL_other _ (by omega), cwX_by hl, cwX_by hl]
  · rw [updL_other _ (by omega), cwX_la hl]
    by_cases e : i = u
    · subst e; rw [updL_same, if_pos (by omega)]
    · rw [updL_other _ (by omega), cwX_la hl]
      by_cases h : i < u
      · rw [if_pos h, if_pos (by omega)]
      · rw [if_neg h, if_neg (by omega)]
  · rw [cwX_lw hl]
    by_cases e : i = u
    · subst e; rw [updL_same, if_pos (by omega)]
    · rw [updL_other _ (by omega), updL_other _ (by omega), cwX_lw hl]
      by_cases h : i < u
      · rw [if_pos h, if_pos (by omega)]
      · rw [if_neg h, if_neg (by omega)]
end

def iaF (A : List Acc) (q p : Nat) : Nat := if p < q then (rowAc (A.take p) (A.getD p a0).i).length else 0
def nwF (A : List Acc) (q p : Nat) : Nat := if p < q then (rowWr (A.take (p + 1)) (A.getD p a0).i).length else 0
theorem getD_acc {A : List Acc} {q : Nat} (h : q < A.length) : A.getD q a0 = A[q] := by simp [List.getD_eq_getElem?_getD, List.getElem?_eq_getElem h]
theorem iaF_step {A : List Acc} {q : Nat} (h : q < A.length) : updL (iaF A q) q (rowAc (A.take q) A[q].i).length = iaF A (q + 1) := by
  funext p
  unfold iaF updL
  by_cases e : p = q
  · subst e; rw [if_pos rfl, if_pos (by omega), getD_acc h]
  · rw [if_neg e]
    dsimp only
    by_cases h2 : p < q
    · rw [if_pos h2, if_pos (by omega)]
    · rw [if_neg h2, if_neg (by omega)]
theorem nwF_step {A : List Acc} {q : Nat} (h : q < A.length) : updL (nwF A q) q (rowWr (A.take (q + 1)) A[q].i).length = nwF A (q + 1) := by
  funext p
  unfold nwF updL
  by_cases e : p = q
  · subst e; rw [if_pos rfl, if_pos (by omega), getD_acc h]
  · rw [if_neg e]
    dsimp only
    by_cases h2 : p < q
    · rw [if_pos h2, if_pos (by omega)]
    · rw [if_neg h2, if_neg (by omega)]

/-- After the region that lays out the walk. -/
theorem cw_begin {w wi : World} {n m L Bc : Nat} {b : Nat → Nat} (h : Cw0 w wi n m L (fun _ => true) (fun k => .slice (some ⟨b k, 0, none⟩) (cwLn n m L k) (cwLn n m L k)) b) (A : List Acc) :
    CwS w (wi.alloc (.cells (cwBox Bc n m L b) 126)) n m L Bc b (fun _ => false) (iaF A 0) (nwF A 0) (fun _ => 0) (fun _ => 0) (fun _ => .slice none 0 0) (cwX n m [] 0 0) := by
  have hs : wi.heap.size = w.heap.size + 10 := h.siz
  refine ⟨fun j k hj hk e => h.inj j k hj hk rfl rfl e, fun k hk => ⟨(h.row k hk rfl).2.2, by have := (h.row k hk rfl).2.1.lt; omega⟩, alloc_at hs, fun k hk => ?_, ?_, h.bel.alloc (by omega) _⟩
  · exact ((h.row k hk rfl).2.1.alloc _).congr (fun j _ => by
      rcases (show k = 0 ∨ k = 1 ∨ k = 2 ∨ k = 3 ∨ k = 4 ∨ k = 5 ∨ k = 6 ∨ k = 7 ∨ k = 8 ∨ k = 9 by omega) with rfl | rfl | rfl | rfl | rfl | rfl | rfl | rfl | rfl | rfl <;> rfl)
  · refine (Fam.nil rowI rfl _ _ 3 1 _).congr (fun _ _ => rfl) (fun r hr => ?_)
    rcases cw_cases hr with ⟨i, hl, e0⟩ | ⟨i, hl, rfl⟩ | ⟨i, hl, rfl⟩ | ⟨i, hl, rfl⟩ | ⟨i, hl, rfl⟩
    · subst e0; rw [cwX_ac hl]; rfl
    · rw [cwX_wr hl]; rfl
    · rw [cwX_by hl]; rfl
    · rw [cwX_la hl, if_neg (by omega)]
    · rw [cwX_lw hl, if_neg (by omega)]

end Go.Proofs.YbulkbgasDoor

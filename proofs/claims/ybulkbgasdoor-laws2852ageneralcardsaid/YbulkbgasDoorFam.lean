import Derived.Test.YbulkbgasDoorSp3
import Derived.Test.YbulkbgasDoorLock0
namespace Go.Proofs.YbulkbgasDoor
open Go.RowKit Go.Maps
set_option linter.unusedVariables false

/-! ### A family of owned rows -/

def updL {α : Type} (f : Nat → α) (j : Nat) (v : α) : Nat → α := fun i => if i = j then v else f i
theorem updL_same {α : Type} (f : Nat → α) (j : Nat) (v : α) : updL f j v j = v := by simp [updL]
theorem updL_other {α : Type} (f : Nat → α) {i j : Nat} (h : i ≠ j) (v : α) : updL f j v i = f i := by simp [updL, h]

/-- N rows, each one's own, no two in one block; the i-th is the slice v i and holds X i. -/
structure Fam {α : Type} (row : List α → List Value) (W : World) (base e k N : Nat) (v : Nat → Value) (X : Nat → List α) : Prop where
  own : ∀ i, i < N → W.ownsRow base e k (v i) (X i).length (row (X i))
  sep : ∀ i j, i < N → j < N → i ≠ j → ∀ g, (v i).ownBlock = some g → (v j).ownBlock ≠ some g

section
variable {α : Type} {row : List α → List Value} {W W' : World} {base e k N : Nat} {v : Nat → Value} {X : Nat → List α}
theorem Fam.nil (row : List α → List Value) (h : row [] = []) (W : World) (base e k N : Nat) : Fam row W base e k N (fun _ => .slice none 0 0) (fun _ => []) :=
  ⟨fun i _ => by rw [h]; exact World.ownsRow_nil _ _ _ _, fun i j _ _ _ g hg => by simp [Value.ownBlock] at hg⟩
theorem Fam.alloc (h : Fam row W base e k N v X) (o : Obj) : Fam row (W.alloc o) base e k N v X := ⟨fun i hi => (h.own i hi).alloc o, h.sep⟩
theorem Fam.kept {b : Nat} (h : Fam row W base e k N v X) (hg : W.grownBy W' (some b)) (hb : b < base) : Fam row W' base e k N v X :=
  ⟨fun i hi => (h.own i hi).kept hg (.inr fun e => by have := own_ge (h.own i hi) e; omega), h.sep⟩
theorem Fam.keptOut {r : Option Nat} (h : Fam row W base e k N v X) (hg : W.grownBy W' r) (hb : ∀ i, i < N → ∀ g, (v i).ownBlock = some g → r ≠ some g) : Fam row W' base e k N v X :=
  ⟨fun i hi => (h.own i hi).kept hg (by
    cases e : (v i).ownBlock with
    | none => exact .inl rfl
    | some g => exact .inr fun e' => hb i hi g e e'.symm), h.sep⟩
theorem Fam.setCell (h : Fam row W base e k N v X) {b : Nat} (hb : b < base) (j : Nat) (u : Value) : Fam row (W.setCell ⟨b, j, none⟩ u) base e k N v X := h.kept (grownBy_setCell'' W b j u) hb
/-- One of the rows turns. -/
theorem Fam.turn (h : Fam row W base e k N v X) {i : Nat} (hi : i < N) {v' : Value} {l : List α} (ho : W'.ownsRow base e k v' l.length (row l)) (hg : W.grownBy W' (v i).ownBlock) (hn : ∀ g, v'.ownBlock = some g → (v i).ownBlock = some g ∨ W.heap.size ≤ g) :
    Fam row W' base e k N (updL v i v') (updL X i l) := by
  refine ⟨fun j hj => ?_, fun a b ha hb hab g hga => ?_⟩
  · by_cases ej : j = i
    · subst ej; rw [updL_same, updL_same]; exact ho
    · rw [updL_other _ ej, updL_other _ ej]
      refine (h.own j hj).kept hg ?_
      cases e : (v j).ownBlock with
      | none => exact .inl rfl
      | some g => exact .inr fun e' => h.sep j i hj hi ej g e e'.symm
  · by_cases ea : a = i
    · subst ea
      rw [updL_same] at hga
      rw [updL_other _ (fun e => hab e.symm)]
      intro hgb
      rcases hn g hga with h1 | h1
      · exact h.sep a b ha hb hab g h1 hgb
      · have := ((h.own b hb).lt g hgb).2; omega
    · rw [updL_other _ ea] at hga
      by_cases eb : b = i
      · subst eb
        rw [updL_same]
        intro hgb
        rcases hn g hgb with h1 | h1
        · exact h.sep a b ha hb hab g hga h1
        · have := ((h.own a ha).lt g hga).2; omega
      · rw [updL_other _ eb]; exact h.sep a b ha hb hab g hga
theorem Fam.congr (h : Fam row W base e k N v X) {v' : Nat → Value} {X' : Nat → List α} (hv : ∀ i, i < N → v i = v' i) (hX : ∀ i, i < N → X i = X' i) : Fam row W base e k N v' X' :=
  ⟨fun i hi => by rw [← hv i hi, ← hX i hi]; exact h.own i hi, fun i j hi hj hij g => by rw [← hv i hi, ← hv j hj]; exact h.sep i j hi hj hij g⟩
end

/-- An owned row, cut to nothing. -/
theorem own_cut {w : World} {base e k : Nat} {v : Value} {n : Nat} {xs : List Value} {a : Option Addr} {cap : Nat} (h : w.ownsRow base e k v n xs) (hv : v = .slice a n cap) : w.ownsRow base e k (.slice a 0 cap) 0 [] := by
  refine ⟨by simp, ?_⟩
  rcases h.2 with ⟨h1, h2⟩ | ⟨g, cap', cur, h1, h2, h3, h4, h5, h6, h7⟩
  · rw [hv] at h1
    simp only [Value.slice.injEq] at h1
    obtain ⟨rfl, _, rfl⟩ := h1
    exact .inl ⟨rfl, rfl⟩
  · rw [hv] at h1
    simp only [Value.slice.injEq] at h1
    obtain ⟨rfl, _, rfl⟩ := h1
    exact .inr ⟨g, _, cur, rfl, h2, h3, by omega, h5, h6, by simp⟩

def rowI (l : List Nat) : List Value := l.map fun (n : Nat) => Value.int .i64 (n : Int)
theorem rowI_append (a b : List Nat) : rowI (a ++ b) = rowI a ++ rowI b := by simp [rowI]
theorem rowI_snoc (a : List Nat) (c : Nat) : rowI (a ++ [c]) = rowI a ++ [.int .i64 (c : Int)] := by simp [rowI]
theorem rowI_length (l : List Nat) : (rowI l).length = l.length := by simp [rowI]
theorem rowI_get {l : List Nat} {i : Nat} (h : i < l.length) : (rowI l)[i]'(by rw [rowI_length]; exact h) = .int .i64 (l[i] : Int) := by simp [rowI]

abbrev FamI := Fam rowI

/-- A cell of an owned row of ints. -/
theorem ownI_cell {w : World} {base : Nat} {v : Value} {l : List Nat} (h : w.ownsRow base 3 1 v l.length (rowI l)) {i : Nat} (hi : i < l.length) :
    ∃ g cap, v = .slice (some ⟨g, 0, none⟩) l.length cap ∧ base ≤ g ∧ g < w.heap.size ∧ l.length ≤ cap ∧ w.cell? ⟨g, i, none⟩ = some (.int .i64 (l[i] : Int)) := by
  rcases h.2 with ⟨_, h0⟩ | ⟨g, cap, cur, rfl, hb, hh, h6, h7, h8, ht⟩
  · omega
  · refine ⟨g, cap, rfl, hb, (Array.getElem?_eq_some_iff.1 hh).1, h6, ?_⟩
    have := (own_cell h (j := i) (by rw [rowI_length]; exact hi)).1
    rw [this, rowI_get hi]
theorem own_form {w : World} {base e k : Nat} {v : Value} {n : Nat} {xs : List Value} (h : w.ownsRow base e k v n xs) : ∃ a cap, v = .slice a n cap ∧ n ≤ cap ∧ (∀ A, a = some A → ∃ g, A = ⟨g, 0, none⟩) ∧ (a = none → n = 0 ∧ cap = 0) := by
  rcases h.2 with ⟨h1, h0⟩ | ⟨g, cap, cur, rfl, hb, hh, h6, h7, h8, ht⟩
  · exact ⟨none, 0, by rw [h1, h0], by omega, (fun A hA => by simp at hA), fun _ => ⟨h0, rfl⟩⟩
  · exact ⟨some ⟨g, 0, none⟩, cap, rfl, h6, fun A hA => ⟨g, by cases hA; rfl⟩, fun h => by cases h⟩

end Go.Proofs.YbulkbgasDoor

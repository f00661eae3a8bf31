import Derived.Test.YbulkbgasDoorGk2
namespace Go.Proofs.YbulkbgasDoor
open Go.RowKit Go.Maps
set_option linter.unusedVariables false

/-! ### What bounds a lock point -/
theorem mv_cases (La : Nat → Int) (v0 : Int) : ∀ (xs : List Nat) (p : Int × Int), xs.foldl (mvS La) p = p ∨ ∃ j ∈ xs, xs.foldl (mvS La) p = (La j, (j : Int)) ∧ La j < p.1
  | [], p => .inl rfl
  | x :: xs, p => by
    rw [List.foldl_cons]
    have hle : (mvS La p x).1 ≤ p.1 := by unfold mvS; split <;> simp_all; omega
    rcases mv_cases La v0 xs (mvS La p x) with h | ⟨j, hj, h1, h2⟩
    · rw [h]
      unfold mvS
      by_cases e : La x < p.1
      · rw [if_pos e]; exact .inr ⟨x, List.mem_cons_self, rfl, e⟩
      · rw [if_neg e]; exact .inl rfl
    · exact .inr ⟨j, List.mem_cons_of_mem _ hj, h1, by omega⟩
theorem mv_le (La : Nat → Int) : ∀ (xs : List Nat) (p : Int × Int), (xs.foldl (mvS La) p).1 ≤ p.1 ∧ ∀ j ∈ xs, (xs.foldl (mvS La) p).1 ≤ La j
  | [], p => ⟨Int.le_refl _, fun j hj => by simp at hj⟩
  | x :: xs, p => by
    rw [List.foldl_cons]
    obtain ⟨h1, h2⟩ := mv_le La xs (mvS La p x)
    have hle : (mvS La p x).1 ≤ p.1 ∧ (mvS La p x).1 ≤ La x := by
      unfold mvS
      by_cases e : La x < p.1
      · rw [if_pos e]; constructor <;> simp; omega
      · rw [if_neg e]; constructor
        · exact Int.le_refl _
        · omega
    refine ⟨by omega, fun j hj => ?_⟩
    rcases List.mem_cons.1 hj with e | e
    · subst e; omega
    · exact h2 j e
/-- latest and via, as they stand in the end. -/
structure MvP (nT n : Nat) (FU La Vi : Nat → Int) (X : Nat → List Nat) (O : List Nat) : Prop where
  eq : ∀ i, i < nT → (La i, Vi i) = mvL La (X i) (lat0 FU n i)
  ol : O.length = nT
  nd : O.Nodup
  mem : ∀ j ∈ O, j < nT
  topo : Topo X nT O
  xl : ∀ i, i < nT → ∀ j ∈ X i, j < nT
section
variable {nT n : Nat} {FU La Vi : Nat → Int} {X : Nat → List Nat} {O : List Nat}
theorem MvP.all (h : MvP nT n FU La Vi X O) {i : Nat} (hi : i < nT) : i ∈ O := all_mem h.nd h.ol h.mem i hi
theorem MvP.later (h : MvP nT n FU La Vi X O) {i j : Nat} (hi : i < nT) (hj : j ∈ X i) : ix O i < ix O j := by
  have hiO := h.all hi
  have hjn := h.xl i hi j hj
  obtain ⟨q, hq, h1, h2⟩ := topo_later h.nd h.ol h.mem h.topo (ix_lt hiO) (j := j) (by rw [ix_get hiO]; exact hj) hjn
  have : ix O j = q := by rw [← h2]; exact ix_nodup h.nd hq
  omega
theorem MvP.step (h : MvP nT n FU La Vi X O) {i : Nat} (hi : i < nT) (hv : 0 ≤ Vi i) : ∃ j : Nat, Vi i = (j : Int) ∧ j ∈ X i ∧ j < nT ∧ La i = La j ∧ ix O i < ix O j := by
  have he := h.eq i hi
  unfold mvL at he
  rcases mv_cases La 0 (X i) (lat0 FU n i, -1) with h1 | ⟨j, hj, h1, _⟩
  · rw [h1] at he
    have := congrArg Prod.snd he
    simp at this; omega
  · rw [h1] at he
    exact ⟨j, congrArg Prod.snd he, hj, h.xl i hi j hj, congrArg Prod.fst he, h.later hi hj⟩
theorem MvP.stop (h : MvP nT n FU La Vi X O) {i : Nat} (hi : i < nT) (hv : Vi i < 0) : La i = lat0 FU n i := by
  have he := h.eq i hi
  unfold mvL at he
  rcases mv_cases La 0 (X i) (lat0 FU n i, -1) with h1 | ⟨j, hj, h1, _⟩
  · rw [h1] at he
    exact congrArg Prod.fst he
  · rw [h1] at he
    have := congrArg Prod.snd he
    simp at this; omega
theorem MvP.le (h : MvP nT n FU La Vi X O) {i : Nat} (hi : i < nT) : La i ≤ lat0 FU n i ∧ ∀ j ∈ X i, La i ≤ La j := by
  have he := congrArg Prod.fst (h.eq i hi)
  dsimp only at he
  rw [he]
  exact mv_le La (X i) (lat0 FU n i, -1)
theorem MvP.nonneg (h : MvP nT n FU La Vi X O) : ∀ d i, i < nT → nT - ix O i ≤ d → 0 ≤ La i := by
  intro d
  induction d with
  | zero =>
    intro i hi hd
    have := ix_lt (h.all hi)
    rw [h.ol] at this
    omega
  | succ d ih =>
    intro i hi hd
    by_cases hv : 0 ≤ Vi i
    · obtain ⟨j, _, _, h3, h4, h5⟩ := h.step hi hv
      rw [h4]
      have := ix_lt (h.all hi)
      rw [h.ol] at this
      exact ih j h3 (by omega)
    · rw [h.stop hi (by omega)]
      unfold lat0; split <;> omega
theorem MvP.lkp (h : MvP nT n FU La Vi X O) {FL : Nat → Int} (hfl : ∀ i, i < nT → FL (i * 2) < La i) : LkP nT FU FL X (fun i => (La i).toNat) O := by
  have h0 : ∀ i, i < nT → ((La i).toNat : Int) = La i := fun i hi => Int.toNat_of_nonneg (h.nonneg _ i hi (Nat.le_refl _))
  refine ⟨h.ol, h.nd, h.mem, h.topo, fun i hi j hj => ?_, fun i hi hf => ?_, fun i hi => ?_⟩
  · have h1 := (h.le hi).2 j hj
    have h2 := h0 i hi
    have h3 := h0 j (h.xl i hi j hj)
    omega
  · rw [h0 i hi]
    have := (h.le hi).1
    unfold lat0 at this
    rw [if_pos hf] at this
    exact this
  · rw [h0 i hi]; exact hfl i hi
end

/-! ### The way along 'via' -/
structure PathI (A : List Acc) (nT : Nat) (La : Nat → Int) (O : List Nat) (i : Nat) (P : List Nat) (e : Nat) : Prop where
  ne : 0 < P.length
  hd : P.getD 0 0 = i
  la : P.getD (P.length - 1) 0 = e
  su : ∀ k, k + 1 < P.length → Succ A (P.getD k 0) (P.getD (k + 1) 0)
  lt : ∀ x ∈ P, x < nT
  eq : La e = La i
  bd : P.length ≤ ix O e + 1
theorem PathI.begin {A : List Acc} {nT : Nat} {La : Nat → Int} {O : List Nat} {i : Nat} (hi : i < nT) : PathI A nT La O i [i] i :=
  ⟨by simp, rfl, rfl, fun k hk => by simp at hk, fun x hx => by simp at hx; omega, rfl, by simp⟩
theorem PathI.elt {A : List Acc} {nT : Nat} {La : Nat → Int} {O : List Nat} {i : Nat} {P : List Nat} {e : Nat} (h : PathI A nT La O i P e) : e < nT := by
  have hne := h.ne
  rw [← h.la, List.getD_eq_getElem?_getD, List.getElem?_eq_getElem (by omega), Option.getD_some]
  exact h.lt _ (List.getElem_mem _)
theorem PathI.step {A : List Acc} {nT : Nat} {La : Nat → Int} {O : List Nat} {i : Nat} {P : List Nat} {e j : Nat} (h : PathI A nT La O i P e) (hs : Succ A e j) (hj : j < nT) (hl : La e = La j) (hx : ix O e < ix O j) : PathI A nT La O i (P ++ [j]) j := by
  have hne := h.ne
  have hb := h.bd
  refine ⟨by simp, by rw [getD_left hne]; exact h.hd, ?_, fun k hk => ?_, fun x hx => ?_, by rw [← hl]; exact h.eq, by simp; omega⟩
  · rw [List.length_append, List.length_singleton, Nat.add_sub_cancel, List.getD_eq_getElem?_getD, List.getElem?_append_right (Nat.le_refl _), Nat.sub_self]; rfl
  · simp at hk
    by_cases e2 : k + 1 < P.length
    · rw [getD_left (by omega), getD_left e2]; exact h.su k e2
    · obtain rfl : k = P.length - 1 := by omega
      rw [getD_left (by omega), h.la, List.getD_eq_getElem?_getD, List.getElem?_append_right (by omega), show P.length - 1 + 1 - P.length = 0 by omega]
      exact hs
  · rcases List.mem_append.1 hx with hx | hx
    · exact h.lt x hx
    · simp at hx; omega

/-! ### A chain of arcs -/
theorem linked_of {l : List Ac} {A : List Acc} {tx : List Int} {nT : Nat} {FU FL : Nat → Int} {X : Nat → List Nat} (G : GenP l A tx nT FU FL X) {n : Nat} {B C : Nat → Ac} {cy : Bool} (q : Nat → Nat) (hpos : 0 < n)
    (h : ∀ j, j < n → q j ≠ q (j + 1) ∧ ∃ a ∈ A, ∃ c ∈ A, a.x = q j ∧ c.x = q (j + 1) ∧ a.i = c.i ∧ B j = l.getD a.p ac0 ∧ C j = l.getD c.p ac0) (hcy : cy = true → q n = q 0) : Linked n B C cy := by
  have ht : ∀ j, j < n → (B j).t = tx.getD (q j) 0 ∧ (C j).t = tx.getD (q (j + 1)) 0 := fun j hj => by
    obtain ⟨_, a, ha, c, hc, h1, h2, _, h4, h5⟩ := h j hj
    rw [h4, h5, (G.pt a ha).2, (G.pt c hc).2, h1, h2]
    exact ⟨rfl, rfl⟩
  refine ⟨hpos, fun k hk => ?_, fun k hk => ?_, fun k h0 hk => ?_, fun hc => ?_⟩
  · obtain ⟨hne, a, ha, c, hc, h1, h2, _⟩ := h k hk
    rw [(ht k hk).1, (ht k hk).2]
    exact G.tx _ _ (by rw [← h1]; exact G.xl a ha) (by rw [← h2]; exact G.xl c hc) hne
  · obtain ⟨_, a, ha, c, hc, _, _, h3, h4, h5⟩ := h k hk
    rw [h4, h5]
    exact G.it a ha c hc h3
  · rw [(ht k hk).1, (ht (k - 1) (by omega)).2, show k - 1 + 1 = k by omega]
  · rw [(ht (n - 1) (by omega)).2, (ht 0 hpos).1, show n - 1 + 1 = n by omega, hcy hc]
def rowFn (n : Nat) (B C : Nat → Ac) : List Value := (List.range n).flatMap fun k => arcC (B k) (C k)
theorem rowFn_succ (n : Nat) (B C : Nat → Ac) : rowFn (n + 1) B C = rowFn n B C ++ arcC (B n) (C n) := by
  unfold rowFn; rw [List.range_succ, List.flatMap_append]; simp
theorem rowFn_len (B C : Nat → Ac) : ∀ n, (rowFn n B C).length = n * 8
  | 0 => by simp [rowFn]
  | n + 1 => by rw [rowFn_succ, List.length_append, rowFn_len B C n]; show n * 8 + 8 = _; omega
theorem rowFn_get (B C : Nat → Ac) : ∀ n i, i < n → ((rowFn n B C).drop (i * 8)).take 8 = arcC (B i) (C i)
  | 0, i, h => by omega
  | n + 1, i, h => by
    rw [rowFn_succ]
    by_cases e : i < n
    · have hl := rowFn_len B C n
      rw [List.drop_append_of_le_length (by omega), List.take_append_of_le_length (by rw [List.length_drop]; omega)]
      exact rowFn_get B C n i e
    · obtain rfl : i = n := by omega
      have hl := rowFn_len B C i
      rw [List.drop_append, List.drop_eq_nil_of_le (by omega), hl, Nat.sub_self, List.nil_append, List.drop_zero]
      rfl
theorem rowFn_cons (n : Nat) (x y : Ac) (B C : Nat → Ac) : arcC x y ++ rowFn n B C = rowFn (n + 1) (fun k => if k = 0 then x else B (k - 1)) (fun k => if k = 0 then y else C (k - 1)) := by
  unfold rowFn
  rw [List.range_succ_eq_map, List.flatMap_cons, List.flatMap_map]
  congr 1
theorem rowFn_one (B C : Nat → Ac) (n : Nat) : ∀ v ∈ rowFn n B C, v.oneCell' = true := fun v hv => by
  unfold rowFn at hv
  obtain ⟨k, _, h⟩ := List.mem_flatMap.1 hv
  exact arcC_one _ _ v h
theorem rowFn_congr {n : Nat} {B C B' C' : Nat → Ac} (h : ∀ k, k < n → B k = B' k ∧ C k = C' k) : rowFn n B C = rowFn n B' C' := by
  induction n with
  | zero => rfl
  | succ n ih =>
    rw [rowFn_succ, rowFn_succ, ih (fun k hk => h k (by omega)), (h n (by omega)).1, (h n (by omega)).2]
theorem rowFn_at {w : World} {g n : Nat} {B C : Nat → Ac} (h : ∀ k, k < n → w.rangeAt g (k * 8) (arcC (B k) (C k))) : ∀ (j : Nat) (u : Value), (rowFn n B C)[j]? = some u → w.cell? ⟨g, j, none⟩ = some u := by
  intro j u hu
  have hj := (List.getElem?_eq_some_iff.1 hu).1
  rw [rowFn_len] at hj
  have h1 := rowFn_get B C n (j / 8) (by omega)
  have h2 : (arcC (B (j / 8)) (C (j / 8)))[j % 8]? = some u := by
    rw [← h1, List.getElem?_take, if_pos (by omega), List.getElem?_drop, show j / 8 * 8 + j % 8 = j by omega]
    exact hu
  have := h (j / 8) (by omega) (j % 8) u h2
  rw [show j / 8 * 8 + j % 8 = j by omega] at this
  exact this
end Go.Proofs.YbulkbgasDoor

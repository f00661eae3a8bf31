import Derived.Test.YbulkbgasDoorHp4
namespace Go.Proofs.YbulkbgasDoor
open Go.RowKit Go.Maps
set_option linter.unusedVariables false

/-! ### serialOrder, plainly: how many arcs come into j from those not yet taken -/
def deg (X : Nat → List Nat) (n : Nat) (O : List Nat) (j : Nat) : Nat := ((List.range n).map fun i => if i ∈ O then 0 else (X i).count j).sum
theorem sum_upd (n : Nat) (f f' : Nat → Nat) (i : Nat) (hi : i < n) (h : ∀ k, k ≠ i → f' k = f k) : ((List.range n).map f').sum + f i = ((List.range n).map f).sum + f' i := by
  induction n with
  | zero => omega
  | succ n ih =>
    rw [List.range_succ, List.map_append, List.map_append, List.sum_append, List.sum_append]
    simp only [List.map_cons, List.map_nil, List.sum_cons, List.sum_nil, Nat.add_zero]
    by_cases e : i = n
    · subst e
      have : (List.range i).map f' = (List.range i).map f := List.map_congr_left fun k hk => h k (by have := List.mem_range.1 hk; omega)
      rw [this]; omega
    · have := ih (by omega)
      rw [h n (fun e' => e e'.symm)]; omega
theorem deg_snoc {X : Nat → List Nat} {n : Nat} {O : List Nat} {i : Nat} (hi : i < n) (ho : i ∉ O) (j : Nat) : deg X n (O ++ [i]) j + (X i).count j = deg X n O j := by
  have := sum_upd n (fun k => if k ∈ O then 0 else (X k).count j) (fun k => if k ∈ O ++ [i] then 0 else (X k).count j) i hi (fun k hk => by simp [hk])
  simp only [if_neg ho, List.mem_append, List.mem_singleton, or_true, if_true] at this
  unfold deg
  simp only [List.mem_append, List.mem_singleton]
  omega
theorem deg_zero {X : Nat → List Nat} {n : Nat} {O : List Nat} {j : Nat} (h : deg X n O j = 0) : ∀ i, i < n → j ∈ X i → i ∈ O := by
  intro i hi hj
  unfold deg at h
  rw [List.sum_eq_zero_iff_forall_eq_nat] at h
  have := h _ (List.mem_map.2 ⟨i, List.mem_range.2 hi, rfl⟩)
  split at this
  · assumption
  · rw [List.count_eq_zero] at this; exact absurd hj this
theorem deg_of_in {X : Nat → List Nat} {n : Nat} {O : List Nat} {j : Nat} (h : ∀ i, i < n → j ∈ X i → i ∈ O) : deg X n O j = 0 := by
  unfold deg
  rw [List.sum_eq_zero_iff_forall_eq_nat]
  intro x hx
  obtain ⟨i, hi, rfl⟩ := List.mem_map.1 hx
  split
  · rfl
  · rename_i hn
    exact List.count_eq_zero.2 fun hj => hn (h i (List.mem_range.1 hi) hj)
/-- Of each that is taken, all that have an arc to it are taken before it. -/
def Topo (X : Nat → List Nat) (n : Nat) (O : List Nat) : Prop := ∀ k (hk : k < O.length), ∀ i, i < n → O[k] ∈ X i → i ∈ O.take k
structure Kahn (X : Nat → List Nat) (n : Nat) (O H : List Nat) (D : Nat → Int) : Prop where
  nd : (O ++ H).Nodup
  lt : ∀ j ∈ O ++ H, j < n
  dg : ∀ j, j < n → D j = (deg X n O j : Int)
  zr : ∀ j, j < n → (j ∈ O ++ H ↔ D j = 0)
  topo : Topo X n O
structure KIn (X : Nat → List Nat) (n : Nat) (O : List Nat) (i : Nat) (p H : List Nat) (D : Nat → Int) : Prop where
  nd : (O ++ [i] ++ H).Nodup
  lt : ∀ j ∈ O ++ [i] ++ H, j < n
  dg : ∀ j, j < n → D j = (deg X n O j : Int) - (p.count j : Int)
  zr : ∀ j, j < n → (j ∈ O ++ [i] ++ H ↔ D j = 0)
  topo : Topo X n (O ++ [i])
section
variable {X : Nat → List Nat} {n : Nat} {O H : List Nat} {D : Nat → Int} {i : Nat} {p : List Nat}
theorem Kahn.heapLen (h : Kahn X n O H D) : O.length + H.length ≤ n := by
  have := h.nd.length_le_of_subset (l₂ := List.range n) (fun j hj => List.mem_range.2 (h.lt j hj))
  simpa using this
theorem KIn.heapLen (h : KIn X n O i p H D) : O.length + 1 + H.length ≤ n := by
  have := h.nd.length_le_of_subset (l₂ := List.range n) (fun j hj => List.mem_range.2 (h.lt j hj))
  simp at this
  omega
theorem Kahn.pop {H' : List Nat} (h : Kahn X n O H D) (hp : (i :: H').Perm H) : KIn X n O i [] H' D := by
  have hperm : (O ++ [i] ++ H').Perm (O ++ H) := by
    rw [List.append_assoc]
    exact List.Perm.append_left O hp
  have hm : ∀ j, j ∈ O ++ [i] ++ H' ↔ j ∈ O ++ H := fun j => hperm.mem_iff
  have hi : i ∈ O ++ H := (hm i).1 (by simp)
  have hin : i < n := h.lt i hi
  refine ⟨hperm.nodup_iff.2 h.nd, fun j hj => h.lt j ((hm j).1 hj), fun j hj => by simp [h.dg j hj], fun j hj => (hm j).trans (h.zr j hj), fun k hk q hq hmem => ?_⟩
  rw [List.length_append, List.length_singleton] at hk
  by_cases e : k < O.length
  · rw [List.getElem_append_left e] at hmem
    rw [List.take_append_of_le_length (by omega)]
    exact h.topo k e q hq hmem
  · obtain rfl : k = O.length := by omega
    rw [List.getElem_append_right (Nat.le_refl _)] at hmem
    simp only [Nat.sub_self, List.getElem_cons_zero] at hmem
    rw [List.take_append_of_le_length (Nat.le_refl _), List.take_length]
    have hz : deg X n O i = 0 := by
      have h1 := (h.zr i hin).1 hi
      rw [h.dg i hin] at h1; omega
    exact deg_zero hz q hq hmem
theorem KIn.i_notin (h : KIn X n O i p H D) : i ∉ O := by
  have := (List.nodup_append.1 (List.nodup_append.1 h.nd).1).2.2
  intro hi
  exact this i hi i (by simp) rfl
theorem KIn.i_lt (h : KIn X n O i p H D) : i < n := h.lt i (by simp)
theorem KIn.step (h : KIn X n O i p H D) {j : Nat} {q : List Nat} (hx : X i = p ++ j :: q) (hj : j < n) :
    1 ≤ D j ∧ (D j - 1 ≠ 0 → KIn X n O i (p ++ [j]) H (updL D j (D j - 1))) ∧ (D j - 1 = 0 → ∀ H', H'.Perm (H ++ [j]) → KIn X n O i (p ++ [j]) H' (updL D j (D j - 1))) := by
  have h1 := deg_snoc (X := X) h.i_lt h.i_notin j
  have h2 : p.count j + 1 ≤ (X i).count j := by rw [hx, List.count_append, List.count_cons]; simp
  have h3 := h.dg j hj
  have hd : 1 ≤ D j := by omega
  have hnot : j ∉ O ++ [i] ++ H := fun hm => by have := (h.zr j hj).1 hm; omega
  have hdg : ∀ k, k < n → updL D j (D j - 1) k = (deg X n O k : Int) - ((p ++ [j]).count k : Int) := fun k hk => by
    rw [List.count_append, List.count_singleton]
    unfold updL
    by_cases e : k = j
    · subst e; rw [if_pos rfl, h.dg k hk]; simp; omega
    · rw [if_neg e, h.dg k hk, if_neg (by simpa using fun e' => e e'.symm)]; omega
  refine ⟨hd, fun hne => ⟨h.nd, h.lt, hdg, fun k hk => ?_, h.topo⟩, fun he H' hp => ⟨?_, ?_, hdg, fun k hk => ?_, h.topo⟩⟩
  · unfold updL
    by_cases e : k = j
    · subst e; rw [if_pos rfl]; exact ⟨fun hm => absurd hm hnot, fun e => absurd e hne⟩
    · rw [if_neg e]; exact h.zr k hk
  · have : (O ++ [i] ++ H').Perm (O ++ [i] ++ H ++ [j]) := by rw [List.append_assoc (O ++ [i]) H]; exact hp.append_left _
    rw [this.nodup_iff, List.nodup_append]
    refine ⟨h.nd, by simp, fun a ha b hb => ?_⟩
    obtain rfl : b = j := by simpa using hb
    exact fun e => hnot (e ▸ ha)
  · intro k hk
    have : k ∈ O ++ [i] ++ H ∨ k = j := by
      rcases List.mem_append.1 hk with h1 | h1
      · exact .inl (List.mem_append_left _ h1)
      · rcases List.mem_append.1 ((hp.mem_iff).1 h1) with h2 | h2
        · exact .inl (List.mem_append_right _ h2)
        · exact .inr (by simpa using h2)
    rcases this with h1 | rfl
    · exact h.lt k h1
    · exact hj
  · have hm : k ∈ O ++ [i] ++ H' ↔ k ∈ O ++ [i] ++ H ∨ k = j := by
      have := hp.mem_iff (a := k)
      simp only [List.mem_append, List.mem_singleton] at this ⊢
      rw [this, ← or_assoc]
    rw [hm]
    unfold updL
    by_cases e : k = j
    · subst e; rw [if_pos rfl]; exact ⟨fun _ => he, fun _ => .inr rfl⟩
    · rw [if_neg e]; exact ⟨fun hh => (h.zr k hk).1 (hh.resolve_right e), fun hh => .inl ((h.zr k hk).2 hh)⟩
theorem KIn.done (h : KIn X n O i (X i) H D) : Kahn X n (O ++ [i]) H D := by
  refine ⟨h.nd, h.lt, fun j hj => ?_, h.zr, h.topo⟩
  have := deg_snoc (X := X) h.i_lt h.i_notin j
  have := h.dg j hj
  omega
theorem Kahn.all (h : Kahn X n O [] D) (hup : ∀ i, i < n → ∀ j ∈ X i, i < j) : ∀ j, j < n → j ∈ O := by
  intro j
  induction j using Nat.strongRecOn with
  | ind j ih =>
    intro hj
    have hz : deg X n O j = 0 := deg_of_in fun i hi hm => ih i (hup i hi j hm) hi
    have := (h.zr j hj).2 (by rw [h.dg j hj, hz]; rfl)
    simpa using this
theorem Kahn.len (h : Kahn X n O [] D) (hup : ∀ i, i < n → ∀ j ∈ X i, i < j) : O.length = n := by
  have h1 := h.heapLen
  have h2 := (List.nodup_range (n := n)).length_le_of_subset (l₂ := O) (fun j hj => h.all hup j (List.mem_range.1 hj))
  simp at h1 h2; omega
end
/-- Those that begin: none comes into them. -/
def kBegin (D : Nat → Int) (k : Nat) : List Nat := (List.range k).filter fun j => D j == 0
theorem kBegin_succ (D : Nat → Int) (k : Nat) : kBegin D (k + 1) = kBegin D k ++ if D k = 0 then [k] else [] := by
  unfold kBegin
  rw [List.range_succ, List.filter_append]
  congr 1
  by_cases e : D k = 0 <;> simp [e]
theorem kahn_begin {X : Nat → List Nat} {n : Nat} {D : Nat → Int} (hD : ∀ j, j < n → D j = (deg X n [] j : Int)) : Kahn X n [] (kBegin D n) D := by
  refine ⟨(List.nodup_range (n := n)).sublist List.filter_sublist, fun j hj => ?_, hD, fun j hj => ?_, fun k hk => by simp at hk⟩
  · exact List.mem_range.1 (List.mem_filter.1 hj).1
  · simp [kBegin, hj]
/-- The count, as the two loops make it: the arcs of the first r. -/
def degTo (X : Nat → List Nat) (r : Nat) (j : Nat) : Int := (((List.range r).map fun i => (X i).count j).sum : Nat)
theorem degTo_all (X : Nat → List Nat) (n j : Nat) : degTo X n j = (deg X n [] j : Int) := by simp [degTo, deg]
theorem degTo_succ (X : Nat → List Nat) (r j : Nat) : degTo X (r + 1) j = degTo X r j + ((X r).count j : Int) := by simp [degTo, List.range_succ]
end Go.Proofs.YbulkbgasDoor

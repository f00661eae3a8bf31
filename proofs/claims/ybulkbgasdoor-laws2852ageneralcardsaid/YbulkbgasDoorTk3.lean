import Derived.Test.YbulkbgasDoorTk2
namespace Go.Proofs.YbulkbgasDoor
open Go.RowKit Go.Maps
set_option linter.unusedVariables false

def aA (A : List Acc) (p : Nat) : Acc := A.getD p a0
/-- An access of u comes before one of x that conflicts with it. -/
def Succ (A : List Acc) (u x : Nat) : Prop := u ≠ x ∧ ∃ p q, p < q ∧ q < A.length ∧ (aA A p).x = u ∧ (aA A q).x = x ∧ (aA A p).i = (aA A q).i ∧ ((aA A p).w = true ∨ (aA A q).w = true)

/-! ### Places in a filtered list -/
def fl (P : Acc → Bool) (A : List Acc) : List Nat := (A.filter P).map (·.x)
theorem fl_append (P : Acc → Bool) (A B : List Acc) : fl P (A ++ B) = fl P A ++ fl P B := by unfold fl; rw [List.filter_append, List.map_append]
theorem aA_left {A : List Acc} {c : Acc} {p : Nat} (h : p < A.length) : aA (A ++ [c]) p = aA A p := by
  unfold aA; simp [List.getD_eq_getElem?_getD, List.getElem?_append_left h]
theorem aA_last {A : List Acc} {c : Acc} : aA (A ++ [c]) A.length = c := by
  unfold aA; simp [List.getD_eq_getElem?_getD]
theorem aA_get {A : List Acc} {p : Nat} (h : p < A.length) : aA A p = A[p] := getD_acc h
theorem fl_at {P : Acc → Bool} {A : List Acc} {q : Nat} (hq : q < A.length) (hP : P (aA A q) = true) : (fl P A)[(fl P (A.take q)).length]? = some (aA A q).x := by
  have e : A = A.take q ++ (A[q] :: A.drop (q + 1)) := by rw [List.getElem_cons_drop]; exact (List.take_append_drop q A).symm
  rw [aA_get hq] at hP ⊢
  have : fl P A = fl P (A.take q) ++ (A[q].x :: fl P (A.drop (q + 1))) := by
    conv => lhs; rw [e]
    rw [fl_append]
    congr 1
    unfold fl
    rw [List.filter_cons, if_pos hP]; rfl
  rw [this]
  simp
theorem snoc_ind {p : List Acc → Prop} (h0 : p []) (h1 : ∀ A c, p A → p (A ++ [c])) : ∀ A, p A := by
  intro A
  suffices ∀ B : List Acc, p B.reverse by have := this A.reverse; rwa [List.reverse_reverse] at this
  intro B
  induction B with
  | nil => exact h0
  | cons c B ih => rw [List.reverse_cons]; exact h1 _ c ih
theorem take_left {A : List Acc} {c : Acc} {q : Nat} (h : q ≤ A.length) : (A ++ [c]).take q = A.take q := List.take_append_of_le_length h
theorem fl_ex {P : Acc → Bool} : ∀ (A : List Acc) (j : Nat), j < (fl P A).length → ∃ q, q < A.length ∧ P (aA A q) = true ∧ (fl P (A.take q)).length = j ∧ (fl P A)[j]? = some (aA A q).x := by
  refine snoc_ind (fun j h => by simp [fl] at h) (fun A c ih j h => ?_)
  rw [fl_append] at h ⊢
  by_cases hj : j < (fl P A).length
  · obtain ⟨q, h1, h2, h3, h4⟩ := ih j hj
    exact ⟨q, by simp; omega, by rw [aA_left h1]; exact h2, by rw [take_left (by omega)]; exact h3, by rw [List.getElem?_append_left hj, aA_left h1]; exact h4⟩
  · have hc : P c = true := by
      cases e : P c with
      | true => rfl
      | false => simp [fl, e] at h hj; omega
    have e : fl P [c] = [c.x] := by unfold fl; simp [hc]
    rw [e] at h ⊢
    simp at h
    have hj2 : j = (fl P A).length := by omega
    subst hj2
    exact ⟨A.length, by simp, by rw [aA_last]; exact hc, by rw [take_left (Nat.le_refl _), List.take_length], by rw [aA_last]; simp⟩
theorem fl_mono {P : Acc → Bool} (A : List Acc) {q q' : Nat} (h : q ≤ q') : (fl P (A.take q)).length ≤ (fl P (A.take q')).length := by
  have : A.take q' = A.take q ++ (A.drop q).take (q' - q) := by
    rw [show q' = q + (q' - q) by omega, List.take_add]; congr 2; omega
  rw [this, fl_append, List.length_append]; omega
theorem fl_step {P : Acc → Bool} (A : List Acc) {q : Nat} (hq : q < A.length) (hP : P (aA A q) = true) : (fl P (A.take (q + 1))).length = (fl P (A.take q)).length + 1 := by
  rw [List.take_succ_eq_append_getElem hq, fl_append]
  rw [aA_get hq] at hP
  simp [fl, hP]
theorem rowBy_mem {t : Nat} : ∀ (A : List Acc) (p : Nat), p ∈ rowBy A t ↔ p < A.length ∧ (aA A p).x = t := by
  refine snoc_ind (fun p => by simp [rowBy]) (fun A c ih p => ?_)
  rw [rowBy_snoc]
  by_cases hp : p < A.length
  · rw [aA_left hp]
    split
    · rw [List.mem_append, ih p]; simp; omega
    · rw [ih p]; simp; omega
  · by_cases e : p = A.length
    · subst e
      rw [aA_last]
      split
      · rename_i e; simp [e]
      · rename_i e; rw [ih]; simp; exact fun h => e h.symm
    · split
      · rw [List.mem_append, ih p]; simp; omega
      · rw [ih p]; simp; omega
theorem rowBy_sorted {t : Nat} : ∀ (A : List Acc), (rowBy A t).Pairwise (· < ·) := by
  refine snoc_ind (by simp [rowBy]) (fun A c ih => ?_)
  rw [rowBy_snoc]
  split
  · rw [List.pairwise_append]
    exact ⟨ih, by simp, fun a ha b hb => by simp at hb; subst hb; exact ((rowBy_mem A a).1 ha).1⟩
  · exact ih
theorem sorted_idx {l : List Nat} (h : l.Pairwise (· < ·)) {i j : Nat} (hi : i < l.length) (hj : j < l.length) (hij : i ≤ j) : l[i] ≤ l[j] := by
  by_cases e : i = j
  · subst e; exact Nat.le_refl _
  · exact Nat.le_of_lt (List.pairwise_iff_getElem.1 h i j hi hj (by omega))

/-! ### What 'next' keeps and does, plainly -/
def DoneP (A : List Acc) (met : Nat → Bool) (u p : Nat) : Prop := ∀ q, p < q → q < A.length → (aA A q).i = (aA A p).i → ((aA A p).w = true ∨ (aA A q).w = true) → (aA A q).x = u ∨ met (aA A q).x = true
theorem DoneP.mono {A : List Acc} {met met' : Nat → Bool} {u p : Nat} (h : DoneP A met u p) (hm : ∀ x, met x = true → met' x = true) : DoneP A met' u p := fun q a1 a2 a3 a4 => (h q a1 a2 a3 a4).imp id (hm _)
structure WkI (A : List Acc) (n m : Nat) (met : Nat → Bool) (rd wn : Nat → Nat) (X : Nat → List Nat) : Prop where
  st : ∀ r, r < m + m + n → X r = cwX n m A m m r
  la : ∀ i, i < m → ∃ R, X (m + m + n + i) = rowR (rowAc A i).length R ∧ Rem (rowAc A i).length R ∧ ∀ j (hj : j < (rowAc A i).length), R j ≠ j → met (rowAc A i)[j] = true
  lw : ∀ i, i < m → ∃ R, X (m + m + n + (m + i)) = rowR (rowWr A i).length R ∧ Rem (rowWr A i).length R ∧ ∀ j (hj : j < (rowWr A i).length), R j ≠ j → met (rowWr A i)[j] = true
  dw : ∀ i t, i < m → wn i = t + 1 → ∀ p, p < A.length → (aA A p).x = t → (aA A p).i = i → (aA A p).w = true → DoneP A met t p
  dr : ∀ i t, i < m → rd i = t + 1 → ∀ p, p < A.length → (aA A p).x = t → (aA A p).i = i → (aA A p).w = false → DoneP A met t p
theorem WkI.begin (A : List Acc) (n m : Nat) : WkI A n m (fun _ => false) (fun _ => 0) (fun _ => 0) (cwX n m A m m) :=
  ⟨fun _ _ => rfl, fun i hi => ⟨fun k => k, by rw [cwX_la hi, if_pos hi]; simp [rowR], Rem.new _, fun j hj h => absurd rfl h⟩, fun i hi => ⟨fun k => k, by rw [cwX_lw hi, if_pos hi]; simp [rowR], Rem.new _, fun j hj h => absurd rfl h⟩, fun i t _ h => by simp at h, fun i t _ h => by simp at h⟩
structure NxI (A : List Acc) (n u k : Nat) (met0 met : Nat → Bool) (F : List Nat) : Prop where
  dn : ∀ k' (hk : k' < (rowBy A u).length), k' < k → DoneP A met u (rowBy A u)[k']
  nd : F.Nodup
  so : ∀ x ∈ F, x < n ∧ met0 x = false ∧ Succ A u x
  mt : ∀ x, met x = true ↔ met0 x = true ∨ x ∈ F
theorem NxI.begin (A : List Acc) (n u : Nat) (met0 : Nat → Bool) : NxI A n u 0 met0 met0 [] := ⟨fun k' _ h => by omega, by simp, by simp, by simp⟩
theorem NxI.len {A : List Acc} {n u k : Nat} {met0 met : Nat → Bool} {F : List Nat} (h : NxI A n u k met0 met F) : F.length ≤ n := by
  have := nodup_lenN' (List.range n) F h.nd (fun t ht => List.mem_range.2 (h.so t ht).1)
  rwa [List.length_range] at this
/-- One more of u's accesses, and nothing to take. -/
theorem NxI.skip {A : List Acc} {n u k : Nat} {met0 met : Nat → Bool} {F : List Nat} (h : NxI A n u k met0 met F) (hd : ∀ (hk : k < (rowBy A u).length), DoneP A met u (rowBy A u)[k]) : NxI A n u (k + 1) met0 met F :=
  ⟨fun k' hk h1 => by
    by_cases e : k' = k
    · subst e; exact hd hk
    · exact h.dn k' hk (by omega), h.nd, h.so, h.mt⟩
/-- After a take. -/
theorem NxI.took {A : List Acc} {n u k : Nat} {met0 met met' : Nat → Bool} {F F' : List Nat} {R' : Nat → Nat} {Tx : List Nat} {fr : Nat} (h : NxI A n u k met0 met F) (t : TkI n u Tx fr Tx.length met F met' F' R') (hs : ∀ j (hj : j < Tx.length), fr ≤ j → Tx[j] ≠ u → Succ A u Tx[j]) :
    NxI A n u k met0 met' F' ∧ (∀ x, met x = true → met' x = true) := by
  obtain ⟨G, h1, h2, h3, h4⟩ := t.gr
  have hm : ∀ x, met x = true → met' x = true := fun x hx => (h4 x).2 (.inl hx)
  subst h1
  refine ⟨⟨fun k' hk h1 => (h.dn k' hk h1).mono hm, ?_, fun x hx => ?_, fun x => ?_⟩, hm⟩
  · rw [List.nodup_append]
    refine ⟨h.nd, h2, fun a ha c hc e => ?_⟩
    subst e
    have := (h3 a hc).2.1
    rw [(h.mt a).2 (.inr ha)] at this
    cases this
  · rcases List.mem_append.1 hx with hx | hx
    · exact h.so x hx
    · obtain ⟨a1, a2, a3, j, hj, a4, a5⟩ := h3 x hx
      refine ⟨a1, ?_, by rw [← a5]; exact hs j hj a4 (by rw [a5]; exact a3)⟩
      cases e : met0 x with
      | false => rfl
      | true => rw [(h.mt x).2 (.inl e)] at a2; cases a2
  · rw [h4 x, h.mt x, List.mem_append, or_assoc]
/-- A write's take. -/
theorem take_w {A : List Acc} {n u p : Nat} {met met' : Nat → Bool} {F F' : List Nat} {R' : Nat → Nat} (hp : p < A.length) (hx : (aA A p).x = u) (hw : (aA A p).w = true) (t : TkI n u (rowAc A (aA A p).i) ((rowAc (A.take p) (aA A p).i).length + 1) (rowAc A (aA A p).i).length met F met' F' R') : DoneP A met' u p := by
  intro q hpq hq hi _
  have hP : (fun a : Acc => decide (a.i = (aA A p).i)) (aA A q) = true := by simp [hi]
  have h1 : (rowAc A (aA A p).i)[(rowAc (A.take q) (aA A p).i).length]? = some (aA A q).x := fl_at (P := fun a => decide (a.i = (aA A p).i)) hq hP
  obtain ⟨hl, h2⟩ := List.getElem?_eq_some_iff.1 h1
  have hm : (rowAc (A.take p) (aA A p).i).length + 1 ≤ (rowAc (A.take q) (aA A p).i).length := by
    have e1 : (rowAc (A.take (p + 1)) (aA A p).i).length = (rowAc (A.take p) (aA A p).i).length + 1 := fl_step (P := fun a => decide (a.i = (aA A p).i)) A hp (by simp)
    have e2 : (rowAc (A.take (p + 1)) (aA A p).i).length ≤ (rowAc (A.take q) (aA A p).i).length := fl_mono (P := fun a => decide (a.i = (aA A p).i)) A (by omega)
    omega
  have := t.don _ hl hm hl
  rw [h2] at this
  exact this
theorem sound_w {A : List Acc} {u p : Nat} (hp : p < A.length) (hx : (aA A p).x = u) (hw : (aA A p).w = true) : ∀ j (hj : j < (rowAc A (aA A p).i).length), (rowAc (A.take p) (aA A p).i).length + 1 ≤ j → (rowAc A (aA A p).i)[j] ≠ u → Succ A u (rowAc A (aA A p).i)[j] := by
  intro j hj hge hne
  obtain ⟨q, h1, h2, h3, h4⟩ := fl_ex (P := fun a => decide (a.i = (aA A p).i)) A j hj
  have e : (rowAc A (aA A p).i)[j] = (aA A q).x := (List.getElem?_eq_some_iff.1 h4).2
  refine ⟨fun e2 => hne e2.symm, p, q, ?_, h1, hx, e.symm, by simp at h2; exact h2.symm, .inl hw⟩
  apply Decidable.byContradiction
  intro hn
  have : (fl (fun a => decide (a.i = (aA A p).i)) (A.take q)).length ≤ (fl (fun a => decide (a.i = (aA A p).i)) (A.take p)).length := fl_mono A (by omega)
  rw [h3] at this
  have e2 : (fl (fun a => decide (a.i = (aA A p).i)) (A.take p)).length = (rowAc (A.take p) (aA A p).i).length := rfl
  omega
/-- A read's take. -/
theorem take_r {A : List Acc} {n u p : Nat} {met met' : Nat → Bool} {F F' : List Nat} {R' : Nat → Nat} (hp : p < A.length) (hw : (aA A p).w = false) (t : TkI n u (rowWr A (aA A p).i) (rowWr (A.take (p + 1)) (aA A p).i).length (rowWr A (aA A p).i).length met F met' F' R') : DoneP A met' u p := by
  intro q hpq hq hi hwq
  have hqw : (aA A q).w = true := by
    rcases hwq with h | h
    · rw [hw] at h; cases h
    · exact h
  have h1 : (rowWr A (aA A p).i)[(rowWr (A.take q) (aA A p).i).length]? = some (aA A q).x := fl_at (P := fun a => decide (a.i = (aA A p).i) && a.w) hq (by simp [hi, hqw])
  obtain ⟨hl, h2⟩ := List.getElem?_eq_some_iff.1 h1
  have hm : (rowWr (A.take (p + 1)) (aA A p).i).length ≤ (rowWr (A.take q) (aA A p).i).length := fl_mono (P := fun a => decide (a.i = (aA A p).i) && a.w) A (by omega)
  have := t.don _ hl hm hl
  rw [h2] at this
  exact this
theorem sound_r {A : List Acc} {u p : Nat} (hp : p < A.length) (hx : (aA A p).x = u) : ∀ j (hj : j < (rowWr A (aA A p).i).length), (rowWr (A.take (p + 1)) (aA A p).i).length ≤ j → (rowWr A (aA A p).i)[j] ≠ u → Succ A u (rowWr A (aA A p).i)[j] := by
  intro j hj hge hne
  obtain ⟨q, h1, h2, h3, h4⟩ := fl_ex (P := fun a => decide (a.i = (aA A p).i) && a.w) A j hj
  have e : (rowWr A (aA A p).i)[j] = (aA A q).x := (List.getElem?_eq_some_iff.1 h4).2
  simp only [Bool.and_eq_true, decide_eq_true_eq] at h2
  have e3 : (fl (fun a => decide (a.i = (aA A p).i) && a.w) (A.take (p + 1))).length = (rowWr (A.take (p + 1)) (aA A p).i).length := rfl
  refine ⟨fun e2 => hne e2.symm, p, q, ?_, h1, hx, e.symm, h2.1.symm, .inr h2.2⟩
  apply Decidable.byContradiction
  intro hn
  have h5 : (fl (fun a => decide (a.i = (aA A p).i) && a.w) (A.take (q + 1))).length ≤ (fl (fun a => decide (a.i = (aA A p).i) && a.w) (A.take (p + 1))).length := fl_mono A (by omega)
  have h6 := fl_step (P := fun a => decide (a.i = (aA A p).i) && a.w) A h1 (by simp [h2.1, h2.2])
  omega
theorem NxI.all {A : List Acc} {n u : Nat} {met0 met : Nat → Bool} {F : List Nat} (h : NxI A n u (rowBy A u).length met0 met F) : ∀ x, Succ A u x → met x = true := by
  rintro x ⟨hne, p, q, hpq, hq, h1, h2, h3, h4⟩
  have hp := (rowBy_mem (t := u) A p).2 ⟨by omega, h1⟩
  obtain ⟨k, hk, e⟩ := List.mem_iff_getElem.1 hp
  have := h.dn k hk hk q (by rw [e]; exact hpq) hq (by rw [e]; exact h3.symm) (by rw [e]; exact h4)
  rw [h2] at this
  exact this.resolve_left (fun e => hne e.symm)

end Go.Proofs.YbulkbgasDoor

import Derived.Test.YbulkbgasDoorPl2
namespace Go.Proofs.YbulkbgasDoor
set_option linter.unusedVariables false

/-! ### firstConflicts: the pairs, whole -/
def Pr (back : Bool) (C : Nat → Acc) (k : Nat) (F : Nat → Int) (x : Nat) : Prop :=
  (F (x * 2) < 0 ∧ F (x * 2 + 1) < 0) ∨ ∃ k0 k1, k0 < k1 ∧ k1 < k ∧ (C k0).x = x ∧ (C k1).x ≠ x ∧ (C k0).i = (C k1).i ∧ ((C k0).w = true ∨ (C k1).w = true) ∧ F (x * 2) = (if back = true then ((C k1).p : Int) else ((C k0).p : Int)) ∧ F (x * 2 + 1) = (if back = true then ((C k0).p : Int) else ((C k1).p : Int))
theorem Pr.mono {back : Bool} {C : Nat → Acc} {k k' : Nat} {F : Nat → Int} {x : Nat} (h : Pr back C k F x) (hk : k ≤ k') : Pr back C k' F x := by
  rcases h with h | ⟨k0, k1, h1, h2, h3⟩
  · exact .inl h
  · exact .inr ⟨k0, k1, h1, by omega, h3⟩
def Good (C : Nat → Acc) (P tx : Nat → Nat) (U : Nat → Int) (k : Nat) (i : Nat) : Prop :=
  ∃ k0, k0 < k ∧ (C k0).x = tx i ∧ (C k).x ≠ tx i ∧ (C k0).i = (C k).i ∧ ((C k0).w = true ∨ (C k).w = true) ∧ P (if (C k).w = true then U (i * 2) else U (i * 2 + 1)).toNat = (C k0).p
theorem fcIn_pr {back : Bool} {C : Nat → Acc} {P tx : Nat → Nat} {U : Nat → Int} {k o : Nat} {F : Nat → Int} {i : Nat} (h : ∀ x, Pr back C (k + 1) F x) (hg : i ≠ o → Good C P tx U k i) : ∀ x, Pr back C (k + 1) (fcIn back P tx U o (C k) F i) x := by
  intro x
  unfold fcIn
  by_cases hi : i = o
  · rw [if_pos hi]; exact h x
  · rw [if_neg hi]
    split
    · obtain ⟨k0, g1, g2, g3, g4, g5, g6⟩ := hg hi
      by_cases hx : x = tx i
      · subst hx
        right
        refine ⟨k0, k, g1, by omega, g2, g3, g4, g5, ?_, ?_⟩
        · cases back
          · simp only [Bool.false_eq_true, if_false]; rw [upd2_0, g6]
          · simp only [if_true]; rw [upd2_0]
        · cases back
          · simp only [Bool.false_eq_true, if_false]; rw [upd2_1]
          · simp only [if_true]; rw [upd2_1, g6]
      · have : ∀ y z, Pr back C (k + 1) (upd2 F (tx i) y z) x := fun y z => by
          have := h x
          unfold Pr at this ⊢
          rw [(upd2_o hx y z).1, (upd2_o hx y z).2]
          exact this
        split
        · exact this _ _
        · exact this _ _
    · exact h x
theorem fcFold_pr {back : Bool} {C : Nat → Acc} {P tx : Nat → Nat} {U : Nat → Int} {k o : Nat} : ∀ (W : List Nat) (F : Nat → Int), (∀ x, Pr back C (k + 1) F x) → (∀ i ∈ W, i ≠ o → Good C P tx U k i) → ∀ x, Pr back C (k + 1) (W.foldl (fcIn back P tx U o (C k)) F) x
  | [], F, h, _ => h
  | i :: W, F, h, hg => by
    rw [List.foldl_cons]
    exact fcFold_pr W _ (fcIn_pr h (hg i List.mem_cons_self)) (fun j hj => hg j (List.mem_cons_of_mem _ hj))

structure FcU (back : Bool) (C : Nat → Acc) (own Qi : Nat → Nat) (k : Nat) (s : Fc) : Prop where
  u0 : ∀ j, 0 ≤ s.U (j * 2) → ∃ k0, k0 < k ∧ own k0 = j ∧ s.U (j * 2) = (Qi k0 : Int)
  u1 : ∀ j, 0 ≤ s.U (j * 2 + 1) → ∃ k0, k0 < k ∧ own k0 = j ∧ (C k0).w = true ∧ s.U (j * 2 + 1) = (Qi k0 : Int)
  l0 : ∀ it j, j ∈ s.L (it * 2) → 0 ≤ s.U (j * 2)
  l1 : ∀ it j, j ∈ s.L (it * 2 + 1) → 0 ≤ s.U (j * 2) ∧ 0 ≤ s.U (j * 2 + 1)
  pr : ∀ x, Pr back C k s.F x

theorem FcU.start (back : Bool) (C : Nat → Acc) (own Qi : Nat → Nat) : FcU back C own Qi 0 fc0 :=
  ⟨fun j h => by simp [fc0] at h, fun j h => by simp [fc0] at h, fun _ j h => by simp [fc0] at h, fun _ j h => by simp [fc0] at h, fun x => .inl ⟨by simp [fc0], by simp [fc0]⟩⟩

theorem FcU.step {back : Bool} {P tx : Nat → Nat} {C : Nat → Acc} {own Qi : Nat → Nat} {k n : Nat} {s : Fc} (hk : k < n) (K1 : ∀ a b, a < n → b < n → (own a = own b ↔ (C a).i = (C b).i ∧ (C a).x = (C b).x)) (K2 : ∀ a, a < n → tx (own a) = (C a).x) (KP : ∀ a, a < n → P (Qi a) = (C a).p)
    (h : FcI back tx C own k s) (u : FcU back C own Qi k s) : FcU back C own Qi (k + 1) (fcStep back P tx (own k) (C k) (Qi k) s) := by
  have good : ∀ i, (i ∈ s.L ((C k).i * 2) ∧ (C k).w = true) ∨ i ∈ s.L ((C k).i * 2 + 1) → i ≠ own k → Good C P tx s.U k i := by
    intro i hi hne
    obtain ⟨k0, e1, e2, e3⟩ : ∃ k0, k0 < k ∧ own k0 = i ∧ (C k0).i = (C k).i := by
      rcases hi with ⟨hj1, _⟩ | hj1
      · exact h.a _ _ i (.inl rfl) hj1
      · exact h.a _ _ i (.inr rfl) hj1
    have hx : (C k).x ≠ tx i := fun e => hne (by
      rw [← e2]
      exact (K1 k0 k (by omega) hk).2 ⟨e3, by rw [← K2 k0 (by omega), e2, e]⟩)
    by_cases hw : (C k).w = true
    · have hU : 0 ≤ s.U (i * 2) := by
        rcases hi with ⟨hj, _⟩ | hj
        · exact u.l0 _ _ hj
        · exact (u.l1 _ _ hj).1
      obtain ⟨k1, f1, f2, f3⟩ := u.u0 i hU
      have f4 := (K1 k1 k0 (by omega) (by omega)).1 (f2.trans e2.symm)
      refine ⟨k1, f1, by rw [← f2]; exact (K2 k1 (by omega)).symm, hx, f4.1.trans e3, .inr hw, ?_⟩
      rw [if_pos hw, f3, Int.toNat_natCast]; exact KP k1 (by omega)
    · have hj : i ∈ s.L ((C k).i * 2 + 1) := by
        rcases hi with ⟨_, h2⟩ | hj
        · exact absurd h2 hw
        · exact hj
      obtain ⟨k1, f1, f2, f3, f5⟩ := u.u1 i (u.l1 _ _ hj).2
      have f4 := (K1 k1 k0 (by omega) (by omega)).1 (f2.trans e2.symm)
      refine ⟨k1, f1, by rw [← f2]; exact (K2 k1 (by omega)).symm, hx, f4.1.trans e3, .inl f3, ?_⟩
      rw [if_neg hw, f5, Int.toNat_natCast]; exact KP k1 (by omega)
  have g0 := fcHalf_h back P tx (own k) (C k) s 0 (.inl rfl)
  have g1 := fcHalf_h back P tx (own k) (C k) (fcHalf back P tx (own k) (C k) s 0) 1 (.inr rfl)
  have g := g0.trans g1
  have p0 : ∀ x, Pr back C (k + 1) s.F x := fun x => (u.pr x).mono (by omega)
  have p1 : ∀ x, Pr back C (k + 1) (fcHalf back P tx (own k) (C k) s 0).F x := by
    unfold fcHalf
    split
    · exact p0
    · rename_i hc
      have hw : (C k).w = true := by
        cases e : (C k).w with
        | true => rfl
        | false => exact absurd ⟨rfl, e⟩ hc
      exact fcFold_pr _ _ p0 (fun i hi => good i (.inl ⟨hi, hw⟩))
  have p2 : ∀ x, Pr back C (k + 1) (fcHalf back P tx (own k) (C k) (fcHalf back P tx (own k) (C k) s 0) 1).F x := by
    generalize hs1 : fcHalf back P tx (own k) (C k) s 0 = s1 at p1 g0
    unfold fcHalf
    rw [if_neg (by omega)]
    exact fcFold_pr _ _ p1 (fun i hi hne => by
      rw [g0.U]
      exact good i (.inr (g0.sub _ _ hi)) hne)
  unfold fcStep
  generalize fcHalf back P tx (own k) (C k) (fcHalf back P tx (own k) (C k) s 0) 1 = s2 at g p2 ⊢
  have hF : (fcReg2 (own k) (C k) (Qi k) (fcReg1 (own k) (C k) (Qi k) s2)).F = s2.F := (reg2_F _ _ _ _).trans (reg1_F _ _ _ _)
  -- what has been kept of those that wait
  have a0 : ∀ j, 0 ≤ s2.U (j * 2) → ∃ k0, k0 < k + 1 ∧ own k0 = j ∧ s2.U (j * 2) = (Qi k0 : Int) := fun j hj => by
    rw [g.U] at hj ⊢
    obtain ⟨k0, e1, e2⟩ := u.u0 j hj
    exact ⟨k0, by omega, e2⟩
  have a1 : ∀ j, 0 ≤ s2.U (j * 2 + 1) → ∃ k0, k0 < k + 1 ∧ own k0 = j ∧ (C k0).w = true ∧ s2.U (j * 2 + 1) = (Qi k0 : Int) := fun j hj => by
    rw [g.U] at hj ⊢
    obtain ⟨k0, e1, e2⟩ := u.u1 j hj
    exact ⟨k0, by omega, e2⟩
  have r0 : ∀ j, 0 ≤ s2.U (j * 2) → 0 ≤ (fcReg1 (own k) (C k) (Qi k) s2).U (j * 2) := fun j hj => by
    unfold fcReg1; split
    · dsimp only; unfold updL; split
      · omega
      · exact hj
    · exact hj
  have r1 : 0 ≤ (fcReg1 (own k) (C k) (Qi k) s2).U (own k * 2) := by
    unfold fcReg1; split
    · dsimp only; rw [updL_same]; omega
    · rename_i hc; omega
  refine ⟨fun j hj => ?_, fun j hj => ?_, fun it j hj => ?_, fun it j hj => ?_, fun x => by rw [hF]; exact p2 x⟩
  · rw [reg2_U0] at hj ⊢
    by_cases e : j = own k
    · subst e
      unfold fcReg1 at hj ⊢
      split
      · rename_i hc
        dsimp only
        exact ⟨k, by omega, rfl, by rw [updL_same]⟩
      · rename_i hc
        rw [if_neg hc] at hj
        exact a0 _ hj
    · rw [reg1_U0 _ _ _ _ _ e] at hj ⊢
      exact a0 j hj
  · by_cases e : j = own k ∧ (C k).w = true
    · obtain ⟨rfl, hw⟩ := e
      unfold fcReg2 at hj ⊢
      split
      · dsimp only
        exact ⟨k, by omega, rfl, hw, by rw [updL_same]⟩
      · rename_i hc
        rw [if_neg hc, reg1_U1] at hj
        rw [reg1_U1]
        exact a1 _ hj
    · rw [reg2_U1 _ _ _ _ _ e, reg1_U1] at hj ⊢
      exact a1 j hj
  · rw [reg2_U0]
    rcases reg2_inv _ _ _ _ hj with hj | ⟨hj, _⟩
    · rcases reg1_inv _ _ _ _ hj with hj | ⟨_, hj⟩
      · exact r0 j (by rw [g.U]; exact u.l0 _ _ (g.sub _ _ hj))
      · subst hj; exact r1
    · omega
  · rw [reg2_U0]
    rcases reg2_inv _ _ _ _ hj with hj | ⟨_, hj⟩
    · rcases reg1_inv _ _ _ _ hj with hj | ⟨hj, _⟩
      · have h1 := u.l1 _ _ (g.sub _ _ hj)
        refine ⟨r0 j (by rw [g.U]; exact h1.1), ?_⟩
        unfold fcReg2; split
        · dsimp only; unfold updL; split
          · omega
          · rw [reg1_U1, g.U]; exact h1.2
        · rw [reg1_U1, g.U]; exact h1.2
      · omega
    · subst hj
      refine ⟨r1, ?_⟩
      unfold fcReg2; split
      · dsimp only; rw [updL_same]; omega
      · rename_i hc
        have hm : own k ∈ (fcReg2 (own k) (C k) (Qi k) (fcReg1 (own k) (C k) (Qi k) s2)).L (it * 2 + 1) := by assumption
        unfold fcReg2 at hm
        rw [if_neg hc] at hm
        rcases reg1_inv _ _ _ _ hm with hm | ⟨hm, _⟩
        · rw [reg1_U1, g.U]; exact (u.l1 _ _ (g.sub _ _ hm)).2
        · omega

theorem fcF_pr (back : Bool) (A : List Acc) (tx ow : Nat → Nat) (K1 : ∀ a b, a < A.length → b < A.length → (ow a = ow b ↔ (A.getD a a0).i = (A.getD b a0).i ∧ (A.getD a a0).x = (A.getD b a0).x)) (K2 : ∀ a, a < A.length → tx (ow a) = (A.getD a a0).x) :
    ∀ k, k ≤ A.length → FcU back (fun k => A.getD (fcAt back A.length k) a0) (fun k => ow (fcAt back A.length k)) (fcAt back A.length) k (fcF back A tx ow k)
  | 0, _ => FcU.start _ _ _ _
  | k + 1, h => by
    have hat : ∀ a, a < A.length → fcAt back A.length a < A.length := fun a ha => by unfold fcAt; split <;> omega
    rw [fcF]
    exact FcU.step (n := A.length) (by omega) (fun a b ha hb => K1 _ _ (hat a ha) (hat b hb)) (fun a ha => K2 _ (hat a ha)) (fun a ha => rfl) (fcF_inv back A tx ow K1 K2 k (by omega)) (fcF_pr back A tx ow K1 K2 k (by omega))

end Go.Proofs.YbulkbgasDoor

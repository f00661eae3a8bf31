import Derived.Test.YbulkbgasDoorPl1
namespace Go.Proofs.YbulkbgasDoor
set_option linter.unusedVariables false

/-! ### firstConflicts: what it finds -/
def eB (back : Bool) : Nat := if back = true then 0 else 1

theorem upd2_0 (F : Nat → Int) (t : Nat) (x y : Int) : upd2 F t x y (t * 2) = x := by
  unfold upd2; rw [updL_other _ (by omega), updL_same]
theorem upd2_1 (F : Nat → Int) (t : Nat) (x y : Int) : upd2 F t x y (t * 2 + 1) = y := by
  unfold upd2; rw [updL_same]
theorem upd2_o {F : Nat → Int} {t u : Nat} (h : u ≠ t) (x y : Int) : upd2 F t x y (u * 2) = F (u * 2) ∧ upd2 F t x y (u * 2 + 1) = F (u * 2 + 1) := by
  unfold upd2
  rw [updL_other _ (by omega), updL_other _ (by omega), updL_other _ (by omega), updL_other _ (by omega)]
  exact ⟨rfl, rfl⟩

section
variable (back : Bool) (P tx : Nat → Nat) (U : Nat → Int) (o : Nat) (c : Acc)

theorem fcIn_ff (F : Nat → Int) (i x : Nat) : (fcIn back P tx U o c F i (x * 2) = F (x * 2) ∧ fcIn back P tx U o c F i (x * 2 + 1) = F (x * 2 + 1)) ∨
    (F (x * 2) < 0 ∧ 0 ≤ fcIn back P tx U o c F i (x * 2) ∧ fcIn back P tx U o c F i (x * 2 + eB back) = (c.p : Int) ∧ i ≠ o ∧ tx i = x) := by
  unfold fcIn
  split
  · exact .inl ⟨rfl, rfl⟩
  · rename_i hi
    split
    · rename_i hF
      by_cases hx : x = tx i
      · subst hx
        right
        refine ⟨hF, ?_, ?_, hi, rfl⟩
        · split
          · rw [upd2_0]; omega
          · rw [upd2_0]; omega
        · split
          · rename_i hb; rw [show tx i * 2 + eB back = tx i * 2 from by unfold eB; rw [if_pos hb]; rfl, upd2_0]
          · rename_i hb; rw [show eB back = 1 from by unfold eB; rw [if_neg hb], upd2_1]
      · left
        split
        · exact upd2_o hx _ _
        · exact upd2_o hx _ _
    · exact .inl ⟨rfl, rfl⟩
theorem fcIn_set (F : Nat → Int) (i : Nat) (hi : i ≠ o) : 0 ≤ fcIn back P tx U o c F i (tx i * 2) := by
  unfold fcIn
  rw [if_neg hi]
  split
  · split
    · rw [upd2_0]; omega
    · rw [upd2_0]; omega
  · omega
theorem fcFold_ff : ∀ (W : List Nat) (F : Nat → Int) (x : Nat), (W.foldl (fcIn back P tx U o c) F (x * 2) = F (x * 2) ∧ W.foldl (fcIn back P tx U o c) F (x * 2 + 1) = F (x * 2 + 1)) ∨
    (F (x * 2) < 0 ∧ 0 ≤ W.foldl (fcIn back P tx U o c) F (x * 2) ∧ W.foldl (fcIn back P tx U o c) F (x * 2 + eB back) = (c.p : Int) ∧ ∃ i ∈ W, i ≠ o ∧ tx i = x)
  | [], F, x => .inl ⟨rfl, rfl⟩
  | i :: W, F, x => by
    rw [List.foldl_cons]
    rcases fcIn_ff back P tx U o c F i x with ⟨h1, h2⟩ | ⟨h1, h2, h3, h4, h5⟩
    · rcases fcFold_ff W (fcIn back P tx U o c F i) x with ⟨g1, g2⟩ | ⟨g1, g2, g3, j, hj, g4, g5⟩
      · exact .inl ⟨g1.trans h1, g2.trans h2⟩
      · exact .inr ⟨by rw [← h1]; exact g1, g2, g3, j, List.mem_cons_of_mem _ hj, g4, g5⟩
    · rcases fcFold_ff W (fcIn back P tx U o c F i) x with ⟨g1, g2⟩ | ⟨g1, g2, g3, j, hj, g4, g5⟩
      · refine .inr ⟨h1, by rw [g1]; exact h2, ?_, i, List.mem_cons_self, h4, h5⟩
        unfold eB at h3 ⊢
        split
        · rename_i hb; rw [if_pos hb] at h3; exact g1.trans h3
        · rename_i hb; rw [if_neg hb] at h3; exact g2.trans h3
      · omega
theorem fcFold_set : ∀ (W : List Nat) (F : Nat → Int), ∀ i ∈ W, i ≠ o → 0 ≤ W.foldl (fcIn back P tx U o c) F (tx i * 2)
  | [], _, _, h, _ => by simp at h
  | j :: W, F, i, h, hi => by
    rw [List.foldl_cons]
    rcases List.mem_cons.1 h with e | e
    · subst e
      have h1 := fcIn_set back P tx U o c F i hi
      rcases fcFold_ff back P tx U o c W (fcIn back P tx U o c F i) (tx i) with ⟨g1, g2⟩ | ⟨g1, g2, _⟩
      · rw [g1]; exact h1
      · exact g2
    · exact fcFold_set W _ i e hi
end

/-- One or two lists met. -/
structure FcH (back : Bool) (tx : Nat → Nat) (o : Nat) (c : Acc) (s s' : Fc) : Prop where
  U : s'.U = s.U
  sub : ∀ m j, j ∈ s'.L m → j ∈ s.L m
  res : ∀ m j, j ∈ s.L m → j ∈ s'.L m ∨ 0 ≤ s'.F (tx j * 2)
  ff : ∀ x, (s'.F (x * 2) = s.F (x * 2) ∧ s'.F (x * 2 + 1) = s.F (x * 2 + 1)) ∨ (s.F (x * 2) < 0 ∧ 0 ≤ s'.F (x * 2) ∧ s'.F (x * 2 + eB back) = (c.p : Int) ∧ ∃ j, j ≠ o ∧ tx j = x ∧ (j ∈ s.L (c.i * 2) ∨ j ∈ s.L (c.i * 2 + 1)))
theorem FcH.refl {back : Bool} {tx : Nat → Nat} {o : Nat} {c : Acc} (s : Fc) : FcH back tx o c s s := ⟨rfl, fun _ _ h => h, fun _ _ h => .inl h, fun _ => .inl ⟨rfl, rfl⟩⟩
theorem FcH.keep {back : Bool} {tx : Nat → Nat} {o : Nat} {c : Acc} {s s' : Fc} (h : FcH back tx o c s s') {x : Nat} (h0 : 0 ≤ s.F (x * 2)) : s'.F (x * 2) = s.F (x * 2) ∧ s'.F (x * 2 + 1) = s.F (x * 2 + 1) := by
  rcases h.ff x with h1 | ⟨h1, _⟩
  · exact h1
  · omega
theorem FcH.keepE {back : Bool} {tx : Nat → Nat} {o : Nat} {c : Acc} {s s' : Fc} (h : FcH back tx o c s s') {x : Nat} (h0 : 0 ≤ s.F (x * 2)) : s'.F (x * 2 + eB back) = s.F (x * 2 + eB back) := by
  have := h.keep h0
  unfold eB; split
  · exact this.1
  · exact this.2
theorem FcH.trans {back : Bool} {tx : Nat → Nat} {o : Nat} {c : Acc} {s s' s'' : Fc} (h : FcH back tx o c s s') (g : FcH back tx o c s' s'') : FcH back tx o c s s'' := by
  refine ⟨g.U.trans h.U, fun m j hj => h.sub m j (g.sub m j hj), fun m j hj => ?_, fun x => ?_⟩
  · rcases h.res m j hj with h1 | h1
    · exact g.res m j h1
    · right; rw [(g.keep h1).1]; exact h1
  · rcases h.ff x with ⟨h1, h2⟩ | ⟨h1, h2, h3, h4⟩
    · rcases g.ff x with ⟨g1, g2⟩ | ⟨g1, g2, g3, j, g4, g5, g6⟩
      · exact .inl ⟨g1.trans h1, g2.trans h2⟩
      · exact .inr ⟨by rw [← h1]; exact g1, g2, g3, j, g4, g5, g6.imp (h.sub _ _) (h.sub _ _)⟩
    · right
      refine ⟨h1, ?_, ?_, h4⟩
      · rw [(g.keep h2).1]; exact h2
      · rw [g.keepE h2]; exact h3
theorem fcHalf_h (back : Bool) (P tx : Nat → Nat) (o : Nat) (c : Acc) (s : Fc) (k : Nat) (hk : k = 0 ∨ k = 1) : FcH back tx o c s (fcHalf back P tx o c s k) := by
  unfold fcHalf
  split
  · exact FcH.refl s
  · refine ⟨rfl, fun m j hj => ?_, fun m j hj => ?_, fun x => ?_⟩
    · dsimp only at hj
      unfold updL at hj
      split at hj
      · rename_i e; subst e; exact (List.mem_filter.1 hj).1
      · exact hj
    · dsimp only
      by_cases e : m = c.i * 2 + k
      · subst e
        rw [updL_same]
        by_cases ej : j = o
        · left; exact List.mem_filter.2 ⟨hj, by simpa using ej⟩
        · right; exact fcFold_set back P tx s.U o c _ s.F j hj ej
      · left; rw [updL_other _ e]; exact hj
    · dsimp only
      rcases fcFold_ff back P tx s.U o c (s.L (c.i * 2 + k)) s.F x with h1 | ⟨h1, h2, h3, j, hj, h4, h5⟩
      · exact .inl h1
      · refine .inr ⟨h1, h2, h3, j, h4, h5, ?_⟩
        rcases hk with rfl | rfl
        · exact .inl hj
        · exact .inr hj
theorem fcHalf_set (back : Bool) (P tx : Nat → Nat) (o : Nat) (c : Acc) (s : Fc) (k : Nat) (hk : ¬ (k = 0 ∧ c.w = false)) {j : Nat} (hj : j ∈ s.L (c.i * 2 + k)) (ho : j ≠ o) : 0 ≤ (fcHalf back P tx o c s k).F (tx j * 2) := by
  unfold fcHalf
  rw [if_neg hk]
  exact fcFold_set back P tx s.U o c _ s.F j hj ho

/-- One access, taken in: what turns. -/
structure FcD (back : Bool) (tx : Nat → Nat) (o : Nat) (c : Acc) (s s' : Fc) : Prop where
  m0 : ∀ m j, j ∈ s'.L m → j ∈ s.L m ∨ ((m = c.i * 2 ∨ m = c.i * 2 + 1) ∧ j = o)
  res : ∀ m j, j ∈ s.L m → j ∈ s'.L m ∨ 0 ≤ s'.F (tx j * 2)
  o0 : s.U (o * 2) < 0 → o ∈ s'.L (c.i * 2) ∨ o ∈ s'.L (c.i * 2 + 1) ∨ 0 ≤ s.U (o * 2 + 1)
  o1 : c.w = true → s.U (o * 2 + 1) < 0 → o ∈ s'.L (c.i * 2 + 1)
  ff : ∀ x, (s'.F (x * 2) = s.F (x * 2) ∧ s'.F (x * 2 + 1) = s.F (x * 2 + 1)) ∨ (s.F (x * 2) < 0 ∧ 0 ≤ s'.F (x * 2) ∧ s'.F (x * 2 + eB back) = (c.p : Int) ∧ ∃ j, j ≠ o ∧ tx j = x ∧ (j ∈ s.L (c.i * 2) ∨ j ∈ s.L (c.i * 2 + 1)))
  s1 : ∀ j, j ∈ s.L (c.i * 2 + 1) → j ≠ o → 0 ≤ s'.F (tx j * 2)
  s0 : c.w = true → ∀ j, j ∈ s.L (c.i * 2) → j ≠ o → 0 ≤ s'.F (tx j * 2)
  u0 : ∀ j, 0 ≤ s'.U (j * 2) → 0 ≤ s.U (j * 2) ∨ j = o
  u1 : ∀ j, 0 ≤ s'.U (j * 2 + 1) → 0 ≤ s.U (j * 2 + 1) ∨ (j = o ∧ c.w = true)
theorem updL_app {X : Nat → List Nat} {m m' j o : Nat} (h : j ∈ X m') : j ∈ updL X m (X m ++ [o]) m' := by
  unfold updL; split
  · rename_i e; subst e; exact List.mem_append_left _ h
  · exact h
theorem updL_app_inv {X : Nat → List Nat} {m m' j o : Nat} (h : j ∈ updL X m (X m ++ [o]) m') : j ∈ X m' ∨ (m' = m ∧ j = o) := by
  unfold updL at h; split at h
  · rename_i e; subst e
    rcases List.mem_append.1 h with h | h
    · exact .inl h
    · simp at h; exact .inr ⟨rfl, h⟩
  · exact .inl h

theorem reg1_F (o : Nat) (c : Acc) (q : Nat) (s : Fc) : (fcReg1 o c q s).F = s.F := by unfold fcReg1; split <;> rfl
theorem reg2_F (o : Nat) (c : Acc) (q : Nat) (s : Fc) : (fcReg2 o c q s).F = s.F := by unfold fcReg2; split <;> rfl
theorem reg1_up (o : Nat) (c : Acc) (q : Nat) (s : Fc) {m j : Nat} (h : j ∈ s.L m) : j ∈ (fcReg1 o c q s).L m := by
  unfold fcReg1; split
  · dsimp only; split
    · exact h
    · exact updL_app h
  · exact h
theorem reg2_up (o : Nat) (c : Acc) (q : Nat) (s : Fc) {m j : Nat} (h : j ∈ s.L m) : j ∈ (fcReg2 o c q s).L m := by
  unfold fcReg2; split
  · exact updL_app h
  · exact h
theorem reg1_inv (o : Nat) (c : Acc) (q : Nat) (s : Fc) {m j : Nat} (h : j ∈ (fcReg1 o c q s).L m) : j ∈ s.L m ∨ (m = c.i * 2 ∧ j = o) := by
  unfold fcReg1 at h; split at h
  · dsimp only at h; split at h
    · exact .inl h
    · exact updL_app_inv h
  · exact .inl h
theorem reg2_inv (o : Nat) (c : Acc) (q : Nat) (s : Fc) {m j : Nat} (h : j ∈ (fcReg2 o c q s).L m) : j ∈ s.L m ∨ (m = c.i * 2 + 1 ∧ j = o) := by
  unfold fcReg2 at h; split at h
  · exact updL_app_inv h
  · exact .inl h
theorem reg1_U1 (o : Nat) (c : Acc) (q : Nat) (s : Fc) (j : Nat) : (fcReg1 o c q s).U (j * 2 + 1) = s.U (j * 2 + 1) := by
  unfold fcReg1; split
  · exact updL_other _ (by omega) _
  · rfl
theorem reg1_U0 (o : Nat) (c : Acc) (q : Nat) (s : Fc) (j : Nat) (h : j ≠ o) : (fcReg1 o c q s).U (j * 2) = s.U (j * 2) := by
  unfold fcReg1; split
  · exact updL_other _ (by omega) _
  · rfl
theorem reg2_U0 (o : Nat) (c : Acc) (q : Nat) (s : Fc) (j : Nat) : (fcReg2 o c q s).U (j * 2) = s.U (j * 2) := by
  unfold fcReg2; split
  · exact updL_other _ (by omega) _
  · rfl
theorem reg2_U1 (o : Nat) (c : Acc) (q : Nat) (s : Fc) (j : Nat) (h : ¬ (j = o ∧ c.w = true)) : (fcReg2 o c q s).U (j * 2 + 1) = s.U (j * 2 + 1) := by
  unfold fcReg2; split
  · rename_i hc; exact updL_other _ (fun e => h ⟨by omega, hc.1⟩) _
  · rfl

theorem fcStep_d (back : Bool) (P tx : Nat → Nat) (o : Nat) (c : Acc) (q : Nat) (s : Fc) : FcD back tx o c s (fcStep back P tx o c q s) := by
  have g0 := fcHalf_h back P tx o c s 0 (.inl rfl)
  have g1 := fcHalf_h back P tx o c (fcHalf back P tx o c s 0) 1 (.inr rfl)
  have g := g0.trans g1
  have hset0 : c.w = true → ∀ j, j ∈ s.L (c.i * 2) → j ≠ o → 0 ≤ (fcHalf back P tx o c (fcHalf back P tx o c s 0) 1).F (tx j * 2) := fun hw j hj ho => by
    have := fcHalf_set back P tx o c s 0 (fun h => by rw [hw] at h; cases h.2) hj ho
    rw [(g1.keep this).1]; exact this
  have hset1 : ∀ j, j ∈ s.L (c.i * 2 + 1) → j ≠ o → 0 ≤ (fcHalf back P tx o c (fcHalf back P tx o c s 0) 1).F (tx j * 2) := fun j hj ho => by
    rcases g0.res _ j hj with h1 | h1
    · exact fcHalf_set back P tx o c _ 1 (fun h => by cases h.1) h1 ho
    · rw [(g1.keep h1).1]; exact h1
  unfold fcStep
  generalize fcHalf back P tx o c (fcHalf back P tx o c s 0) 1 = s2 at g hset0 hset1 ⊢
  have hF : (fcReg2 o c q (fcReg1 o c q s2)).F = s2.F := (reg2_F _ _ _ _).trans (reg1_F _ _ _ _)
  refine ⟨fun m j hj => ?_, fun m j hj => ?_, fun hU => ?_, fun hw hU => ?_, fun x => ?_, fun j hj ho => ?_, fun hw j hj ho => ?_, fun j hj => ?_, fun j hj => ?_⟩
  · rcases reg2_inv _ _ _ _ hj with h | ⟨h, e⟩
    · rcases reg1_inv _ _ _ _ h with h | ⟨h, e⟩
      · exact .inl (g.sub _ _ h)
      · exact .inr ⟨.inl h, e⟩
    · exact .inr ⟨.inr h, e⟩
  · rw [hF]
    rcases g.res m j hj with h | h
    · exact .inl (reg2_up _ _ _ _ (reg1_up _ _ _ _ h))
    · exact .inr h
  · rw [← g.U] at hU
    by_cases hw : c.w = true
    · by_cases hU1 : s.U (o * 2 + 1) < 0
      · right; left
        unfold fcReg2
        rw [if_pos ⟨hw, by rw [reg1_U1, g.U]; exact hU1⟩]
        dsimp only
        rw [updL_same]; simp
      · right; right; omega
    · left
      apply reg2_up
      unfold fcReg1
      rw [if_pos hU, if_neg hw]
      dsimp only
      rw [updL_same]; simp
  · unfold fcReg2
    rw [if_pos ⟨hw, by rw [reg1_U1, g.U]; exact hU⟩]
    dsimp only
    rw [updL_same]; simp
  · rw [hF]; exact g.ff x
  · rw [hF]; exact hset1 j hj ho
  · rw [hF]; exact hset0 hw j hj ho
  · rw [reg2_U0] at hj
    by_cases e : j = o
    · exact .inr e
    · rw [reg1_U0 _ _ _ _ _ e, g.U] at hj; exact .inl hj
  · by_cases e : j = o ∧ c.w = true
    · exact .inr e
    · rw [reg2_U1 _ _ _ _ _ e, reg1_U1, g.U] at hj; exact .inl hj

/-- What holds behind k accesses. -/
structure FcI (back : Bool) (tx : Nat → Nat) (C : Nat → Acc) (own : Nat → Nat) (k : Nat) (s : Fc) : Prop where
  a : ∀ it m j, m = it * 2 ∨ m = it * 2 + 1 → j ∈ s.L m → ∃ k0, k0 < k ∧ own k0 = j ∧ (C k0).i = it
  b : ∀ x, (s.F (x * 2) < 0 ∧ s.F (x * 2 + 1) < 0) ∨ (0 ≤ s.F (x * 2) ∧ ∃ k1, k1 < k ∧ s.F (x * 2 + eB back) = ((C k1).p : Int) ∧ (C k1).x ≠ x ∧ ∃ k0, k0 < k1 ∧ (C k0).x = x)
  c : ∀ k0, k0 < k → own k0 ∈ s.L ((C k0).i * 2) ∨ own k0 ∈ s.L ((C k0).i * 2 + 1) ∨ 0 ≤ s.F ((C k0).x * 2)
  d : ∀ k0, k0 < k → (C k0).w = true → own k0 ∈ s.L ((C k0).i * 2 + 1) ∨ 0 ≤ s.F ((C k0).x * 2)
  u0 : ∀ j, 0 ≤ s.U (j * 2) → ∃ k0, k0 < k ∧ own k0 = j
  u1 : ∀ j, 0 ≤ s.U (j * 2 + 1) → ∃ k0, k0 < k ∧ own k0 = j ∧ (C k0).w = true
  f : ∀ k0 k1, k0 < k1 → k1 < k → (C k0).i = (C k1).i → (C k0).x ≠ (C k1).x → ((C k0).w = true ∨ (C k1).w = true) → 0 ≤ s.F ((C k0).x * 2) ∧ ∃ k2, k2 ≤ k1 ∧ s.F ((C k0).x * 2 + eB back) = ((C k2).p : Int)

theorem FcI.start (back : Bool) (tx : Nat → Nat) (C : Nat → Acc) (own : Nat → Nat) : FcI back tx C own 0 fc0 :=
  ⟨fun _ _ _ _ h => by simp [fc0] at h, fun _ => .inl ⟨by simp [fc0], by simp [fc0]⟩, fun _ h => by omega, fun _ h => by omega, fun _ h => by simp [fc0] at h, fun _ h => by simp [fc0] at h, fun _ _ _ h => by omega⟩

theorem FcI.step {back : Bool} {tx : Nat → Nat} {C : Nat → Acc} {own : Nat → Nat} {k n : Nat} {s s' : Fc} (hk : k < n) (K1 : ∀ a b, a < n → b < n → (own a = own b ↔ (C a).i = (C b).i ∧ (C a).x = (C b).x)) (K2 : ∀ a, a < n → tx (own a) = (C a).x) (h : FcI back tx C own k s) (g : FcD back tx (own k) (C k) s s') : FcI back tx C own (k + 1) s' := by
  have keep : ∀ x, 0 ≤ s.F (x * 2) → s'.F (x * 2) = s.F (x * 2) ∧ s'.F (x * 2 + 1) = s.F (x * 2 + 1) := fun x h0 => by
    rcases g.ff x with h1 | ⟨h1, _⟩
    · exact h1
    · omega
  have keepE : ∀ x, 0 ≤ s.F (x * 2) → s'.F (x * 2 + eB back) = s.F (x * 2 + eB back) := fun x h0 => by
    unfold eB; split
    · exact (keep x h0).1
    · exact (keep x h0).2
  have hb : ∀ x, (s'.F (x * 2) < 0 ∧ s'.F (x * 2 + 1) < 0) ∨ (0 ≤ s'.F (x * 2) ∧ ∃ k1, k1 < k + 1 ∧ s'.F (x * 2 + eB back) = ((C k1).p : Int) ∧ (C k1).x ≠ x ∧ ∃ k0, k0 < k1 ∧ (C k0).x = x) := fun x => by
    rcases g.ff x with ⟨h1, h2⟩ | ⟨h1, h2, h3, j, hj, hjx, hjL⟩
    · rcases h.b x with ⟨b1, b2⟩ | ⟨b1, k1, b2, b3, b4⟩
      · left; rw [h1, h2]; exact ⟨b1, b2⟩
      · right; rw [keepE x b1]; exact ⟨by rw [h1]; exact b1, k1, by omega, b3, b4⟩
    · right
      obtain ⟨k0, e1, e2, e3⟩ : ∃ k0, k0 < k ∧ own k0 = j ∧ (C k0).i = (C k).i := by
        rcases hjL with hj1 | hj1
        · exact h.a _ _ j (.inl rfl) hj1
        · exact h.a _ _ j (.inr rfl) hj1
      have e4 : (C k0).x = x := by rw [← hjx, ← e2, K2 k0 (by omega)]
      refine ⟨h2, k, by omega, h3, fun e => hj ?_, k0, e1, e4⟩
      rw [← e2]
      exact (K1 k0 k (by omega) hk).2 ⟨e3, by rw [e4, e]⟩
  -- a list's member stays or is met
  have stay : ∀ m k0, k0 < k → own k0 ∈ s.L m → own k0 ∈ s'.L m ∨ 0 ≤ s'.F ((C k0).x * 2) := fun m k0 h0 hm => by
    have := g.res m _ hm
    rwa [K2 k0 (by omega)] at this
  have hc0 : ∀ k0, k0 < k → own k0 ∈ s'.L ((C k0).i * 2) ∨ own k0 ∈ s'.L ((C k0).i * 2 + 1) ∨ 0 ≤ s'.F ((C k0).x * 2) := fun k0 h0 => by
    rcases h.c k0 h0 with h1 | h1 | h1
    · rcases stay _ k0 h0 h1 with h2 | h2
      · exact .inl h2
      · exact .inr (.inr h2)
    · rcases stay _ k0 h0 h1 with h2 | h2
      · exact .inr (.inl h2)
      · exact .inr (.inr h2)
    · right; right; rw [(keep _ h1).1]; exact h1
  have hd0 : ∀ k0, k0 < k → (C k0).w = true → own k0 ∈ s'.L ((C k0).i * 2 + 1) ∨ 0 ≤ s'.F ((C k0).x * 2) := fun k0 h0 hw => by
    rcases h.d k0 h0 hw with h1 | h1
    · exact stay _ k0 h0 h1
    · right; rw [(keep _ h1).1]; exact h1
  refine ⟨fun it m j hm hj => ?_, hb, fun k0 h0 => ?_, fun k0 h0 hw => ?_, fun j hj => ?_, fun j hj => ?_, fun k0 k1 h01 h1k hi hx hw => ?_⟩
  · rcases g.m0 m j hj with h1 | ⟨h1, h2⟩
    · obtain ⟨k0, e1, e2⟩ := h.a it m j hm h1
      exact ⟨k0, by omega, e2⟩
    · exact ⟨k, by omega, h2.symm, by omega⟩
  · by_cases e : k0 = k
    · subst e
      by_cases hU : s.U (own k0 * 2) < 0
      · rcases g.o0 hU with h1 | h1 | h1
        · exact .inl h1
        · exact .inr (.inl h1)
        · obtain ⟨k1, e1, e2, e3⟩ := h.u1 _ h1
          have e4 := (K1 k1 k0 (by omega) hk).1 e2
          rcases hc0 k1 e1 with g1 | g1 | g1
          · left; rw [e2, e4.1] at g1; exact g1
          · right; left; rw [e2, e4.1] at g1; exact g1
          · right; right; rw [e4.2] at g1; exact g1
      · obtain ⟨k1, e1, e2⟩ := h.u0 (own k0) (by omega)
        have e4 := (K1 k1 k0 (by omega) hk).1 e2
        rcases hc0 k1 e1 with g1 | g1 | g1
        · left; rw [e2, e4.1] at g1; exact g1
        · right; left; rw [e2, e4.1] at g1; exact g1
        · right; right; rw [e4.2] at g1; exact g1
    · exact hc0 k0 (by omega)
  · by_cases e : k0 = k
    · subst e
      by_cases hU : s.U (own k0 * 2 + 1) < 0
      · exact .inl (g.o1 hw hU)
      · obtain ⟨k1, e1, e2, e3⟩ := h.u1 (own k0) (by omega)
        have e4 := (K1 k1 k0 (by omega) hk).1 e2
        rcases hd0 k1 e1 e3 with g1 | g1
        · left; rw [e2, e4.1] at g1; exact g1
        · right; rw [e4.2] at g1; exact g1
    · exact hd0 k0 (by omega) hw
  · rcases g.u0 j hj with h1 | h1
    · obtain ⟨k0, e1, e2⟩ := h.u0 j h1; exact ⟨k0, by omega, e2⟩
    · exact ⟨k, by omega, h1.symm⟩
  · rcases g.u1 j hj with h1 | ⟨h1, h2⟩
    · obtain ⟨k0, e1, e2⟩ := h.u1 j h1; exact ⟨k0, by omega, e2⟩
    · exact ⟨k, by omega, h1.symm, h2⟩
  · by_cases e : k1 = k
    · subst e
      have ho : own k0 ≠ own k1 := fun e => hx ((K1 k0 k1 (by omega) hk).1 e).2
      have h0 : 0 ≤ s'.F ((C k0).x * 2) := by
        rcases hw with hw | hw
        · rcases h.d k0 h01 hw with h1 | h1
          · rw [hi] at h1
            have := g.s1 _ h1 ho
            rwa [K2 k0 (by omega)] at this
          · rw [(keep _ h1).1]; exact h1
        · rcases h.c k0 h01 with h1 | h1 | h1
          · rw [hi] at h1
            have := g.s0 hw _ h1 ho
            rwa [K2 k0 (by omega)] at this
          · rw [hi] at h1
            have := g.s1 _ h1 ho
            rwa [K2 k0 (by omega)] at this
          · rw [(keep _ h1).1]; exact h1
      refine ⟨h0, ?_⟩
      rcases hb (C k0).x with ⟨b1, _⟩ | ⟨_, k2, b2, b3, _⟩
      · omega
      · exact ⟨k2, by omega, b3⟩
    · obtain ⟨f1, k2, f2, f3⟩ := h.f k0 k1 h01 (by omega) hi hx hw
      exact ⟨by rw [(keep _ f1).1]; exact f1, k2, f2, by rw [keepE _ f1]; exact f3⟩

theorem fcF_inv (back : Bool) (A : List Acc) (tx ow : Nat → Nat) (K1 : ∀ a b, a < A.length → b < A.length → (ow a = ow b ↔ (A.getD a a0).i = (A.getD b a0).i ∧ (A.getD a a0).x = (A.getD b a0).x)) (K2 : ∀ a, a < A.length → tx (ow a) = (A.getD a a0).x) :
    ∀ k, k ≤ A.length → FcI back tx (fun k => A.getD (fcAt back A.length k) a0) (fun k => ow (fcAt back A.length k)) k (fcF back A tx ow k)
  | 0, _ => FcI.start _ _ _ _
  | k + 1, h => by
    have hat : ∀ a, a < A.length → fcAt back A.length a < A.length := fun a ha => by unfold fcAt; split <;> omega
    refine FcI.step (n := A.length) (by omega) (fun a b ha hb => K1 _ _ (hat a ha) (hat b hb)) (fun a ha => K2 _ (hat a ha)) (fcF_inv back A tx ow K1 K2 k (by omega)) ?_
    rw [fcF]
    exact fcStep_d _ _ _ _ _ _ _

end Go.Proofs.YbulkbgasDoor

import Derived.Test.YbulkbgasDoorFc
namespace Go.Proofs.YbulkbgasDoor
open Go.RowKit Go.Maps
set_option linter.unusedVariables false

theorem Ybad.E59 : ElemT 59 65 2 16 (.agg #[.int .i64 0, .int .i64 0]) := ⟨Ybad.underlying59, by kernel_rfl, rfl, by decide, by decide⟩
theorem Ybad.E104 : ElemT 104 106 2 16 (.agg #[.int .i64 0, .int .i64 0]) := ⟨Ybad.underlying104, by kernel_rfl, rfl, by decide, by decide⟩
theorem Ybad.E107 : ElemT 107 109 2 48 (.agg #[.slice none 0 0, .slice none 0 0]) := ⟨Ybad.underlying107, by kernel_rfl, rfl, by decide, by decide⟩
theorem mk2 {sl e bytes : Nat} {z : Value} (E : ElemT sl e 2 bytes (.agg #[z, z])) (m : Nat) (hm : m ≤ 100000) (W : World) : (Instr.makeSlice sl (.int .i64 (m : Int)) (.int .i64 (m : Int))).run Ybad.prog W = .ok (.slice (some ⟨W.heap.size, 0, none⟩) m m) (W.alloc (.cells (rowF (m * 2) (fun _ => z)) e)) := by
  rw [mkRow E m (by omega) rfl W]
  congr 3
  apply rowF_congr
  intro j hj
  rcases Nat.mod_two_eq_zero_or_one j with e | e
  · rw [e]; rfl
  · rw [e]; rfl

theorem own_take' {w : World} {base n cap : Nat} {a : Option Addr} {l : List Nat} (h : w.ownsRow base 3 1 (.slice a n cap) n (rowI l)) {k : Nat} (hk : k ≤ n) : w.ownsRow base 3 1 (.slice a k cap) k (rowI (l.take k)) := by
  rcases h.2 with ⟨h2, h0⟩ | ⟨g', cap', cur, h2, h3, h4, h5, h6, h7, h8⟩
  · cases h2
    obtain rfl : k = 0 := by omega
    exact World.ownsRow_nil _ _ _ _
  · cases h2
    exact own_take h hk

/-! ### What holds of the plain state -/
structure FcOk (nS nA k : Nat) (s : Fc) : Prop where
  hi : ∀ j, s.U j < (nA : Int)
  mem : ∀ j, ∀ i ∈ s.L j, i < nS ∧ 0 ≤ s.U (i * 2) ∧ (j % 2 = 1 → 0 ≤ s.U (i * 2 + 1))
  len : ∀ j, (s.L j).length ≤ k
section
variable {nS nA k : Nat} {s : Fc} {back : Bool} {P tx : Nat → Nat} {own q : Nat} {c : Acc}
theorem fcHalf_ok (h : FcOk nS nA k s) (b : Nat) : FcOk nS nA k (fcHalf back P tx own c s b) := by
  unfold fcHalf
  split
  · exact h
  · refine ⟨h.hi, fun j i hi => ?_, fun j => ?_⟩
    · dsimp only at hi ⊢
      unfold updL at hi
      split at hi
      · rename_i e
        subst e
        exact h.mem _ i ((List.mem_filter.1 hi).1)
      · exact h.mem j i hi
    · dsimp only
      unfold updL
      split
      · exact Nat.le_trans (List.length_filter_le _ _) (h.len _)
      · exact h.len j
theorem fcHalf_U (b : Nat) : (fcHalf back P tx own c s b).U = s.U := by unfold fcHalf; split <;> rfl
theorem updL_nonneg {U : Nat → Int} {j i : Nat} {x : Int} (h : 0 ≤ U i) (hx : 0 ≤ x) : 0 ≤ updL U j x i := by unfold updL; split <;> assumption
theorem fcReg1_U (i : Nat) (h : 0 ≤ s.U i) : 0 ≤ (fcReg1 own c q s).U i := by
  unfold fcReg1; split
  · exact updL_nonneg h (by omega)
  · exact h
theorem fcReg1_own : 0 ≤ (fcReg1 own c q s).U (own * 2) := by
  unfold fcReg1; split
  · dsimp only; rw [updL_same]; omega
  · omega
theorem fcReg1_ok (h : FcOk nS nA k s) (ho : own < nS) (hq : q < nA) : FcOk nS nA (k + 1) (fcReg1 own c q s) ∧ (c.w = true → (fcReg1 own c q s).L = s.L) := by
  refine ⟨⟨fun j => ?_, fun j i hi => ?_, fun j => ?_⟩, fun hc => ?_⟩
  · unfold fcReg1; split
    · dsimp only; unfold updL; split
      · omega
      · exact h.hi j
    · exact h.hi j
  · have key : i ∈ s.L j ∨ (i = own ∧ j % 2 = 0) := by
      unfold fcReg1 at hi
      split at hi
      · dsimp only at hi
        split at hi
        · exact .inl hi
        · unfold updL at hi
          split at hi
          · rename_i e
            rcases List.mem_append.1 hi with h1 | h1
            · rw [← e] at h1; exact .inl h1
            · exact .inr ⟨by simpa using h1, by omega⟩
          · exact .inl hi
      · exact .inl hi
    rcases key with h1 | ⟨rfl, h1⟩
    · obtain ⟨a1, a2, a3⟩ := h.mem j i h1
      exact ⟨a1, fcReg1_U _ a2, fun e => fcReg1_U _ (a3 e)⟩
    · exact ⟨ho, fcReg1_own, fun e => by omega⟩
  · have := h.len j
    unfold fcReg1; split
    · dsimp only; split
      · omega
      · unfold updL; split
        · have := h.len (c.i * 2); simp; omega
        · omega
    · omega
  · unfold fcReg1; split
    · simp
    · rfl
theorem fcReg2_ok (h : FcOk nS nA (k + 1) s) (hl : c.w = true → ∀ j, (s.L j).length ≤ k) (h0 : 0 ≤ s.U (own * 2)) (ho : own < nS) (hq : q < nA) : FcOk nS nA (k + 1) (fcReg2 own c q s) := by
  unfold fcReg2
  split
  · rename_i hc
    refine ⟨fun j => ?_, fun j i hi => ?_, fun j => ?_⟩
    · dsimp only; unfold updL; split
      · omega
      · exact h.hi j
    · dsimp only at hi ⊢
      have key : i ∈ s.L j ∨ i = own := by
        unfold updL at hi
        split at hi
        · rename_i e
          rcases List.mem_append.1 hi with h1 | h1
          · rw [← e] at h1; exact .inl h1
          · exact .inr (by simpa using h1)
        · exact .inl hi
      rcases key with h1 | rfl
      · obtain ⟨a1, a2, a3⟩ := h.mem j i h1
        exact ⟨a1, updL_nonneg a2 (by omega), fun e => updL_nonneg (a3 e) (by omega)⟩
      · exact ⟨ho, updL_nonneg h0 (by omega), fun e => by rw [updL_same]; omega⟩
    · dsimp only; unfold updL; split
      · have := hl hc.1 (c.i * 2 + 1); simp; omega
      · exact h.len j
  · exact h
theorem fcStep_ok (h : FcOk nS nA k s) (ho : own < nS) (hq : q < nA) : FcOk nS nA (k + 1) (fcStep back P tx own c q s) := by
  unfold fcStep
  have h1 := fcHalf_ok (back := back) (P := P) (tx := tx) (own := own) (c := c) (fcHalf_ok (back := back) (P := P) (tx := tx) (own := own) (c := c) h 0) 1
  have h2 := fcReg1_ok (c := c) h1 ho hq
  exact fcReg2_ok h2.1 (fun hc j => by rw [h2.2 hc]; exact h1.len j) fcReg1_own ho hq
end
theorem fcF_ok (back : Bool) (A : List Acc) (tx ow : Nat → Nat) (nS : Nat) (ho : ∀ q, q < A.length → ow q < nS) : ∀ k, k ≤ A.length → FcOk nS A.length k (fcF back A tx ow k)
  | 0, _ => ⟨fun _ => by show (-1 : Int) < _; omega, fun _ _ h => by simp [fcF, fc0] at h, fun _ => by simp [fcF, fc0]⟩
  | k + 1, hk => by
    have hlt : fcAt back A.length k < A.length := by unfold fcAt; split <;> omega
    exact fcStep_ok (fcF_ok back A tx ow nS ho k (by omega)) (ho _ hlt) hlt

end Go.Proofs.YbulkbgasDoor

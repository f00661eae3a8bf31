import Derived.Test.YbulkbgasDoorPg1
namespace Go.Proofs.YbulkbgasDoor
set_option linter.unusedVariables false

abbrev LkS (l : List Ac) (L : Nat → Nat) (O : List Nat) : Prop := LkP (txL l).length (fcL false l) (fcL true l) (naF (txL l).length (acL l)).X L O
noncomputable abbrev spL (l : List Ac) : List Sp := spF (acL l)

section
variable {l : List Ac} (S : Sch l) {L : Nat → Nat} {O : List Nat} (P : LkS l L O)
include S P
theorem lk_step {x y : Nat} (hx : x < (txL l).length) (h : y ∈ (naF (txL l).length (acL l)).X x) : y < (txL l).length ∧ L x ≤ L y ∧ ix O x < ix O y := by
  have hy := (S.gen7.gp.ar x hx y h).1
  refine ⟨hy, P.up x hx y h, ?_⟩
  have hxO := all_mem P.nd P.ol P.mem x hx
  obtain ⟨q, hq, h1, h2⟩ := topo_later P.nd P.ol P.mem P.topo (ix_lt hxO) (j := y) (by rw [ix_get hxO]; exact h) hy
  have : ix O y = q := by rw [← h2]; exact ix_nodup P.nd hq
  omega
theorem lk_star {x y : Nat} (h : Star (Ea (txL l).length (naF (txL l).length (acL l)).X) x y) : L x ≤ L y ∧ (x = y ∨ ix O x < ix O y) := by
  induction h with
  | refl => exact ⟨Nat.le_refl _, .inl rfl⟩
  | step h _ ih =>
    have h1 := lk_step S P h.1 h.2
    refine ⟨Nat.le_trans h1.2.1 ih.1, .inr ?_⟩
    rcases ih.2 with e | e
    · rw [← e]; exact h1.2.2
    · exact Nat.lt_trans h1.2.2 e
theorem lk_succ {x y : Nat} (h : Succ (acL l) x y) : L x ≤ L y ∧ ix O x < ix O y := by
  have h1 := lk_star S P (Succ.path (fun a ha => S.xlt ha) h)
  refine ⟨h1.1, ?_⟩
  rcases h1.2 with e | e
  · exact absurd e h.1
  · exact e
end
theorem succ_of {l : List Ac} {a c : Acc} (ha : a ∈ acL l) (hc : c ∈ acL l) (hp : a.p < c.p) (hi : a.i = c.i) (hx : a.x ≠ c.x) (hw : a.w = true ∨ c.w = true) : Succ (acL l) a.x c.x := by
  obtain ⟨k0, h0, rfl⟩ := getA_of_mem ha
  obtain ⟨k1, h1, rfl⟩ := getA_of_mem hc
  refine ⟨hx, k0, k1, ?_, h1, rfl, rfl, hi, hw⟩
  rcases Nat.lt_trichotomy k0 k1 with h | h | h
  · exact h
  · subst h; omega
  · have := getA_lt (acL_sorted l) h h0; omega

/-! ### What a span holds -/
theorem spF_last : ∀ (A : List Acc), A.Pairwise (fun a b => a.p < b.p) → ∀ s ∈ spF A, ∀ b ∈ A, b.key = s.key → b.p ≤ s.la := by
  refine snoc_ind (fun _ s h => by simp [spF] at h) (fun A c ih hp s' h b hb hk => ?_)
  obtain ⟨h1, _, h3⟩ := List.pairwise_append.1 hp
  have hbig : ∀ b ∈ A, b.p < c.p := fun b hb => h3 b hb c (by simp)
  rw [spF_snoc] at h
  rcases spStep_mem (keysF_nodup A) h with ⟨g1, g2⟩ | ⟨s, g1, g2, rfl⟩ | ⟨g1, rfl⟩
  · rcases List.mem_append.1 hb with e | e
    · exact ih h1 s' g1 b e hk
    · simp at e; subst e; exact absurd hk.symm g2
  · show b.p ≤ c.p
    rcases List.mem_append.1 hb with e | e
    · exact Nat.le_of_lt (hbig b e)
    · simp at e; subst e; exact Nat.le_refl _
  · show b.p ≤ c.p
    rcases List.mem_append.1 hb with e | e
    · exact Nat.le_of_lt (hbig b e)
    · simp at e; subst e; exact Nat.le_refl _
theorem sp_last {l : List Ac} {s : Sp} (hs : s ∈ spL l) {b : Acc} (hb : b ∈ acL l) (k : b.key = s.key) : b.p ≤ s.la := spF_last (acL l) (acL_sorted l) s hs b hb k
/-- Ahead of place p (h: the unlock behind the last action has been done), where the points in D have been passed. -/
def Rls (L : Nat → Nat) (p : Nat) (h : Bool) (D : Nat → Prop) (s : Sp) : Prop := (D s.x ∧ s.la < L s.x) ∨ (L s.x ≤ s.la ∧ (s.la + 1 < p ∨ (s.la + 1 = p ∧ h = true)))
open Classical in
noncomputable def acq (p : Nat) (D : Nat → Prop) (s : Sp) : Int := if D s.x then (if 0 ≤ s.w then 2 else 1) else if s.f < p then (if 0 ≤ s.w ∧ s.w < (p : Int) then 2 else 1) else 0
open Classical in
noncomputable def md (L : Nat → Nat) (p : Nat) (h : Bool) (D : Nat → Prop) (s : Sp) : Int := if Rls L p h D s then 0 else acq p D s

section
variable {l : List Ac} (S : Sch l)
include S
/-- Whoever holds, has an access behind. -/
theorem hold_acc {L : Nat → Nat} {p : Nat} {D : Nat → Prop} {s : Sp} (hs : s ∈ spL l) (hm : md L p true D s ≠ 0) :
    (D s.x ∧ L s.x ≤ s.la ∧ p ≤ s.la ∧ ∃ a ∈ acL l, a.key = s.key ∧ a.p = s.la ∧ (md L p true D s = 2 → a.w = true)) ∨
    (¬ D s.x ∧ ∃ a ∈ acL l, a.key = s.key ∧ a.p < p ∧ (md L p true D s = 2 → a.w = true)) := by
  classical
  have o := spF_ok (acL l) (acL_sorted l) s hs
  unfold md at hm ⊢
  by_cases hr : Rls L p true D s
  · rw [if_pos hr] at hm; exact absurd rfl hm
  · rw [if_neg hr] at hm ⊢
    unfold acq at hm ⊢
    by_cases hd : D s.x
    · rw [if_pos hd] at hm ⊢
      have h1 : L s.x ≤ s.la := by
        rcases Nat.lt_or_ge s.la (L s.x) with h | h
        · exact absurd (.inl ⟨hd, h⟩) hr
        · exact h
      have h2 : p ≤ s.la := by
        rcases Nat.lt_or_ge s.la p with h | h
        · refine absurd (.inr ⟨h1, ?_⟩) hr
          rcases Nat.eq_or_lt_of_le h with e | e
          · exact .inr ⟨e, rfl⟩
          · exact .inl e
        · exact h
      obtain ⟨a, ha, ka, pa⟩ := o.la
      refine .inl ⟨hd, h1, h2, a, ha, ka, pa, fun h => ?_⟩
      by_cases hw : 0 ≤ s.w
      · rcases o.w with ⟨w1, _⟩ | ⟨b, hb, kb, wb, _, _⟩
        · omega
        · rcases Nat.lt_or_ge a.p b.p with h' | h'
          · exfalso
            have hlast := sp_last hs hb kb
            omega
          · exact S.w_up hb ha (kb.trans ka.symm) h' wb
      · rw [if_neg hw] at h; exact absurd h (by decide)
    · rw [if_neg hd] at hm ⊢
      by_cases hf : s.f < p
      · rw [if_pos hf] at hm ⊢
        by_cases hw : 0 ≤ s.w ∧ s.w < (p : Int)
        · rcases o.w with ⟨w1, _⟩ | ⟨b, hb, kb, wb, pb, _⟩
          · omega
          · exact .inr ⟨hd, b, hb, kb, by omega, fun _ => wb⟩
        · rw [if_neg hw] at hm ⊢
          obtain ⟨a, ha, ka, pa⟩ := o.f
          exact .inr ⟨hd, a, ha, ka, by omega, fun h => absurd h (by decide)⟩
      · rw [if_neg hf] at hm; exact absurd rfl hm
end
end Go.Proofs.YbulkbgasDoor

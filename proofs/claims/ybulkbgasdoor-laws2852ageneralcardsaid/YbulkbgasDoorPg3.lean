import Derived.Test.YbulkbgasDoorPg2
namespace Go.Proofs.YbulkbgasDoor
set_option linter.unusedVariables false

section
variable {l : List Ac} (S : Sch l) {L : Nat → Nat} {O : List Nat} (P : LkS l L O)
include S P
/-- Whoever asks for a lock finds no other that bars it. -/
theorem no_conf {p : Nat} {D : Nat → Prop} {s s' : Sp} (hs : s ∈ spL l) (hs' : s' ∈ spL l) (hx : s'.x ≠ s.x) (hi : s'.i = s.i) {c : Acc} (hc : c ∈ acL l) (kc : c.key = s.key) (hcp : p ≤ c.p)
    (hD : (c.p = p ∧ p < L s.x ∧ ∀ x, x < (txL l).length → (D x ↔ L x ≤ p)) ∨ (L s.x = p ∧ ∀ x, x < (txL l).length → (D x ↔ L x < p ∨ (L x = p ∧ ix O x < ix O s.x)))) (hm : md L p true D s' ≠ 0) (hw : c.w = true ∨ md L p true D s' = 2) : False := by
  have cx : c.x = s.x := congrArg Prod.snd kc
  have ci : c.i = s.i := congrArg Prod.fst kc
  rcases hold_acc S hs' hm with ⟨d1, d2, d3, a, ha, ka, pa, aw⟩ | ⟨d1, a, ha, ka, pa, aw⟩
  · have ax : a.x = s'.x := congrArg Prod.snd ka
    have ai : a.i = s'.i := congrArg Prod.fst ka
    have hxn : s'.x < (txL l).length := by rw [← ax]; exact S.xlt ha
    have hxa : a.x ≠ c.x := by rw [ax, cx]; exact hx
    have hia : a.i = c.i := by rw [ai, ci]; exact hi
    have hcw : a.w = true ∨ c.w = true := by
      rcases hw with h | h
      · exact .inr h
      · exact .inl (aw h)
    have hne : a.p ≠ c.p := fun e => hxa (by rw [acL_inj ha hc e])
    rcases hD with ⟨e1, e2, e3⟩ | ⟨e1, e3⟩
    · have h1 := lk_succ S P (succ_of hc ha (by omega) hia.symm (fun e => hxa e.symm) (Or.symm hcw))
      rw [cx, ax] at h1
      have := (e3 _ hxn).1 d1
      omega
    · rcases Nat.lt_or_ge c.p a.p with h | h
      · have h1 := lk_succ S P (succ_of hc ha h hia.symm (fun e => hxa e.symm) (Or.symm hcw))
        rw [cx, ax] at h1
        have := (e3 _ hxn).1 d1
        omega
      · have h1 := Sch.fl_complete hc ha (by omega) hia hxa hcw
        have h2 := P.fl c.x (S.xlt hc)
        rw [cx] at h1 h2
        omega
  · have ax : a.x = s'.x := congrArg Prod.snd ka
    have ai : a.i = s'.i := congrArg Prod.fst ka
    have hxn : s'.x < (txL l).length := by rw [← ax]; exact S.xlt ha
    have hxa : a.x ≠ c.x := by rw [ax, cx]; exact hx
    have hia : a.i = c.i := by rw [ai, ci]; exact hi
    have hcw : a.w = true ∨ c.w = true := by
      rcases hw with h | h
      · exact .inr h
      · exact .inl (aw h)
    rcases hD with ⟨e1, e2, e3⟩ | ⟨e1, e3⟩
    · have h1 := fu_complete hc ha (by omega) hia hxa hcw
      have h2 := P.fu a.x (S.xlt ha) h1.1
      rw [ax] at h1 h2
      exact d1 ((e3 _ hxn).2 (by omega))
    · have h1 := lk_succ S P (succ_of ha hc (by omega) hia hxa hcw)
      rw [cx, ax] at h1
      refine d1 ((e3 _ hxn).2 ?_)
      rcases Nat.lt_or_ge (L s'.x) p with h | h
      · exact .inl h
      · exact .inr ⟨by omega, h1.2⟩
end

/-! ### Where the locks and the unlocks by the actions are put -/
theorem foldAt {β : Type} {one : (Nat → β) → Sp → Nat → β} {tc : Sp → Prop} [DecidablePred tc] {val : Sp → β} {p : Nat} {v : β} (h1 : ∀ bf s, one bf s p = if tc s then val s else bf p) :
    ∀ (Ss : List Sp) (bf : Nat → β), (∀ s ∈ Ss, tc s → val s = v) → ((∃ s ∈ Ss, tc s) ∧ Ss.foldl one bf p = v) ∨ ((∀ s ∈ Ss, ¬ tc s) ∧ Ss.foldl one bf p = bf p)
  | [], bf, _ => .inr ⟨fun s h => by simp at h, rfl⟩
  | s :: Ss, bf, h => by
    rw [List.foldl_cons]
    rcases foldAt h1 Ss (one bf s) (fun s hs => h s (List.mem_cons_of_mem _ hs)) with ⟨⟨s', g1, g2⟩, g3⟩ | ⟨g1, g2⟩
    · exact .inl ⟨⟨s', List.mem_cons_of_mem _ g1, g2⟩, g3⟩
    · rw [g2, h1]
      by_cases ht : tc s
      · rw [if_pos ht]; exact .inl ⟨⟨s, List.mem_cons_self, ht⟩, h s List.mem_cons_self ht⟩
      · rw [if_neg ht]
        refine .inr ⟨fun s' hs' => ?_, rfl⟩
        rcases List.mem_cons.1 hs' with e | e
        · rw [e]; exact ht
        · exact g1 s' e
theorem fold_in {β : Type} {one : Nat → (Nat → β) → Sp → Nat → β} {S : List Sp} {L : Nat → Nat} : ∀ (O : List Nat) (bf : Nat → β), O.foldl (fun bf i => (byT S i).foldl (one (L i)) bf) bf = (O.flatMap (byT S)).foldl (fun bf s => one (L s.x) bf s) bf
  | [], _ => rfl
  | i :: O, bf => by
    rw [List.foldl_cons, List.flatMap_cons, List.foldl_append, fold_in O]
    congr 1
    have : ∀ (T : List Sp) (bf : Nat → β), (∀ s ∈ T, s.x = i) → T.foldl (one (L i)) bf = T.foldl (fun bf s => one (L s.x) bf s) bf := by
      intro T
      induction T with
      | nil => intro _ _; rfl
      | cons s T ih =>
        intro bf h
        rw [List.foldl_cons, List.foldl_cons, h s List.mem_cons_self]
        exact ih _ fun s hs => h s (List.mem_cons_of_mem _ hs)
    exact this _ _ fun s hs => by simpa using (List.mem_filter.1 hs).2
def gtc (L : Nat → Nat) (p : Nat) (s : Sp) : Prop := (p = s.f ∧ s.f < L s.x) ∨ ((s.f : Int) < s.w ∧ s.w < (L s.x : Int) ∧ p = s.w.toNat)
instance (L : Nat → Nat) (p : Nat) (s : Sp) : Decidable (gtc L p s) := by unfold gtc; infer_instance
theorem gbOne_at (L : Nat → Nat) (p : Nat) (bf : Nat → ByteArray) (s : Sp) : gbOne (L s.x) bf s p = if gtc L p s then bfv s p else bf p := by
  by_cases ht : gtc L p s
  · rw [if_pos ht]
    unfold gbOne gb1 bfv
    by_cases h : (s.f : Int) < s.w ∧ s.w < (L s.x : Int)
    · rw [if_pos h, if_pos (show s.f < L s.x by omega)]
      by_cases e : p = s.w.toNat
      · rw [e, updL_same, if_pos (show (s.f : Int) < s.w ∧ s.w.toNat = s.w.toNat from ⟨h.1, rfl⟩)]
      · rw [updL_other _ e]
        rcases ht with ⟨e2, _⟩ | ⟨_, _, e2⟩
        · rw [if_neg (show ¬ ((s.f : Int) < s.w ∧ p = s.w.toNat) from fun h' => e h'.2), e2, updL_same]
        · exact absurd e2 e
    · rw [if_neg h]
      rcases ht with ⟨e2, h2⟩ | ⟨h1, h2, _⟩
      · rw [if_pos h2, if_neg (show ¬ ((s.f : Int) < s.w ∧ p = s.w.toNat) from fun h' => by omega), e2, updL_same]
      · exact absurd ⟨h1, h2⟩ h
  · rw [if_neg ht]
    unfold gbOne gb1
    have n1 : s.f < L s.x → p ≠ s.f := fun h e => ht (.inl ⟨e, h⟩)
    by_cases h : (s.f : Int) < s.w ∧ s.w < (L s.x : Int)
    · rw [if_pos h, if_pos (show s.f < L s.x by omega), updL_other _ (fun e => ht (.inr ⟨h.1, h.2, e⟩)), updL_other _ (n1 (by omega))]
    · rw [if_neg h]
      by_cases h2 : s.f < L s.x
      · rw [if_pos h2, updL_other _ (n1 h2)]
      · rw [if_neg h2]

section
variable {l : List Ac} (S : Sch l) {L : Nat → Nat} {O : List Nat} (P : LkS l L O)
theorem gtc_acc {s : Sp} (hs : s ∈ spL l) {p : Nat} (h : gtc L p s) : ∃ a ∈ acL l, a.key = s.key ∧ a.p = p := by
  have o := spF_ok (acL l) (acL_sorted l) s hs
  rcases h with ⟨h, _⟩ | ⟨h, _, h'⟩
  · obtain ⟨a, ha, k, e⟩ := o.f
    exact ⟨a, ha, k, by omega⟩
  · rcases o.w with ⟨w1, _⟩ | ⟨a, ha, k, _, w1, _⟩
    · omega
    · exact ⟨a, ha, k, by omega⟩
include S P
theorem sp_flat (s : Sp) : s ∈ O.flatMap (byT (spL l)) ↔ s ∈ spL l := by
  rw [List.mem_flatMap]
  constructor
  · rintro ⟨i, _, h⟩; exact (List.mem_filter.1 h).1
  · intro h
    refine ⟨s.x, all_mem P.nd P.ol P.mem _ (S.gen7.sp s h).1, List.mem_filter.2 ⟨h, by simp⟩⟩
theorem gb_at (p : Nat) : (∃ c ∈ acL l, c.p = p ∧ ∃ s ∈ spL l, s.key = c.key ∧ gtc L p s ∧ gbAll (spL l) L O p = bfv s p) ∨ ((∀ s ∈ spL l, ¬ gtc L p s) ∧ gbAll (spL l) L O p = ⟨#[]⟩) := by
  have e0 : gbAll (spL l) L O = (O.flatMap (byT (spL l))).foldl (fun bf s => gbOne (L s.x) bf s) (fun _ => ⟨#[]⟩) := fold_in (one := gbOne) O _
  rw [e0]
  by_cases h : ∃ s ∈ spL l, gtc L p s
  · obtain ⟨s, hs, ht⟩ := h
    left
    obtain ⟨c, hc, k, e⟩ := gtc_acc hs ht
    refine ⟨c, hc, e, s, hs, k.symm, ht, ?_⟩
    rcases foldAt (tc := gtc L p) (val := fun s => bfv s p) (v := bfv s p) (fun bf s => gbOne_at L p bf s) (O.flatMap (byT (spL l))) (fun _ => ⟨#[]⟩) (fun s' hs' ht' => by
      have hs'' := (sp_flat S P s').1 hs'
      obtain ⟨c', hc', k', e'⟩ := gtc_acc hs'' ht'
      have : c' = c := acL_inj hc' hc (by omega)
      subst this
      rw [sp_uniq hs'' hs (k'.symm.trans k)]) with ⟨_, h2⟩ | ⟨h1, _⟩
    · exact h2
    · exact absurd ht (h1 s ((sp_flat S P s).2 hs))
  · right
    refine ⟨fun s hs ht => h ⟨s, hs, ht⟩, ?_⟩
    rcases foldAt (tc := gtc L p) (val := fun s => bfv s p) (v := ⟨#[]⟩) (fun bf s => gbOne_at L p bf s) (O.flatMap (byT (spL l))) (fun _ => ⟨#[]⟩) (fun s' hs' ht' => absurd ⟨s', (sp_flat S P s').1 hs', ht'⟩ h) with ⟨_, h2⟩ | ⟨_, h2⟩
    · exact h2
    · exact h2
theorem ga_at (p : Nat) : gaAll (spL l) L O p = true ↔ ∃ s ∈ spL l, s.la = p ∧ L s.x ≤ p := by
  have e0 : gaAll (spL l) L O = (O.flatMap (byT (spL l))).foldl (fun af s => gaOne (L s.x) af s) (fun _ => false) := fold_in (one := gaOne) O _
  have e1 : ∀ (af : Nat → Bool) (s : Sp), gaOne (L s.x) af s p = if p = s.la then decide (L s.x ≤ s.la) else af p := fun af s => by
    unfold gaOne
    by_cases e : p = s.la
    · rw [e, updL_same, if_pos rfl]
    · rw [updL_other _ e, if_neg e]
  rw [e0]
  by_cases h : ∃ s ∈ spL l, p = s.la
  · obtain ⟨s, hs, ht⟩ := h
    have hu : ∀ s' ∈ spL l, p = s'.la → s' = s := fun s' hs' e' => by
      obtain ⟨a, ha, ka, pa⟩ := (spF_ok (acL l) (acL_sorted l) s hs).la
      obtain ⟨a', ha', ka', pa'⟩ := (spF_ok (acL l) (acL_sorted l) s' hs').la
      have : a' = a := acL_inj ha' ha (by omega)
      subst this
      exact sp_uniq hs' hs (ka'.symm.trans ka)
    have hv : (O.flatMap (byT (spL l))).foldl (fun af s => gaOne (L s.x) af s) (fun _ => false) p = decide (L s.x ≤ s.la) := by
      rcases foldAt (tc := fun s => p = s.la) (val := fun s => decide (L s.x ≤ s.la)) (v := decide (L s.x ≤ s.la)) e1 (O.flatMap (byT (spL l))) (fun _ => false) (fun s' hs' ht' => by
        rw [hu s' ((sp_flat S P s').1 hs') ht']) with ⟨_, h2⟩ | ⟨h1, _⟩
      · exact h2
      · exact absurd ht (h1 s ((sp_flat S P s).2 hs))
    rw [hv, decide_eq_true_eq]
    constructor
    · intro h; exact ⟨s, hs, ht.symm, by omega⟩
    · rintro ⟨s', hs', e', h'⟩
      rw [hu s' hs' e'.symm] at h'
      omega
  · constructor
    · intro hh
      rcases foldAt (tc := fun s => p = s.la) (val := fun s => decide (L s.x ≤ s.la)) (v := false) e1 (O.flatMap (byT (spL l))) (fun _ => false) (fun s' hs' ht' => absurd ⟨s', (sp_flat S P s').1 hs', ht'⟩ h) with ⟨_, h2⟩ | ⟨_, h2⟩
      · rw [h2] at hh; cases hh
      · rw [h2] at hh; cases hh
    · rintro ⟨s, hs, e, _⟩
      exact absurd ⟨s, hs, e.symm⟩ h
end
end Go.Proofs.YbulkbgasDoor

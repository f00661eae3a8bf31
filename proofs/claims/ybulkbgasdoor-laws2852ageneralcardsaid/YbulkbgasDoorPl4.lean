import Derived.Test.YbulkbgasDoorPl3
namespace Go.Proofs.YbulkbgasDoor
set_option linter.unusedVariables false

theorem nodup_lenN : ∀ (ys zs : List Nat), zs.Nodup → (∀ t ∈ zs, t ∈ ys) → zs.length ≤ ys.length
  | [], zs, _, h => by
    cases zs with
    | nil => simp
    | cons z zs => have := h z (by simp); simp at this
  | y :: ys, zs, hn, h => by
    have h1 := nodup_lenN ys (zs.erase y) (hn.erase y) (fun t ht => by
      rw [List.Nodup.mem_erase_iff hn] at ht
      rcases List.mem_cons.1 (h t ht.2) with e | e
      · exact absurd e ht.1
      · exact e)
    rw [List.length_erase] at h1
    simp only [List.length_cons]
    split at h1 <;> omega
theorem perm_all {O : List Nat} {n : Nat} (h1 : O.length = n) (h2 : O.Nodup) (h3 : ∀ j ∈ O, j < n) {i : Nat} (hi : i < n) : i ∈ O := by
  by_cases h : i ∈ O
  · exact h
  · have h4 := nodup_lenN ((List.range n).erase i) O h2 fun t ht => by
      rw [List.Nodup.mem_erase_iff List.nodup_range]
      exact ⟨fun e => h (e ▸ ht), List.mem_range.2 (h3 t ht)⟩
    rw [List.length_erase, if_pos (List.mem_range.2 hi), List.length_range] at h4
    omega

/-! ### Where the locks are put -/
def touch (s : Sp) (p : Nat) : Prop := p = s.f ∨ ((s.f : Int) < s.w ∧ p = s.w.toNat)
instance (s : Sp) (p : Nat) : Decidable (touch s p) := by unfold touch; infer_instance
def bfv (s : Sp) (p : Nat) : ByteArray := if (s.f : Int) < s.w ∧ p = s.w.toNat then kWl else if s.w = (s.f : Int) then kWl else kRl
theorem bfOne_at (bf : Nat → ByteArray) (s : Sp) (p : Nat) : bfOne bf s p = if touch s p then bfv s p else bf p := by
  by_cases ht : touch s p
  · rw [if_pos ht]
    unfold bfOne bfv
    by_cases h : (s.f : Int) < s.w
    · rw [if_pos h]
      by_cases e : p = s.w.toNat
      · rw [e, updL_same, if_pos ⟨h, rfl⟩]
      · rw [updL_other _ e]
        rcases ht with e2 | ⟨_, e2⟩
        · rw [if_neg (show ¬ ((s.f : Int) < s.w ∧ p = s.w.toNat) from fun h' => e h'.2), e2, updL_same]
        · exact absurd e2 e
    · rw [if_neg h]
      rcases ht with e2 | ⟨h', _⟩
      · rw [if_neg (show ¬ ((s.f : Int) < s.w ∧ p = s.w.toNat) from fun h' => h h'.1), e2, updL_same]
      · exact absurd h' h
  · rw [if_neg ht]
    unfold bfOne
    split
    · rename_i h
      rw [updL_other _ (fun e => ht (.inr ⟨h, e⟩)), updL_other _ (fun e => ht (.inl e))]
    · rw [updL_other _ (fun e => ht (.inl e))]
theorem bfFold {p : Nat} {v : ByteArray} : ∀ (Ss : List Sp) (bf : Nat → ByteArray), (∀ s ∈ Ss, touch s p → bfv s p = v) → Ss.foldl bfOne bf p = if (∃ s ∈ Ss, touch s p) then v else bf p
  | [], bf, _ => by simp
  | s :: Ss, bf, h => by
    rw [List.foldl_cons, bfFold Ss _ fun s hs => h s (List.mem_cons_of_mem _ hs), bfOne_at]
    by_cases h1 : ∃ s ∈ Ss, touch s p
    · rw [if_pos h1, if_pos (by obtain ⟨s', h2, h3⟩ := h1; exact ⟨s', List.mem_cons_of_mem _ h2, h3⟩)]
    · rw [if_neg h1]
      by_cases h2 : touch s p
      · rw [if_pos h2, if_pos ⟨s, List.mem_cons_self, h2⟩]; exact h s List.mem_cons_self h2
      · rw [if_neg h2, if_neg]
        rintro ⟨s', h3, h4⟩
        rcases List.mem_cons.1 h3 with e | e
        · subst e; exact h2 h4
        · exact h1 ⟨s', e, h4⟩
theorem bfAll_flat (S : List Sp) : ∀ (O : List Nat) (bf : Nat → ByteArray), O.foldl (bfIn S) bf = (O.flatMap (byT S)).foldl bfOne bf
  | [], _ => rfl
  | i :: O, bf => by
    rw [List.foldl_cons, List.flatMap_cons, List.foldl_append, bfAll_flat S O]; rfl

section
variable {l : List Ac} (S : Ser l) {O : List Nat} (h1 : O.length = (txL l).length) (h2 : O.Nodup) (h3 : ∀ j ∈ O, j < (txL l).length)

theorem sp_uniq {s s' : Sp} (hs : s ∈ spF (acL l)) (hs' : s' ∈ spF (acL l)) (e : s.key = s'.key) : s = s' := by
  obtain ⟨i, hi, rfl⟩ := List.getElem_of_mem hs
  obtain ⟨j, hj, rfl⟩ := List.getElem_of_mem hs'
  have hn := keysF_nodup (acL l)
  unfold keysF at hn
  have : ((spF (acL l)).map Sp.key)[i]'(by rw [List.length_map]; exact hi) = ((spF (acL l)).map Sp.key)[j]'(by rw [List.length_map]; exact hj) := by
    rw [List.getElem_map, List.getElem_map, e]
  have := (List.getElem_inj hn).1 this
  subst this; rfl
theorem touch_acc {s : Sp} (hs : s ∈ spF (acL l)) {p : Nat} (h : touch s p) : ∃ a ∈ acL l, a.key = s.key ∧ a.p = p := by
  have o := spF_ok (acL l) (acL_sorted l) s hs
  rcases h with h | ⟨h, h'⟩
  · obtain ⟨a, ha, k, e⟩ := o.f
    exact ⟨a, ha, k, by omega⟩
  · rcases o.w with ⟨w1, _⟩ | ⟨a, ha, k, _, w1, _⟩
    · omega
    · exact ⟨a, ha, k, by omega⟩
include S h1 h2 h3 in
theorem bf_at (p : Nat) : (∃ c ∈ acL l, c.p = p ∧ ∃ s ∈ spF (acL l), s.key = c.key ∧ touch s p ∧ bfAll (spF (acL l)) O p = bfv s p) ∨ ((∀ s ∈ spF (acL l), ¬ touch s p) ∧ bfAll (spF (acL l)) O p = ⟨#[]⟩) := by
  have hmem : ∀ s, s ∈ O.flatMap (byT (spF (acL l))) ↔ s ∈ spF (acL l) := fun s => by
    rw [List.mem_flatMap]
    constructor
    · rintro ⟨i, _, h⟩; exact (List.mem_filter.1 h).1
    · intro h
      refine ⟨s.x, perm_all h1 h2 h3 ?_, List.mem_filter.2 ⟨h, by simp⟩⟩
      obtain ⟨a, ha, k, _⟩ := (spF_ok (acL l) (acL_sorted l) s h).f
      have : a.x = s.x := congrArg Prod.snd k
      rw [← this]; exact ac_xlt S ha
  unfold bfAll
  rw [bfAll_flat]
  by_cases h : ∃ s ∈ spF (acL l), touch s p
  · obtain ⟨s, hs, ht⟩ := h
    left
    obtain ⟨c, hc, k, e⟩ := touch_acc hs ht
    refine ⟨c, hc, e, s, hs, k.symm, ht, ?_⟩
    rw [bfFold (v := bfv s p), if_pos ⟨s, (hmem s).2 hs, ht⟩]
    intro s' hs' ht'
    have hs'' := (hmem s').1 hs'
    obtain ⟨c', hc', k', e'⟩ := touch_acc hs'' ht'
    have : c' = c := acL_inj hc' hc (by omega)
    subst this
    rw [sp_uniq hs'' hs (k'.symm.trans k)]
  · right
    refine ⟨fun s hs ht => h ⟨s, hs, ht⟩, ?_⟩
    rw [bfFold (v := ⟨#[]⟩), if_neg]
    · rintro ⟨s, hs, ht⟩; exact h ⟨s, (hmem s).1 hs, ht⟩
    · intro s hs ht; exact absurd ⟨s, (hmem s).1 hs, ht⟩ h

theorem kWl_ne : kWl ≠ ⟨#[]⟩ := by decide
theorem kRl_ne : kRl ≠ ⟨#[]⟩ := by decide
theorem kRW_ne : kRl ≠ kWl := by decide
theorem bfv_or (s : Sp) (p : Nat) : bfv s p = kRl ∨ bfv s p = kWl := by
  unfold bfv; split
  · exact .inr rfl
  · split
    · exact .inr rfl
    · exact .inl rfl
include S h1 h2 h3 in
theorem bf_or (p : Nat) : bfAll (spF (acL l)) O p = ⟨#[]⟩ ∨ bfAll (spF (acL l)) O p = kRl ∨ bfAll (spF (acL l)) O p = kWl := by
  rcases bf_at S h1 h2 h3 p with ⟨c, _, _, s, _, _, _, e⟩ | ⟨_, e⟩
  · right; rw [e]; exact bfv_or s p
  · exact .inl e
include S h1 h2 h3 in
theorem bf_first {c : Acc} (hc : c ∈ acL l) (hf : ∀ d ∈ acL l, d.key = c.key → c.p ≤ d.p) : bfAll (spF (acL l)) O c.p ≠ ⟨#[]⟩ := by
  obtain ⟨s, hs, k⟩ := spF_has hc
  have o := spF_ok (acL l) (acL_sorted l) s hs
  obtain ⟨a, ha, ka, pa⟩ := o.f
  have g1 := o.fm c hc k.symm
  have g2 := hf a ha (ka.trans k)
  have ht : touch s c.p := .inl (by omega)
  rcases bf_at S h1 h2 h3 c.p with ⟨_, _, _, s', _, _, _, e⟩ | ⟨e, _⟩
  · rw [e]; rcases bfv_or s' c.p with h | h
    · rw [h]; exact kRl_ne
    · rw [h]; exact kWl_ne
  · exact absurd ht (e s hs)
include S h1 h2 h3 in
theorem bf_write {c : Acc} (hc : c ∈ acL l) (hw : c.w = true) (hf : ∀ d ∈ acL l, d.key = c.key → d.w = true → c.p ≤ d.p) : bfAll (spF (acL l)) O c.p = kWl := by
  obtain ⟨s, hs, k⟩ := spF_has hc
  have o := spF_ok (acL l) (acL_sorted l) s hs
  obtain ⟨a, ha, ka, pa⟩ := o.f
  have g1 := o.fm c hc k.symm
  rcases o.w with ⟨_, w2⟩ | ⟨b, hb, kb, wb, pb, mb⟩
  · have := w2 c hc k.symm; rw [hw] at this; cases this
  · have g2 := mb c hc k.symm hw
    have g3 := hf b hb (kb.trans k) wb
    have ht : touch s c.p := by
      unfold touch
      rcases Nat.lt_or_ge s.f c.p with h | h
      · exact .inr ⟨by omega, by omega⟩
      · exact .inl (by omega)
    have hv : bfv s c.p = kWl := by
      unfold bfv
      rcases Nat.lt_or_ge s.f c.p with h | h
      · rw [if_pos ⟨by omega, by omega⟩]
      · rw [if_neg (by omega), if_pos (by omega)]
    rcases bf_at S h1 h2 h3 c.p with ⟨c', hc', e', s', hs', k', _, e⟩ | ⟨e, _⟩
    · have : c' = c := acL_inj hc' hc e'
      subst this
      rw [e, sp_uniq hs' hs (k'.trans k.symm), hv]
    · exact absurd ht (e s hs)
include S h1 h2 h3 in
theorem bf_kWl {c : Acc} (hc : c ∈ acL l) (h : bfAll (spF (acL l)) O c.p = kWl) : c.w = true := by
  rcases bf_at S h1 h2 h3 c.p with ⟨c', hc', e', s, hs, k, ht, e⟩ | ⟨_, e⟩
  · have : c' = c := acL_inj hc' hc e'
    subst this
    rw [e] at h
    have o := spF_ok (acL l) (acL_sorted l) s hs
    have hsw : (c'.p : Int) = s.w := by
      unfold bfv at h
      split at h
      · rename_i h'; omega
      · rename_i hn
        split at h
        · rename_i h'
          rcases ht with ht | ht
          · omega
          · exact absurd ht hn
        · exact absurd h kRW_ne
    rcases o.w with ⟨w1, _⟩ | ⟨b, hb, kb, wb, pb, _⟩
    · omega
    · have : b = c' := acL_inj hb hc (by omega)
      subst this; exact wb
  · rw [e] at h; exact absurd h.symm kWl_ne
end

theorem ptAll_at (L : Nat → Nat) (O : List Nat) (p : Nat) : ptAll L O p = O.filter fun i => L i == p := by
  unfold ptAll
  have := ptF_mem (L := L) (n := 0) O (fun _ => []) p
  simpa using this

/-! ### Lists of checked actions -/
theorem Cks.append {M M' M'' : Md} {xs ys : List Ac} (h : Cks M xs M') (g : Cks M' ys M'') : Cks M (xs ++ ys) M'' := by
  induction h with
  | nil => exact g
  | cons h t ih => exact .cons h (ih g)
theorem itIx_inj {s s' : ByteArray} {i : Nat} (h : itIx s = some i) (h' : itIx s' = some i) : s = s' := by
  unfold itIx at h h'
  by_cases a : s = sX
  · rw [if_pos a] at h
    by_cases a' : s' = sX
    · rw [a, a']
    · rw [if_neg a'] at h'
      by_cases b' : s' = sY
      · rw [if_pos b'] at h'; simp at h h'; omega
      · rw [if_neg b'] at h'
        by_cases c' : s' = sZ
        · rw [if_pos c'] at h'; simp at h h'; omega
        · rw [if_neg c'] at h'; cases h'
  · rw [if_neg a] at h
    by_cases b : s = sY
    · rw [if_pos b] at h
      by_cases a' : s' = sX
      · rw [if_pos a'] at h'; simp at h h'; omega
      · rw [if_neg a'] at h'
        by_cases b' : s' = sY
        · rw [b, b']
        · rw [if_neg b'] at h'
          by_cases c' : s' = sZ
          · rw [if_pos c'] at h'; simp at h h'; omega
          · rw [if_neg c'] at h'; cases h'
    · rw [if_neg b] at h
      by_cases c : s = sZ
      · rw [if_pos c] at h
        by_cases a' : s' = sX
        · rw [if_pos a'] at h'; simp at h h'; omega
        · rw [if_neg a'] at h'
          by_cases b' : s' = sY
          · rw [if_pos b'] at h'; simp at h h'; omega
          · rw [if_neg b'] at h'
            by_cases c' : s' = sZ
            · rw [c, c']
            · rw [if_neg c'] at h'; cases h'
      · rw [if_neg c] at h; cases h

/-- The unlocks at one place. -/
theorem unlocks : ∀ (Us : List Ac) (M : Md), (∀ a ∈ Us, a.k = kU ∧ 1 ≤ a.t ∧ a.t ≤ 4 ∧ ∃ i, itIx a.it = some i) → ∃ M', Cks M Us M' ∧
    (∀ j, (M'.m j = 0 ∨ M'.m j = M.m j) ∧ ((∃ a ∈ Us, ∃ i, itIx a.it = some i ∧ j = a.t.toNat * 3 + i) → M'.m j = 0) ∧ ((∀ a ∈ Us, ∀ i, itIx a.it = some i → j ≠ a.t.toNat * 3 + i) → M'.m j = M.m j)) ∧
    (∀ u, M'.s u = true → M.s u = true ∨ ∃ a ∈ Us, a.t.toNat = u)
  | [], M, _ => ⟨M, .nil M, fun j => ⟨.inr rfl, fun ⟨a, h, _⟩ => by simp at h, fun _ => rfl⟩, fun u h => .inl h⟩
  | a :: Us, M, h => by
    obtain ⟨hk, ht1, ht4, i, hi⟩ := h a List.mem_cons_self
    obtain ⟨M', g1, g2, g3⟩ := unlocks Us ((M.set (a.t.toNat * 3 + i) 0).shr a.t.toNat) fun b hb => h b (List.mem_cons_of_mem _ hb)
    have hck : Ck M a ((M.set (a.t.toNat * 3 + i) 0).shr a.t.toNat) := by
      have := Ck.u (M := M) a.it a.t.toNat i (by omega) (by omega) hi
      have e : (⟨kU, (a.t.toNat : Int), a.it⟩ : Ac) = a := by
        cases a with
        | mk k t it => dsimp only at hk ht1 ⊢; rw [hk]; congr 1; omega
      rwa [e] at this
    have hm : ∀ j, ((M.set (a.t.toNat * 3 + i) 0).shr a.t.toNat).m j = if j = a.t.toNat * 3 + i then 0 else M.m j := fun j => rfl
    have hs : ∀ u, ((M.set (a.t.toNat * 3 + i) 0).shr a.t.toNat).s u = if u = a.t.toNat then true else M.s u := fun u => rfl
    refine ⟨M', .cons hck g1, fun j => ⟨?_, ?_, ?_⟩, fun u hu => ?_⟩
    · rcases (g2 j).1 with e | e
      · exact .inl e
      · rw [hm] at e; split at e
        · exact .inl e
        · exact .inr e
    · rintro ⟨b, hb, i', hi', e⟩
      rcases List.mem_cons.1 hb with e1 | e1
      · subst e1
        rw [hi] at hi'
        cases hi'
        rcases (g2 j).1 with e2 | e2
        · exact e2
        · rw [hm, if_pos e] at e2; exact e2
      · exact (g2 j).2.1 ⟨b, e1, i', hi', e⟩
    · intro hn
      rw [(g2 j).2.2 fun b hb => hn b (List.mem_cons_of_mem _ hb), hm, if_neg (hn a List.mem_cons_self i hi)]
    · rcases g3 u hu with e | ⟨b, hb, e⟩
      · rw [hs] at e; split at e
        · rename_i e1; exact .inr ⟨a, List.mem_cons_self, e1.symm⟩
        · exact .inl e
      · exact .inr ⟨b, List.mem_cons_of_mem _ hb, e⟩

end Go.Proofs.YbulkbgasDoor

import Derived.Test.YbulkbgasDoorLaw
namespace Go.Proofs.YbulkbgasDoor
set_option linter.unusedVariables false

/-- A schedule without lock actions, its transactions one after another. -/
structure Ser (l : List Ac) : Prop where
  len : l.length ≤ 300
  tb : ∀ a ∈ l, 1 ≤ a.t ∧ a.t ≤ 4
  srt : ∀ p q, p ≤ q → q < l.length → (l.getD p ac0).t ≤ (l.getD q ac0).t
  kd : ∀ a ∈ l, (a.k = kC ∨ a.k = kA) ∨ ((a.k = kR ∨ a.k = kW) ∧ ∃ i, itIx a.it = some i)

theorem getD_mem {l : List Ac} {p : Nat} (h : p < l.length) : l.getD p ac0 ∈ l := by
  rw [List.getD_eq_getElem?_getD, List.getElem?_eq_getElem h]; exact List.getElem_mem h
theorem getD_get {l : List Ac} {p : Nat} (h : p < l.length) : l.getD p ac0 = l[p] := by
  rw [List.getD_eq_getElem?_getD, List.getElem?_eq_getElem h]; rfl

/-- What an access tells. -/
structure AcOk (l : List Ac) (c : Acc) : Prop where
  lt : c.p < l.length
  tc : tch (l.getD c.p ac0).k = true
  xt : c.x = ix (txL l) (l.getD c.p ac0).t
  tm : (l.getD c.p ac0).t ∈ txL l
  it : c.i = ix (itemsOf l) (l.getD c.p ac0).it
  im : (l.getD c.p ac0).it ∈ itemsOf l
  w : c.w = wrOf (l.take (c.p + 1)) (l.getD c.p ac0).t (l.getD c.p ac0).it

section
variable {l : List Ac} (S : Ser l)
include S

theorem acL_ok {c : Acc} (h : c ∈ acL l) : AcOk l c := by
  obtain ⟨h1, h2, h3, h4, h5, h6, h7⟩ := accN_mem (Nat.le_refl _) h
  have e := getD_get h2
  exact ⟨h2, by rw [e]; exact h3, by rw [e]; exact h4, by rw [e]; exact (txL_mem S.tb _).2 ⟨_, List.getElem_mem h2, rfl⟩, by rw [e]; exact h5, by rw [e]; exact h6, by rw [e]; exact h7⟩
end

theorem accN_sorted (tx : List Int) (l : List Ac) : ∀ n, n ≤ l.length → (accN tx l n).Pairwise (fun a b => a.p < b.p)
  | 0, _ => by simp [accN]
  | n + 1, h => by
    rw [accN_succ (by omega : n < l.length), List.pairwise_append]
    refine ⟨accN_sorted tx l n (by omega), by split <;> simp, fun a ha b hb => ?_⟩
    obtain ⟨h1, _⟩ := accN_mem (by omega : n ≤ l.length) ha
    split at hb
    · simp at hb; subst hb; exact h1
    · simp at hb
theorem accN_has {tx : List Int} {l : List Ac} {p : Nat} : ∀ n, (hn : n ≤ l.length) → (hp : p < n) → tch (l.getD p ac0).k = true → ∃ c ∈ accN tx l n, c.p = p
  | 0, _, hp, _ => by omega
  | n + 1, hn, hp, ht => by
    rw [accN_succ (by omega : n < l.length)]
    by_cases e : p = n
    · subst e
      rw [getD_get (by omega : p < l.length)] at ht
      rw [if_pos ht]
      exact ⟨_, List.mem_append_right _ (List.mem_singleton.2 rfl), rfl⟩
    · obtain ⟨c, h1, h2⟩ := accN_has (tx := tx) n (by omega) (by omega) ht
      exact ⟨c, List.mem_append_left _ h1, h2⟩
theorem acL_sorted (l : List Ac) : (acL l).Pairwise (fun a b => a.p < b.p) := accN_sorted _ _ _ (Nat.le_refl _)
theorem acL_has {l : List Ac} {p : Nat} (h : p < l.length) (ht : tch (l.getD p ac0).k = true) : ∃ c ∈ acL l, c.p = p := accN_has _ (Nat.le_refl _) h ht
theorem sorted_inj {A : List Acc} (h : A.Pairwise (fun a b => a.p < b.p)) {a b : Acc} (ha : a ∈ A) (hb : b ∈ A) (e : a.p = b.p) : a = b := by
  obtain ⟨i, hi, rfl⟩ := List.getElem_of_mem ha
  obtain ⟨j, hj, rfl⟩ := List.getElem_of_mem hb
  rw [List.pairwise_iff_getElem] at h
  rcases Nat.lt_trichotomy i j with h1 | h1 | h1
  · have := h i j hi hj h1; omega
  · subst h1; rfl
  · have := h j i hj hi h1; omega
theorem acL_inj {l : List Ac} {a b : Acc} (ha : a ∈ acL l) (hb : b ∈ acL l) (e : a.p = b.p) : a = b := sorted_inj (acL_sorted l) ha hb e

theorem ix_inj {α : Type} {l : List α} {a b : α} (ha : a ∈ l) (hb : b ∈ l) (h : ix l a = ix l b) : a = b := by
  rw [← ix_get ha, ← ix_get hb]; congr 1
theorem ix_mono {l : List Ac} {t u : Int} (ht : t ∈ txL l) (hu : u ∈ txL l) (h : t ≤ u) : ix (txL l) t ≤ ix (txL l) u := by
  rcases Nat.lt_or_ge (ix (txL l) u) (ix (txL l) t) with h1 | h1
  · have := txL_get _ _ (ix_lt hu) (ix_lt ht) h1
    rw [ix_get hu, ix_get ht] at this; omega
  · exact h1

section
variable {l : List Ac} (S : Ser l)
include S
theorem ac_xlt {c : Acc} (h : c ∈ acL l) : c.x < (txL l).length := by have := acL_ok S h; rw [this.xt]; exact ix_lt this.tm
theorem ac_t {c : Acc} (h : c ∈ acL l) : (txL l).getD c.x 0 = (l.getD c.p ac0).t := by
  have := acL_ok S h
  rw [List.getD_eq_getElem?_getD, List.getElem?_eq_getElem (ac_xlt S h), Option.getD_some]
  have e := ix_get this.tm
  simp only [this.xt]
  exact e
theorem ac_x_iff {c d : Acc} (hc : c ∈ acL l) (hd : d ∈ acL l) : c.x = d.x ↔ (l.getD c.p ac0).t = (l.getD d.p ac0).t := by
  have h1 := acL_ok S hc
  have h2 := acL_ok S hd
  constructor
  · intro e; rw [h1.xt, h2.xt] at e; exact ix_inj h1.tm h2.tm e
  · intro e; rw [h1.xt, h2.xt, e]
theorem ac_i_iff {c d : Acc} (hc : c ∈ acL l) (hd : d ∈ acL l) : c.i = d.i ↔ (l.getD c.p ac0).it = (l.getD d.p ac0).it := by
  have h1 := acL_ok S hc
  have h2 := acL_ok S hd
  constructor
  · intro e; rw [h1.it, h2.it] at e; exact ix_inj h1.im h2.im e
  · intro e; rw [h1.it, h2.it, e]
theorem ac_mono {c d : Acc} (hc : c ∈ acL l) (hd : d ∈ acL l) (h : c.p ≤ d.p) : c.x ≤ d.x := by
  have h1 := acL_ok S hc
  have h2 := acL_ok S hd
  rw [h1.xt, h2.xt]
  exact ix_mono h1.tm h2.tm (S.srt _ _ h h2.lt)
theorem ac_lt {c d : Acc} (hc : c ∈ acL l) (hd : d ∈ acL l) (h : c.x < d.x) : c.p < d.p := by
  rcases Nat.lt_or_ge c.p d.p with h1 | h1
  · exact h1
  · have := ac_mono S hd hc h1; omega
theorem ac_w {c : Acc} (hc : c ∈ acL l) (h : isW (l.getD c.p ac0).k = true) : c.w = true := by
  have h1 := acL_ok S hc
  rw [h1.w]
  unfold wrOf
  rw [List.any_eq_true]
  refine ⟨l.getD c.p ac0, ?_, by rw [h]; simp⟩
  rw [getD_get h1.lt, List.take_succ_eq_append_getElem h1.lt]
  exact List.mem_append_right _ (List.mem_singleton.2 rfl)
theorem acL_len : (acL l).length ≤ 300 := Nat.le_trans (accN_length_le _ _ _) S.len
end

/-! ### The spans -/
structure SpOk (A : List Acc) (s : Sp) : Prop where
  f : ∃ a ∈ A, a.key = s.key ∧ a.p = s.f
  fm : ∀ b ∈ A, b.key = s.key → s.f ≤ b.p
  la : ∃ a ∈ A, a.key = s.key ∧ a.p = s.la
  w : (s.w = -1 ∧ ∀ b ∈ A, b.key = s.key → b.w = false) ∨ (∃ a ∈ A, a.key = s.key ∧ a.w = true ∧ (a.p : Int) = s.w ∧ ∀ b ∈ A, b.key = s.key → b.w = true → a.p ≤ b.p)

theorem spStep_mem {S : List Sp} {a : Acc} (hn : (S.map Sp.key).Nodup) {s' : Sp} (h : s' ∈ spStep S a) :
    (s' ∈ S ∧ s'.key ≠ a.key) ∨ (∃ s ∈ S, s.key = a.key ∧ s' = { s with w := if a.w = true ∧ s.w < 0 then (a.p : Int) else s.w, la := a.p }) ∨ (a.key ∉ S.map Sp.key ∧ s' = ⟨a.x, a.i, a.p, if a.w = true then (a.p : Int) else -1, a.p⟩) := by
  unfold spStep at h
  split at h
  · rename_i hm
    obtain ⟨j, hj, e⟩ := List.getElem_of_mem h
    rw [List.length_modify] at hj
    rw [List.getElem_modify] at e
    have hix := ix_lt hm
    rw [List.length_map] at hix
    have hkey : (S[ix (S.map Sp.key) a.key]).key = a.key := by
      have := ix_get hm
      rw [List.getElem_map] at this
      exact this
    split at e
    · rename_i e1
      right; left
      subst e1
      exact ⟨_, List.getElem_mem hix, hkey, e.symm⟩
    · rename_i e1
      left
      subst e
      refine ⟨List.getElem_mem hj, fun e2 => e1 ?_⟩
      have h3 : (S.map Sp.key)[ix (S.map Sp.key) a.key]'(by rw [List.length_map]; exact hix) = (S.map Sp.key)[j]'(by rw [List.length_map]; exact hj) := by
        rw [List.getElem_map, List.getElem_map, hkey, e2]
      exact (List.getElem_inj hn).1 h3
  · rename_i hm
    rcases List.mem_append.1 h with h | h
    · left
      exact ⟨h, fun e => hm (by rw [← e]; exact List.mem_map.2 ⟨_, h, rfl⟩)⟩
    · simp at h
      right; right
      exact ⟨hm, h⟩

theorem spF_ok (A : List Acc) (hs : A.Pairwise (fun a b => a.p < b.p)) : ∀ s ∈ spF A, SpOk A s := by
  suffices ∀ n, n ≤ A.length → ∀ s ∈ spF (A.take n), SpOk (A.take n) s by
    have := this A.length (Nat.le_refl _)
    rwa [List.take_length] at this
  intro n
  induction n with
  | zero => intro _ s h; simp [spF] at h
  | succ n ih =>
    intro hn s' h
    have hlt : n < A.length := by omega
    have hbig : ∀ b ∈ A.take n, b.p < A[n].p := fun b hb => by
      obtain ⟨i, hi, rfl⟩ := List.getElem_of_mem hb
      rw [List.length_take] at hi
      rw [List.getElem_take]
      exact List.pairwise_iff_getElem.1 hs i n (by omega) hlt (by omega)
    have ih' := ih (by omega)
    have hkn := keysF_nodup (A.take n)
    have hks : ∀ b ∈ A.take n, b.key ∈ (spF (A.take n)).map Sp.key := fun b hb => by
      obtain ⟨i, hi, rfl⟩ := List.getElem_of_mem hb
      have := key_mem hi (n := (A.take n).length) hi
      rw [List.take_length] at this
      exact this
    rw [List.take_succ_eq_append_getElem hlt] at h ⊢
    rw [spF_snoc] at h
    obtain ⟨c, hc⟩ : ∃ c, A[n] = c := ⟨_, rfl⟩
    rw [hc] at h hbig ⊢
    obtain ⟨B, hB⟩ : ∃ B, A.take n = B := ⟨_, rfl⟩
    rw [hB] at h hbig ih' hkn hks ⊢
    have up : ∀ {p : Acc → Prop}, (∃ a ∈ B, p a) → ∃ a ∈ B ++ [c], p a := fun ⟨a, h1, h2⟩ => ⟨a, List.mem_append_left _ h1, h2⟩
    rcases spStep_mem hkn h with ⟨h1, h2⟩ | ⟨s, h1, h2, rfl⟩ | ⟨h1, rfl⟩
    · have o := ih' s' h1
      have hall : ∀ {p : Acc → Prop}, (∀ b ∈ B, b.key = s'.key → p b) → ∀ b ∈ B ++ [c], b.key = s'.key → p b := fun hp b hb hk => by
        rcases List.mem_append.1 hb with hb | hb
        · exact hp b hb hk
        · simp at hb; subst hb; exact absurd hk.symm h2
      refine ⟨up o.f, hall o.fm, up o.la, ?_⟩
      rcases o.w with ⟨w1, w2⟩ | ⟨a, w1, w2, w3, w4, w5⟩
      · exact .inl ⟨w1, hall w2⟩
      · exact .inr ⟨a, List.mem_append_left _ w1, w2, w3, w4, hall w5⟩
    · have o := ih' s h1
      refine ⟨up o.f, fun b hb hk => ?_, ⟨c, by simp, h2.symm, rfl⟩, ?_⟩
      · rcases List.mem_append.1 hb with hb | hb
        · exact o.fm b hb hk
        · simp at hb; subst hb
          obtain ⟨a, ha, ha1, ha2⟩ := o.f
          have := hbig a ha
          show s.f ≤ b.p
          omega
      · rcases o.w with ⟨w1, w2⟩ | ⟨a, w1, w2, w3, w4, w5⟩
        · by_cases hw : c.w = true
          · right
            refine ⟨c, by simp, h2.symm, hw, ?_, fun b hb hk hbw => ?_⟩
            · show (c.p : Int) = if c.w = true ∧ s.w < 0 then (c.p : Int) else s.w
              rw [if_pos ⟨hw, by omega⟩]
            · rcases List.mem_append.1 hb with hb | hb
              · have := w2 b hb hk; rw [hbw] at this; cases this
              · simp at hb; subst hb; exact Nat.le_refl _
          · left
            refine ⟨?_, fun b hb hk => ?_⟩
            · show (if c.w = true ∧ s.w < 0 then (c.p : Int) else s.w) = -1
              rw [if_neg (fun h => hw h.1)]; exact w1
            · rcases List.mem_append.1 hb with hb | hb
              · exact w2 b hb hk
              · simp at hb; subst hb; simpa using hw
        · right
          refine ⟨a, List.mem_append_left _ w1, w2, w3, ?_, fun b hb hk hbw => ?_⟩
          · show (a.p : Int) = if c.w = true ∧ s.w < 0 then (c.p : Int) else s.w
            rw [if_neg (fun h => by omega)]; exact w4
          · rcases List.mem_append.1 hb with hb | hb
            · exact w5 b hb hk hbw
            · simp at hb; subst hb; have := hbig a w1; omega
    · have hno : ∀ b ∈ B, b.key ≠ c.key := fun b hb e => h1 (by rw [← e]; exact hks b hb)
      have hall : ∀ {p : Acc → Prop}, p c → ∀ b ∈ B ++ [c], b.key = c.key → p b := fun hp b hb hk => by
        rcases List.mem_append.1 hb with hb | hb
        · exact absurd hk (hno b hb)
        · simp at hb; subst hb; exact hp
      refine ⟨⟨c, by simp, rfl, rfl⟩, hall (Nat.le_refl _), ⟨c, by simp, rfl, rfl⟩, ?_⟩
      by_cases hw : c.w = true
      · right
        refine ⟨c, by simp, rfl, hw, ?_, hall (p := fun b => b.w = true → c.p ≤ b.p) fun _ => Nat.le_refl _⟩
        show (c.p : Int) = if c.w = true then (c.p : Int) else -1
        rw [if_pos hw]
      · left
        refine ⟨?_, hall (by simpa using hw)⟩
        show (if c.w = true then (c.p : Int) else -1) = -1
        rw [if_neg hw]
theorem spF_has {A : List Acc} {a : Acc} (h : a ∈ A) : ∃ s ∈ spF A, s.key = a.key := by
  obtain ⟨i, hi, rfl⟩ := List.getElem_of_mem h
  have := key_mem hi (n := A.length) hi
  rw [List.take_length] at this
  exact List.mem_map.1 this

end Go.Proofs.YbulkbgasDoor

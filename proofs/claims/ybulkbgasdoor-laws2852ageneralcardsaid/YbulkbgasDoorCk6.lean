import Derived.Test.YbulkbgasDoorCk5
import Derived.Test.YbulkbgasDoorSort
import Derived.Test.YbulkbgasDoorEnds
import Derived.Test.YbulkbgasDoorDelB
import Derived.Test.YbulkbgasDoorFc3
namespace Go.Proofs.YbulkbgasDoor
open Go.RowKit Go.Maps
set_option linter.unusedVariables false

/-! ### The transactions, in rising order -/
def txL (l : List Ac) : List Int := [1, 2, 3, 4].filter fun t => l.any fun a => a.t == t
theorem txL_mem {l : List Ac} (ht : ∀ a ∈ l, 1 ≤ a.t ∧ a.t ≤ 4) (t : Int) : t ∈ txL l ↔ ∃ a ∈ l, a.t = t := by
  unfold txL
  simp only [List.mem_filter, List.any_eq_true, beq_iff_eq]
  constructor
  · rintro ⟨_, h⟩; exact h
  · rintro ⟨a, ha, rfl⟩
    have := ht a ha
    refine ⟨?_, a, ha, rfl⟩
    simp only [List.mem_cons, List.not_mem_nil, or_false]
    omega
theorem txL_lt (l : List Ac) : (txL l).Pairwise (· < ·) := by
  unfold txL
  exact List.Pairwise.filter _ (by decide)
theorem txL_length (l : List Ac) : (txL l).length ≤ 4 := by
  unfold txL; exact List.length_filter_le _ _
theorem txL_bd {l : List Ac} {t : Int} (h : t ∈ txL l) : 1 ≤ t ∧ t ≤ 4 := by
  unfold txL at h
  have := (List.mem_filter.1 h).1
  simp only [List.mem_cons, List.not_mem_nil, or_false] at this
  omega
theorem txL_nodup (l : List Ac) : (txL l).Nodup := (txL_lt l).imp fun h => by omega
theorem txL_get {l : List Ac} : ∀ i j (hi : i < (txL l).length) (hj : j < (txL l).length), i < j → (txL l)[i] < (txL l)[j] := fun i j hi hj h => List.pairwise_iff_getElem.1 (txL_lt l) i j hi hj h

theorem eq_of_lt : ∀ (xs ys : List Int), xs.Pairwise (· < ·) → ys.Pairwise (· < ·) → (∀ t, t ∈ xs ↔ t ∈ ys) → xs = ys
  | [], [], _, _, _ => rfl
  | [], y :: ys, _, _, h => by have := (h y).2 (by simp); simp at this
  | x :: xs, [], _, _, h => by have := (h x).1 (by simp); simp at this
  | x :: xs, y :: ys, h1, h2, h => by
    rw [List.pairwise_cons] at h1 h2
    have e : x = y := by
      rcases List.mem_cons.1 ((h x).1 (by simp)) with e | e
      · exact e
      · rcases List.mem_cons.1 ((h y).2 (by simp)) with e' | e'
        · exact e'.symm
        · have := h1.1 y e'; have := h2.1 x e; omega
    subst e
    rw [eq_of_lt xs ys h1.2 h2.2 fun t => ?_]
    constructor
    · intro ht
      rcases List.mem_cons.1 ((h t).1 (List.mem_cons_of_mem _ ht)) with e | e
      · subst e; have := h1.1 t ht; omega
      · exact e
    · intro ht
      rcases List.mem_cons.1 ((h t).2 (List.mem_cons_of_mem _ ht)) with e | e
      · subst e; have := h2.1 t ht; omega
      · exact e
theorem srt_txL {zs : List Int} {l : List Ac} (hn : zs.Nodup) (hm : ∀ t, t ∈ zs ↔ ∃ a ∈ l, a.t = t) (ht : ∀ a ∈ l, 1 ≤ a.t ∧ a.t ≤ 4) : srt zs = txL l := by
  apply eq_of_lt
  · have h1 : (srt zs).Pairwise (fun x y => decide (x ≤ y) = true) := List.pairwise_mergeSort (fun a b c h1 h2 => by simp at *; omega) (fun a b => by simp; omega) zs
    have h2 : (srt zs).Nodup := (List.mergeSort_perm zs _).nodup_iff.2 hn
    exact (h1.and h2).imp fun {a b} ⟨h3, h4⟩ => by
      simp at h3
      rcases Int.lt_or_eq_of_le h3 with h5 | h5
      · exact h5
      · exact absurd h5 h4
  · exact txL_lt l
  · intro t
    rw [txL_mem ht, ← hm]
    exact (List.mergeSort_perm zs _).mem_iff

theorem sort_own {w2 w3 : World} {v3 : Value} {zs : List Int} (hown : w3.ownsRow w2.heap.size 32 1 v3 zs.length (rowT zs)) (hb : Below w2.heap.size w2 w3) (hn : zs.length ≤ 1000) :
    Calls Ybad.prog 20 #[v3] w3 fun e w' => e = .returned (.tuple #[]) ∧ SlI w' v3 (srt zs) ∧ Below w2.heap.size w2 w' := by
  obtain ⟨a, cap, rfl, hcap, hsome, hnone⟩ := own_form hown
  cases a with
  | none =>
    have h0 := (hnone rfl).1
    have hz : zs = [] := List.eq_nil_of_length_eq_zero h0
    subst hz
    refine Calls.mono (sort_none none cap w3) ?_
    rintro e w' ⟨rfl, rfl⟩
    exact ⟨rfl, ⟨none, cap, by rw [srt_length], by simp [srt], fun i hi => by simp [srt] at hi⟩, hb⟩
  | some A =>
    obtain ⟨g, rfl⟩ := hsome A rfl
    have hc := fun j (hj : j < zs.length) => own_cell hown (j := j) (by rw [rowT_length]; exact hj)
    have hge := own_ge hown (k := g) rfl
    have hgl : g < w3.heap.size := by
      rcases hown.2 with ⟨h1, _⟩ | ⟨g', cap', cur, h1, h2, h3, _⟩
      · cases h1
      · simp only [Value.slice.injEq, Option.some.injEq, Addr.mk.injEq, and_true, true_and] at h1
        obtain ⟨rfl, rfl⟩ := h1
        exact (Array.getElem?_eq_some_iff.1 h3).1
    refine Calls.mono (sort_any w3 g cap zs (fun j hj => ⟨by rw [(hc j hj).1]; simp [rowT], (hc j hj).2⟩) hgl hn) ?_
    rintro e w' ⟨rfl, h1, h2⟩
    refine ⟨rfl, ⟨some ⟨g, 0, none⟩, cap, by rw [srt_length], by rw [srt_length]; exact hcap, fun i hi => ⟨g, 0, rfl, Nat.lt_of_lt_of_le hgl h2.size, ?_⟩⟩, hb.grown h2 hb.size (fun k hk => by cases hk; exact hge)⟩
    intro j v hv
    have hj : j = 0 := by
      have := (List.getElem?_eq_some_iff.1 hv).1
      simp at this; omega
    subst hj
    simp only [List.getElem?_cons_zero, Option.some.injEq] at hv
    rw [← hv]
    have := h1 i hi
    rw [show 0 + i * 1 + 0 = i by omega, this]
    simp [List.getD_eq_getElem?_getD, List.getElem?_eq_getElem hi]

/-! ### The accesses -/
theorem itemsOf_mem_step {l : List Ac} {a : Ac} (h : tch a.k = true) : a.it ∈ itemsOf (l ++ [a]) := by
  classical
  rw [itemsOf_snoc]
  split
  · simp
  · rename_i hc
    by_cases hm : a.it ∈ itemsOf l
    · exact hm
    · exact absurd ⟨h, hm⟩ hc
theorem itemsOf_prefix (l : List Ac) (n : Nat) : itemsOf (l.take n) <+: itemsOf l := by
  classical
  suffices ∀ (m : List Ac) (k : List Ac), itemsOf k <+: itemsOf (k ++ m) by
    have := this (l.drop n) (l.take n)
    rwa [List.take_append_drop] at this
  intro m
  induction m with
  | nil => intro k; rw [List.append_nil]; exact List.prefix_rfl
  | cons a m ih =>
    intro k
    have h1 : itemsOf k <+: itemsOf (k ++ [a]) := by
      rw [itemsOf_snoc]; split
      · exact List.prefix_append _ _
      · exact List.prefix_rfl
    have h2 := ih (k ++ [a])
    rw [List.append_assoc] at h2
    exact h1.trans h2
theorem accN_mem {tx : List Int} {l : List Ac} {n : Nat} (hn : n ≤ l.length) {c : Acc} (h : c ∈ accN tx l n) : ∃ (hp : c.p < n) (hl : c.p < l.length), tch l[c.p].k = true ∧ c.x = ix tx l[c.p].t ∧ c.i = ix (itemsOf l) l[c.p].it ∧ l[c.p].it ∈ itemsOf l ∧ c.w = wrOf (l.take (c.p + 1)) l[c.p].t l[c.p].it := by
  induction n with
  | zero => simp [accN] at h
  | succ n ih =>
    have hl : n < l.length := by omega
    rw [accN_succ hl, List.mem_append] at h
    rcases h with h | h
    · obtain ⟨h1, h2, h3⟩ := ih (by omega) h
      exact ⟨by omega, h2, h3⟩
    · by_cases ht : tch l[n].k = true
      · rw [if_pos ht, List.mem_singleton] at h
        subst h
        dsimp only
        have hm : l[n].it ∈ itemsOf (l.take (n + 1)) := by rw [List.take_succ_eq_append_getElem hl]; exact itemsOf_mem_step ht
        exact ⟨by omega, hl, ht, rfl, (ix_prefix (itemsOf_prefix l (n + 1)) hm).symm, (itemsOf_prefix l (n + 1)).subset hm, rfl⟩
      · rw [if_neg ht] at h; simp at h
theorem accN_lt {tx : List Int} {l : List Ac} (hmem : ∀ a ∈ l, a.t ∈ tx) {c : Acc} (h : c ∈ accN tx l l.length) : c.x < tx.length ∧ c.i < (itemsOf l).length ∧ c.p < l.length := by
  obtain ⟨h1, h2, h3, h4, h5, h6, h7⟩ := accN_mem (Nat.le_refl _) h
  refine ⟨?_, ?_, h1⟩
  · rw [h4]; exact ix_lt (hmem _ (List.getElem_mem h2))
  · rw [h5]; exact ix_lt h6
theorem keysF_src {A : List Acc} {k : Nat × Nat} (h : k ∈ keysF A) : ∃ a ∈ A, a.key = k := by
  suffices ∀ (A : List Acc) (S : List Sp), k ∈ (A.foldl spStep S).map Sp.key → k ∈ S.map Sp.key ∨ ∃ a ∈ A, a.key = k by
    rcases this A [] h with h | h
    · simp at h
    · exact h
  intro A
  induction A with
  | nil => intro S h; exact .inl h
  | cons a A ih =>
    intro S h
    rw [List.foldl_cons] at h
    rcases ih _ h with h | ⟨b, hb, e⟩
    · rcases keys_step S a with h1 | ⟨h1, h2⟩
      · rw [h1] at h; exact .inl h
      · rw [h2, List.mem_append] at h
        rcases h with h | h
        · exact .inl h
        · simp at h; exact .inr ⟨a, List.mem_cons_self, h.symm⟩
    · exact .inr ⟨b, List.mem_cons_of_mem _ hb, e⟩
theorem spF_x {A : List Acc} {n : Nat} (h : ∀ a ∈ A, a.x < n) : ∀ i, i < (spF A).length → txOf (spF A) i < n := fun i hi => by
  unfold txOf
  rw [List.getD_eq_getElem?_getD, List.getElem?_eq_getElem hi, Option.getD_some]
  have hm : ((spF A)[i]).key ∈ keysF A := List.mem_map.2 ⟨_, List.getElem_mem hi, rfl⟩
  obtain ⟨a, ha, e⟩ := keysF_src hm
  have : (spF A)[i].x = a.x := by have := congrArg Prod.snd e; exact this.symm
  rw [this]; exact h a ha

/-! ### The plain things that CheckLockability reckons -/
noncomputable def acL (l : List Ac) : List Acc := accN (txL l) l l.length
noncomputable def owL (l : List Ac) (q : Nat) : Nat := ix (keysF (acL l)) ((acL l).getD q a0).key
noncomputable def fcL (back : Bool) (l : List Ac) : Nat → Int := (fcF back (acL l) (txOf (spF (acL l))) (owL l) (acL l).length).F
noncomputable def arL (l : List Ac) : Nat → List Nat := (naF (txL l).length (acL l)).X

/-- What the walk wants of the schedule. -/
structure Plain7 (l : List Ac) (L : Nat → Nat) : Prop where
  ok : ∀ O : List Nat, O.length = (txL l).length → O.Nodup → (∀ j ∈ O, j < (txL l).length) → LkOk l (spF (acL l)) (txL l).length L O
  h1 : ∀ i, i < (txL l).length → ¬ (0 ≤ fcL false l (i * 2 + 1) ∧ fcL false l (i * 2 + 1) ≤ fcL true l (i * 2))
  hx : ∀ i, i < (txL l).length → ∀ j ∈ arL l i, i < j ∧ j < (txL l).length
  hl : ∀ i, i < (txL l).length → (L i : Int) = (arL l i).foldl (minL fun j => (L j : Int)) (lat0 (fcL false l) l.length i)
  h3 : ∀ i, i < (txL l).length → fcL true l (i * 2) < (L i : Int)

/-- What CheckLockability leaves. -/
def Res7 (w2 wi : World) (B2 : Nat) (l : List Ac) (L : Nat → Nat) : Prop :=
  ∃ vL O, O.length = (txL l).length ∧ O.Nodup ∧ (∀ j ∈ O, j < (txL l).length) ∧ SlA wi vL (lkF l (spF (acL l)) (txL l) (bfAll (spF (acL l)) O) (ptAll L O) (l.length + 1)) ∧ wi.heap[B2]? = some (.cells #[vL, .slice none 0 0, .bool false] 28 (0, 0)) ∧ wi.os = w2.os ∧ wi.tape = w2.tape ∧ wi.output = w2.output ∧ w2.heap.size ≤ wi.heap.size ∧ ∀ k, k < w2.heap.size → k ≠ B2 → wi.heap[k]? = w2.heap[k]?

/-- firstConflicts, in any world above w5. -/
theorem first_at (w5 : World) (l : List Ac) (hn : l.length ≤ 300) (ht : ∀ a ∈ l, 1 ≤ a.t ∧ a.t ≤ 4) (Bc Bo Bm B6 capt capS : Nat) (at_ al : Option Addr) (va : Value) (hB : Bc < w5.heap.size) (hbx : w5.heap[Bc]? = some (.cells #[.slice at_ (txL l).length capt, .int .i64 ((itemsOf l).length : Int), va] 63 (0, 0))) (hs : SlX w5 va (acL l))
    (hl : SlS w5 (.slice al (spF (acL l)).length capS) (spF (acL l))) (ho : Fix w5 Bo 3 (acL l).length (ofN (acL l) (acL l).length)) (hb6 : w5.heap[B6]? = some (.cells #[.slice al (spF (acL l)).length capS, .slice (some ⟨Bo, 0, none⟩) (acL l).length (acL l).length, .map (some Bm)] 57 (0, 0))) (W : World) (back : Bool) (hb : Below w5.heap.size w5 W) :
    Calls Ybad.prog 23 #[.pointer (some ⟨Bc, 0, none⟩), .agg #[.slice al (spF (acL l)).length capS, .slice (some ⟨Bo, 0, none⟩) (acL l).length (acL l).length, .map (some Bm)], .bool back] W fun e w' => e = .returned (.slice (some ⟨W.heap.size + 1, 0, none⟩) (txL l).length (txL l).length) ∧ Fix w' (W.heap.size + 1) 65 ((txL l).length * 2) (fun j => .int .i64 (fcL back l j)) ∧ Below W.heap.size W w' ∧ Below w5.heap.size w5 w' ∧
      w'.cell? ⟨B6, 0, none⟩ = some (.slice al (spF (acL l)).length capS) ∧ w'.cell? ⟨B6, 1, none⟩ = some (.slice (some ⟨Bo, 0, none⟩) (acL l).length (acL l).length) ∧ w'.cell? ⟨B6, 2, none⟩ = some (.map (some Bm)) := by
  have hA : (acL l).length ≤ 300 := Nat.le_trans (accN_length_le _ _ _) hn
  have hS : (spF (acL l)).length ≤ 300 := Nat.le_trans (spF_length_le _) hA
  have hmem : ∀ a ∈ l, a.t ∈ txL l := fun a ha => (txL_mem ht _).2 ⟨a, ha, rfl⟩
  have htl := txL_length l
  have hil := itemsOf_length_le l
  have hsm : ∀ a ∈ acL l, a.x < (txL l).length ∧ a.i < (itemsOf l).length := fun a ha => ⟨(accN_lt hmem ha).1, (accN_lt hmem ha).2.1⟩
  have hz := hb.size
  have hB6 := (Array.getElem?_eq_some_iff.1 hb6).1
  refine Calls.mono (first_any W back Bc (txL l).length (itemsOf l).length capt Bo Bm at_ va _ (acL l) (spF (acL l)) (owL l) hA hS (by omega) (by omega) (by omega) ((hb.block Bc hB).trans hbx) (hs.below hb) (hl.below hb) ?_ hsm ?_ (spF_x fun a ha => (hsm a ha).1)) ?_
  · have h1 : Fix W Bo 3 (acL l).length (ofN (acL l) (acL l).length) := (hb.block Bo ho.lt).trans ho
    exact h1.congr fun j hj => by unfold ofN; rw [if_pos hj]; rfl
  · intro q hq
    unfold owL
    rw [List.getD_eq_getElem?_getD, List.getElem?_eq_getElem hq, Option.getD_some]
    have h1 := key_mem hq (n := (acL l).length) hq
    rw [List.take_length] at h1
    have := ix_lt h1
    unfold keysF at this ⊢
    rw [List.length_map] at this
    exact this
  · rintro e w' ⟨rfl, h1, h2⟩
    have h3 := hb.trans (h2.mono hz)
    have h4 := (h3.block B6 hB6).trans hb6
    refine ⟨rfl, h1, h2, h3, ?_, ?_, ?_⟩ <;> (rw [cell_of_row _ _ _ _ _ _ h4]; rfl)

end Go.Proofs.YbulkbgasDoor

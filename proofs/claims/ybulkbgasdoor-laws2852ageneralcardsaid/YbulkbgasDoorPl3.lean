import Derived.Test.YbulkbgasDoorPl2
namespace Go.Proofs.YbulkbgasDoor
set_option linter.unusedVariables false

theorem getA_mem {A : List Acc} {k : Nat} (h : k < A.length) : A.getD k a0 ∈ A := by
  rw [List.getD_eq_getElem?_getD, List.getElem?_eq_getElem h]; exact List.getElem_mem h
theorem getA_lt {A : List Acc} (hs : A.Pairwise (fun a b => a.p < b.p)) {i j : Nat} (hij : i < j) (hj : j < A.length) : (A.getD i a0).p < (A.getD j a0).p := by
  rw [List.getD_eq_getElem?_getD, List.getElem?_eq_getElem (by omega : i < A.length), List.getD_eq_getElem?_getD, List.getElem?_eq_getElem hj]
  exact List.pairwise_iff_getElem.1 hs i j (by omega) hj hij
theorem getA_of_mem {A : List Acc} {a : Acc} (h : a ∈ A) : ∃ k, k < A.length ∧ A.getD k a0 = a := by
  obtain ⟨i, hi, rfl⟩ := List.getElem_of_mem h
  exact ⟨i, hi, by rw [List.getD_eq_getElem?_getD, List.getElem?_eq_getElem hi]; rfl⟩

theorem key_iff (a b : Acc) : a.key = b.key ↔ a.i = b.i ∧ a.x = b.x := by
  unfold Acc.key; exact Prod.mk.injEq _ _ _ _ ▸ Iff.rfl
theorem key_getA {A : List Acc} {k : Nat} (h : k < A.length) : (A.getD k a0).key ∈ keysF A := by
  have h1 := key_mem h (n := A.length) h
  rw [List.take_length] at h1
  rw [List.getD_eq_getElem?_getD, List.getElem?_eq_getElem h]; exact h1
theorem ow_iff (A : List Acc) : ∀ a b, a < A.length → b < A.length → (ix (keysF A) (A.getD a a0).key = ix (keysF A) (A.getD b a0).key ↔ (A.getD a a0).i = (A.getD b a0).i ∧ (A.getD a a0).x = (A.getD b a0).x) := fun a b ha hb => by
  rw [← key_iff]
  constructor
  · exact ix_inj (key_getA ha) (key_getA hb)
  · intro e; rw [e]
theorem ow_tx (A : List Acc) : ∀ a, a < A.length → txOf (spF A) (ix (keysF A) (A.getD a a0).key) = (A.getD a a0).x := fun a ha => by
  have hm := key_getA ha
  have hl := ix_lt hm
  have hg := ix_get hm
  unfold keysF at hl hg
  rw [List.length_map] at hl
  rw [List.getElem_map] at hg
  unfold txOf
  have hk : ix (keysF A) (A.getD a a0).key = ix ((spF A).map Sp.key) (A.getD a a0).key := rfl
  rw [hk, List.getD_eq_getElem?_getD, List.getElem?_eq_getElem hl, Option.getD_some]
  exact congrArg Prod.snd hg

section
variable {l : List Ac} (S : Ser l)
theorem fc_inv (l : List Ac) (back : Bool) : FcI back (txOf (spF (acL l))) (fun k => (acL l).getD (fcAt back (acL l).length k) a0) (fun k => owL l (fcAt back (acL l).length k)) (acL l).length (fcF back (acL l) (txOf (spF (acL l))) (owL l) (acL l).length) :=
  fcF_inv back (acL l) (txOf (spF (acL l))) (owL l) (ow_iff (acL l)) (ow_tx (acL l)) _ (Nat.le_refl _)

theorem fu_sound {i : Nat} (h : 0 ≤ fcL false l (i * 2 + 1)) : ∃ c ∈ acL l, ∃ d ∈ acL l, fcL false l (i * 2 + 1) = (c.p : Int) ∧ d.x = i ∧ c.x ≠ i ∧ d.p < c.p := by
  rcases (fc_inv l false).b i with ⟨_, h1⟩ | ⟨h1, k1, h2, h3, h4, k0, h5, h6⟩
  · exact absurd h (by unfold fcL; omega)
  · have e : ∀ k, fcAt false (acL l).length k = k := fun k => by simp [fcAt]
    rw [e] at h3 h4
    rw [e] at h6
    exact ⟨_, getA_mem h2, _, getA_mem (by omega : k0 < _), h3, h6, h4, getA_lt (acL_sorted l) h5 h2⟩
theorem fl_sound {i : Nat} (h : 0 ≤ fcL true l (i * 2)) : ∃ c ∈ acL l, ∃ d ∈ acL l, fcL true l (i * 2) = (c.p : Int) ∧ d.x = i ∧ c.x ≠ i ∧ c.p < d.p := by
  rcases (fc_inv l true).b i with ⟨h1, _⟩ | ⟨h1, k1, h2, h3, h4, k0, h5, h6⟩
  · exact absurd h (by unfold fcL; omega)
  · have e : ∀ k, fcAt true (acL l).length k = (acL l).length - 1 - k := fun k => by simp [fcAt]
    rw [e] at h3 h4
    rw [e] at h6
    exact ⟨_, getA_mem (by omega), _, getA_mem (by omega : (acL l).length - 1 - k0 < _), h3, h6, h4, getA_lt (acL_sorted l) (by omega) (by omega)⟩
theorem fu_complete {c d : Acc} (hc : c ∈ acL l) (hd : d ∈ acL l) (hp : d.p < c.p) (hi : d.i = c.i) (hx : d.x ≠ c.x) (hw : d.w = true ∨ c.w = true) : 0 ≤ fcL false l (d.x * 2 + 1) ∧ fcL false l (d.x * 2 + 1) ≤ (c.p : Int) := by
  obtain ⟨k0, h0, rfl⟩ := getA_of_mem hd
  obtain ⟨k1, h1, rfl⟩ := getA_of_mem hc
  have h01 : k0 < k1 := by
    rcases Nat.lt_trichotomy k0 k1 with h | h | h
    · exact h
    · subst h; omega
    · have := getA_lt (acL_sorted l) h h0; omega
  have e : ∀ k, fcAt false (acL l).length k = k := fun k => by simp [fcAt]
  have hf := (fc_inv l false).f k0 k1 h01 h1
  simp only [e] at hf
  obtain ⟨f1, k2, f2, f3⟩ := hf hi hx hw
  have f4 : fcL false l (((acL l).getD k0 a0).x * 2 + 1) = (((acL l).getD k2 a0).p : Int) := f3
  rw [f4]
  refine ⟨by omega, ?_⟩
  rcases Nat.eq_or_lt_of_le f2 with h | h
  · subst h; exact Int.le_refl _
  · have := getA_lt (acL_sorted l) h h1; omega
end

/-! ### nearestArcs: every arc goes up -/
structure NaI (n : Nat) (B : List Acc) (s : Na) : Prop where
  wt : ∀ i, s.wt i = -1 ∨ ∃ a ∈ B, (a.x : Int) = s.wt i
  rd : ∀ k, ∀ r ∈ s.X (n + k), ∃ a ∈ B, a.x = r
  ar : ∀ i, i < n → ∀ j ∈ s.X i, i < j ∧ ∃ a ∈ B, a.x = j
theorem naFold_ar {n : Nat} {G : Nat → Prop} {x : Nat} (hx : G x) : ∀ (W : List Nat) (X : Nat → List Nat), (∀ r ∈ W, r < n ∧ r ≤ x) → (∀ i, i < n → ∀ j ∈ X i, i < j ∧ G j) → (∀ i, i < n → ∀ j ∈ W.foldl (naOne x) X i, i < j ∧ G j) ∧ ∀ k, W.foldl (naOne x) X (n + k) = X (n + k)
  | [], X, _, h => ⟨h, fun _ => rfl⟩
  | r :: W, X, hW, h => by
    rw [List.foldl_cons]
    have hr := hW r List.mem_cons_self
    have h1 : ∀ i, i < n → ∀ j ∈ naOne x X r i, i < j ∧ G j := fun i hi j hj => by
      unfold naOne at hj
      split at hj
      · exact h i hi j hj
      · rename_i hne
        unfold updL at hj
        split at hj
        · rename_i e; subst e
          rcases List.mem_append.1 hj with hj | hj
          · exact h i hi j hj
          · simp at hj; subst hj; exact ⟨by omega, hx⟩
        · exact h i hi j hj
    have h2 : ∀ k, naOne x X r (n + k) = X (n + k) := fun k => by
      unfold naOne; split
      · rfl
      · exact updL_other _ (by omega) _
    obtain ⟨g1, g2⟩ := naFold_ar hx W (naOne x X r) (fun r' hr' => hW r' (List.mem_cons_of_mem _ hr')) h1
    exact ⟨g1, fun k => (g2 k).trans (h2 k)⟩
theorem naF_inv (n : Nat) : ∀ (A : List Acc), (∀ a ∈ A, a.x < n) → A.Pairwise (fun a b => a.x ≤ b.x) → NaI n A (naF n A) := by
  intro A hA hs
  suffices ∀ m, m ≤ A.length → NaI n (A.take m) (naF n (A.take m)) by
    have := this A.length (Nat.le_refl _); rwa [List.take_length] at this
  intro m
  induction m with
  | zero => intro _; exact ⟨fun _ => .inl rfl, fun _ _ h => by simp [naF] at h, fun _ _ _ h => by simp [naF] at h⟩
  | succ m ih =>
    intro hm
    have hlt : m < A.length := by omega
    have ih' := ih (by omega)
    have hle : ∀ b ∈ A.take m, b.x ≤ A[m].x := fun b hb => by
      obtain ⟨i, hi, rfl⟩ := List.getElem_of_mem hb
      rw [List.length_take] at hi
      rw [List.getElem_take]
      exact List.pairwise_iff_getElem.1 hs i m (by omega) hlt (by omega)
    have hxl := hA _ (List.getElem_mem hlt)
    rw [List.take_succ_eq_append_getElem hlt, naF_snoc]
    obtain ⟨c, hc⟩ : ∃ c, A[m] = c := ⟨_, rfl⟩
    obtain ⟨B, hB⟩ : ∃ B, A.take m = B := ⟨_, rfl⟩
    rw [hc] at hle hxl ⊢
    rw [hB] at hle ih' ⊢
    obtain ⟨s, hs'⟩ : ∃ s, naF n B = s := ⟨_, rfl⟩
    rw [hs'] at ih' ⊢
    have up : ∀ {p : Acc → Prop}, (∃ a ∈ B, p a) → ∃ a ∈ B ++ [c], p a := fun ⟨a, h1, h2⟩ => ⟨a, List.mem_append_left _ h1, h2⟩
    have hcm : c ∈ B ++ [c] := by simp
    -- the arc
    have harc : NaI n (B ++ [c]) (naArc s c) ∧ (naArc s c).wt = s.wt ∧ (∀ k, (naArc s c).X (n + k) = s.X (n + k)) := by
      unfold naArc
      split
      · rename_i h
        rcases ih'.wt c.i with h0 | ⟨b, hb, h0⟩
        · omega
        · have hbx := hle b hb
          have e : (s.wt c.i).toNat = b.x := by omega
          rw [e]
          have hne : b.x ≠ c.x := fun e => h.2 (by omega)
          have hfar : ∀ k, updL s.X b.x (s.X b.x ++ [c.x]) (n + k) = s.X (n + k) := fun k => updL_other _ (by omega) _
          refine ⟨⟨fun i => (ih'.wt i).imp id up, fun k r hr => ?_, fun i hi j hj => ?_⟩, rfl, hfar⟩
          · dsimp only at hr; rw [hfar] at hr; exact up (ih'.rd k r hr)
          · dsimp only at hj
            unfold updL at hj
            split at hj
            · rename_i e1; subst e1
              rcases List.mem_append.1 hj with hj | hj
              · exact ⟨(ih'.ar _ hi j hj).1, up (ih'.ar _ hi j hj).2⟩
              · simp at hj; subst hj; exact ⟨by omega, c, hcm, rfl⟩
            · exact ⟨(ih'.ar i hi j hj).1, up (ih'.ar i hi j hj).2⟩
      · exact ⟨⟨fun i => (ih'.wt i).imp id up, fun k r hr => up (ih'.rd k r hr), fun i hi j hj => ⟨(ih'.ar i hi j hj).1, up (ih'.ar i hi j hj).2⟩⟩, rfl, fun _ => rfl⟩
    obtain ⟨g, gw, gx⟩ := harc
    have hrd : ∀ r ∈ (naArc s c).X (n + c.i), r < n ∧ r ≤ c.x := fun r hr => by
      rw [gx] at hr
      obtain ⟨b, hb, rfl⟩ := ih'.rd _ r hr
      have := hle b hb
      exact ⟨by omega, this⟩
    unfold naStep
    split
    · unfold naWrite
      obtain ⟨f1, f2⟩ := naFold_ar (n := n) (G := fun j => ∃ a ∈ B ++ [c], a.x = j) (x := c.x) ⟨c, hcm, rfl⟩ _ _ hrd g.ar
      refine ⟨fun i => ?_, fun k r hr => ?_, fun i hi j hj => ?_⟩
      · dsimp only; unfold updL; split
        · exact .inr ⟨c, hcm, rfl⟩
        · exact g.wt i
      · dsimp only at hr
        unfold updL at hr
        split at hr
        · simp at hr
        · rw [f2] at hr; exact g.rd k r hr
      · dsimp only at hj
        rw [updL_other _ (by omega)] at hj
        exact f1 i hi j hj
    · unfold naRead
      split
      · exact g
      · refine ⟨g.wt, fun k r hr => ?_, fun i hi j hj => ?_⟩
        · dsimp only at hr
          unfold updL at hr
          split at hr
          · rcases List.mem_append.1 hr with hr | hr
            · exact g.rd _ r hr
            · simp at hr; subst hr; exact ⟨c, hcm, rfl⟩
          · exact g.rd k r hr
        · dsimp only at hj
          rw [updL_other _ (by omega)] at hj
          exact g.ar i hi j hj

theorem acL_xmono {l : List Ac} (S : Ser l) : (acL l).Pairwise (fun a b => a.x ≤ b.x) := by
  rw [List.pairwise_iff_getElem]
  intro i j hi hj hij
  exact ac_mono S (List.getElem_mem hi) (List.getElem_mem hj) (Nat.le_of_lt (List.pairwise_iff_getElem.1 (acL_sorted l) i j hi hj hij))
theorem ar_up {l : List Ac} (S : Ser l) : ∀ i, i < (txL l).length → ∀ j ∈ arL l i, i < j ∧ j < (txL l).length ∧ ∃ a ∈ acL l, a.x = j := fun i hi j hj => by
  obtain ⟨h1, a, ha, h2⟩ := (naF_inv (txL l).length (acL l) (fun a ha => ac_xlt S ha) (acL_xmono S)).ar i hi j hj
  exact ⟨h1, by rw [← h2]; exact ac_xlt S ha, a, ha, h2⟩

/-! ### The last places of the lock points -/
theorem minL_congr {f g : Nat → Int} : ∀ (X : List Nat) (v : Int), (∀ j ∈ X, f j = g j) → X.foldl (minL f) v = X.foldl (minL g) v
  | [], _, _ => rfl
  | j :: X, v, h => by
    rw [List.foldl_cons, List.foldl_cons]
    have : minL f v j = minL g v j := by unfold minL; rw [h j List.mem_cons_self]
    rw [this]; exact minL_congr X _ fun j hj => h j (List.mem_cons_of_mem _ hj)
theorem minL_le {f : Nat → Int} : ∀ (X : List Nat) (v : Int), X.foldl (minL f) v ≤ v
  | [], _ => Int.le_refl _
  | j :: X, v => by
    rw [List.foldl_cons]
    have h1 := minL_le (f := f) X (minL f v j)
    have h2 : minL f v j ≤ v := by unfold minL; split <;> omega
    omega
theorem minL_gt {f : Nat → Int} {b : Int} : ∀ (X : List Nat) (v : Int), b < v → (∀ j ∈ X, b < f j) → b < X.foldl (minL f) v
  | [], _, h, _ => h
  | j :: X, v, h, hf => by
    rw [List.foldl_cons]
    refine minL_gt X _ ?_ fun j hj => hf j (List.mem_cons_of_mem _ hj)
    unfold minL; split
    · exact hf j List.mem_cons_self
    · exact h
theorem lat0_nonneg (FU : Nat → Int) (n i : Nat) : 0 ≤ lat0 FU n i := by unfold lat0; split <;> omega

theorem exists_L (nT n : Nat) (X : Nat → List Nat) (FU : Nat → Int) (hx : ∀ i, i < nT → ∀ j ∈ X i, i < j) : ∃ L : Nat → Nat, ∀ i, i < nT → (L i : Int) = (X i).foldl (minL fun j => (L j : Int)) (lat0 FU n i) := by
  suffices ∀ m, m ≤ nT → ∃ L : Nat → Nat, ∀ i, nT - m ≤ i → i < nT → (L i : Int) = (X i).foldl (minL fun j => (L j : Int)) (lat0 FU n i) by
    obtain ⟨L, h⟩ := this nT (Nat.le_refl _)
    exact ⟨L, fun i hi => h i (by omega) hi⟩
  intro m
  induction m with
  | zero => intro _; exact ⟨fun _ => 0, fun i h1 h2 => by omega⟩
  | succ m ih =>
    intro hm
    obtain ⟨L, hL⟩ := ih (by omega)
    obtain ⟨i0, hi0⟩ : ∃ i0, i0 = nT - (m + 1) := ⟨_, rfl⟩
    have hv : -1 < (X i0).foldl (minL fun j => (L j : Int)) (lat0 FU n i0) := minL_gt _ _ (by have := lat0_nonneg FU n i0; omega) fun j _ => by omega
    have hsame : ∀ i, i0 ≤ i → i < nT → (X i).foldl (minL fun j => ((updL L i0 ((X i0).foldl (minL fun j => (L j : Int)) (lat0 FU n i0)).toNat j : Nat) : Int)) (lat0 FU n i) = (X i).foldl (minL fun j => (L j : Int)) (lat0 FU n i) := fun i h1 h2 =>
      minL_congr _ _ fun j hj => by rw [updL_other _ (by have := hx i h2 j hj; omega)]
    refine ⟨updL L i0 ((X i0).foldl (minL fun j => (L j : Int)) (lat0 FU n i0)).toNat, fun i h1 h2 => ?_⟩
    rw [hsame i (by omega) h2]
    by_cases e : i = i0
    · subst e; rw [updL_same]; omega
    · rw [updL_other _ e]; exact hL i (by omega) h2

section
variable {l : List Ac} (S : Ser l)
include S

theorem fu_above {i : Nat} (h : 0 ≤ fcL false l (i * 2 + 1)) {a : Acc} (ha : a ∈ acL l) (hx : a.x = i) : (a.p : Int) < fcL false l (i * 2 + 1) := by
  obtain ⟨c, hc, d, hd, h1, h2, h3, h4⟩ := fu_sound h
  have h5 := ac_mono S hd hc (Nat.le_of_lt h4)
  have h6 := ac_lt S ha hc (by omega)
  omega
theorem fl_below {i : Nat} (h : 0 ≤ fcL true l (i * 2)) {a : Acc} (ha : a ∈ acL l) (hx : a.x = i) : fcL true l (i * 2) < (a.p : Int) := by
  obtain ⟨c, hc, d, hd, h1, h2, h3, h4⟩ := fl_sound h
  have h5 := ac_mono S hc hd (Nat.le_of_lt h4)
  have h6 := ac_lt S hc ha (by omega)
  omega

/-- Every access of a transaction lies ahead of its lock point's last place. -/
theorem L_above {L : Nat → Nat} (hl : ∀ i, i < (txL l).length → (L i : Int) = (arL l i).foldl (minL fun j => (L j : Int)) (lat0 (fcL false l) l.length i)) : ∀ m, m ≤ (txL l).length → ∀ a ∈ acL l, (txL l).length - m ≤ a.x → a.p < L a.x
  | 0, _, a, ha, h => by have := ac_xlt S ha; omega
  | m + 1, hm, a, ha, h => by
    have hx := ac_xlt S ha
    have h1 := hl a.x hx
    have h2 : (a.p : Int) < (arL l a.x).foldl (minL fun j => (L j : Int)) (lat0 (fcL false l) l.length a.x) := by
      refine minL_gt _ _ ?_ fun j hj => ?_
      · unfold lat0
        split
        · rename_i h0; exact fu_above S h0 ha rfl
        · have := (acL_ok S ha).lt; omega
      · obtain ⟨g1, g2, b, hb, rfl⟩ := ar_up S a.x hx j hj
        have g3 := L_above hl m (by omega) b hb (by omega)
        have g4 := ac_lt S ha hb g1
        omega
    omega

theorem plain7 : ∃ L : Nat → Nat, Plain7 l L ∧ (∀ a ∈ acL l, a.p < L a.x) ∧ (∀ c ∈ acL l, ∀ d ∈ acL l, d.p < c.p → d.i = c.i → d.x ≠ c.x → (d.w = true ∨ c.w = true) → L d.x ≤ c.p) := by
  obtain ⟨L, hl⟩ := exists_L (txL l).length l.length (arL l) (fcL false l) (fun i hi j hj => (ar_up S i hi j hj).1)
  have hab : ∀ a ∈ acL l, a.p < L a.x := fun a ha => L_above S hl (txL l).length (Nat.le_refl _) a ha (by omega)
  have hle : ∀ i, i < (txL l).length → (L i : Int) ≤ lat0 (fcL false l) l.length i := fun i hi => by rw [hl i hi]; exact minL_le _ _
  have hSp := spF_ok (acL l) (acL_sorted l)
  refine ⟨L, ⟨fun O h1 h2 h3 => ⟨S.len, Nat.le_trans (spF_length_le _) (acL_len S), Nat.le_trans (txL_length l) (by omega), h1, h3, h2, fun i hi => ?_, fun s hs => ?_⟩, fun i hi => ?_, fun i hi j hj => ⟨(ar_up S i hi j hj).1, (ar_up S i hi j hj).2.1⟩, hl, fun i hi => ?_⟩, hab, fun c hc d hd hp hi hx hw => ?_⟩
  · have := hle i hi
    unfold lat0 at this
    split at this
    · rename_i h0
      obtain ⟨c, hc, d, hd, e1, e2, e3, e4⟩ := fu_sound h0
      have := (acL_ok S hc).lt
      omega
    · omega
  · have o := hSp s hs
    have hkx : ∀ a : Acc, a.key = s.key → a.x = s.x := fun a e => congrArg Prod.snd e
    obtain ⟨a, ha, ka, pa⟩ := o.f
    obtain ⟨b, hb, kb, pb⟩ := o.la
    have la := hab a ha
    have lb := hab b hb
    have xa := ac_xlt S ha
    rw [hkx a ka] at la xa
    rw [hkx b kb] at lb
    refine ⟨xa, by omega, ?_, by omega, by have := (acL_ok S ha).lt; omega⟩
    rcases o.w with ⟨w1, _⟩ | ⟨c, hc, kc, _, w1, _⟩
    · omega
    · have lc := hab c hc
      rw [hkx c kc] at lc
      omega
  · rintro ⟨h0, h1⟩
    obtain ⟨c, hc, d, hd, e1, e2, e3, e4⟩ := fu_sound h0
    have h2 := fl_below S (i := i) (by omega) hd e2
    have h3 := fu_above S h0 hd e2
    omega
  · by_cases h0 : 0 ≤ fcL true l (i * 2)
    · obtain ⟨c, hc, d, hd, e1, e2, e3, e4⟩ := fl_sound h0
      have := hab d hd
      rw [e2] at this
      omega
    · omega
  · obtain ⟨f1, f2⟩ := fu_complete hc hd hp hi hx hw
    have := hle d.x (ac_xlt S hd)
    unfold lat0 at this
    rw [if_pos f1] at this
    omega
end

end Go.Proofs.YbulkbgasDoor

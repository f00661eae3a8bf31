import Derived.Test.YbulkbgasDoorFam
namespace Go.Proofs.YbulkbgasDoor
set_option linter.unusedVariables false

/-! ### Reaching along arcs -/
inductive Rch (X : Nat → List Nat) : Nat → Nat → Prop where
  | refl (a : Nat) : Rch X a a
  | step {a b c : Nat} (h : b ∈ X a) (t : Rch X b c) : Rch X a c
theorem Rch.trans {X : Nat → List Nat} {a b c : Nat} (h : Rch X a b) (g : Rch X b c) : Rch X a c := by
  induction h with
  | refl => exact g
  | step h t ih => exact .step h (ih g)
theorem Rch.one {X : Nat → List Nat} {a b : Nat} (h : b ∈ X a) : Rch X a b := .step h (.refl b)

/-! ### Tarjan's search -/
structure Tar where
  ord : Nat → Nat
  low : Nat → Nat
  comp : List Nat
  path : List (Nat × Nat)
  cnt : Nat
  on : Nat → Bool

def FinOk (X : Nat → List Nat) (fin : List Nat) : Prop := ∀ i (hi : i < fin.length), ∀ w ∈ X fin[i], w ∈ fin.take i
/-- No node has been met on a cycle yet. -/
structure Clean (X : Nat → List Nat) (s : Tar) (fin : List Nat) : Prop where
  cp : s.comp = s.path.map Prod.fst
  fo : FinOk X fin
  pa : ∀ i (hi : i < s.path.length), ∀ j (hj : j < (X s.path[i].1).length), j < s.path[i].2 → (X s.path[i].1)[j] ∈ fin ∨ (j + 1 = s.path[i].2 ∧ ∃ hi' : i + 1 < s.path.length, s.path[i + 1].1 = (X s.path[i].1)[j])

structure TarI (X : Nat → List Nat) (n : Nat) (s : Tar) (fin : List Nat) : Prop where
  lt : ∀ v, v ∈ s.comp ∨ v ∈ fin → v < n
  rd : ∀ v, v < n → (s.ord v ≠ 0 ↔ v ∈ s.comp ∨ v ∈ fin)
  le : ∀ v, s.ord v ≤ s.cnt
  nd : s.comp.Nodup
  dj : ∀ v ∈ s.comp, v ∉ fin
  inc : s.comp.Pairwise fun a b => s.ord a < s.ord b
  sub : (s.path.map Prod.fst).Sublist s.comp
  nx : ∀ p ∈ s.path, p.2 ≤ (X p.1).length
  up : ∀ w ∈ s.comp, ∃ y ∈ s.path.map Prod.fst, s.ord y ≤ s.ord w ∧ Rch X w y
  dn : ∀ x ∈ s.path.map Prod.fst, ∀ w ∈ s.comp, s.ord x ≤ s.ord w → Rch X x w
  lw : ∀ v ∈ s.comp, s.low v ≤ s.ord v ∧ ∃ x ∈ s.comp, s.ord x = s.low v ∧ Rch X v x
  mark : ∀ v, s.on v = true → v < n ∧ ∃ w, w ≠ v ∧ Rch X v w ∧ Rch X w v
  mf : ∀ v, s.on v = true → v ∈ fin
  fn : fin.Nodup
  ct : s.cnt = s.comp.length + fin.length
  cl : (∃ v, s.on v = true) ∨ (∃ v ∈ s.comp, s.low v < s.ord v) ∨ Clean X s fin

def Tar.reach (s : Tar) (v : Nat) : Tar := { s with cnt := s.cnt + 1, ord := updL s.ord v (s.cnt + 1), low := updL s.low v (s.cnt + 1), comp := s.comp ++ [v], path := s.path ++ [(v, 0)] }

theorem tar0 (X : Nat → List Nat) (n : Nat) : TarI X n ⟨fun _ => 0, fun _ => 0, [], [], 0, fun _ => false⟩ [] where
  lt := fun v h => by simp at h
  rd := fun v h => by simp
  le := fun v => Nat.le_refl _
  nd := List.nodup_nil
  dj := fun v h => by simp at h
  inc := List.Pairwise.nil
  sub := List.Sublist.slnil
  nx := fun p h => by simp at h
  up := fun w h => by simp at h
  dn := fun x h => by simp at h
  lw := fun v h => by simp at h
  mark := fun v h => by simp at h
  mf := fun v h => by simp at h
  fn := List.nodup_nil
  ct := rfl
  cl := .inr (.inr ⟨rfl, fun i hi => by simp at hi, fun i hi => by simp at hi⟩)

section
variable {X : Nat → List Nat} {n : Nat} {s : Tar} {fin : List Nat}

theorem TarI.path_comp (h : TarI X n s fin) {p : Nat × Nat} (hp : p ∈ s.path) : p.1 ∈ s.comp := h.sub.subset (List.mem_map.2 ⟨p, hp, rfl⟩)
theorem TarI.empty (h : TarI X n s fin) (hp : s.path = []) : s.comp = [] := by
  cases hc : s.comp with
  | nil => rfl
  | cons w c =>
    obtain ⟨y, hy, _⟩ := h.up w (by rw [hc]; simp)
    rw [hp] at hy; simp at hy

/-- A node is reached: the first of a new search, or along an arc of the last on the path. -/
theorem TarI.reach (h : TarI X n s fin) {v : Nat} (hv : v < n) (h0 : s.ord v = 0) {P' : List (Nat × Nat)} (hfrom : (s.path = [] ∧ P' = []) ∨ ∃ p q k, s.path = p ++ [(q, k)] ∧ P' = p ++ [(q, k + 1)] ∧ (X q)[k]? = some v) : TarI X n (({ s with path := P' } : Tar).reach v) fin := by
  have hmap : P'.map Prod.fst = s.path.map Prod.fst := by
    rcases hfrom with ⟨e1, e2⟩ | ⟨p, q, k, e1, e2, _⟩
    · rw [e1, e2]
    · rw [e1, e2]; simp
  obtain ⟨s', hs'⟩ : ∃ s', s' = ({ s with path := P' } : Tar).reach v := ⟨_, rfl⟩
  have so : s'.ord = updL s.ord v (s.cnt + 1) := by rw [hs']; rfl
  have sl : s'.low = updL s.low v (s.cnt + 1) := by rw [hs']; rfl
  have sc : s'.comp = s.comp ++ [v] := by rw [hs']; rfl
  have sp : s'.path = P' ++ [(v, 0)] := by rw [hs']; rfl
  have sn : s'.cnt = s.cnt + 1 := by rw [hs']; rfl
  have sm : s'.on = s.on := by rw [hs']; rfl
  rw [← hs']
  clear hs'
  have hvc : v ∉ s.comp := fun hm => (h.rd v hv).2 (.inl hm) h0
  have hvf : v ∉ fin := fun hm => (h.rd v hv).2 (.inr hm) h0
  have ho : ∀ w, w ≠ v → s'.ord w = s.ord w := fun w hw => by rw [so]; exact updL_other _ hw _
  have hl : ∀ w, w ≠ v → s'.low w = s.low w := fun w hw => by rw [sl]; exact updL_other _ hw _
  have hov : s'.ord v = s.cnt + 1 := by rw [so]; exact updL_same _ _ _
  have hlv : s'.low v = s.cnt + 1 := by rw [sl]; exact updL_same _ _ _
  have hne : ∀ w ∈ s.comp, w ≠ v := fun w hw e => hvc (e ▸ hw)
  have hpe : ∀ x ∈ s.path.map Prod.fst, x ≠ v := fun x hx => hne x (h.sub.subset hx)
  have hpm : s'.path.map Prod.fst = s.path.map Prod.fst ++ [v] := by rw [sp, List.map_append, hmap]; rfl
  -- every node of the path reaches the new one
  have hrv : ∀ x ∈ s.path.map Prod.fst, Rch X x v := fun x hx => by
    rcases hfrom with ⟨e, _⟩ | ⟨p, q, k, e, _, ek⟩
    · rw [e] at hx; simp at hx
    · have hq : q ∈ s.comp := h.path_comp (p := (q, k)) (by rw [e]; simp)
      have hxq : s.ord x ≤ s.ord q := by
        rw [e, List.map_append, List.mem_append] at hx
        rcases hx with hx | hx
        · have hp := h.inc.sublist h.sub
          rw [e, List.map_append, List.pairwise_append] at hp
          exact Nat.le_of_lt (hp.2.2 x hx q (by simp))
        · simp at hx; rw [hx]; exact Nat.le_refl _
      exact (h.dn x hx q hq hxq).trans (.one (List.mem_of_getElem? ek))
  have mc : ∀ w, w ∈ s'.comp ↔ w ∈ s.comp ∨ w = v := fun w => by rw [sc]; simp
  refine ⟨fun w hw => ?_, fun w hw => ?_, fun w => ?_, ?_, fun w hw => ?_, ?_, ?_, fun p hp => ?_, fun w hw => ?_, fun x hx w hw hxw => ?_, fun w hw => ?_, by rw [sm]; exact h.mark, by rw [sm]; exact h.mf, h.fn, by rw [sn, sc, List.length_append, h.ct]; simp; omega, ?_⟩
  · rw [mc] at hw
    rcases hw with (hw | hw) | hw
    · exact h.lt w (.inl hw)
    · subst hw; exact hv
    · exact h.lt w (.inr hw)
  · rw [mc]
    by_cases e : w = v
    · subst e
      rw [hov]
      exact ⟨fun _ => .inl (.inr rfl), fun _ => by omega⟩
    · rw [ho w e, h.rd w hw]
      constructor
      · rintro (h1 | h1)
        · exact .inl (.inl h1)
        · exact .inr h1
      · rintro ((h1 | h1) | h1)
        · exact .inl h1
        · exact absurd h1 e
        · exact .inr h1
  · rw [sn]
    by_cases e : w = v
    · subst e; rw [hov]; exact Nat.le_refl _
    · rw [ho w e]; have := h.le w; omega
  · rw [sc, List.nodup_append]
    exact ⟨h.nd, by simp, fun a ha b hb e => by simp at hb; subst hb; subst e; exact hvc ha⟩
  · rcases (mc w).1 hw with hw | hw
    · exact h.dj w hw
    · subst hw; exact hvf
  · rw [sc, List.pairwise_append]
    refine ⟨?_, by simp, fun a ha b hb => ?_⟩
    · refine h.inc.imp_of_mem fun ha hb hab => ?_
      rw [ho _ (hne _ ha), ho _ (hne _ hb)]; exact hab
    · simp at hb; subst hb
      rw [ho a (hne a ha), hov]; have := h.le a; omega
  · rw [hpm, sc]; exact List.Sublist.append h.sub (List.Sublist.refl _)
  · rw [sp] at hp
    rcases List.mem_append.1 hp with hp | hp
    · rcases hfrom with ⟨_, e⟩ | ⟨p0, q, k, e1, e2, ek⟩
      · rw [e] at hp; simp at hp
      · rw [e2] at hp
        rcases List.mem_append.1 hp with hp | hp
        · exact h.nx p (by rw [e1]; exact List.mem_append_left _ hp)
        · simp at hp; subst hp
          have := (List.getElem?_eq_some_iff.1 ek).1
          exact this
    · simp at hp; subst hp; exact Nat.zero_le _
  · rcases (mc w).1 hw with hw | hw
    · obtain ⟨y, hy, h1, h2⟩ := h.up w hw
      refine ⟨y, by rw [hpm]; exact List.mem_append_left _ hy, ?_, h2⟩
      rw [ho y (hpe y hy), ho w (hne w hw)]; exact h1
    · subst hw
      exact ⟨w, by rw [hpm]; simp, Nat.le_refl _, .refl _⟩
  · rw [hpm] at hx
    rcases List.mem_append.1 hx with hx1 | hx
    · rcases (mc w).1 hw with hw | hw
      · rw [ho x (hpe x hx1), ho w (hne w hw)] at hxw
        exact h.dn x hx1 w hw hxw
      · subst hw; exact hrv x hx1
    · simp at hx; subst hx
      rcases (mc w).1 hw with hw | hw
      · rw [hov, ho w (hne w hw)] at hxw
        have := h.le w; omega
      · subst hw; exact .refl _
  · rcases (mc w).1 hw with hw | hw
    · obtain ⟨h1, x, hx, h2, h3⟩ := h.lw w hw
      rw [hl w (hne w hw), ho w (hne w hw)]
      exact ⟨h1, x, (mc x).2 (.inl hx), by rw [ho x (hne x hx)]; exact h2, h3⟩
    · subst hw
      rw [hlv, hov]
      exact ⟨Nat.le_refl _, w, (mc w).2 (.inr rfl), hov, .refl _⟩
  · rw [sm]
    rcases h.cl with h1 | ⟨w, hw, h1⟩ | h1
    · exact .inl h1
    · right; left
      exact ⟨w, (mc w).2 (.inl hw), by rw [hl w (hne w hw), ho w (hne w hw)]; exact h1⟩
    · right; right
      refine ⟨by rw [hpm, sc, h1.cp], h1.fo, fun i hi j hj hlt => ?_⟩
      have hlen : s'.path.length = s.path.length + 1 := by
        have := congrArg List.length hpm
        simpa using this
      have hpl : P'.length = s.path.length := by
        have := congrArg List.length hmap
        simpa using this
      have hg : ∀ i (hi : i < s.path.length), s'.path[i]'(by omega) = P'[i]'(by omega) := fun i hi => by
        simp only [sp]; rw [List.getElem_append_left (by omega)]
      have hgl : s'.path[s.path.length]'(by omega) = (v, 0) := by
        simp only [sp]
        rw [List.getElem_append_right (by omega)]
        simp [hpl]
      by_cases e : i < s.path.length
      · simp only [hg i e] at hj hlt ⊢
        have hfst : (P'[i]'(by omega)).1 = (s.path[i]).1 := by
          have := congrArg (fun l => l[i]?) hmap
          simp [List.getElem?_map, List.getElem?_eq_getElem e, List.getElem?_eq_getElem (show i < P'.length by omega)] at this
          exact this
        have hnxt : i + 1 < s.path.length → (P'[i]'(by omega)).2 = (s.path[i]).2 := fun hlt' => by
          rcases hfrom with ⟨e1, _⟩ | ⟨p0, q, k, e1, e2, ek⟩
          · rw [e1] at e; simp at e
          · have hl1 : s.path.length = p0.length + 1 := by rw [e1]; simp
            simp only [e1, e2]
            rw [List.getElem_append_left (by omega), List.getElem_append_left (by omega)]
        simp only [hfst] at hj hlt ⊢
        by_cases elast : i + 1 < s.path.length
        · rw [hnxt elast] at hlt
          rcases h1.pa i e j hj hlt with g | ⟨g1, g2, g3⟩
          · exact .inl g
          · right
            refine ⟨by rw [hnxt elast]; exact g1, by omega, ?_⟩
            rw [hg (i + 1) g2]
            have : (P'[i + 1]'(by omega)).1 = (s.path[i + 1]).1 := by
              have := congrArg (fun l => l[i + 1]?) hmap
              simp [List.getElem?_map, List.getElem?_eq_getElem g2, List.getElem?_eq_getElem (show i + 1 < P'.length by omega)] at this
              exact this
            rw [this]; exact g3
        · rcases hfrom with ⟨e1, _⟩ | ⟨p0, q, k, e1, e2, ek⟩
          · rw [e1] at e; simp at e
          · have hl1 : s.path.length = p0.length + 1 := by rw [e1]; simp
            obtain rfl : i = p0.length := by omega
            have hq1 : s.path[p0.length] = (q, k) := by simp [e1]
            have hq2 : P'[p0.length]'(by omega) = (q, k + 1) := by simp [e2]
            simp only [hq1, hq2] at hj hlt ⊢
            by_cases ejk : j = k
            · subst ejk
              right
              refine ⟨rfl, by omega, ?_⟩
              have : s'.path[p0.length + 1]'(by omega) = (v, 0) := by
                have := hgl
                simpa [hl1] using this
              rw [this]
              rw [List.getElem?_eq_getElem hj] at ek
              exact (Option.some.inj ek).symm
            · have := h1.pa p0.length e j (by simp only [hq1]; exact hj) (by simp only [hq1]; omega)
              simp only [hq1] at this
              rcases this with g | ⟨_, g2, _⟩
              · exact .inl g
              · omega
      · obtain rfl : i = s.path.length := by omega
        simp only [hgl] at hlt
        omega
end

end Go.Proofs.YbulkbgasDoor

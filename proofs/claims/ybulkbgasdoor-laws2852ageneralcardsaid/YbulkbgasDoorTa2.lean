import Derived.Test.YbulkbgasDoorTa1
namespace Go.Proofs.YbulkbgasDoor
set_option linter.unusedVariables false

theorem nodup_lenN' : ∀ (ys zs : List Nat), zs.Nodup → (∀ t ∈ zs, t ∈ ys) → zs.length ≤ ys.length
  | [], zs, _, h => by
    cases zs with
    | nil => simp
    | cons z zs => have := h z (by simp); simp at this
  | y :: ys, zs, hn, h => by
    have h1 := nodup_lenN' ys (zs.erase y) (hn.erase y) (fun t ht => by
      rw [List.Nodup.mem_erase_iff hn] at ht
      rcases List.mem_cons.1 (h t ht.2) with e | e
      · exact absurd e ht.1
      · exact e)
    rw [List.length_erase] at h1
    simp only [List.length_cons]
    split at h1 <;> omega

section
variable {X : Nat → List Nat} {n : Nat} {s : Tar} {fin : List Nat}

theorem TarI.ord_inj (h : TarI X n s fin) {a b : Nat} (ha : a ∈ s.comp) (hb : b ∈ s.comp) (e : s.ord a = s.ord b) : a = b := by
  obtain ⟨i, hi, rfl⟩ := List.getElem_of_mem ha
  obtain ⟨j, hj, rfl⟩ := List.getElem_of_mem hb
  have := List.pairwise_iff_getElem.1 h.inc
  rcases Nat.lt_trichotomy i j with g | g | g
  · have := this i j hi hj g; omega
  · subst g; rfl
  · have := this j i hj hi g; omega
theorem TarI.top_max (h : TarI X n s fin) {p : List (Nat × Nat)} {v k : Nat} (e : s.path = p ++ [(v, k)]) : (∀ x ∈ p.map Prod.fst, s.ord x < s.ord v) ∧ v ∈ s.comp ∧ ∀ x ∈ p.map Prod.fst, x ∈ s.comp := by
  have hp := h.inc.sublist h.sub
  rw [e, List.map_append, List.pairwise_append] at hp
  refine ⟨fun x hx => hp.2.2 x hx v (by simp), h.path_comp (p := (v, k)) (by rw [e]; simp), fun x hx => h.sub.subset (by rw [e, List.map_append]; exact List.mem_append_left _ hx)⟩

/-- An arc to a node that was reached before. -/
theorem TarI.adv (h : TarI X n s fin) (hX : ∀ i, i < n → i ∉ X i) {p : List (Nat × Nat)} {q k w : Nat} (e : s.path = p ++ [(q, k)]) (ek : (X q)[k]? = some w) {low' : Nat → Nat}
    (hlow : (w ∈ fin ∧ low' = s.low) ∨ (w ∈ s.comp ∧ low' = updL s.low q (min (s.low q) (s.ord w)))) : TarI X n { s with path := p ++ [(q, k + 1)], low := low' } fin := by
  have hmap : (p ++ [(q, k + 1)]).map Prod.fst = s.path.map Prod.fst := by rw [e]; simp
  obtain ⟨hmax, hq, hpc⟩ := h.top_max e
  have hmw : w ∈ X q := List.mem_of_getElem? ek
  have hwq : w ≠ q := fun e => hX q (h.lt q (.inl hq)) (e ▸ hmw)
  have hle : ∀ v, low' v ≤ s.low v := fun v => by
    rcases hlow with ⟨_, rfl⟩ | ⟨_, rfl⟩
    · exact Nat.le_refl _
    · unfold updL; split
      · rename_i e; subst e; exact Nat.min_le_left _ _
      · exact Nat.le_refl _
  have hpl : (p ++ [(q, k + 1)]).length = s.path.length := by rw [e]; simp
  refine ⟨h.lt, h.rd, h.le, h.nd, h.dj, h.inc, by show ((p ++ [(q, k + 1)]).map Prod.fst).Sublist s.comp; rw [hmap]; exact h.sub, fun a ha => ?_, fun x hx => ?_, fun x hx => ?_, fun v hv => ?_, h.mark, h.mf, h.fn, h.ct, ?_⟩
  · rcases List.mem_append.1 ha with ha | ha
    · exact h.nx a (by rw [e]; exact List.mem_append_left _ ha)
    · simp at ha; subst ha
      exact (List.getElem?_eq_some_iff.1 ek).1
  · show ∃ y ∈ (p ++ [(q, k + 1)]).map Prod.fst, _
    rw [hmap]; exact h.up x hx
  · have hx' : x ∈ (p ++ [(q, k + 1)]).map Prod.fst := hx
    rw [hmap] at hx'
    exact h.dn x hx'
  · obtain ⟨l1, x, hx, l2, l3⟩ := h.lw v hv
    refine ⟨Nat.le_trans (hle v) l1, ?_⟩
    rcases hlow with ⟨_, rfl⟩ | ⟨hw, rfl⟩
    · exact ⟨x, hx, l2, l3⟩
    · by_cases ev : v = q
      · subst ev
        show ∃ x ∈ s.comp, s.ord x = updL s.low v (min (s.low v) (s.ord w)) v ∧ _
        rw [updL_same]
        rcases Nat.le_total (s.low v) (s.ord w) with g | g
        · rw [Nat.min_eq_left g]; exact ⟨x, hx, l2, l3⟩
        · rw [Nat.min_eq_right g]; exact ⟨w, hw, rfl, .one hmw⟩
      · show ∃ x ∈ s.comp, s.ord x = updL s.low q (min (s.low q) (s.ord w)) v ∧ _
        rw [updL_other _ ev]; exact ⟨x, hx, l2, l3⟩
  · rcases h.cl with h1 | ⟨v, hv, h1⟩ | h1
    · exact .inl h1
    · exact .inr (.inl ⟨v, hv, Nat.lt_of_le_of_lt (hle v) h1⟩)
    · rcases hlow with ⟨hwf, rfl⟩ | ⟨hw, rfl⟩
      · right; right
        refine ⟨by show s.comp = (p ++ [(q, k + 1)]).map Prod.fst; rw [hmap]; exact h1.cp, h1.fo, fun i hi j hj hlt => ?_⟩
        have hi' : i < p.length + 1 := by have : i < (p ++ [(q, k + 1)]).length := hi; simpa using this
        by_cases ei : i < p.length
        · have e1 : (p ++ [(q, k + 1)])[i]'(by simp; omega) = s.path[i]'(by rw [e]; simp; omega) := by
            simp only [e]; rw [List.getElem_append_left ei, List.getElem_append_left ei]
          simp only [e1] at hj hlt ⊢
          rcases h1.pa i (by rw [e]; simp; omega) j hj hlt with g | ⟨g1, g2, g3⟩
          · exact .inl g
          · right
            refine ⟨g1, by show i + 1 < (p ++ [(q, k + 1)]).length; rw [hpl]; exact g2, ?_⟩
            have : ((p ++ [(q, k + 1)])[i + 1]'(by rw [hpl]; exact g2)).1 = (s.path[i + 1]).1 := by
              have := congrArg (fun l => l[i + 1]?) hmap
              simp only [List.getElem?_map, List.getElem?_eq_getElem g2, List.getElem?_eq_getElem (show i + 1 < (p ++ [(q, k + 1)]).length by rw [hpl]; exact g2), Option.map_some, Option.some.injEq] at this
              exact this
            rw [this]; exact g3
        · obtain rfl : i = p.length := by omega
          have e1 : (p ++ [(q, k + 1)])[p.length]'(by simp) = (q, k + 1) := by simp
          have e2 : s.path[p.length]'(by rw [e]; simp) = (q, k) := by simp [e]
          simp only [e1] at hj hlt ⊢
          left
          by_cases ejk : j = k
          · subst ejk
            obtain ⟨hj', ej⟩ := List.getElem?_eq_some_iff.1 ek
            show (X q)[j] ∈ fin
            rw [ej]; exact hwf
          · have := h1.pa p.length (by rw [e]; simp) j (by simp only [e2]; exact hj) (by simp only [e2]; omega)
            simp only [e2] at this
            rcases this with g | ⟨_, g2, _⟩
            · exact g
            · rw [e] at g2; simp at g2
      · right; left
        refine ⟨q, hq, ?_⟩
        show updL s.low q (min (s.low q) (s.ord w)) q < s.ord q
        rw [updL_same]
        have hwp : w ∈ p.map Prod.fst := by
          have : w ∈ s.path.map Prod.fst := by rw [← h1.cp]; exact hw
          rw [e, List.map_append, List.mem_append] at this
          rcases this with g | g
          · exact g
          · simp at g; exact absurd g hwq
        have := hmax w hwp
        have := Nat.min_le_right (s.low q) (s.ord w)
        omega

/-- The last node of the path is left, but stays in its component. -/
theorem TarI.leave (h : TarI X n s fin) {p : List (Nat × Nat)} {v k : Nat} (e : s.path = p ++ [(v, k)]) (hlt : s.low v < s.ord v) :
    ∃ p0 u j, p = p0 ++ [(u, j)] ∧ TarI X n { s with path := p, low := updL s.low u (min (s.low u) (s.low v)) } fin := by
  obtain ⟨hmax, hv, hpc⟩ := h.top_max e
  have hpm : s.path.map Prod.fst = p.map Prod.fst ++ [v] := by rw [e]; simp
  -- from v one comes to a node of the path ahead of it
  obtain ⟨_, x, hx, l2, l3⟩ := h.lw v hv
  have hup : ∃ y ∈ p.map Prod.fst, s.ord y ≤ s.ord x ∧ Rch X v y := by
    obtain ⟨y, hy, g1, g2⟩ := h.up x hx
    rw [hpm] at hy
    rcases List.mem_append.1 hy with hy | hy
    · exact ⟨y, hy, g1, l3.trans g2⟩
    · simp at hy; subst hy; omega
  obtain ⟨y0, hy0, hy1, hy2⟩ := hup
  have hpne : p ≠ [] := fun e0 => by rw [e0] at hy0; simp at hy0
  obtain ⟨p0, uj, hp0⟩ : ∃ p0 uj, p = p0 ++ [uj] := ⟨p.dropLast, p.getLast hpne, (List.dropLast_concat_getLast hpne).symm⟩
  obtain ⟨u, j⟩ := uj
  have hu : u ∈ p.map Prod.fst := by rw [hp0]; simp
  have huv : u ≠ v := fun e0 => by have := hmax u hu; rw [e0] at this; omega
  refine ⟨p0, u, j, hp0, ?_⟩
  have hle : ∀ w, updL s.low u (min (s.low u) (s.low v)) w ≤ s.low w := fun w => by
    unfold updL; split
    · rename_i e; subst e; exact Nat.min_le_left _ _
    · exact Nat.le_refl _
  refine ⟨h.lt, h.rd, h.le, h.nd, h.dj, h.inc, ?_, fun a ha => h.nx a (by rw [e]; exact List.mem_append_left _ ha), fun w hw => ?_, fun z hz => ?_, fun w hw => ?_, h.mark, h.mf, h.fn, h.ct, ?_⟩
  · have := h.sub
    rw [hpm] at this
    exact (List.sublist_append_left _ _).trans this
  · obtain ⟨y, hy, g1, g2⟩ := h.up w hw
    rw [hpm] at hy
    rcases List.mem_append.1 hy with hy | hy
    · exact ⟨y, hy, g1, g2⟩
    · simp at hy; subst hy
      refine ⟨y0, hy0, ?_, g2.trans hy2⟩
      show s.ord y0 ≤ s.ord w
      omega
  · exact h.dn z (by rw [hpm]; exact List.mem_append_left _ hz)
  · obtain ⟨m1, z, hz, m2, m3⟩ := h.lw w hw
    refine ⟨Nat.le_trans (hle w) m1, ?_⟩
    show ∃ x ∈ s.comp, s.ord x = updL s.low u (min (s.low u) (s.low v)) w ∧ _
    by_cases ew : w = u
    · subst ew
      rw [updL_same]
      rcases Nat.le_total (s.low w) (s.low v) with g | g
      · rw [Nat.min_eq_left g]; exact ⟨z, hz, m2, m3⟩
      · rw [Nat.min_eq_right g]
        refine ⟨x, hx, l2, (h.dn w ?_ v hv (Nat.le_of_lt (hmax w hu))).trans l3⟩
        rw [hpm]; exact List.mem_append_left _ hu
    · rw [updL_other _ ew]; exact ⟨z, hz, m2, m3⟩
  · right; left
    refine ⟨v, hv, ?_⟩
    show updL s.low u (min (s.low u) (s.low v)) v < s.ord v
    rw [updL_other _ (fun e => huv e.symm)]; exact hlt

theorem filter_lt {ord : Nat → Nat} {pre seg : List Nat} {v : Nat} (h : (pre ++ v :: seg).Pairwise fun a b => ord a < ord b) : (pre ++ v :: seg).filter (fun x => decide (ord x < ord v)) = pre := by
  rw [List.pairwise_append] at h
  obtain ⟨h1, h2, h3⟩ := h
  rw [List.pairwise_cons] at h2
  rw [List.filter_append, List.filter_cons]
  have e1 : pre.filter (fun x => decide (ord x < ord v)) = pre := List.filter_eq_self.2 fun a ha => by simpa using h3 a ha v (by simp)
  have e2 : seg.filter (fun x => decide (ord x < ord v)) = [] := List.filter_eq_nil_iff.2 fun a ha => by have := h2.1 a ha; simp; omega
  rw [e1, e2]; simp

/-- The last node of the path is left, and its component is whole. -/
theorem TarI.close (h : TarI X n s fin) {p : List (Nat × Nat)} {v k : Nat} (e : s.path = p ++ [(v, k)]) (hk : k = (X v).length) (hlow : s.low v = s.ord v) {pre seg : List Nat} (hc : s.comp = pre ++ v :: seg) {on' : Nat → Bool}
    (hon : ∀ w, on' w = if w = v ∨ w ∈ seg then decide (seg ≠ []) else s.on w) {low' : Nat → Nat} (hlw : ∀ w ∈ pre, low' w = s.low w) : TarI X n { s with path := p, comp := pre, on := on', low := low' } (fin ++ (seg ++ [v])) := by
  obtain ⟨hmax, hv, hpc⟩ := h.top_max e
  have hpm : s.path.map Prod.fst = p.map Prod.fst ++ [v] := by rw [e]; simp
  have hinc := h.inc
  rw [hc] at hinc
  have hnd := h.nd
  rw [hc] at hnd
  have hflt := filter_lt hinc
  have hpre : ∀ x, x ∈ pre ↔ x ∈ s.comp ∧ s.ord x < s.ord v := fun x => by
    rw [← hflt, List.mem_filter, ← hc]; simp
  have hseg : ∀ x, x ∈ s.comp ↔ x ∈ pre ∨ x = v ∨ x ∈ seg := fun x => by rw [hc]; simp
  have hsv : ∀ x ∈ seg, s.ord v < s.ord x := fun x hx => by
    rw [List.pairwise_append] at hinc
    exact (List.pairwise_cons.1 hinc.2.1).1 x hx
  have hnot : ∀ x ∈ pre, x ≠ v ∧ x ∉ seg := fun x hx => by
    have := ((hpre x).1 hx).2
    exact ⟨fun e => by rw [e] at this; omega, fun hs => by have := hsv x hs; omega⟩
  have hfin : ∀ x, x ∈ fin ++ (seg ++ [v]) ↔ x ∈ fin ∨ x = v ∨ x ∈ seg := fun x => by simp [or_comm]
  have hcyc : ∀ w ∈ seg, Rch X v w ∧ Rch X w v := fun w hw => by
    have hwc : w ∈ s.comp := (hseg w).2 (.inr (.inr hw))
    have hvp : v ∈ s.path.map Prod.fst := by rw [hpm]; simp
    refine ⟨h.dn v hvp w hwc (Nat.le_of_lt (hsv w hw)), ?_⟩
    obtain ⟨y, hy, _, g2⟩ := h.up w hwc
    refine g2.trans (h.dn y hy v hv ?_)
    rw [hpm] at hy
    rcases List.mem_append.1 hy with hy | hy
    · exact Nat.le_of_lt (hmax y hy)
    · simp at hy; rw [hy]; exact Nat.le_refl _
  have hne : ∀ w ∈ seg, w ≠ v := fun w hw e => by have := hsv w hw; rw [e] at this; omega
  refine ⟨fun x hx => ?_, fun x hx => ?_, h.le, ?_, fun x hx hf => ?_, ?_, ?_, fun a ha => h.nx a (by rw [e]; exact List.mem_append_left _ ha), fun w hw => ?_, fun z hz w hw => ?_, fun w hw => ?_, fun w hw => ?_, fun w hw => ?_, ?_, ?_, ?_⟩
  · rcases hx with hx | hx
    · exact h.lt x (.inl ((hpre x).1 hx).1)
    · rcases (hfin x).1 hx with hx | hx
      · exact h.lt x (.inr hx)
      · exact h.lt x (.inl ((hseg x).2 (.inr hx)))
  · show s.ord x ≠ 0 ↔ x ∈ pre ∨ x ∈ fin ++ (seg ++ [v])
    rw [h.rd x hx, hseg, hfin]
    constructor
    · rintro ((g | g) | g)
      · exact .inl g
      · exact .inr (.inr g)
      · exact .inr (.inl g)
    · rintro (g | g | g)
      · exact .inl (.inl g)
      · exact .inr g
      · exact .inl (.inr g)
  · exact (List.nodup_append.1 hnd).1
  · rcases (hfin x).1 hf with g | g | g
    · exact h.dj x ((hpre x).1 hx).1 g
    · exact (hnot x hx).1 g
    · exact (hnot x hx).2 g
  · exact (List.pairwise_append.1 hinc).1
  · show (p.map Prod.fst).Sublist pre
    have h1 := h.sub
    rw [hpm] at h1
    have h2 := ((List.sublist_append_left _ _).trans h1).filter (fun x => decide (s.ord x < s.ord v))
    rw [hc, hflt] at h2
    have h3 : (p.map Prod.fst).filter (fun x => decide (s.ord x < s.ord v)) = p.map Prod.fst := List.filter_eq_self.2 fun a ha => by simpa using hmax a ha
    rw [h3] at h2; exact h2
  · obtain ⟨hwc, hwv⟩ := (hpre w).1 hw
    obtain ⟨y, hy, g1, g2⟩ := h.up w hwc
    rw [hpm] at hy
    rcases List.mem_append.1 hy with hy | hy
    · exact ⟨y, hy, g1, g2⟩
    · simp at hy; subst hy; omega
  · exact h.dn z (by rw [hpm]; exact List.mem_append_left _ hz) w ((hpre w).1 hw).1
  · obtain ⟨hwc, hwv⟩ := (hpre w).1 hw
    obtain ⟨m1, z, hz, m2, m3⟩ := h.lw w hwc
    show low' w ≤ s.ord w ∧ ∃ x ∈ pre, s.ord x = low' w ∧ _
    rw [hlw w hw]
    exact ⟨m1, z, (hpre z).2 ⟨hz, by omega⟩, m2, m3⟩
  · have hw' : on' w = true := hw
    rw [hon w] at hw'
    split at hw'
    · rename_i hc'
      have hsn : seg ≠ [] := by simpa using hw'
      rcases hc' with rfl | hws
      · obtain ⟨z, hz⟩ := List.exists_mem_of_ne_nil seg hsn
        exact ⟨h.lt w (.inl hv), z, hne z hz, (hcyc z hz).1, (hcyc z hz).2⟩
      · exact ⟨h.lt w (.inl ((hseg w).2 (.inr (.inr hws)))), v, fun e => hne w hws e.symm, (hcyc w hws).2, (hcyc w hws).1⟩
    · exact h.mark w hw'
  · have hw' : on' w = true := hw
    rw [hon w] at hw'
    split at hw'
    · rename_i hc'
      exact (hfin w).2 (.inr hc')
    · exact (hfin w).2 (.inl (h.mf w hw'))
  · have h4 : (v :: seg).Nodup := (List.nodup_append.1 hnd).2.1
    rw [List.nodup_cons] at h4
    rw [List.nodup_append]
    refine ⟨h.fn, ?_, fun a ha b hb e' => ?_⟩
    · rw [List.nodup_append]
      exact ⟨h4.2, by simp, fun a ha b hb e' => by simp at hb; rw [e', hb] at ha; exact h4.1 ha⟩
    · subst e'
      have : a ∈ s.comp := (hseg a).2 (.inr (by simpa [or_comm] using hb))
      exact h.dj a this ha
  · show s.cnt = pre.length + (fin ++ (seg ++ [v])).length
    rw [h.ct, hc]; simp; omega
  · rcases h.cl with ⟨w, hw⟩ | ⟨w, hw, g⟩ | h1
    · left
      refine ⟨w, ?_⟩
      have hwf := h.mf w hw
      show on' w = true
      rw [hon w, if_neg]
      · exact hw
      · rintro (g | g)
        · exact h.dj v hv (g ▸ hwf)
        · exact h.dj w ((hseg w).2 (.inr (.inr g))) hwf
    · rcases (hseg w).1 hw with g1 | g1 | g1
      · right; left
        exact ⟨w, g1, by show low' w < s.ord w; rw [hlw w g1]; exact g⟩
      · subst g1; omega
      · left
        refine ⟨v, ?_⟩
        show on' v = true
        rw [hon v, if_pos (.inl rfl)]
        have : seg ≠ [] := fun e => by rw [e] at g1; simp at g1
        simpa using this
    · have hcp := h1.cp
      rw [hc, hpm] at hcp
      -- v is the component's last
      have hsn : seg = [] := by
        cases hs : seg with
        | nil => rfl
        | cons z zs =>
          exfalso
          have hz : z ∈ seg := by rw [hs]; simp
          have hzc : z ∈ p.map Prod.fst ++ [v] := by rw [← hcp]; simp [hs]
          rcases List.mem_append.1 hzc with g | g
          · have := hmax z g; have := hsv z hz; omega
          · simp at g; exact hne z hz g
      subst hsn
      have hpp : pre = p.map Prod.fst := by
        have := List.append_inj_left' hcp (by simp)
        exact this
      right; right
      have hvs : ∀ w ∈ X v, w ∈ fin := fun w hw => by
        obtain ⟨j, hj, rfl⟩ := List.getElem_of_mem hw
        have e2 : s.path[p.length]'(by rw [e]; simp) = (v, k) := by simp [e]
        have := h1.pa p.length (by rw [e]; simp) j (by simp only [e2]; exact hj) (by simp only [e2]; omega)
        simp only [e2] at this
        rcases this with g | ⟨_, g2, _⟩
        · exact g
        · rw [e] at g2; simp at g2
      refine ⟨hpp, ?_, fun i hi j hj hlt => ?_⟩
      · intro i hi w hw
        have hi' : i < fin.length + 1 := by simpa using hi
        by_cases ei : i < fin.length
        · rw [List.getElem_append_left ei] at hw
          rw [List.take_append_of_le_length (by omega)]
          exact h1.fo i ei w hw
        · obtain rfl : i = fin.length := by omega
          rw [List.getElem_append_right (by omega)] at hw
          simp at hw
          rw [List.take_append_of_le_length (by omega), List.take_length]
          exact hvs w hw
      · have hi' : i < p.length := hi
        have e1 : s.path[i]'(by rw [e]; simp; omega) = p[i] := by simp only [e]; rw [List.getElem_append_left hi']
        rcases h1.pa i (by rw [e]; simp; omega) j (by simp only [e1]; exact hj) (by simp only [e1]; exact hlt) with g | ⟨g1, g2, g3⟩
        · left
          simp only [e1] at g
          exact (hfin _).2 (.inl g)
        · simp only [e1] at g1 g3
          by_cases el : i + 1 < p.length
          · right
            refine ⟨g1, el, ?_⟩
            have e3 : s.path[i + 1]'g2 = p[i + 1] := by simp only [e]; rw [List.getElem_append_left el]
            rw [← g3, e3]
          · left
            have e3 : s.path[i + 1]'g2 = (v, k) := by
              have hip : i + 1 = p.length := by omega
              simp only [e]
              rw [List.getElem_append_right (by omega)]
              simp [hip]
            rw [e3] at g3
            exact (hfin _).2 (.inr (.inl g3.symm))

theorem TarI.len (h : TarI X n s fin) : s.comp.length + fin.length ≤ n := by
  have := nodup_lenN' (List.range n) (s.comp ++ fin) (by
    rw [List.nodup_append]
    exact ⟨h.nd, h.fn, fun a ha b hb e => h.dj a ha (e ▸ hb)⟩) (fun t ht => List.mem_range.2 (h.lt t (List.mem_append.1 ht)))
  simpa using this
/-- What is left to do. -/
def tarMu (X : Nat → List Nat) (n : Nat) (s : Tar) (fin : List Nat) : Nat := (n - (s.comp.length + fin.length)) * 100002 + (s.path.map fun p => (X p.1).length - p.2 + 1).sum

/-- At the end: a node is marked, or there is no cycle at all. -/
theorem TarI.stop (h : TarI X n s fin) (hp : s.path = []) (hall : ∀ v, v < n → s.ord v ≠ 0) : (∃ v, s.on v = true) ∨ (FinOk X fin ∧ ∀ v, v < n → v ∈ fin) := by
  have hc := h.empty hp
  rcases h.cl with h1 | ⟨v, hv, _⟩ | h1
  · exact .inl h1
  · rw [hc] at hv; simp at hv
  · right
    refine ⟨h1.fo, fun v hv => ?_⟩
    rcases (h.rd v hv).1 (hall v hv) with g | g
    · rw [hc] at g; simp at g
    · exact g
end

end Go.Proofs.YbulkbgasDoor

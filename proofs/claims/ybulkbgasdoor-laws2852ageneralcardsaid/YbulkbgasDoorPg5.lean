import Derived.Test.YbulkbgasDoorPg4
namespace Go.Proofs.YbulkbgasDoor
set_option linter.unusedVariables false

/-- The locks at one point. -/
theorem locks {l : List Ac} {tx : List Int} {x q t : Nat} (ht : tx.getD x 0 = (t : Int)) (h1 : 1 ≤ t) (h4 : t ≤ 4) : ∀ (Us : List Sp) (M : Md), M.s t = false → (Us.Pairwise fun s s' => iS l s ≠ iS l s') →
    (∀ s ∈ Us, (∃ i, itIx (iS l s) = some i) ∧ ∀ i, itIx (iS l s) = some i → (q ≤ s.f ∨ (q : Int) ≤ s.w) → (∀ u, 1 ≤ u → u ≤ 4 → u ≠ t → (0 ≤ s.w → M.m (u * 3 + i) = 0) ∧ M.m (u * 3 + i) ≠ 2) ∧ (s.w < 0 → M.m (t * 3 + i) = 0)) →
    ∃ M', Cks M (Us.flatMap (glOne l tx x q)) M' ∧ M'.s = M.s ∧ (∀ j, (∀ s ∈ Us, ∀ i, itIx (iS l s) = some i → j ≠ t * 3 + i) → M'.m j = M.m j) ∧
      (∀ s ∈ Us, ∀ i, itIx (iS l s) = some i → M'.m (t * 3 + i) = if q ≤ s.f ∨ (q : Int) ≤ s.w then (if 0 ≤ s.w then 2 else 1) else M.m (t * 3 + i))
  | [], M, _, _, _ => ⟨M, .nil _, rfl, fun _ _ => rfl, fun s h => by simp at h⟩
  | s :: Us, M, hs, hp, hU => by
    rw [List.pairwise_cons] at hp
    obtain ⟨⟨i, hi⟩, hreq⟩ := hU s List.mem_cons_self
    have hreq := hreq i hi
    have hi3 := itIx_lt hi
    -- the rest, in a state where only this place has turned
    have rest : ∀ M1 : Md, M1.s = M.s → (∀ j, j ≠ t * 3 + i → M1.m j = M.m j) → Cks M (glOne l tx x q s) M1 → (M1.m (t * 3 + i) = if q ≤ s.f ∨ (q : Int) ≤ s.w then (if 0 ≤ s.w then 2 else 1) else M.m (t * 3 + i)) →
        ∃ M', Cks M ((s :: Us).flatMap (glOne l tx x q)) M' ∧ M'.s = M.s ∧ (∀ j, (∀ s' ∈ s :: Us, ∀ i, itIx (iS l s') = some i → j ≠ t * 3 + i) → M'.m j = M.m j) ∧
          (∀ s' ∈ s :: Us, ∀ i, itIx (iS l s') = some i → M'.m (t * 3 + i) = if q ≤ s'.f ∨ (q : Int) ≤ s'.w then (if 0 ≤ s'.w then 2 else 1) else M.m (t * 3 + i)) := fun M1 g1 g2 g3 g4 => by
      have hne : ∀ s' ∈ Us, ∀ i', itIx (iS l s') = some i' → i' ≠ i := fun s' hs' i' hi' e => by
        subst e
        exact hp.1 s' hs' (itIx_inj hi hi')
      obtain ⟨M', k1, k2, k3, k4⟩ := locks ht h1 h4 Us M1 (by rw [g1]; exact hs) hp.2 fun s' hs' => by
        obtain ⟨r1, r2⟩ := hU s' (List.mem_cons_of_mem _ hs')
        refine ⟨r1, fun i' hi' hq => ?_⟩
        have n1 := hne s' hs' i' hi'
        have n2 := itIx_lt hi'
        obtain ⟨r3, r4⟩ := r2 i' hi' hq
        refine ⟨fun u u1 u4 ut => ?_, fun hw => ?_⟩
        · rw [g2 _ (by omega)]; exact r3 u u1 u4 ut
        · rw [g2 _ (by omega)]; exact r4 hw
      refine ⟨M', ?_, k2.trans g1, fun j hj => ?_, fun s' hs' i' hi' => ?_⟩
      · rw [List.flatMap_cons]; exact g3.append k1
      · rw [k3 j fun s' hs' => hj s' (List.mem_cons_of_mem _ hs'), g2 j (hj s List.mem_cons_self i hi)]
      · rcases List.mem_cons.1 hs' with e | e
        · subst e
          rw [hi] at hi'
          cases hi'
          rw [k3 _ fun s'' hs'' i'' hi'' => by have := hne s'' hs'' i'' hi''; omega]
          exact g4
        · have n1 := hne s' e i' hi'
          rw [k4 s' e i' hi', g2 (t * 3 + i') (by omega)]
    have hset : ∀ v j, (M.set (t * 3 + i) v).m j = if j = t * 3 + i then v else M.m j := fun v j => rfl
    unfold glOne at rest
    by_cases hf : q ≤ s.f
    · have rq := hreq (.inl hf)
      by_cases hw : 0 ≤ s.w
      · refine rest (M.set (t * 3 + i) 2) rfl (fun j hj => by rw [hset, if_neg hj]) ?_ (by rw [hset, if_pos rfl, if_pos (.inl hf), if_pos hw])
        rw [if_pos hf, if_pos hw, ht]
        exact .cons (Ck.wl (iS l s) t i h1 h4 hi hs fun u u1 u4 ut => (rq.1 u u1 u4 ut).1 hw) (.nil _)
      · refine rest (M.set (t * 3 + i) 1) rfl (fun j hj => by rw [hset, if_neg hj]) ?_ (by rw [hset, if_pos rfl, if_pos (.inl hf), if_neg hw])
        rw [if_pos hf, if_neg hw, ht]
        have := Ck.rl (M := M) (iS l s) t i h1 h4 hi hs fun u u1 u4 ut => (rq.1 u u1 u4 ut).2
        rw [if_pos (rq.2 (by omega))] at this
        exact .cons this (.nil _)
    · by_cases hqw : (q : Int) ≤ s.w
      · have rq := hreq (.inr hqw)
        refine rest (M.set (t * 3 + i) 2) rfl (fun j hj => by rw [hset, if_neg hj]) ?_ (by rw [hset, if_pos rfl, if_pos (.inr hqw), if_pos (by omega)])
        rw [if_neg hf, if_pos hqw, ht]
        exact .cons (Ck.wl (iS l s) t i h1 h4 hi hs fun u u1 u4 ut => (rq.1 u u1 u4 ut).1 (by omega)) (.nil _)
      · refine rest M rfl (fun _ _ => rfl) ?_ (by rw [if_neg (fun h => h.elim hf hqw)])
        rw [if_neg hf, if_neg hqw]
        exact .nil _

section
variable {l : List Ac} (S : Sch l) {L : Nat → Nat} {O : List Nat} (P : LkS l L O)
include S P
/-- The point of one transaction. -/
theorem stepPt {p x : Nat} {D : Nat → Prop} {M : Md} (hx : x < (txL l).length) (hL : L x = p) (hD : ∀ y, y < (txL l).length → (D y ↔ L y < p ∨ (L y = p ∧ ix O y < ix O x))) (g : CkG l L p true D M) :
    ∃ M', Cks M (gPt l (spL l) (txL l) p x) M' ∧ CkG l L p true (fun y => D y ∨ y = x) M' := by
  classical
  have hnD : ¬ D x := fun h => by have := (hD x hx).1 h; omega
  have hmem : (txL l).getD x 0 ∈ txL l := by
    rw [List.getD_eq_getElem?_getD, List.getElem?_eq_getElem hx]; exact List.getElem_mem hx
  have htb := txL_bd hmem
  obtain ⟨t, ht⟩ : ∃ t : Nat, (txL l).getD x 0 = (t : Int) := ⟨((txL l).getD x 0).toNat, by omega⟩
  rw [ht] at htb
  have hby : ∀ s, s ∈ byT (spL l) x ↔ s ∈ spL l ∧ s.x = x := fun s => by
    unfold byT; rw [List.mem_filter]; simp
  have hts : ∀ s, s.x = x → tS l s = (t : Int) := fun s e => by show (txL l).getD s.x 0 = _; rw [e]; exact ht
  have htx : ∀ s, s ∈ spL l → tS l s = (t : Int) → s.x = x := fun s hs e => by
    have h1 := (S.gen7.sp s hs).1
    apply Decidable.byContradiction
    intro hne
    exact S.gen7.gp.tx s.x x h1 hx hne (by rw [ht]; exact e)
  have hsh : M.s t = false := by
    rcases Bool.eq_false_or_eq_true (M.s t) with e | e
    · obtain ⟨y, y1, y2, y3⟩ := g.sh t e
      have : y = x := by
        apply Decidable.byContradiction
        intro hne
        exact S.gen7.gp.tx y x y1 hx hne (by rw [ht]; exact y3)
      rw [this] at y2; exact absurd y2 hnD
    · exact e
  have hpw : (byT (spL l) x).Pairwise fun s s' => iS l s ≠ iS l s' := by
    have h1 : (spL l).Pairwise fun s s' => s.key ≠ s'.key := by
      have := keysF_nodup (acL l)
      unfold keysF at this
      exact (List.pairwise_map.1 this)
    have h2 : (byT (spL l) x).Pairwise fun s s' => s.key ≠ s'.key := List.Pairwise.filter _ h1
    refine List.Pairwise.imp_of_mem (fun {a b} ha hb hk e => ?_) h2
    rw [hby] at ha hb
    exact hk (Prod.ext (sp_i S ha.1 hb.1 e) (by show a.x = b.x; rw [ha.2, hb.2]))
  obtain ⟨M1, k1, k2, k3, k4⟩ := locks (l := l) (q := p) ht (by omega) (by omega) (byT (spL l) x) M hsh hpw fun s hs => by
    obtain ⟨hs1, hs2⟩ := (hby s).1 hs
    have o := spF_ok (acL l) (acL_sorted l) s hs1
    refine ⟨sp_it S hs1, fun i hi hq => ⟨fun u u1 u4 ut => ?_, fun hw => ?_⟩⟩
    · have hi3 := itIx_lt hi
      -- whoever else holds the item
      have hoth : M.m (u * 3 + i) ≠ 0 → (0 ≤ s.w ∨ M.m (u * 3 + i) = 2) → False := fun hm hw => by
        obtain ⟨s', hs', e1, e2⟩ := g.m2 u i hi3 hm
        have em := g.m1 s' hs' i e2
        rw [e1, show ((u : Int)).toNat = u by omega] at em
        rw [em] at hm hw
        have hxne : s'.x ≠ s.x := fun e => by
          have h1 := hts s hs2
          have h2 : tS l s' = tS l s := by show (txL l).getD s'.x 0 = (txL l).getD s.x 0; rw [e]
          omega
        have hie := sp_i S hs' hs1 (itIx_inj e2 hi)
        have hcase : L s.x = p ∧ ∀ y, y < (txL l).length → (D y ↔ L y < p ∨ (L y = p ∧ ix O y < ix O s.x)) := by rw [hs2]; exact ⟨hL, hD⟩
        by_cases hw0 : 0 ≤ s.w
        · rcases o.w with ⟨w1, _⟩ | ⟨c, hc, kc, wc, pc, _⟩
          · omega
          · have := o.fm c hc kc
            exact no_conf S P hs1 hs' hxne hie hc kc (by omega) (.inr hcase) hm (.inl wc)
        · obtain ⟨c, hc, kc, pc⟩ := o.f
          exact no_conf S P hs1 hs' hxne hie hc kc (by omega) (.inr hcase) hm (.inr (by omega))
      constructor
      · intro hw
        apply Decidable.byContradiction
        intro hm
        exact hoth hm (.inl hw)
      · intro e
        exact hoth (by rw [e]; decide) (.inr e)
    · have := g.m1 s hs1 i hi
      rw [hts s hs2, show ((t : Int)).toNat = t by omega] at this
      rw [this]
      unfold md acq
      split
      · rfl
      · rw [if_neg (by rw [hs2]; exact hnD), if_neg (by omega)]
  have hul : ∀ a ∈ (byT (spL l) x).flatMap (guOne l (txL l) x p), ∃ s ∈ byT (spL l) x, s.la < p ∧ a = lkU l (txL l) x s := fun a ha => by
    obtain ⟨s, hs, h⟩ := List.mem_flatMap.1 ha
    unfold guOne at h
    split at h
    · rename_i h'; simp at h; exact ⟨s, hs, h', h⟩
    · simp at h
  obtain ⟨M', g1, g2, g3⟩ := unlocks ((byT (spL l) x).flatMap (guOne l (txL l) x p)) M1 fun a ha => by
    obtain ⟨s, hs, _, rfl⟩ := hul a ha
    refine ⟨rfl, ?_, ?_, sp_it S ((hby s).1 hs).1⟩
    · show 1 ≤ (txL l).getD x 0; omega
    · show (txL l).getD x 0 ≤ 4; omega
  have hua : ∀ s, (lkU l (txL l) x s).t.toNat = t := fun s => by show ((txL l).getD x 0).toNat = t; omega
  refine ⟨M', ?_, fun s hs i hi => ?_, fun u i hi hm => ?_, fun u hu => ?_⟩
  · unfold gPt; exact k1.append g1
  · have hi3 := itIx_lt hi
    by_cases hsx : s.x = x
    · rw [hts s hsx, show ((t : Int)).toNat = t by omega]
      have hsb := (hby s).2 ⟨hs, hsx⟩
      have o := spF_ok (acL l) (acL_sorted l) s hs
      have e1 : M1.m (t * 3 + i) = if 0 ≤ s.w then 2 else 1 := by
        rw [k4 s hsb i hi]
        by_cases hq : p ≤ s.f ∨ (p : Int) ≤ s.w
        · rw [if_pos hq]
        · rw [if_neg hq]
          have hq1 : s.f < p := by omega
          have hq2 : s.w < (p : Int) := by omega
          have := g.m1 s hs i hi
          rw [hts s hsx, show ((t : Int)).toNat = t by omega] at this
          rw [this]
          unfold md
          rw [if_neg]
          · unfold acq
            rw [if_neg (by rw [hsx]; exact hnD), if_pos hq1]
            by_cases hw : 0 ≤ s.w
            · rw [if_pos ⟨hw, hq2⟩, if_pos hw]
            · rw [if_neg (fun h => hw h.1), if_neg hw]
          · rintro (⟨h, _⟩ | ⟨h, h'⟩)
            · rw [hsx] at h; exact hnD h
            · rw [hsx, hL] at h; omega
      by_cases hla : s.la < p
      · have e2 := (g2 (t * 3 + i)).2.1 ⟨lkU l (txL l) x s, List.mem_flatMap.2 ⟨s, hsb, by unfold guOne; rw [if_pos hla]; simp⟩, i, hi, by rw [hua]⟩
        rw [e2]
        unfold md
        rw [if_pos (.inl ⟨.inr hsx, by rw [hsx, hL]; exact hla⟩)]
      · rw [(g2 (t * 3 + i)).2.2 fun a ha i' hi' e => ?_, e1]
        · have hnr : ¬ Rls L p true (fun y => D y ∨ y = x) s := by
            rintro (⟨_, h⟩ | ⟨_, h⟩)
            · rw [hsx, hL] at h; exact hla h
            · omega
          unfold md
          rw [if_neg hnr]
          unfold acq
          rw [if_pos (show D s.x ∨ s.x = x from .inr hsx)]
        · obtain ⟨s', hs', hl', rfl⟩ := hul a ha
          obtain ⟨q1, q2⟩ := (hby s').1 hs'
          rw [hua] at e
          have : s' = s := sp_ix S q1 hs hi' hi (by rw [hts s' q2, hts s hsx]; omega)
          rw [this] at hl'; exact hla hl'
    · have hne : tS l s ≠ (t : Int) := fun e => hsx (htx s hs e)
      have hst := sp_tb S hs
      rw [(g2 _).2.2 fun a ha i' hi' e => ?_, k3 _ fun s' hs' i' hi' e => ?_, g.m1 s hs i hi]
      · exact md_D ⟨fun h => .inl h, fun h => h.elim id fun e => absurd e hsx⟩
      · have := itIx_lt hi'; omega
      · obtain ⟨s', hs', _, rfl⟩ := hul a ha
        rw [hua] at e
        have := itIx_lt hi'; omega
  · rcases (g2 (u * 3 + i)).1 with e | e
    · exact absurd e hm
    · rw [e] at hm
      by_cases hex : ∃ s ∈ byT (spL l) x, ∃ i', itIx (iS l s) = some i' ∧ u * 3 + i = t * 3 + i'
      · obtain ⟨s, hs, i', hi', e'⟩ := hex
        obtain ⟨q1, q2⟩ := (hby s).1 hs
        have := itIx_lt hi'
        refine ⟨s, q1, by rw [hts s q2]; omega, ?_⟩
        rw [hi']; congr 1; omega
      · rw [k3 _ fun s hs i' hi' e' => hex ⟨s, hs, i', hi', e'⟩] at hm
        exact g.m2 u i hi hm
  · rcases g3 u hu with e | ⟨a, ha, e⟩
    · rw [k2] at e
      obtain ⟨y, y1, y2, y3⟩ := g.sh u e
      exact ⟨y, y1, .inl y2, y3⟩
    · obtain ⟨s', hs', _, rfl⟩ := hul a ha
      rw [hua] at e
      exact ⟨x, hx, .inr rfl, by rw [ht, e]⟩
end
end Go.Proofs.YbulkbgasDoor

import Derived.Test.YbulkbgasDoorPg5
namespace Go.Proofs.YbulkbgasDoor
set_option linter.unusedVariables false

/-- Over an action that is none of the span's. -/
theorem md_act {L : Nat → Nat} {p : Nat} {D : Nat → Prop} {s : Sp} (hf : s.f ≠ p) (hw : s.w ≠ (p : Int)) : md L (p + 1) false D s = md L p true D s := by
  classical
  refine md_congr ?_ fun _ => ?_
  · unfold Rls
    constructor
    · rintro (h | ⟨h1, h2 | h2⟩)
      · exact .inl h
      · refine .inr ⟨h1, ?_⟩
        rcases Nat.lt_or_ge (s.la + 1) p with h | h
        · exact .inl h
        · exact .inr ⟨by omega, rfl⟩
      · cases h2.2
    · rintro (h | ⟨h1, h2 | h2⟩)
      · exact .inl h
      · exact .inr ⟨h1, .inl (by omega)⟩
      · exact .inr ⟨h1, .inl (by omega)⟩
  · unfold acq
    by_cases hd : D s.x
    · rw [if_pos hd, if_pos hd]
    · rw [if_neg hd, if_neg hd]
      by_cases h : s.f < p
      · rw [if_pos h, if_pos (by omega : s.f < p + 1)]
        by_cases h' : 0 ≤ s.w ∧ s.w < (p : Int)
        · rw [if_pos h', if_pos ⟨h'.1, by omega⟩]
        · rw [if_neg h', if_neg (fun e => h' ⟨e.1, by omega⟩)]
      · rw [if_neg h, if_neg (by omega : ¬ s.f < p + 1)]

section
variable {l : List Ac} (S : Sch l) {L : Nat → Nat} {O : List Nat} (P : LkS l L O)
include S P
theorem stepTl {p : Nat} (hp : p < l.length) {D : Nat → Prop} {M : Md} (hD : ∀ y, y < (txL l).length → (D y ↔ L y ≤ p)) (g : CkG l L p true D M) :
    ∃ M', Cks M (gTl l (gbAll (spL l) L O) p) M' ∧ CkG l L (p + 1) false D M' := by
  classical
  unfold gTl
  rw [if_pos hp]
  by_cases hac : ∃ c ∈ acL l, c.p = p
  · obtain ⟨c, hc, hcp⟩ := hac
    subst hcp
    obtain ⟨s, hs, k⟩ := spF_has hc
    have o := spF_ok (acL l) (acL_sorted l) s hs
    obtain ⟨ct, ci⟩ := sp_acc S hs hc k.symm
    obtain ⟨hkind, i, hi⟩ := S.kd' hc
    have htb := S.tb' hc
    have hi3 := itIx_lt hi
    have hsi : itIx (iS l s) = some i := by rw [← ci]; exact hi
    have hsx := (S.gen7.sp s hs).1
    have hfle := o.fm c hc k.symm
    have hlale := sp_last hs hc k.symm
    obtain ⟨j, hj⟩ : ∃ j, j = (tA l c).toNat * 3 + i := ⟨_, rfl⟩
    have hjs : j = (tS l s).toNat * 3 + i := by rw [hj, ct]
    -- first and first write
    have hwle : c.w = true → 0 ≤ s.w ∧ s.w ≤ (c.p : Int) := fun hw => by
      rcases o.w with ⟨_, w2⟩ | ⟨b, hb, kb, wb, pb, mb⟩
      · have := w2 c hc k.symm; rw [hw] at this; cases this
      · have := mb c hc k.symm hw; omega
    have hwat : s.w = (c.p : Int) → c.w = true := fun e => by
      rcases o.w with ⟨w1, _⟩ | ⟨b, hb, kb, wb, pb, mb⟩
      · omega
      · have : b = c := acL_inj hb hc (by omega)
        rw [← this]; exact wb
    have hfw : 0 ≤ s.w → (s.f : Int) ≤ s.w := fun h => by
      rcases o.w with ⟨w1, _⟩ | ⟨b, hb, kb, wb, pb, mb⟩
      · omega
      · have := o.fm b hb kb; omega
    have hw1 : s.w < 0 → s.w = -1 := fun h => by
      rcases o.w with ⟨w1, _⟩ | ⟨b, hb, kb, wb, pb, mb⟩
      · exact w1
      · omega
    -- what the span holds now, and behind
    have hDs := hD s.x hsx
    have hnr0 : ¬ Rls L c.p true D s := by
      rintro (⟨h, h'⟩ | ⟨_, h'⟩)
      · have := hDs.1 h; omega
      · omega
    have hnr1 : ¬ Rls L (c.p + 1) false D s := by
      rintro (⟨h, h'⟩ | ⟨_, h'⟩)
      · have := hDs.1 h; omega
      · rcases h' with h' | h'
        · omega
        · cases h'.2
    have hold : M.m j = acq c.p D s := by
      rw [hjs, g.m1 s hs i hsi]; unfold md; rw [if_neg hnr0]
    have hnew : md L (c.p + 1) false D s = acq (c.p + 1) D s := by unfold md; rw [if_neg hnr1]
    have hn1 : 1 ≤ acq (c.p + 1) D s := by
      unfold acq
      by_cases hd : D s.x
      · rw [if_pos hd]; split <;> decide
      · rw [if_neg hd, if_pos (by omega : s.f < c.p + 1)]; split <;> decide
    have hn2 : c.w = true → acq (c.p + 1) D s = 2 := fun hw => by
      have := hwle hw
      unfold acq
      by_cases hd : D s.x
      · rw [if_pos hd, if_pos this.1]
      · rw [if_neg hd, if_pos (by omega : s.f < c.p + 1), if_pos ⟨this.1, by omega⟩]
    have hwr : (l.getD c.p ac0).k = kW → c.w = true := fun e => S.w hc (by rw [e]; exact isW_kW)
    have hact : ∀ M1 : Md, M1.m j = acq (c.p + 1) D s → Ck M1 (l.getD c.p ac0) M1 := fun M1 q => by
      rw [hj] at q
      rcases hkind with e | e
      · have := Ck.r (M := M1) (iA l c) (tA l c).toNat i (by omega) (by omega) hi (by rw [q]; exact hn1)
        rwa [mk_ac _ _ e htb.1] at this
      · have := Ck.w (M := M1) (iA l c) (tA l c).toNat i (by omega) (by omega) hi (by rw [q]; exact hn2 (hwr e))
        rwa [mk_ac _ _ e htb.1] at this
    have hfin : ∀ M1 : Md, M1.m j = acq (c.p + 1) D s → (∀ j', j' ≠ j → M1.m j' = M.m j') → M1.s = M.s → CkG l L (c.p + 1) false D M1 := fun M1 r1 r2 r3 => by
      refine ⟨fun s' hs' i' hi' => ?_, fun u i' hi' hm => ?_, fun u hu => ?_⟩
      · by_cases e : (tS l s').toNat * 3 + i' = j
        · have : s' = s := sp_ix S hs' hs hi' hsi (e.trans hjs)
          rw [e, r1, this, hnew]
        · rw [r2 _ e, g.m1 s' hs' i' hi']
          have hne : s' ≠ s := fun h => e (by
            subst h
            rw [hsi] at hi'
            cases hi'
            exact hjs.symm)
          have o' := spF_ok (acL l) (acL_sorted l) s' hs'
          refine (md_act (fun h => hne ?_) (fun h => hne ?_)).symm
          · obtain ⟨a, ha, ka, pa⟩ := o'.f
            have : a = c := acL_inj ha hc (by omega)
            subst this
            exact sp_uniq hs' hs (ka.symm.trans k.symm)
          · rcases o'.w with ⟨w1, _⟩ | ⟨a, ha, ka, _, pa, _⟩
            · omega
            · have : a = c := acL_inj ha hc (by omega)
              subst this
              exact sp_uniq hs' hs (ka.symm.trans k.symm)
      · by_cases e : u * 3 + i' = j
        · refine ⟨s, hs, ?_, ?_⟩
          · rw [← ct]; omega
          · rw [hsi]; congr 1; omega
        · rw [r2 _ e] at hm; exact g.m2 u i' hi' hm
      · rw [r3] at hu; exact g.sh u hu
    -- whoever else holds the item
    have hoth : c.p < L s.x → ∀ u, u ≠ (tA l c).toNat → M.m (u * 3 + i) ≠ 0 → c.w = true ∨ M.m (u * 3 + i) = 2 → False := fun hL u hu hm hw => by
      obtain ⟨s', hs', e1, e2⟩ := g.m2 u i hi3 hm
      have em := g.m1 s' hs' i e2
      rw [e1, show ((u : Int)).toNat = u by omega] at em
      rw [em] at hm hw
      have hxne : s'.x ≠ s.x := fun e => by
        have h2 : tS l s' = tS l s := by show (txL l).getD s'.x 0 = (txL l).getD s.x 0; rw [e]
        omega
      exact no_conf S P hs hs' hxne (sp_i S hs' hs (itIx_inj e2 hsi)) hc k.symm (Nat.le_refl _) (.inl ⟨rfl, hL, hD⟩) hm hw
    have hsh : c.p < L s.x → M.s (tA l c).toNat = false := fun hL => by
      rcases Bool.eq_false_or_eq_true (M.s (tA l c).toNat) with e | e
      · obtain ⟨y, y1, y2, y3⟩ := g.sh _ e
        have : y = s.x := by
          apply Decidable.byContradiction
          intro hne
          refine S.gen7.gp.tx y s.x y1 hsx hne ?_
          show _ = tS l s
          rw [y3, ← ct]; omega
        rw [this] at y2
        have := hDs.1 y2; omega
      · exact e
    have et : (((tA l c).toNat : Nat) : Int) = tA l c := by omega
    have hset : ∀ v j', (M.set j v).m j' = if j' = j then v else M.m j' := fun v j' => rfl
    rcases gb_at S P c.p with ⟨c', hc', ec', s', hs', k', ht, hb⟩ | ⟨hno, hb⟩
    · -- a lock right ahead
      have : c' = c := acL_inj hc' hc ec'
      subst this
      obtain rfl := sp_uniq hs' hs (k'.trans k.symm)
      have hL : c'.p < L s'.x := by
        rcases ht with ⟨e, h⟩ | ⟨_, h, e⟩
        · omega
        · omega
      have hnd : ¬ D s'.x := fun h => by have := hDs.1 h; omega
      rw [hb]
      rcases bfv_or s' c'.p with hv | hv
      · -- a read lock: the first access, no write
        have hcase : s'.f = c'.p ∧ s'.w ≠ (s'.f : Int) := by
          unfold bfv at hv
          split at hv
          · exact absurd hv.symm kRW_ne
          · rename_i hn
            split at hv
            · exact absurd hv.symm kRW_ne
            · rename_i h2
              rcases ht with ⟨e, _⟩ | ⟨h, _, e⟩
              · exact ⟨e.symm, h2⟩
              · exact absurd ⟨h, e⟩ hn
        rw [if_pos (by rw [hv]; exact kRl_ne), hv]
        have h0 : M.m j = 0 := by
          rw [hold]; unfold acq; rw [if_neg hnd, if_neg (by omega : ¬ s'.f < c'.p)]
        have hn : acq (c'.p + 1) D s' = 1 := by
          unfold acq
          rw [if_neg hnd, if_pos (by omega : s'.f < c'.p + 1), if_neg]
          rintro ⟨h1, h2⟩
          have := hfw h1; omega
        have hck := Ck.rl (M := M) (iA l c') (tA l c').toNat i (by omega) (by omega) hi (hsh hL) (fun u u1 u4 ut e => hoth hL u ut (by rw [e]; decide) (.inr e))
        rw [et, ← hj, if_pos h0] at hck
        have e1 : (M.set j 1).m j = acq (c'.p + 1) D s' := by rw [hset, if_pos rfl, hn]
        exact ⟨_, .cons hck (.cons (hact _ e1) (.nil _)), hfin _ e1 (fun j' hj' => by rw [hset, if_neg hj']) rfl⟩
      · -- a write lock
        have hcase : s'.w = (c'.p : Int) := by
          unfold bfv at hv
          split at hv
          · rename_i h; omega
          · rename_i hn
            split at hv
            · rename_i h2
              rcases ht with ⟨e, _⟩ | ⟨h, _, e⟩
              · omega
              · exact absurd ⟨h, e⟩ hn
            · exact absurd hv kRW_ne
        rw [if_pos (by rw [hv]; exact kWl_ne), hv]
        have hw := hwat hcase
        have hck := Ck.wl (M := M) (iA l c') (tA l c').toNat i (by omega) (by omega) hi (hsh hL) (fun u u1 u4 ut => by
          apply Decidable.byContradiction
          intro e
          exact hoth hL u ut e (.inl hw))
        rw [et, ← hj] at hck
        have e1 : (M.set j 2).m j = acq (c'.p + 1) D s' := by rw [hset, if_pos rfl, hn2 hw]
        exact ⟨_, .cons hck (.cons (hact _ e1) (.nil _)), hfin _ e1 (fun j' hj' => by rw [hset, if_neg hj']) rfl⟩
    · -- no lock here
      rw [if_neg (by rw [hb]; simp), List.nil_append]
      have hng := hno s hs
      have e1 : M.m j = acq (c.p + 1) D s := by
        rw [hold]
        unfold acq
        by_cases hd : D s.x
        · rw [if_pos hd, if_pos hd]
        · rw [if_neg hd, if_neg hd]
          have hL : c.p < L s.x := by
            rcases Nat.lt_or_ge c.p (L s.x) with h | h
            · exact h
            · exact absurd (hDs.2 h) hd
          have hf : s.f ≠ c.p := fun e => hng (.inl ⟨e.symm, by omega⟩)
          have hw : s.w ≠ (c.p : Int) := fun e => hng (.inr ⟨by omega, by omega, by omega⟩)
          rw [if_pos (by omega : s.f < c.p), if_pos (by omega : s.f < c.p + 1)]
          by_cases h' : 0 ≤ s.w ∧ s.w < (c.p : Int)
          · rw [if_pos h', if_pos ⟨h'.1, by omega⟩]
          · rw [if_neg h', if_neg (fun e => h' ⟨e.1, by omega⟩)]
      exact ⟨M, .cons (hact M e1) (.nil _), hfin M e1 (fun _ _ => rfl) rfl⟩
  · -- an end
    have hno : ∀ c ∈ acL l, c.p ≠ p := fun c hc e => hac ⟨c, hc, e⟩
    have hbf : gbAll (spL l) L O p = ⟨#[]⟩ := by
      rcases gb_at S P p with ⟨c, hc, e, _⟩ | ⟨_, e⟩
      · exact absurd e (hno c hc)
      · exact e
    rw [if_neg (by rw [hbf]; simp), List.nil_append]
    have hm := getD_mem hp
    have htb := S.tb _ hm
    have hk : (l.getD p ac0).k = kC ∨ (l.getD p ac0).k = kA := by
      rcases S.kd _ hm with e | ⟨e, _⟩
      · exact e
      · have : tch (l.getD p ac0).k = true := by
          rcases e with e | e
          · rw [e]; exact tch_kR
          · rw [e]; exact tch_kW
        obtain ⟨c, hc, e⟩ := acL_has hp this
        exact absurd e (hno c hc)
    have hck := Ck.fin (M := M) (l.getD p ac0).k (l.getD p ac0).it (l.getD p ac0).t.toNat hk (by omega) (by omega)
    rw [mk_ac _ _ rfl htb.1] at hck
    refine ⟨M, .cons hck (.nil _), fun s hs i hi => ?_, g.m2, g.sh⟩
    rw [g.m1 s hs i hi]
    have o := spF_ok (acL l) (acL_sorted l) s hs
    refine (md_act (fun e => ?_) (fun e => ?_)).symm
    · obtain ⟨a, ha, _, pa⟩ := o.f
      exact hno a ha (by omega)
    · rcases o.w with ⟨w1, _⟩ | ⟨a, ha, _, _, pa, _⟩
      · omega
      · exact hno a ha (by omega)

theorem stepPts {p : Nat} : ∀ (O2 O1 : List Nat) (M : Md), O = O1 ++ O2 → CkG l L p true (fun y => L y < p ∨ (L y = p ∧ y ∈ O1)) M →
    ∃ M', Cks M ((O2.filter fun i => L i == p).flatMap (gPt l (spL l) (txL l) p)) M' ∧ CkG l L p true (fun y => L y < p ∨ (L y = p ∧ y ∈ O)) M'
  | [], O1, M, e, g => ⟨M, .nil _, by rw [List.append_nil] at e; rw [e]; exact g⟩
  | x :: O2, O1, M, e, g => by
    have hxO : x ∈ O := by rw [e]; simp
    have e' : O = (O1 ++ [x]) ++ O2 := by rw [e]; simp
    have hord : ∀ y, y ∈ O → (y ∈ O1 ↔ ix O y < ix O x) := fun y hy => by
      have hlen : O1.length < O.length := by rw [e]; simp
      have hat : O[O1.length] = x := by simp [e]
      have hix : ix O x = O1.length := by rw [← hat]; exact ix_nodup P.nd hlen
      rw [hix]
      constructor
      · intro h
        obtain ⟨q, hq, eq⟩ := List.getElem_of_mem h
        have hqO : q < O.length := by omega
        have : O[q] = y := by rw [← eq]; simp [e, List.getElem_append_left hq]
        rw [← this, ix_nodup P.nd hqO]; exact hq
      · intro h
        have h1 : O[ix O y]? = some y := by rw [List.getElem?_eq_getElem (ix_lt hy), ix_get hy]
        have h2 : (O1 ++ x :: O2)[ix O y]? = some y := by rw [← e]; exact h1
        rw [List.getElem?_append_left h] at h2
        exact List.mem_of_getElem? h2
    by_cases hL : L x = p
    · have hx := P.mem x hxO
      obtain ⟨M1, g1, g2⟩ := stepPt S P hx hL (fun y hy => by
        have hyO := all_mem P.nd P.ol P.mem y hy
        rw [hord y hyO]) g
      obtain ⟨M', g3, g4⟩ := stepPts O2 (O1 ++ [x]) M1 e' (g2.congr S fun y hy => by
        constructor
        · rintro ((h | ⟨h, h'⟩) | h)
          · exact .inl h
          · exact .inr ⟨h, List.mem_append_left _ h'⟩
          · exact .inr ⟨by rw [h]; exact hL, by rw [h]; simp⟩
        · rintro (h | ⟨h, h'⟩)
          · exact .inl (.inl h)
          · rcases List.mem_append.1 h' with h' | h'
            · exact .inl (.inr ⟨h, h'⟩)
            · simp at h'; exact .inr h')
      refine ⟨M', ?_, g4⟩
      rw [List.filter_cons, if_pos (by simpa using hL), List.flatMap_cons]
      exact g1.append g3
    · obtain ⟨M', g3, g4⟩ := stepPts O2 (O1 ++ [x]) M e' (g.congr S fun y hy => by
        constructor
        · rintro (h | ⟨h, h'⟩)
          · exact .inl h
          · exact .inr ⟨h, List.mem_append_left _ h'⟩
        · rintro (h | ⟨h, h'⟩)
          · exact .inl h
          · rcases List.mem_append.1 h' with h' | h'
            · exact .inr ⟨h, h'⟩
            · simp at h'; rw [h'] at h; exact absurd h hL)
      refine ⟨M', ?_, g4⟩
      rw [List.filter_cons, if_neg (by simpa using hL)]
      exact g3
theorem stepAt {p : Nat} {M : Md} (g : CkG l L p false (fun y => L y < p) M) : ∃ M1 M2, Cks M (gHd l (gaAll (spL l) L O) p ++ (ptAll L O p).flatMap (gPt l (spL l) (txL l) p)) M2 ∧ CkG l L p true (fun y => L y ≤ p) M2 ∧ M1 = M := by
  obtain ⟨M1, g1, g2⟩ := stepHd S P (fun x _ h => h) g
  obtain ⟨M2, g3, g4⟩ := stepPts S P O [] M1 rfl (g2.congr S fun y _ => by simp)
  refine ⟨M, M2, ?_, g4.congr S fun y hy => ?_, rfl⟩
  · rw [ptAll_at]; exact g1.append g3
  · have hyO := all_mem P.nd P.ol P.mem y hy
    constructor
    · rintro (h | h)
      · omega
      · omega
    · intro h
      rcases Nat.lt_or_ge (L y) p with h' | h'
      · exact .inl h'
      · exact .inr ⟨by omega, hyO⟩
theorem lkG_cks : ∀ k, k ≤ l.length → ∃ M, Cks Md0 (gF l (spL l) (txL l) (gbAll (spL l) L O) (gaAll (spL l) L O) (ptAll L O) k) M ∧ CkG l L k false (fun y => L y < k) M
  | 0, _ => ⟨Md0, .nil _, fun s hs i hi => by
      classical
      unfold md acq
      show (0 : Int) = _
      split
      · rfl
      · rw [if_neg (by omega), if_neg (by omega)], fun u i _ h => absurd rfl h, fun u h => by cases h⟩
  | k + 1, hk => by
    obtain ⟨M, g1, g2⟩ := lkG_cks k (by omega)
    obtain ⟨_, M2, g3, g4, rfl⟩ := stepAt S P g2
    obtain ⟨M3, g5, g6⟩ := stepTl S P (by omega : k < l.length) (fun y _ => Iff.rfl) g4
    refine ⟨M3, ?_, g6.congr S fun y _ => by omega⟩
    rw [gF_succ]
    refine g1.append ?_
    unfold gAt
    exact g3.append g5
theorem lkG_all : ∃ M, Cks Md0 (lkG l L O) M := by
  obtain ⟨M, g1, g2⟩ := lkG_cks S P l.length (Nat.le_refl _)
  obtain ⟨_, M2, g3, g4, rfl⟩ := stepAt S P g2
  refine ⟨M2, ?_⟩
  show Cks Md0 (gF l (spL l) (txL l) (gbAll (spL l) L O) (gaAll (spL l) L O) (ptAll L O) (l.length + 1)) M2
  rw [gF_succ]
  refine g1.append ?_
  unfold gAt gTl
  rw [if_neg (by omega), List.append_nil]
  exact g3
end
end Go.Proofs.YbulkbgasDoor

import Derived.Test.YbulkbgasDoorPl4
namespace Go.Proofs.YbulkbgasDoor
set_option linter.unusedVariables false

theorem tch_kR : tch kR = true := by kernel_rfl
theorem tch_kW : tch kW = true := by kernel_rfl
theorem tch_kC : tch kC = false := by kernel_rfl
theorem tch_kA : tch kA = false := by kernel_rfl
theorem isW_kW : isW kW = true := by kernel_rfl
theorem isLk_kR : isLk kR = false := by kernel_rfl
theorem isLk_kW : isLk kW = false := by kernel_rfl
theorem isLk_kC : isLk kC = false := by kernel_rfl
theorem isLk_kA : isLk kA = false := by kernel_rfl
theorem isLk_kU : isLk kU = true := by kernel_rfl
theorem isLk_kRl : isLk kRl = true := by kernel_rfl
theorem isLk_kWl : isLk kWl = true := by kernel_rfl
abbrev tA (l : List Ac) (a : Acc) : Int := (l.getD a.p ac0).t
abbrev iA (l : List Ac) (a : Acc) : ByteArray := (l.getD a.p ac0).it

/-- The checker's state ahead of place p, where the transactions whose lock points lie before q have let go. -/
structure CkI (l : List Ac) (L : Nat → Nat) (p q : Nat) (M : Md) : Prop where
  m0 : ∀ j, 0 ≤ M.m j
  m1 : ∀ u i, i < 3 → M.m (u * 3 + i) ≠ 0 → ∃ a ∈ acL l, a.p < p ∧ q ≤ L a.x ∧ tA l a = (u : Int) ∧ itIx (iA l a) = some i ∧ (M.m (u * 3 + i) = 2 → a.w = true)
  m3 : ∀ a ∈ acL l, a.p < p → q ≤ L a.x → ∀ i, itIx (iA l a) = some i → 1 ≤ M.m ((tA l a).toNat * 3 + i) ∧ (a.w = true → M.m ((tA l a).toNat * 3 + i) = 2)
  s : ∀ u, M.s u = true → ∃ a ∈ acL l, tA l a = (u : Int) ∧ L a.x < q

section
variable {l : List Ac} (S : Ser l) {L : Nat → Nat} (hab : ∀ a ∈ acL l, a.p < L a.x) (hcf : ∀ c ∈ acL l, ∀ d ∈ acL l, d.p < c.p → d.i = c.i → d.x ≠ c.x → (d.w = true ∨ c.w = true) → L d.x ≤ c.p)
  {O : List Nat} (h1 : O.length = (txL l).length) (h2 : O.Nodup) (h3 : ∀ j ∈ O, j < (txL l).length)
include S

theorem ac_tb {a : Acc} (ha : a ∈ acL l) : 1 ≤ tA l a ∧ tA l a ≤ 4 := S.tb _ (getD_mem (acL_ok S ha).lt)
theorem ac_kd {a : Acc} (ha : a ∈ acL l) : ((l.getD a.p ac0).k = kR ∨ (l.getD a.p ac0).k = kW) ∧ ∃ i, itIx (iA l a) = some i := by
  have o := acL_ok S ha
  rcases S.kd _ (getD_mem o.lt) with h | h
  · have := o.tc
    rcases h with h | h
    · rw [h, tch_kC] at this; cases this
    · rw [h, tch_kA] at this; cases this
  · exact h

/-- The unlocks at place p. -/
noncomputable def unl (l : List Ac) (L : Nat → Nat) (O : List Nat) (p : Nat) : List Ac := (ptAll L O p).flatMap fun i => (byT (spF (acL l)) i).map (lkU l (txL l) i)
theorem unl_src {p : Nat} {a : Ac} (h : a ∈ unl l L O p) : ∃ b ∈ acL l, L b.x = p ∧ a = ⟨kU, tA l b, iA l b⟩ := by
  unfold unl at h
  obtain ⟨x, hx, h⟩ := List.mem_flatMap.1 h
  obtain ⟨s, hs, rfl⟩ := List.mem_map.1 h
  rw [ptAll_at] at hx
  have hLx : L x = p := by simpa using (List.mem_filter.1 hx).2
  obtain ⟨hs1, hs2⟩ := List.mem_filter.1 hs
  have hsx : s.x = x := by simpa using hs2
  obtain ⟨b, hb, k, e⟩ := (spF_ok (acL l) (acL_sorted l) s hs1).f
  have hbx : b.x = x := by rw [← hsx]; exact congrArg Prod.snd k
  refine ⟨b, hb, by rw [hbx]; exact hLx, ?_⟩
  unfold lkU
  rw [← hbx, ac_t S hb, ← e]
include h1 h2 h3 in
theorem unl_has {p : Nat} {b : Acc} (hb : b ∈ acL l) (hL : L b.x = p) : ∃ a ∈ unl l L O p, a.t = tA l b ∧ a.it = iA l b := by
  obtain ⟨s, hs, k⟩ := spF_has hb
  have hsx : s.x = b.x := congrArg Prod.snd k
  have hsi : s.i = b.i := congrArg Prod.fst k
  obtain ⟨c, hc, kc, e⟩ := (spF_ok (acL l) (acL_sorted l) s hs).f
  have hci : c.i = b.i := by rw [← hsi]; exact congrArg Prod.fst kc
  refine ⟨lkU l (txL l) b.x s, ?_, ?_, ?_⟩
  · unfold unl
    refine List.mem_flatMap.2 ⟨b.x, ?_, List.mem_map.2 ⟨s, List.mem_filter.2 ⟨hs, by simpa using hsx⟩, rfl⟩⟩
    rw [ptAll_at]
    exact List.mem_filter.2 ⟨perm_all h1 h2 h3 (ac_xlt S hb), by simpa using hL⟩
  · exact ac_t S hb
  · show (l.getD s.f ac0).it = iA l b
    rw [← e]
    exact (ac_i_iff S hc hb).1 hci

include h1 h2 h3 in
theorem step_unl {p : Nat} {M : Md} (h : CkI l L p p M) : ∃ M', Cks M (unl l L O p) M' ∧ CkI l L p (p + 1) M' := by
  obtain ⟨M', g1, g2, g3⟩ := unlocks (unl l L O p) M fun a ha => by
    obtain ⟨b, hb, _, rfl⟩ := unl_src S ha
    have := ac_tb S hb
    exact ⟨rfl, this.1, this.2, (ac_kd S hb).2⟩
  refine ⟨M', g1, fun j => ?_, fun u i hi hm => ?_, fun a ha hp hL i hi => ?_, fun u hu => ?_⟩
  · rcases (g2 j).1 with e | e
    · rw [e]; exact Int.le_refl _
    · rw [e]; exact h.m0 j
  · have e : M'.m (u * 3 + i) = M.m (u * 3 + i) := by
      rcases (g2 (u * 3 + i)).1 with e | e
      · exact absurd e hm
      · exact e
    rw [e] at hm
    obtain ⟨a, ha, a1, a2, a3, a4, a5⟩ := h.m1 u i hi hm
    refine ⟨a, ha, a1, ?_, a3, a4, by rw [e]; exact a5⟩
    rcases Nat.eq_or_lt_of_le a2 with hL | hL
    · obtain ⟨a', ha', t', i'⟩ := unl_has S h1 h2 h3 ha hL.symm
      have := (g2 (u * 3 + i)).2.1 ⟨a', ha', i, by rw [i']; exact a4, by rw [t', a3]; simp⟩
      rw [e] at this
      exact absurd this hm
    · exact hL
  · have e : M'.m ((tA l a).toNat * 3 + i) = M.m ((tA l a).toNat * 3 + i) := by
      refine (g2 _).2.2 fun a' ha' i' hi' ej => ?_
      obtain ⟨b, hb, hLb, rfl⟩ := unl_src S ha'
      have l1 := itIx_lt hi
      have l2 := itIx_lt hi'
      have b1 := ac_tb S ha
      have b2 := ac_tb S hb
      have ej' : (tA l a).toNat * 3 + i = (tA l b).toNat * 3 + i' := ej
      have : tA l a = tA l b := by omega
      have := (ac_x_iff S ha hb).2 this
      rw [this] at hL; omega
    rw [e]
    exact h.m3 a ha hp (by omega) i hi
  · rcases g3 u hu with e | ⟨a', ha', e⟩
    · obtain ⟨a, ha, a1, a2⟩ := h.s u e
      exact ⟨a, ha, a1, by omega⟩
    · obtain ⟨b, hb, hLb, rfl⟩ := unl_src S ha'
      have := ac_tb S hb
      have e' : (tA l b).toNat = u := e
      exact ⟨b, hb, by omega, by omega⟩

omit S in
theorem mk_ac (a : Ac) (k : ByteArray) (hk : a.k = k) (ht : 1 ≤ a.t) : (⟨k, (a.t.toNat : Int), a.it⟩ : Ac) = a := by
  cases a with
  | mk k' t it => dsimp only at hk ht ⊢; rw [hk]; congr 1; omega

include h1 h2 h3 hab hcf in
theorem step_act {p : Nat} (hp : p < l.length) {M : Md} (h : CkI l L p (p + 1) M) : ∃ M', Cks M ((if bfAll (spF (acL l)) O p ≠ ⟨#[]⟩ then [⟨bfAll (spF (acL l)) O p, (l.getD p ac0).t, (l.getD p ac0).it⟩] else []) ++ [l.getD p ac0]) M' ∧ CkI l L (p + 1) (p + 1) M' := by
  by_cases hac : ∃ c ∈ acL l, c.p = p
  · obtain ⟨c, hc, hcp⟩ := hac
    subst hcp
    obtain ⟨hkind, i0, hi0⟩ := ac_kd S hc
    have htb := ac_tb S hc
    have hLc := hab c hc
    have hi3 := itIx_lt hi0
    -- the index, read back
    have hjj : ∀ u i, i < 3 → (u * 3 + i = (tA l c).toNat * 3 + i0 ↔ u = (tA l c).toNat ∧ i = i0) := fun u i hi => by omega
    have hsh : M.s (tA l c).toNat = false := by
      rcases Bool.eq_false_or_eq_true (M.s (tA l c).toNat) with e | e
      · obtain ⟨a, ha, a1, a2⟩ := h.s _ e
        have : a.x = c.x := (ac_x_iff S ha hc).2 (by show tA l a = tA l c; omega)
        rw [this] at a2; omega
      · exact e
    have hoth : ∀ u, u ≠ (tA l c).toNat → M.m (u * 3 + i0) ≠ 0 → c.w = true ∨ M.m (u * 3 + i0) = 2 → False := fun u hu hm hw => by
      obtain ⟨a, ha, a1, a2, a3, a4, a5⟩ := h.m1 u i0 hi3 hm
      have hit : a.i = c.i := (ac_i_iff S ha hc).2 (itIx_inj a4 hi0)
      have hx : a.x ≠ c.x := fun e => by
        have : tA l a = tA l c := (ac_x_iff S ha hc).1 e
        omega
      have := hcf c hc a ha a1 hit hx (by
        rcases hw with hw | hw
        · exact .inr hw
        · exact .inl (a5 hw))
      omega
    -- an earlier access of the same key
    have hearly : ∀ d ∈ acL l, d.key = c.key → d.p < c.p → 1 ≤ M.m ((tA l c).toNat * 3 + i0) ∧ (d.w = true → M.m ((tA l c).toNat * 3 + i0) = 2) := fun d hd k hlt => by
      obtain ⟨ki, kx⟩ := (key_iff d c).1 k
      have ht : tA l d = tA l c := (ac_x_iff S hd hc).1 kx
      have hi : iA l d = iA l c := (ac_i_iff S hd hc).1 ki
      have := h.m3 d hd hlt (by rw [kx]; omega) i0 (by rw [hi]; exact hi0)
      rw [ht] at this
      exact this
    have hwr : (l.getD c.p ac0).k = kW → c.w = true := fun e => ac_w S hc (by rw [e]; exact isW_kW)
    -- the action itself, once the lock is held
    have hact : ∀ M1 : Md, 1 ≤ M1.m ((tA l c).toNat * 3 + i0) → (c.w = true → M1.m ((tA l c).toNat * 3 + i0) = 2) → Ck M1 (l.getD c.p ac0) M1 := fun M1 q1 q2 => by
      rcases hkind with e | e
      · have := Ck.r (M := M1) (iA l c) (tA l c).toNat i0 (by omega) (by omega) hi0 q1
        rwa [mk_ac _ _ e htb.1] at this
      · have := Ck.w (M := M1) (iA l c) (tA l c).toNat i0 (by omega) (by omega) hi0 (q2 (hwr e))
        rwa [mk_ac _ _ e htb.1] at this
    -- the state behind, where only this key's mode has turned
    have hfin : ∀ M1 : Md, (∀ j, 0 ≤ M1.m j) → (∀ j, j ≠ (tA l c).toNat * 3 + i0 → M1.m j = M.m j) → M1.s = M.s → 1 ≤ M1.m ((tA l c).toNat * 3 + i0) → (c.w = true → M1.m ((tA l c).toNat * 3 + i0) = 2) → (M1.m ((tA l c).toNat * 3 + i0) = 2 → c.w = true ∨ M.m ((tA l c).toNat * 3 + i0) = 2) → (M.m ((tA l c).toNat * 3 + i0) = 2 → M1.m ((tA l c).toNat * 3 + i0) = 2) → CkI l L (c.p + 1) (c.p + 1) M1 := fun M1 r0 r1 r2 r3 r4 r5 r6 => by
      refine ⟨r0, fun u i hi hm => ?_, fun a ha hap hL i hi => ?_, fun u hu => ?_⟩
      · by_cases e : u * 3 + i = (tA l c).toNat * 3 + i0
        · obtain ⟨e1, e2⟩ := (hjj u i hi).1 e
          by_cases hw : c.w = true
          · exact ⟨c, hc, by omega, by omega, by rw [e1]; omega, by rw [e2]; exact hi0, fun _ => hw⟩
          · by_cases hm0 : M.m (u * 3 + i) = 2
            · obtain ⟨a, ha, a1, a2, a3, a4, a5⟩ := h.m1 u i hi (by omega)
              exact ⟨a, ha, by omega, a2, a3, a4, fun _ => a5 hm0⟩
            · refine ⟨c, hc, by omega, by omega, by rw [e1]; omega, by rw [e2]; exact hi0, fun h2' => ?_⟩
              rw [e] at h2' hm0
              rcases r5 h2' with h' | h'
              · exact h'
              · exact absurd h' hm0
        · rw [r1 _ e] at hm ⊢
          obtain ⟨a, ha, a1, a2⟩ := h.m1 u i hi hm
          exact ⟨a, ha, by omega, a2⟩
      · by_cases e : (tA l a).toNat * 3 + i = (tA l c).toNat * 3 + i0
        · rw [e]
          refine ⟨r3, fun hw => ?_⟩
          rcases Nat.lt_or_ge a.p c.p with hlt | hge
          · have := (h.m3 a ha hlt hL i hi).2 hw
            rw [e] at this
            exact r6 this
          · have : a = c := acL_inj ha hc (by omega)
            subst this; exact r4 hw
        · rw [r1 _ e]
          rcases Nat.lt_or_ge a.p c.p with hlt | hge
          · exact h.m3 a ha hlt hL i hi
          · have : a = c := acL_inj ha hc (by omega)
            subst this
            rw [hi0] at hi
            cases hi
            exact absurd rfl e
      · rw [r2] at hu
        obtain ⟨a, ha, a1, a2⟩ := h.s u hu
        exact ⟨a, ha, a1, a2⟩
    -- either there is an earlier one, or this is the first
    have hE : (∀ d ∈ acL l, d.key = c.key → c.p ≤ d.p) ∨ ∃ d ∈ acL l, d.key = c.key ∧ d.p < c.p := by
      by_cases hx : ∃ d ∈ acL l, d.key = c.key ∧ d.p < c.p
      · exact .inr hx
      · exact .inl fun d hd k => by
          rcases Nat.lt_or_ge d.p c.p with e | e
          · exact absurd ⟨d, hd, k, e⟩ hx
          · exact e
    have hEw : (∀ d ∈ acL l, d.key = c.key → d.w = true → c.p ≤ d.p) ∨ ∃ d ∈ acL l, d.key = c.key ∧ d.w = true ∧ d.p < c.p := by
      by_cases hx : ∃ d ∈ acL l, d.key = c.key ∧ d.w = true ∧ d.p < c.p
      · exact .inr hx
      · exact .inl fun d hd k w => by
          rcases Nat.lt_or_ge d.p c.p with e | e
          · exact absurd ⟨d, hd, k, w, e⟩ hx
          · exact e
    rcases bf_or S h1 h2 h3 c.p with hbf | hbf | hbf
    · -- no lock here
      rw [if_neg (by rw [hbf]; simp), List.nil_append]
      have q1 : 1 ≤ M.m ((tA l c).toNat * 3 + i0) := by
        rcases hE with e | ⟨d, hd, k, e⟩
        · exact absurd hbf (bf_first S h1 h2 h3 hc e)
        · exact (hearly d hd k e).1
      have q2 : c.w = true → M.m ((tA l c).toNat * 3 + i0) = 2 := fun hw => by
        rcases hEw with e | ⟨d, hd, k, w, e⟩
        · have := bf_write S h1 h2 h3 hc hw e
          rw [hbf] at this; exact absurd this.symm kWl_ne
        · exact (hearly d hd k e).2 w
      exact ⟨M, .cons (hact M q1 q2) (.nil _), hfin M h.m0 (fun _ _ => rfl) rfl q1 q2 (fun e => .inr e) (fun e => e)⟩
    · -- a read lock
      rw [if_pos (by rw [hbf]; exact kRl_ne), hbf]
      have q2 : c.w = true → M.m ((tA l c).toNat * 3 + i0) = 2 := fun hw => by
        rcases hEw with e | ⟨d, hd, k, w, e⟩
        · have := bf_write S h1 h2 h3 hc hw e
          rw [hbf] at this; exact absurd this kRW_ne
        · exact (hearly d hd k e).2 w
      have hck := Ck.rl (M := M) (iA l c) (tA l c).toNat i0 (by omega) (by omega) hi0 hsh (fun u hu1 hu4 hu e => hoth u hu (by rw [e]; decide) (.inr e))
      have et : ((tA l c).toNat : Int) = tA l c := by omega
      rw [et] at hck
      by_cases hz : M.m ((tA l c).toNat * 3 + i0) = 0
      · rw [if_pos hz] at hck
        have hM : ∀ j, (M.set ((tA l c).toNat * 3 + i0) 1).m j = if j = (tA l c).toNat * 3 + i0 then 1 else M.m j := fun j => rfl
        have e1 : (M.set ((tA l c).toNat * 3 + i0) 1).m ((tA l c).toNat * 3 + i0) = 1 := by rw [hM, if_pos rfl]
        have hnw : c.w = true → False := fun hw => by have := q2 hw; omega
        exact ⟨_, .cons hck (.cons (hact _ (by rw [e1]; decide) (fun hw => (hnw hw).elim)) (.nil _)), hfin _ (fun j => by rw [hM]; split; decide; exact h.m0 j) (fun j hj => by rw [hM, if_neg hj]) rfl (by rw [e1]; decide) (fun hw => (hnw hw).elim) (fun e => by rw [e1] at e; exact absurd e (by decide)) (fun e => by omega)⟩
      · rw [if_neg hz] at hck
        have q1 : 1 ≤ M.m ((tA l c).toNat * 3 + i0) := by have := h.m0 ((tA l c).toNat * 3 + i0); omega
        exact ⟨_, .cons hck (.cons (hact _ q1 q2) (.nil _)), hfin M h.m0 (fun _ _ => rfl) rfl q1 q2 (fun e => .inr e) (fun e => e)⟩
    · -- a write lock
      rw [if_pos (by rw [hbf]; exact kWl_ne), hbf]
      have hw := bf_kWl S h1 h2 h3 hc hbf
      have hck := Ck.wl (M := M) (iA l c) (tA l c).toNat i0 (by omega) (by omega) hi0 hsh (fun u hu1 hu4 hu => by
        by_cases e : M.m (u * 3 + i0) = 0
        · exact e
        · exact (hoth u hu e (.inl hw)).elim)
      have et : ((tA l c).toNat : Int) = tA l c := by omega
      rw [et] at hck
      have hM : ∀ j, (M.set ((tA l c).toNat * 3 + i0) 2).m j = if j = (tA l c).toNat * 3 + i0 then 2 else M.m j := fun j => rfl
      have e1 : (M.set ((tA l c).toNat * 3 + i0) 2).m ((tA l c).toNat * 3 + i0) = 2 := by rw [hM, if_pos rfl]
      exact ⟨_, .cons hck (.cons (hact _ (by rw [e1]; decide) (fun _ => e1)) (.nil _)), hfin _ (fun j => by rw [hM]; split; decide; exact h.m0 j) (fun j hj => by rw [hM, if_neg hj]) rfl (by rw [e1]; decide) (fun _ => e1) (fun _ => .inl hw) (fun _ => e1)⟩
  · -- an end
    have hno : ∀ c ∈ acL l, c.p ≠ p := fun c hc e => hac ⟨c, hc, e⟩
    have hbf : bfAll (spF (acL l)) O p = ⟨#[]⟩ := by
      rcases bf_at S h1 h2 h3 p with ⟨c, hc, e, _⟩ | ⟨_, e⟩
      · exact absurd e (hno c hc)
      · exact e
    rw [if_neg (by rw [hbf]; simp), List.nil_append]
    have hm := getD_mem hp
    have htb := S.tb _ hm
    have hk : (l.getD p ac0).k = kC ∨ (l.getD p ac0).k = kA := by
      rcases S.kd _ hm with e | ⟨e, _⟩
      · exact e
      · have : tch (l.getD p ac0).k = true := by
          rcases e with e | e
          · rw [e]; exact tch_kR
          · rw [e]; exact tch_kW
        obtain ⟨c, hc, e⟩ := acL_has hp this
        exact absurd e (hno c hc)
    have hck := Ck.fin (M := M) (l.getD p ac0).k (l.getD p ac0).it (l.getD p ac0).t.toNat hk (by omega) (by omega)
    rw [mk_ac _ _ rfl htb.1] at hck
    refine ⟨M, .cons hck (.nil _), h.m0, fun u i hi hm => ?_, fun a ha hap hL i hi => ?_, fun u hu => ?_⟩
    · obtain ⟨a, ha, a1, a2⟩ := h.m1 u i hi hm
      exact ⟨a, ha, by omega, a2⟩
    · exact h.m3 a ha (by have := hno a ha; omega) hL i hi
    · exact h.s u hu

include h1 h2 h3 hab hcf in
theorem lk_cks : ∀ k, k ≤ l.length → ∃ M, Cks Md0 (lkF l (spF (acL l)) (txL l) (bfAll (spF (acL l)) O) (ptAll L O) k) M ∧ CkI l L k k M
  | 0, _ => ⟨Md0, .nil _, fun _ => Int.le_refl _, fun u i _ h => absurd rfl h, fun a _ h => by omega, fun u h => by cases h⟩
  | k + 1, hk => by
    obtain ⟨M, g1, g2⟩ := lk_cks k (by omega)
    obtain ⟨M1, g3, g4⟩ := step_unl S h1 h2 h3 g2
    obtain ⟨M2, g5, g6⟩ := step_act S hab hcf h1 h2 h3 (by omega : k < l.length) g4
    refine ⟨M2, ?_, g6⟩
    rw [lkF_succ]
    refine g1.append ?_
    unfold lkAt
    rw [if_pos (by omega)]
    exact g3.append g5
include h1 h2 h3 hab hcf in
theorem lk_cks_all : ∃ M, Cks Md0 (lkF l (spF (acL l)) (txL l) (bfAll (spF (acL l)) O) (ptAll L O) (l.length + 1)) M := by
  obtain ⟨M, g1, g2⟩ := lk_cks S hab hcf h1 h2 h3 l.length (Nat.le_refl _)
  obtain ⟨M1, g3, g4⟩ := step_unl S h1 h2 h3 g2
  refine ⟨M1, ?_⟩
  rw [lkF_succ]
  refine g1.append ?_
  unfold lkAt
  rw [if_neg (by omega), List.append_nil]
  exact g3

include h1 h2 h3 in
theorem lkAt_filter (p : Nat) : (lkAt l (spF (acL l)) (txL l) (bfAll (spF (acL l)) O) (ptAll L O) p).filter (fun x => !isLk x.k) = if p < l.length then [l.getD p ac0] else [] := by
  unfold lkAt
  rw [List.filter_append]
  have hu : (unl l L O p).filter (fun x => !isLk x.k) = [] := List.filter_eq_nil_iff.2 fun a ha => by
    obtain ⟨b, _, _, rfl⟩ := unl_src S ha
    show ¬ (!isLk kU) = true
    rw [isLk_kU]; decide
  have hu' : ((ptAll L O p).flatMap fun i => (byT (spF (acL l)) i).map (lkU l (txL l) i)).filter (fun x => !isLk x.k) = [] := hu
  rw [hu', List.nil_append]
  by_cases hp : p < l.length
  · rw [if_pos hp, if_pos hp, List.filter_append]
    have hl : [l.getD p ac0].filter (fun x => !isLk x.k) = [l.getD p ac0] := by
      have : isLk (l.getD p ac0).k = false := by
        rcases S.kd _ (getD_mem hp) with (e | e) | ⟨e | e, _⟩ <;> rw [e] <;> first | exact isLk_kC | exact isLk_kA | exact isLk_kR | exact isLk_kW
      rw [List.filter_cons, this]; rfl
    rw [hl]
    have hb : (if bfAll (spF (acL l)) O p ≠ ⟨#[]⟩ then [(⟨bfAll (spF (acL l)) O p, (l.getD p ac0).t, (l.getD p ac0).it⟩ : Ac)] else []).filter (fun x => !isLk x.k) = [] := by
      rcases bf_or S h1 h2 h3 p with e | e | e
      · rw [if_neg (by rw [e]; simp)]; rfl
      · rw [if_pos (by rw [e]; exact kRl_ne), e, List.filter_cons]
        have : isLk kRl = true := isLk_kRl
        simp [this]
      · rw [if_pos (by rw [e]; exact kWl_ne), e, List.filter_cons]
        have : isLk kWl = true := isLk_kWl
        simp [this]
    rw [hb]; rfl
  · rw [if_neg hp, if_neg hp]; rfl
include h1 h2 h3 in
theorem lkF_filter : ∀ k, k ≤ l.length → (lkF l (spF (acL l)) (txL l) (bfAll (spF (acL l)) O) (ptAll L O) k).filter (fun x => !isLk x.k) = l.take k
  | 0, _ => by simp [lkF]
  | k + 1, hk => by
    rw [lkF_succ, List.filter_append, lkF_filter k (by omega), lkAt_filter S h1 h2 h3, if_pos (by omega), List.take_succ_eq_append_getElem (by omega : k < l.length), getD_get (by omega : k < l.length)]
include h1 h2 h3 in
theorem lkF_filter_all : (lkF l (spF (acL l)) (txL l) (bfAll (spF (acL l)) O) (ptAll L O) (l.length + 1)).filter (fun x => !isLk x.k) = l := by
  rw [lkF_succ, List.filter_append, lkF_filter S h1 h2 h3 _ (Nat.le_refl _), lkAt_filter S h1 h2 h3, if_neg (by omega), List.take_length, List.append_nil]

theorem unl_length (L : Nat → Nat) (O : List Nat) (p : Nat) : (unl l L O p).length ≤ (O.countP fun i => L i == p) * 300 := by
  have hS : (spF (acL l)).length ≤ 300 := Nat.le_trans (spF_length_le _) (acL_len S)
  unfold unl
  rw [ptAll_at, List.countP_eq_length_filter]
  generalize O.filter (fun i => L i == p) = Q
  induction Q with
  | nil => simp
  | cons q Q ih =>
    rw [List.flatMap_cons, List.length_append, List.length_map, List.length_cons]
    have : (byT (spF (acL l)) q).length ≤ (spF (acL l)).length := List.length_filter_le _ _
    omega
omit S in
theorem countP_lt (L : Nat → Nat) (k : Nat) : ∀ O : List Nat, (O.countP fun i => decide (L i < k + 1)) = (O.countP fun i => decide (L i < k)) + O.countP fun i => L i == k
  | [] => rfl
  | i :: O => by
    rw [List.countP_cons, List.countP_cons, List.countP_cons, countP_lt L k O]
    rcases Nat.lt_trichotomy (L i) k with e | e | e
    · have a1 : decide (L i < k + 1) = true := by simp; omega
      have a2 : decide (L i < k) = true := by simp; omega
      have a3 : (L i == k) = false := by simp; omega
      simp [a1, a2, a3]; omega
    · have a1 : decide (L i < k + 1) = true := by simp; omega
      have a2 : decide (L i < k) = false := by simp; omega
      have a3 : (L i == k) = true := by simp; omega
      simp [a1, a2, a3]; omega
    · have a1 : decide (L i < k + 1) = false := by simp; omega
      have a2 : decide (L i < k) = false := by simp; omega
      have a3 : (L i == k) = false := by simp; omega
      simp [a1, a2, a3]
theorem lkF_length (bf : Nat → ByteArray) (L : Nat → Nat) (O : List Nat) : ∀ k, (lkF l (spF (acL l)) (txL l) bf (ptAll L O) k).length ≤ k * 2 + (O.countP fun i => decide (L i < k)) * 300
  | 0 => by simp [lkF]
  | k + 1 => by
    rw [lkF_succ, List.length_append, countP_lt]
    have h1 := lkF_length bf L O k
    have h2 := unl_length S L O k
    have h3 : (lkAt l (spF (acL l)) (txL l) bf (ptAll L O) k).length ≤ (unl l L O k).length + 2 := by
      unfold lkAt unl
      rw [List.length_append]
      have : (if k < l.length then (if bf k ≠ ⟨#[]⟩ then [(⟨bf k, (l.getD k ac0).t, (l.getD k ac0).it⟩ : Ac)] else []) ++ [l.getD k ac0] else []).length ≤ 2 := by
        split
        · rw [List.length_append]; split <;> simp
        · simp
      omega
    rw [Nat.add_mul]
    omega
end

end Go.Proofs.YbulkbgasDoor

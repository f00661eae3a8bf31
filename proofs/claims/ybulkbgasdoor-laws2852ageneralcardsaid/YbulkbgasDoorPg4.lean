import Derived.Test.YbulkbgasDoorPg3
namespace Go.Proofs.YbulkbgasDoor
set_option linter.unusedVariables false

abbrev iS (l : List Ac) (s : Sp) : ByteArray := (l.getD s.f ac0).it
noncomputable abbrev tS (l : List Ac) (s : Sp) : Int := (txL l).getD s.x 0

section
variable {l : List Ac} (S : Sch l)
include S
theorem sp_acc {s : Sp} (hs : s ∈ spL l) {a : Acc} (ha : a ∈ acL l) (k : a.key = s.key) : tA l a = tS l s ∧ iA l a = iS l s := by
  obtain ⟨b, hb, kb, pb⟩ := (spF_ok (acL l) (acL_sorted l) s hs).f
  have ax : a.x = s.x := congrArg Prod.snd k
  have ai : a.i = s.i := congrArg Prod.fst k
  have bi : b.i = s.i := congrArg Prod.fst kb
  refine ⟨?_, ?_⟩
  · rw [← S.t ha, ax]
  · show _ = (l.getD s.f ac0).it
    rw [← pb]; exact (S.i_iff ha hb).1 (ai.trans bi.symm)
theorem sp_tb {s : Sp} (hs : s ∈ spL l) : 1 ≤ tS l s ∧ tS l s ≤ 4 := by
  obtain ⟨b, hb, kb, pb⟩ := (spF_ok (acL l) (acL_sorted l) s hs).f
  rw [← (sp_acc S hs hb kb).1]; exact S.tb' hb
theorem sp_it {s : Sp} (hs : s ∈ spL l) : ∃ i, itIx (iS l s) = some i := by
  obtain ⟨b, hb, kb, pb⟩ := (spF_ok (acL l) (acL_sorted l) s hs).f
  rw [← (sp_acc S hs hb kb).2]; exact (S.kd' hb).2
theorem sp_x {s s' : Sp} (hs : s ∈ spL l) (hs' : s' ∈ spL l) (h : tS l s = tS l s') : s.x = s'.x := by
  obtain ⟨b, hb, kb, pb⟩ := (spF_ok (acL l) (acL_sorted l) s hs).f
  obtain ⟨b', hb', kb', pb'⟩ := (spF_ok (acL l) (acL_sorted l) s' hs').f
  rw [← (sp_acc S hs hb kb).1, ← (sp_acc S hs' hb' kb').1] at h
  have := (S.x_iff hb hb').2 h
  rw [show b.x = s.x from congrArg Prod.snd kb, show b'.x = s'.x from congrArg Prod.snd kb'] at this
  exact this
theorem sp_i {s s' : Sp} (hs : s ∈ spL l) (hs' : s' ∈ spL l) (h : iS l s = iS l s') : s.i = s'.i := by
  obtain ⟨b, hb, kb, pb⟩ := (spF_ok (acL l) (acL_sorted l) s hs).f
  obtain ⟨b', hb', kb', pb'⟩ := (spF_ok (acL l) (acL_sorted l) s' hs').f
  rw [← (sp_acc S hs hb kb).2, ← (sp_acc S hs' hb' kb').2] at h
  have := (S.i_iff hb hb').2 h
  rw [show b.i = s.i from congrArg Prod.fst kb, show b'.i = s'.i from congrArg Prod.fst kb'] at this
  exact this
/-- Two spans at one place of the checker's table are one. -/
theorem sp_ix {s s' : Sp} (hs : s ∈ spL l) (hs' : s' ∈ spL l) {i i' : Nat} (hi : itIx (iS l s) = some i) (hi' : itIx (iS l s') = some i') (e : (tS l s).toNat * 3 + i = (tS l s').toNat * 3 + i') : s = s' := by
  have h1 := sp_tb S hs
  have h2 := sp_tb S hs'
  have h3 := itIx_lt hi
  have h4 := itIx_lt hi'
  have ei : i = i' := by omega
  subst ei
  refine sp_uniq hs hs' (Prod.ext ?_ ?_)
  · exact sp_i S hs hs' (itIx_inj hi hi')
  · exact sp_x S hs hs' (by omega)
end

/-- The checker's state. -/
structure CkG (l : List Ac) (L : Nat → Nat) (p : Nat) (h : Bool) (D : Nat → Prop) (M : Md) : Prop where
  m1 : ∀ s ∈ spL l, ∀ i, itIx (iS l s) = some i → M.m ((tS l s).toNat * 3 + i) = md L p h D s
  m2 : ∀ u i, i < 3 → M.m (u * 3 + i) ≠ 0 → ∃ s ∈ spL l, tS l s = (u : Int) ∧ itIx (iS l s) = some i
  sh : ∀ u, M.s u = true → ∃ x, x < (txL l).length ∧ D x ∧ (txL l).getD x 0 = (u : Int)

theorem md_congr {L : Nat → Nat} {p p' : Nat} {h h' : Bool} {D D' : Nat → Prop} {s : Sp} (h1 : Rls L p h D s ↔ Rls L p' h' D' s) (h2 : ¬ Rls L p h D s → acq p D s = acq p' D' s) : md L p h D s = md L p' h' D' s := by
  classical
  unfold md
  by_cases hr : Rls L p h D s
  · rw [if_pos hr, if_pos (h1.1 hr)]
  · rw [if_neg hr, if_neg (fun e => hr (h1.2 e)), h2 hr]
theorem acq_congr {p : Nat} {D D' : Nat → Prop} {s : Sp} (h : D s.x ↔ D' s.x) : acq p D s = acq p D' s := by
  classical
  unfold acq
  by_cases hd : D s.x
  · rw [if_pos hd, if_pos (h.1 hd)]
  · rw [if_neg hd, if_neg (fun e => hd (h.2 e))]
theorem md_D {L : Nat → Nat} {p : Nat} {h : Bool} {D D' : Nat → Prop} {s : Sp} (e : D s.x ↔ D' s.x) : md L p h D s = md L p h D' s :=
  md_congr (by unfold Rls; rw [e]) fun _ => acq_congr e
theorem CkG.congr {l : List Ac} (S : Sch l) {L : Nat → Nat} {p : Nat} {h : Bool} {D D' : Nat → Prop} {M : Md} (g : CkG l L p h D M) (e : ∀ x, x < (txL l).length → (D x ↔ D' x)) : CkG l L p h D' M :=
  ⟨fun s hs i hi => by rw [g.m1 s hs i hi]; exact md_D (e _ (S.gen7.sp s hs).1), g.m2, fun u hu => by
    obtain ⟨x, h1, h2, h3⟩ := g.sh u hu
    exact ⟨x, h1, (e x h1).1 h2, h3⟩⟩

section
variable {l : List Ac} (S : Sch l) {L : Nat → Nat} {O : List Nat} (P : LkS l L O)
include S P
/-- The unlock behind the last action. -/
theorem stepHd {p : Nat} {D : Nat → Prop} {M : Md} (hD : ∀ x, x < (txL l).length → L x < p → D x) (g : CkG l L p false D M) : ∃ M', Cks M (gHd l (gaAll (spL l) L O) p) M' ∧ CkG l L p true D M' := by
  have hsame : ∀ s, ¬ (L s.x ≤ s.la ∧ s.la + 1 = p) → md L p false D s = md L p true D s := fun s hn => md_congr (by
    unfold Rls
    constructor
    · rintro (h | ⟨h1, h2 | h2⟩)
      · exact .inl h
      · exact .inr ⟨h1, .inl h2⟩
      · cases h2.2
    · rintro (h | ⟨h1, h2 | h2⟩)
      · exact .inl h
      · exact .inr ⟨h1, .inl h2⟩
      · exact absurd ⟨h1, h2.1⟩ hn) fun _ => rfl
  unfold gHd
  by_cases hc : 0 < p ∧ gaAll (spL l) L O (p - 1) = true
  · rw [if_pos hc]
    obtain ⟨s, hs, e1, e2⟩ := (ga_at S P (p - 1)).1 hc.2
    obtain ⟨a, ha, ka, pa⟩ := (spF_ok (acL l) (acL_sorted l) s hs).la
    obtain ⟨at_, ai⟩ := sp_acc S hs ha ka
    obtain ⟨i, hi⟩ := sp_it S hs
    have htb := sp_tb S hs
    have hi3 := itIx_lt hi
    have hp1 : p - 1 = a.p := by omega
    rw [hp1]
    have et : (l.getD a.p ac0).t = tS l s := at_
    have ei : (l.getD a.p ac0).it = iS l s := ai
    rw [et, ei]
    have hck := Ck.u (M := M) (iS l s) (tS l s).toNat i (by omega) (by omega) hi
    rw [show (((tS l s).toNat : Nat) : Int) = tS l s by omega] at hck
    have hM : ∀ j, ((M.set ((tS l s).toNat * 3 + i) 0).shr (tS l s).toNat).m j = if j = (tS l s).toNat * 3 + i then 0 else M.m j := fun j => rfl
    have hMs : ∀ u, ((M.set ((tS l s).toNat * 3 + i) 0).shr (tS l s).toNat).s u = if u = (tS l s).toNat then true else M.s u := fun u => rfl
    refine ⟨_, .cons hck (.nil _), fun s' hs' i' hi' => ?_, fun u i' hi' hm => ?_, fun u hu => ?_⟩
    · rw [hM]
      by_cases e : (tS l s').toNat * 3 + i' = (tS l s).toNat * 3 + i
      · rw [if_pos e]
        obtain rfl := sp_ix S hs' hs hi' hi e
        classical
        unfold md
        rw [if_pos (.inr ⟨by omega, .inr ⟨by omega, rfl⟩⟩)]
      · rw [if_neg e, g.m1 s' hs' i' hi']
        refine hsame s' fun ⟨f1, f2⟩ => e ?_
        obtain ⟨a', ha', ka', pa'⟩ := (spF_ok (acL l) (acL_sorted l) s' hs').la
        have : a' = a := acL_inj ha' ha (by omega)
        subst this
        obtain rfl := sp_uniq hs' hs (ka'.symm.trans ka)
        rw [hi] at hi'
        cases hi'
        rfl
    · rw [hM] at hm
      split at hm
      · exact absurd rfl hm
      · exact g.m2 u i' hi' hm
    · rw [hMs] at hu
      split at hu
      · rename_i e
        exact ⟨s.x, (S.gen7.sp s hs).1, hD _ (S.gen7.sp s hs).1 (by omega), by show tS l s = _; omega⟩
      · exact g.sh u hu
  · rw [if_neg hc]
    refine ⟨M, .nil _, fun s hs i hi => ?_, g.m2, g.sh⟩
    rw [g.m1 s hs i hi]
    refine hsame s fun ⟨f1, f2⟩ => hc ⟨by omega, (ga_at S P (p - 1)).2 ⟨s, hs, by omega, by omega⟩⟩
end
end Go.Proofs.YbulkbgasDoor

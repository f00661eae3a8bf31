import Derived.Test.YbulkbgasDoorGlaw
import Derived.Test.YbulkbgasDoorPl6
import Derived.Test.YbulkbgasDoorGp1
namespace Go.Proofs.YbulkbgasDoor
set_option linter.unusedVariables false

/-- A schedule without lock actions. -/
structure Sch (l : List Ac) : Prop where
  len : l.length ≤ 300
  tb : ∀ a ∈ l, 1 ≤ a.t ∧ a.t ≤ 4
  kd : ∀ a ∈ l, (a.k = kC ∨ a.k = kA) ∨ ((a.k = kR ∨ a.k = kW) ∧ ∃ i, itIx a.it = some i)

namespace Sch
variable {l : List Ac} (S : Sch l)
include S
theorem ok {c : Acc} (h : c ∈ acL l) : AcOk l c := by
  obtain ⟨h1, h2, h3, h4, h5, h6, h7⟩ := accN_mem (Nat.le_refl _) h
  have e := getD_get h2
  exact ⟨h2, by rw [e]; exact h3, by rw [e]; exact h4, by rw [e]; exact (txL_mem S.tb _).2 ⟨_, List.getElem_mem h2, rfl⟩, by rw [e]; exact h5, by rw [e]; exact h6, by rw [e]; exact h7⟩
theorem xlt {c : Acc} (h : c ∈ acL l) : c.x < (txL l).length := by have := S.ok h; rw [this.xt]; exact ix_lt this.tm
theorem t {c : Acc} (h : c ∈ acL l) : (txL l).getD c.x 0 = tA l c := by
  have := S.ok h
  rw [List.getD_eq_getElem?_getD, List.getElem?_eq_getElem (S.xlt h), Option.getD_some]
  have e := ix_get this.tm
  simp only [this.xt]
  exact e
theorem x_iff {c d : Acc} (hc : c ∈ acL l) (hd : d ∈ acL l) : c.x = d.x ↔ tA l c = tA l d := by
  have h1 := S.ok hc
  have h2 := S.ok hd
  constructor
  · intro e; rw [h1.xt, h2.xt] at e; exact ix_inj h1.tm h2.tm e
  · intro e; rw [h1.xt, h2.xt]; unfold tA at e; rw [e]
theorem i_iff {c d : Acc} (hc : c ∈ acL l) (hd : d ∈ acL l) : c.i = d.i ↔ iA l c = iA l d := by
  have h1 := S.ok hc
  have h2 := S.ok hd
  constructor
  · intro e; rw [h1.it, h2.it] at e; exact ix_inj h1.im h2.im e
  · intro e; rw [h1.it, h2.it]; unfold iA at e; rw [e]
theorem w {c : Acc} (hc : c ∈ acL l) (h : isW (l.getD c.p ac0).k = true) : c.w = true := by
  have h1 := S.ok hc
  rw [h1.w]
  unfold wrOf
  rw [List.any_eq_true]
  refine ⟨l.getD c.p ac0, ?_, by rw [h]; simp⟩
  rw [getD_get h1.lt, List.take_succ_eq_append_getElem h1.lt]
  exact List.mem_append_right _ (List.mem_singleton.2 rfl)
/-- Behind a write of one's own, every access is marked. -/
theorem w_up {c d : Acc} (hc : c ∈ acL l) (hd : d ∈ acL l) (k : c.key = d.key) (h : c.p ≤ d.p) (hw : c.w = true) : d.w = true := by
  have h1 := S.ok hc
  have h2 := S.ok hd
  obtain ⟨ki, kx⟩ := (key_iff c d).1 k
  have et : tA l c = tA l d := (S.x_iff hc hd).1 kx
  have ei : iA l c = iA l d := (S.i_iff hc hd).1 ki
  rw [h1.w] at hw
  rw [h2.w]
  unfold wrOf at hw ⊢
  rw [List.any_eq_true] at hw ⊢
  obtain ⟨a, ha, e⟩ := hw
  refine ⟨a, ?_, ?_⟩
  · have : l.take (c.p + 1) = (l.take (d.p + 1)).take (c.p + 1) := by rw [List.take_take, Nat.min_eq_left (by omega)]
    rw [this] at ha
    exact List.mem_of_mem_take ha
  · unfold tA at et
    unfold iA at ei
    rw [← et, ← ei]; exact e
theorem alen : (acL l).length ≤ 300 := Nat.le_trans (accN_length_le _ _ _) S.len
theorem tb' {a : Acc} (ha : a ∈ acL l) : 1 ≤ tA l a ∧ tA l a ≤ 4 := S.tb _ (getD_mem (S.ok ha).lt)
theorem kd' {a : Acc} (ha : a ∈ acL l) : ((l.getD a.p ac0).k = kR ∨ (l.getD a.p ac0).k = kW) ∧ ∃ i, itIx (iA l a) = some i := by
  have o := S.ok ha
  rcases S.kd _ (getD_mem o.lt) with h | h
  · have := o.tc
    rcases h with h | h
    · rw [h, tch_kC] at this; cases this
    · rw [h, tch_kA] at this; cases this
  · exact h
omit S in
theorem fc_pr (l : List Ac) (back : Bool) : ∀ x, Pr back (fun k => (acL l).getD (fcAt back (acL l).length k) a0) (acL l).length (fcL back l) x :=
  (fcF_pr back (acL l) (txOf (spF (acL l))) (owL l) (ow_iff (acL l)) (ow_tx (acL l)) _ (Nat.le_refl _)).pr
omit S in
theorem fl_complete {c d : Acc} (hc : c ∈ acL l) (hd : d ∈ acL l) (hp : d.p < c.p) (hi : d.i = c.i) (hx : d.x ≠ c.x) (hw : d.w = true ∨ c.w = true) : (d.p : Int) ≤ fcL true l (c.x * 2) := by
  obtain ⟨k0, h0, rfl⟩ := getA_of_mem hd
  obtain ⟨k1, h1, rfl⟩ := getA_of_mem hc
  have h01 : k0 < k1 := by
    rcases Nat.lt_trichotomy k0 k1 with h | h | h
    · exact h
    · subst h; omega
    · have := getA_lt (acL_sorted l) h h0; omega
  have e : ∀ k, fcAt true (acL l).length k = (acL l).length - 1 - k := fun k => by simp [fcAt]
  have hf := (fc_inv l true).f ((acL l).length - 1 - k1) ((acL l).length - 1 - k0) (by omega) (by omega)
  simp only [e] at hf
  rw [show (acL l).length - 1 - ((acL l).length - 1 - k1) = k1 by omega, show (acL l).length - 1 - ((acL l).length - 1 - k0) = k0 by omega] at hf
  obtain ⟨f1, k2, f2, f3⟩ := hf hi.symm (fun e => hx e.symm) (Or.symm hw)
  have f4 : fcL true l (((acL l).getD k1 a0).x * 2) = (((acL l).getD ((acL l).length - 1 - k2) a0).p : Int) := f3
  rw [f4]
  rcases Nat.eq_or_lt_of_le (show k0 ≤ (acL l).length - 1 - k2 by omega) with h | h
  · rw [← h]; exact Int.le_refl _
  · have := getA_lt (acL_sorted l) h (by omega : (acL l).length - 1 - k2 < (acL l).length); omega
theorem gen7 : Gen7 l := by
  refine ⟨⟨fun c hc => ⟨(S.ok hc).lt, (S.t hc).symm⟩, fun a ha c hc h => (S.i_iff ha hc).1 h, fun i j hi hj hne h => ?_, fun c hc => S.xlt hc, acL_sorted l, fun i hi h => ?_, fun i hi h => ?_, fun i hi j hj => ?_⟩, fun s hs => ?_⟩
  · rw [List.getD_eq_getElem?_getD, List.getElem?_eq_getElem hi, List.getD_eq_getElem?_getD, List.getElem?_eq_getElem hj] at h
    exact hne ((List.getElem_inj (txL_nodup l)).1 h)
  · rcases fc_pr l false i with ⟨_, h1⟩ | ⟨k0, k1, h1, h2, h3, h4, h5, _, h6, h7⟩
    · omega
    · have e : ∀ k, fcAt false (acL l).length k = k := fun k => by simp [fcAt]
      simp only [e] at h3 h4 h5 h6 h7
      exact ⟨_, getA_mem (by omega : k0 < _), _, getA_mem h2, h6, h7, h3, h4, h5⟩
  · rcases fc_pr l true i with ⟨h1, _⟩ | ⟨k0, k1, h1, h2, h3, h4, h5, _, h6, h7⟩
    · omega
    · have e : ∀ k, fcAt true (acL l).length k = (acL l).length - 1 - k := fun k => by simp [fcAt]
      simp only [e] at h3 h4 h5 h6 h7
      exact ⟨_, getA_mem (by omega : (acL l).length - 1 - k1 < _), _, getA_mem (by omega : (acL l).length - 1 - k0 < _), h6, h7, h3, h4, h5⟩
  · have h1 := (naF_g (txL l).length (acL l) fun a ha => S.xlt ha).so i j hi hj
    exact ⟨(Succ.ltn (fun a ha => S.xlt ha) h1).2, h1⟩
  · have o := spF_ok (acL l) (acL_sorted l) s hs
    obtain ⟨a, ha, ka, pa⟩ := o.f
    obtain ⟨b, hb, kb, pb⟩ := o.la
    have h1 : a.x = s.x := congrArg Prod.snd ka
    refine ⟨by rw [← h1]; exact S.xlt ha, by rw [← pa]; exact (S.ok ha).lt, ?_, ?_, by rw [← pb]; exact (S.ok hb).lt⟩
    · rcases o.w with ⟨w1, _⟩ | ⟨d, hd, _, _, w1, _⟩
      · omega
      · have := (S.ok hd).lt; omega
    · rcases o.w with ⟨w1, _⟩ | ⟨d, hd, _, _, w1, _⟩
      · omega
      · omega
end Sch

theorem sch_of (sts : List St) (hn : sts.length ≤ 300) (hok : ∀ s ∈ sts, s.Ok) : Sch (keptA (sts.map acOf)) := by
  have hl : (keptA (sts.map acOf)).length ≤ 300 := by
    have h1 : (keptA (sts.map acOf)).length ≤ (sts.map acOf).length := List.length_filter_le _ _
    rw [List.length_map] at h1
    omega
  have hsrc : ∀ a ∈ keptA (sts.map acOf), ∃ s ∈ sts, acOf s = a ∧ isLk a.k = false := fun a ha => by
    obtain ⟨h1, h2⟩ := List.mem_filter.1 ha
    obtain ⟨s, hs, e⟩ := List.mem_map.1 h1
    exact ⟨s, hs, e, by simpa using h2⟩
  refine ⟨hl, fun a ha => ?_, fun a ha => ?_⟩
  · obtain ⟨s, hs, rfl, _⟩ := hsrc a ha
    exact acOf_t (hok s hs)
  · obtain ⟨s, hs, rfl, hk⟩ := hsrc a ha
    exact isLk_acOf hk
end Go.Proofs.YbulkbgasDoor

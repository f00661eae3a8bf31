import Derived.Test.YbulkbgasDoorCw1
namespace Go.Proofs.YbulkbgasDoor
open Go.RowKit Go.Maps
set_option linter.unusedVariables false

/-! ### A drawn region whose one store comes last: the condition S need not outlive the store -/
section
variable {P : Program} {ops : Array Oper} {Q : Exit → Act → World → Prop} {md : Region.Mode} {S : World → Prop} {z : Nat}

def wpAnyL (P : Program) (md : Region.Mode) (ops : Array Oper) (Q : Exit → Act → World → Prop) (S : World → Prop) (z : Nat) : Nat → Array Bool → Act → World → Prop
  | 0, listed, a, w => Region.ready md ops listed = [] ∧ Q .normal a w
  | f + 1, listed, a, w => (Region.ready md ops listed = [] → Q .normal a w) ∧ ∀ i ∈ Region.ready md ops listed, wpOp P ops Q i (fun a' w' => (i ≠ z → S w') ∧ wpAnyL P md ops Q S z f (listed.setIfInBounds i true) a' w') a w

theorem wpAny_of_L : ∀ (f : Nat) (listed : Array Bool) (a : Act) (w : World), wpAnyL P md ops Q S z f listed a w → wpAny P md ops Q f listed a w
  | 0, _, _, _, h => h
  | f + 1, _, _, _, h => ⟨h.1, fun i hi => wpOp_mono (fun a' w' k => wpAny_of_L f _ a' w' k.2) (h.2 i hi)⟩

/-- The last one waits for number i. -/
def zWaits (md : Region.Mode) (ops : Array Oper) (z i : Nat) : Bool := match ops[z]? with
  | none => true
  | some oz => oz.after.any fun e => Region.binds md e && e.on == i
theorem zWaits_spec {i : Nat} {listed : Array Bool} (h : zWaits md ops z i = true) (hi : listed.getD i true = false) : z ∉ Region.ready md ops listed := by
  intro hz
  obtain ⟨_, oz, hoz, hall⟩ := mem_ready.1 hz
  unfold zWaits at h
  rw [hoz] at h
  obtain ⟨e, he, hb⟩ := Array.any_eq_true'.1 h
  rw [Bool.and_eq_true, beq_iff_eq] at hb
  have h1 := hall e he hb.1
  rw [hb.2] at h1
  rcases Nat.lt_or_ge i listed.size with hl | hl
  · simp [hl] at hi h1
    rw [hi] at h1
    cases h1
  · simp [Array.getElem?_eq_none hl] at h1

theorem wpAnyL_first {i : Nat} {oi : Oper} {v : Value} (hi : ops[i]? = some oi) (hsel : Region.noSelect ops = true) (hz : zWaits md ops z i = true)
    (hQ : ∀ c a w, Q (.panic c) (a.put oi.dst v) w → Q (.panic c) a w) : ∀ (f : Nat) (listed : Array Bool) (a : Act) (w : World),
      (∀ j oj, ops[j]? = some oj → j ≠ i → listed.getD j true = false → (∀ e ∈ oj.after, Region.binds md e = true → e.on ≠ i) → oi.apart ops oj = true) →
      i ∈ Region.ready md ops listed → YieldsIf P ops S oi v a → S w →
      wpAnyL P md ops Q S z f (listed.setIfInBounds i true) (a.put oi.dst v) w → wpAnyL P md ops Q S z (f + 1) listed a w := by
  have sel : ∀ (j : Nat) (o : Oper), ops[j]? = some o → ∀ cs b, o.op ≠ .select cs b := fun j o ho cs b => Region.noSelect_spec hsel j o cs b ho
  intro f
  induction f with
  | zero =>
    intro listed a w _ hr hy hS H
    refine ⟨fun h0 => absurd hr (by rw [h0]; exact List.not_mem_nil), fun j hj => ?_⟩
    by_cases e : j = i
    · rw [e]; exact hy.wpOp hi hS ⟨fun _ => hS, H⟩
    · exact absurd (ready_mono hj e) (by rw [H.1]; exact List.not_mem_nil)
  | succ f ih =>
    intro listed a w hfree hr hy hS H
    have hun := (mem_ready.1 hr).1
    refine ⟨fun h0 => absurd hr (by rw [h0]; exact List.not_mem_nil), fun j hj => ?_⟩
    by_cases e : j = i
    · rw [e]; exact hy.wpOp hi hS ⟨fun _ => hS, H⟩
    · have hjz : j ≠ z := fun e2 => zWaits_spec hz hun (by rw [← e2]; exact hj)
      obtain ⟨hjun, oj, hoj, hall⟩ := mem_ready.1 hj
      have hap : oi.apart ops oj = true := hfree j oj hoj e hjun fun x hx hb heq => by
        have h1 := hall x hx hb
        rw [heq] at h1
        rcases Nat.lt_or_ge i listed.size with hl | hl
        · simp [hl] at hun h1; rw [hun] at h1; cases h1
        · simp [Array.getElem?_eq_none hl] at h1
      have h2 := wpOp_putIf hoj hap (sel i oi hi) (sel j oj hoj) hQ hy (H.2 j (ready_mono hj e))
      refine wpOp_mono (fun a' w' h3 => ⟨h3.2.1, ih _ a' w' (fun k ok hk hki hku hno => ?_) (ready_mono hr (Ne.symm e)) h3.1 (h3.2.1 hjz) ?_⟩) h2
      · refine hfree k ok hk hki ?_ hno
        by_cases e3 : j = k
        · rw [← e3]; exact hjun
        · rw [getD_set_ne true e3] at hku; exact hku
      · rw [Array.setIfInBounds_comm _ _ e]
        exact h3.2.2

theorem wpAnyL_take {i : Nat} {oi : Oper} {v : Value} {f : Nat} {listed : Array Bool} {a : Act} {w : World} (hi : ops[i]? = some oi) (hs : Region.noSelect ops = true) (hz : zWaits md ops z i = true) (hf : Region.free md ops listed i = true) (hr : (Region.ready md ops listed).contains i = true)
    (hQ : ∀ c a w, Q (.panic c) (a.put oi.dst v) w → Q (.panic c) a w) (hy : YieldsIf P ops S oi v a) (hS : S w) (h : wpAnyL P md ops Q S z f (listed.setIfInBounds i true) (a.put oi.dst v) w) : wpAnyL P md ops Q S z (f + 1) listed a w :=
  wpAnyL_first hi hs hz hQ f listed a w (Region.free_spec hi hf) (by simpa using hr) hy hS h

/-- One alone may come up. -/
theorem wpAnyL_one {i : Nat} {o : Oper} {f : Nat} {listed : Array Bool} {a : Act} {w : World} (hr : Region.ready md ops listed = [i]) (ho : ops[i]? = some o)
    (h : ∀ K' : Act → World → Prop, Hid (∀ a w, (i ≠ z → S w) → wpAnyL P md ops Q S z f (listed.setIfInBounds i true) a w → K' a w) → if Region.wanted o (yielded ops a.tmps) = true then Oper.wp P o a w K' Q else K' (a.put o.dst undef) w) : wpAnyL P md ops Q S z (f + 1) listed a w := by
  refine ⟨fun h0 => (by rw [hr] at h0; cases h0), fun j hj => ?_⟩
  rw [hr, List.mem_singleton] at hj
  subst hj
  exact wpOp_step ho fun K' hK => h K' (hid fun a w h1 h2 => hK a w ⟨h1, h2⟩)
theorem wpAnyL_done {listed : Array Bool} {a : Act} {w : World} (hr : Region.ready md ops listed = []) (h : Q .normal a w) : ∀ f, wpAnyL P md ops Q S z f listed a w
  | 0 => ⟨hr, h⟩
  | _ + 1 => ⟨fun _ => h, by rw [hr]; simp⟩
theorem wp_region_L {id : Nat} {a : Act} {w : World} (z : Nat) (S : World → Prop) (hm : P.follows .mixedOrders = true)
    (h : wpAnyL P .any ops Q S z ops.size (Array.replicate ops.size false) a w.drew) : (Code.region id ops true).wp P Q a w :=
  wp_region_any hm (wpAny_of_L _ _ _ _ h)
end
end Go.Proofs.YbulkbgasDoor

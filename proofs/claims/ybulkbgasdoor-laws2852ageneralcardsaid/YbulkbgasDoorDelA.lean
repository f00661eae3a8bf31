import Derived.Test.YbulkbgasDoorStrip
namespace Go.Proofs.YbulkbgasDoor
open Go.RowKit
set_option linter.unusedVariables false

set_option maxHeartbeats 1000000 in
theorem pred_any (g : Nat) (hg : g = 14 ∨ g = 18) (c : Ac) (w : World) : Calls Ybad.prog g #[.agg c.cells.toArray] w fun e w' => e = .returned (.bool (isLk c.k)) ∧ w' = w.alloc (.cells c.cells.toArray 34) := by
  have HI := hid (isLock_any c.k)
  show Calls Ybad.prog g #[.agg #[.string c.k, .int .i64 c.t, .string c.it]] w _
  rcases hg with rfl | rfl
  · go_enter Ybad.func14, Ybad.ntmps14
    go_wp2_with (go_at_call 15; refine Calls.mono (HI.out _) ?_; rintro e w' ⟨rfl, rfl⟩)
    go_ret
    exact ⟨rfl, rfl⟩
  · go_enter Ybad.func18, Ybad.ntmps18
    go_wp2_with (go_at_call 15; refine Calls.mono (HI.out _) ?_; rintro e w' ⟨rfl, rfl⟩)
    go_ret
    exact ⟨rfl, rfl⟩

/-- The first lock action's place. -/
def idxLk (l : List Ac) : Int := match l.findIdx? (fun x => isLk x.k) with | some k => (k : Int) | none => -1

set_option maxHeartbeats 1000000 in
theorem index_14 (w : World) (v : Value) (l : List Ac) (hn : l.length ≤ 10000) (hs : SlA w v l) :
    Calls Ybad.prog 35 #[v, .func (.func 14) #[] #[]] w fun e w' => e = .returned (.int .i64 (idxLk l)) ∧ Below w.heap.size w w' := by
  obtain ⟨a, cap, rfl, hcap, hel⟩ := hs
  have HS := hid hel
  clear hel
  go_enter Ybad.func35, Ybad.ntmps35
  go_wp2
  go_loopw [8] (fun i wr => ∃ k : Nat, k ≤ l.length ∧ i = .int .i64 k ∧ (∀ j (hj : j < l.length), j < k → isLk l[j].k = false) ∧ Below w.heap.size w wr) (fun i _ => l.length - (intOf i).toNat)
  case atStart => exact ⟨0, Nat.zero_le _, rfl, fun j _ h => absurd h (by omega), Below.refl _ _⟩
  case round =>
    obtain ⟨k, hk, rfl, hno, hbel⟩ := hrel
    have HN := hid hno
    have hB := hid hbel
    have hsz := hbel.size
    clear hno hbel
    by_cases hlt : k < l.length
    · have hki : (k : Int) < (l.length : Int) := by omega
      obtain ⟨b, off, rfl, hbl, c0', c1', c2'⟩ := cells_at HS.out hlt hlt
      obtain ⟨c, hc⟩ : ∃ c, l[k] = c := ⟨_, rfl⟩
      rw [hc] at c0' c1' c2'
      have c0 : wr.cell? ⟨b, off + k * 3, none⟩ = some (.string c.k) := (hB.out.cell (p := ⟨b, off + k * 3, none⟩) hbl).trans c0'
      have c1 : wr.cell? ⟨b, off + k * 3 + 1, none⟩ = some (.int .i64 c.t) := (hB.out.cell (p := ⟨b, off + k * 3 + 1, none⟩) hbl).trans c1'
      have c2 : wr.cell? ⟨b, off + k * 3 + 2, none⟩ = some (.string c.it) := (hB.out.cell (p := ⟨b, off + k * 3 + 2, none⟩) hbl).trans c2'
      clear c0' c1' c2'
      have HP := hid (pred_any 14 (.inl rfl) c)
      obtain ⟨r, hr⟩ : ∃ r, isLk c.k = r := ⟨_, rfl⟩
      rw [hr] at HP
      have HR := hid hr
      have HC := hid hc
      clear hr hc
      cases r
      · go_wp2_with (go_at_call 14; refine Calls.mono (HP.out _) ?_; rintro e w' ⟨rfl, rfl⟩)
        go_roundw
        case rel =>
          refine ⟨k + 1, by omega, by go_num, fun j hj hjk => ?_, hB.out.alloc hsz _⟩
          rcases Nat.lt_or_ge j k with h | h
          · exact HN.out j hj h
          · obtain rfl : j = k := by omega
            rw [HC.out]; exact HR.out
        case measure => simp [intOf]; omega
      · go_wp2_with (go_at_call 14; refine Calls.mono (HP.out _) ?_; rintro e w' ⟨rfl, rfl⟩)
        go_ret
        refine ⟨?_, hB.out.alloc hsz _⟩
        have : l.findIdx? (fun x => isLk x.k) = some k := by
          rw [List.findIdx?_eq_some_iff_getElem]
          exact ⟨hlt, by rw [HC.out]; exact HR.out, fun j hj => by simpa using HN.out j (by omega) hj⟩
        unfold idxLk; rw [this]; rfl
    · obtain rfl : k = l.length := by omega
      go_wp2
      go_ret
      refine ⟨?_, hB.out⟩
      have : l.findIdx? (fun x => isLk x.k) = none := by
        rw [List.findIdx?_eq_none_iff]
        intro x hx
        obtain ⟨j, hj, rfl⟩ := List.getElem_of_mem hx
        exact HN.out j hj hj
      unfold idxLk; rw [this]; rfl

set_option maxHeartbeats 1000000 in
theorem index_18 (w : World) (v : Value) (l : List Ac) (hn : l.length ≤ 10000) (hs : SlA w v l) :
    Calls Ybad.prog 35 #[v, .func (.func 18) #[] #[]] w fun e w' => e = .returned (.int .i64 (idxLk l)) ∧ Below w.heap.size w w' := by
  obtain ⟨a, cap, rfl, hcap, hel⟩ := hs
  have HS := hid hel
  clear hel
  go_enter Ybad.func35, Ybad.ntmps35
  go_wp2
  go_loopw [8] (fun i wr => ∃ k : Nat, k ≤ l.length ∧ i = .int .i64 k ∧ (∀ j (hj : j < l.length), j < k → isLk l[j].k = false) ∧ Below w.heap.size w wr) (fun i _ => l.length - (intOf i).toNat)
  case atStart => exact ⟨0, Nat.zero_le _, rfl, fun j _ h => absurd h (by omega), Below.refl _ _⟩
  case round =>
    obtain ⟨k, hk, rfl, hno, hbel⟩ := hrel
    have HN := hid hno
    have hB := hid hbel
    have hsz := hbel.size
    clear hno hbel
    by_cases hlt : k < l.length
    · have hki : (k : Int) < (l.length : Int) := by omega
      obtain ⟨b, off, rfl, hbl, c0', c1', c2'⟩ := cells_at HS.out hlt hlt
      obtain ⟨c, hc⟩ : ∃ c, l[k] = c := ⟨_, rfl⟩
      rw [hc] at c0' c1' c2'
      have c0 : wr.cell? ⟨b, off + k * 3, none⟩ = some (.string c.k) := (hB.out.cell (p := ⟨b, off + k * 3, none⟩) hbl).trans c0'
      have c1 : wr.cell? ⟨b, off + k * 3 + 1, none⟩ = some (.int .i64 c.t) := (hB.out.cell (p := ⟨b, off + k * 3 + 1, none⟩) hbl).trans c1'
      have c2 : wr.cell? ⟨b, off + k * 3 + 2, none⟩ = some (.string c.it) := (hB.out.cell (p := ⟨b, off + k * 3 + 2, none⟩) hbl).trans c2'
      clear c0' c1' c2'
      have HP := hid (pred_any 18 (.inr rfl) c)
      obtain ⟨r, hr⟩ : ∃ r, isLk c.k = r := ⟨_, rfl⟩
      rw [hr] at HP
      have HR := hid hr
      have HC := hid hc
      clear hr hc
      cases r
      · go_wp2_with (go_at_call 18; refine Calls.mono (HP.out _) ?_; rintro e w' ⟨rfl, rfl⟩)
        go_roundw
        case rel =>
          refine ⟨k + 1, by omega, by go_num, fun j hj hjk => ?_, hB.out.alloc hsz _⟩
          rcases Nat.lt_or_ge j k with h | h
          · exact HN.out j hj h
          · obtain rfl : j = k := by omega
            rw [HC.out]; exact HR.out
        case measure => simp [intOf]; omega
      · go_wp2_with (go_at_call 18; refine Calls.mono (HP.out _) ?_; rintro e w' ⟨rfl, rfl⟩)
        go_ret
        refine ⟨?_, hB.out.alloc hsz _⟩
        have : l.findIdx? (fun x => isLk x.k) = some k := by
          rw [List.findIdx?_eq_some_iff_getElem]
          exact ⟨hlt, by rw [HC.out]; exact HR.out, fun j hj => by simpa using HN.out j (by omega) hj⟩
        unfold idxLk; rw [this]; rfl
    · obtain rfl : k = l.length := by omega
      go_wp2
      go_ret
      refine ⟨?_, hB.out⟩
      have : l.findIdx? (fun x => isLk x.k) = none := by
        rw [List.findIdx?_eq_none_iff]
        intro x hx
        obtain ⟨j, hj, rfl⟩ := List.getElem_of_mem hx
        exact HN.out j hj hj
      unfold idxLk; rw [this]; rfl

set_option maxHeartbeats 1000000 in
theorem contains_any (w : World) (v : Value) (l : List Ac) (hn : l.length ≤ 10000) (hs : SlA w v l) :
    Calls Ybad.prog 13 #[v, .func (.func 14) #[] #[]] w fun e w' => e = .returned (.bool (decide (0 ≤ idxLk l))) ∧ Below w.heap.size w w' := by
  have HI := hid (index_14 w v l hn hs)
  obtain ⟨z, hz⟩ : ∃ z, idxLk l = z := ⟨_, rfl⟩
  rw [hz] at HI ⊢
  clear hz
  obtain ⟨a, cap, rfl, _, _⟩ := hs
  go_enter Ybad.func13, Ybad.ntmps13
  go_wp2_with fail
  refine Calls.mono HI.out ?_
  rintro e w' ⟨rfl, hb⟩
  go_wp2
  go_ret
  exact ⟨rfl, hb⟩

/-- No lock action: nothing is left out. -/
theorem filter_none {l : List Ac} (h : ¬ 0 ≤ idxLk l) : l.filter (fun x => !isLk x.k) = l := by
  unfold idxLk at h
  split at h
  · omega
  · rename_i e
    rw [List.findIdx?_eq_none_iff] at e
    rw [List.filter_eq_self]
    intro a ha
    simpa using e a ha

section
variable {ops : Array Oper} {rest : List Oper} {Q : Exit → Act → World → Prop} {a : Act} {w : World} {tt : TypeId} {ps : String} {dst : Option Tmp} {aft : Array Edge}

/-- 'append([]Action{}, s...)' -/
theorem apAll {t u : Tmp} (base : Nat) (v : Value) (ad : Addr) (cap : Nat) (l : List Ac) (hs : a.eval (.tmp t) = v) (hx : a.eval (.tmp u) = .slice (some ad) l.length cap)
    (hown : w.ownsRow base 34 3 v 0 []) (hel : Els w 3 (some ad) l.length fun i => (l.getD i ⟨⟨#[]⟩, 0, ⟨#[]⟩⟩).cells) (hl : 0 < l.length) (hn : l.length ≤ 100000) (hb : base ≤ w.heap.size)
    (hK : ∀ g cap w', w'.ownsRow base 34 3 (.slice (some ⟨g, 0, none⟩) l.length cap) l.length (rowA l) → w.grownBy w' v.ownBlock → wpList Ybad.prog ops Q rest (a.put dst (.slice (some ⟨g, 0, none⟩) l.length cap)) w') :
    wpList Ybad.prog ops Q ({ dst := dst, op := .call { callee := .builtin .append, args := #[.tmp t, .tmp u], argTypes := #[24, 24] }, type := tt, pos := ps, after := aft, guard := none } :: rest) a w := by
  obtain ⟨ie, hie, hz, hsz, hb2⟩ := info_parts Ybad.E24.info
  refine wpList_append_lies w rfl (.tmp t) (.tmp u) 24 rfl base 34 ie _ 3 40 Ybad.underlying24 hie hz hsz hb2 rfl (by decide) v 0 [] hs hown ad l.length cap (rowA l) hx (rowA_length l) ?_ ?_ hl (by unfold maxLen; omega) (by omega) hb _ rfl ?_
  · intro j u hj
    have hj3 : j < l.length * 3 := by rw [← rowA_length]; exact (List.getElem?_eq_some_iff.1 hj).1
    obtain ⟨b, off, h1, h2, h3⟩ := hel (j / 3) (by omega)
    cases h1
    have h4 := h3 (j % 3) u (by
      have hi : j / 3 < l.length := by omega
      have := rowA_get l (j / 3) hi
      have e : l.getD (j / 3) ⟨⟨#[]⟩, 0, ⟨#[]⟩⟩ = l[j / 3] := by simp [List.getD_eq_getElem?_getD, List.getElem?_eq_getElem hi]
      dsimp only
      rw [e, ← this, List.getElem?_take_of_lt (by omega), List.getElem?_drop, show j / 3 * 3 + j % 3 = j from by omega]
      exact hj)
    rw [Addr.add_mid]
    rw [show off + j / 3 * 3 + j % 3 = off + j from by omega] at h4
    exact h4
  · intro u hu
    obtain ⟨c, _, hc⟩ := List.mem_flatMap.1 hu
    exact c.one u hc
  · intro g cap w' h1 h2 _ _
    rw [Nat.zero_add] at h1 ⊢
    exact hK g cap w' (by simpa using h1) h2
end

end Go.Proofs.YbulkbgasDoor

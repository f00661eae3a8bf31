import Derived.Test.YbulkbgasDoorCf
namespace Go.Proofs.YbulkbgasDoor
open Go.RowKit Go.Maps
set_option linter.unusedVariables false

open Classical in
/-- Where a lies in l, as a map from elements to places holds it. -/
noncomputable def loc {α : Type} (l : List α) (a : α) : Option Int := if a ∈ l then some (ix l a : Int) else none
theorem loc_mem {α : Type} {l : List α} {a : α} (h : a ∈ l) : loc l a = some (ix l a : Int) := by unfold loc; rw [if_pos h]
theorem loc_not {α : Type} {l : List α} {a : α} (h : a ∉ l) : loc l a = none := by unfold loc; rw [if_neg h]
theorem loc_put {α : Type} [DecidableEq α] {l : List α} {a : α} (h : a ∉ l) {n : Int} (hn : n = l.length) : (fun j => if j = a then some n else loc l j) = loc (l ++ [a]) := by
  funext j
  by_cases e : j = a
  · subst e
    rw [if_pos rfl, loc_mem (by simp), ix_new h, hn]
  · rw [if_neg e]
    by_cases hm : j ∈ l
    · rw [loc_mem hm, loc_mem (List.mem_append_left _ hm), ix_append hm]
    · rw [loc_not hm, loc_not (by simp [hm, e])]

theorem accN_length_le (tx : List Int) (l : List Ac) : ∀ n, (accN tx l n).length ≤ n
  | 0 => Nat.le_refl _
  | n + 1 => by
    have := accN_length_le tx l n
    rw [accN, List.length_append]
    split
    · split <;> simp <;> omega
    · simp; omega
theorem itemsOf_length_le (l : List Ac) : (itemsOf l).length ≤ l.length := by
  suffices ∀ n, (itemsOf (l.take n)).length ≤ n by have := this l.length; rwa [List.take_length] at this
  intro n
  induction n with
  | zero => simp [itemsOf]
  | succ n ih =>
    rcases Nat.lt_or_ge n l.length with h | h
    · rw [List.take_succ_eq_append_getElem h, itemsOf_snoc]
      split
      · simp; omega
      · omega
    · rw [List.take_of_length_le (by omega)]; rw [List.take_of_length_le (by omega)] at ih; omega

theorem MapF.isMap {k : TypeId} {ι : Type} {F : KeyFam k ι} {W : World} {R : Value → Option (DataW Unit × List MemPlace)} {b n sz : Nat} {m : ι → Option (DataW Unit)} (h : MapF F W R b n sz m) : ∃ es c, W.heap[b]? = some (.map es c) := by
  obtain ⟨D, ⟨es, c, h1, _⟩, _⟩ := h
  exact ⟨es, c, h1⟩
theorem own_not_map {w : World} {base : Nat} {v : Value} {n : Nat} {xs : List Value} {e g : Nat} {size : Nat} {es : Array MapEntry} {c : Nat} (h : w.ownsRow base e size v n xs) (hg : w.heap[g]? = some (.map es c)) : some g ≠ v.ownBlock := by
  rcases h.2 with ⟨rfl, _⟩ | ⟨g', cap, cur, rfl, hb, hh, _⟩
  · simp [Value.ownBlock]
  · intro e'
    simp [Value.ownBlock] at e'
    subst e'
    rw [hg] at hh
    cases hh
theorem own_ge {w : World} {base : Nat} {v : Value} {n : Nat} {xs : List Value} {e : Nat} {size : Nat} (h : w.ownsRow base e size v n xs) {k : Nat} (hk : v.ownBlock = some k) : base ≤ k := by
  rcases h.2 with ⟨rfl, _⟩ | ⟨g', cap, cur, rfl, hb, hh, _⟩
  · simp [Value.ownBlock] at hk
  · simp [Value.ownBlock] at hk; omega

theorem grownBy_setCell'' (W : World) (b j : Nat) (v : Value) : W.grownBy (W.setCell ⟨b, j, none⟩ v) (some b) :=
  ⟨rfl, rfl, rfl, by simp [World.setCell], fun k _ hk => heap_setCell_other W _ k v (fun e => hk (by rw [e]))⟩

/-- How it stands while newConflictsAmong is at its k-th action. -/
structure CfSt (w wr : World) (vt : Value) (tx : List Int) (l : List Ac) (k : Nat) (va : Value) (mW : Nat × Nat → Option Bool) : Prop where
  box : wr.heap[w.heap.size]? = some (.cells #[vt, .int .i64 0, va] 63 (0, 0))
  plc : MapI F32 wr (w.heap.size + 1) tx.length tx.length (loc tx)
  itm : MapI F9 wr (w.heap.size + 2) k (itemsOf (l.take k)).length (loc (itemsOf (l.take k)))
  wrt : ∃ sz, MapB F98 wr (w.heap.size + 3) k sz mW
  own : wr.ownsRow w.heap.size 100 4 va (accN tx l k).length (rowX (accN tx l k))
  bel : Below w.heap.size w wr
  hw : ∀ i x (hi : i < (itemsOf (l.take k)).length) (hx : x < tx.length), (mW (i, x)).getD false = wrOf (l.take k) tx[x] (itemsOf (l.take k))[i]
  hn : ∀ i x, (itemsOf (l.take k)).length ≤ i → mW (i, x) = none

section
variable {w wr : World} {vt : Value} {tx : List Int} {l : List Ac} {k : Nat} {va : Value} {mW : Nat × Nat → Option Bool}
theorem CfSt.lt (h : CfSt w wr vt tx l k va mW) : w.heap.size + 3 < wr.heap.size := by obtain ⟨sz, h1⟩ := h.wrt; exact MapF.lt h1
theorem CfSt.c2 (h : CfSt w wr vt tx l k va mW) : wr.cell? ⟨w.heap.size, 2, none⟩ = some va := by rw [cell_of_row _ _ _ _ _ _ h.box]; rfl
theorem CfSt.f2 (h : CfSt w wr vt tx l k va mW) (j : Nat) : wr.frozen? ⟨w.heap.size, j, none⟩ = false := frozen_of_row _ _ _ _ _ h.box
theorem CfSt.alloc (h : CfSt w wr vt tx l k va mW) (o : Obj) : CfSt w (wr.alloc o) vt tx l k va mW := by
  have hlt := h.lt
  obtain ⟨sz, h1⟩ := h.wrt
  exact ⟨(Below.heap_alloc _ _ _ (by omega)).trans h.box, MapF.alloc h.plc o, MapF.alloc h.itm o, ⟨sz, MapF.alloc h1 o⟩, h.own.alloc o, h.bel.alloc (by omega) o, h.hw, h.hn⟩

/-- An action that touches no item. -/
theorem CfSt.skip (h : CfSt w wr vt tx l k va mW) (hk : k < l.length) (ht : tch l[k].k = false) : CfSt w wr vt tx l (k + 1) va mW := by
  have e1 : itemsOf (l.take (k + 1)) = itemsOf (l.take k) := by
    rw [List.take_succ_eq_append_getElem hk, itemsOf_snoc, if_neg (by simp [ht])]
  have e2 : accN tx l (k + 1) = accN tx l k := by rw [accN_succ hk, ht]; simp
  have e3 : ∀ t it, wrOf (l.take (k + 1)) t it = wrOf (l.take k) t it := fun t it => by
    rw [List.take_succ_eq_append_getElem hk, wrOf_snoc]
    have : isW l[k].k = false := by unfold tch at ht; unfold isW; simp at ht ⊢; exact ht.2
    rw [this]; simp
  obtain ⟨sz, h1⟩ := h.wrt
  refine ⟨h.box, h.plc, ?_, ⟨sz, MapF.few h1 (Nat.le_succ _)⟩, by rw [e2]; exact h.own, h.bel, ?_, ?_⟩
  · rw [e1]; exact MapF.few h.itm (Nat.le_succ _)
  · intro i x hi hx
    have hi' : i < (itemsOf (l.take k)).length := by rw [← e1]; exact hi
    rw [e3, h.hw i x hi' hx]
    simp only [e1]
  · intro i x hi; exact h.hn i x (by rw [← e1]; exact hi)

/-- The item's number. -/
theorem CfSt.item_now (hk : k < l.length) (ht : tch l[k].k = true) : l[k].it ∈ itemsOf (l.take (k + 1)) := by
  rw [List.take_succ_eq_append_getElem hk, itemsOf_snoc]
  by_cases hm : l[k].it ∈ itemsOf (l.take k)
  · rw [if_neg (by simp [hm])]; exact hm
  · rw [if_pos ⟨ht, hm⟩]; simp

theorem CfSt.old (hk : k < l.length) (hm : l[k].it ∈ itemsOf (l.take k)) : itemsOf (l.take (k + 1)) = itemsOf (l.take k) := by
  rw [List.take_succ_eq_append_getElem hk, itemsOf_snoc, if_neg (by simp [hm])]
theorem CfSt.new (hk : k < l.length) (ht : tch l[k].k = true) (hm : l[k].it ∉ itemsOf (l.take k)) : itemsOf (l.take (k + 1)) = itemsOf (l.take k) ++ [l[k].it] := by
  rw [List.take_succ_eq_append_getElem hk, itemsOf_snoc, if_pos ⟨ht, hm⟩]
end

/-- .. with the item's number known. -/
structure CfMid (w wr : World) (vt : Value) (tx : List Int) (l : List Ac) (k : Nat) (va : Value) (mW : Nat × Nat → Option Bool) : Prop where
  box : wr.heap[w.heap.size]? = some (.cells #[vt, .int .i64 0, va] 63 (0, 0))
  plc : MapI F32 wr (w.heap.size + 1) tx.length tx.length (loc tx)
  itm : MapI F9 wr (w.heap.size + 2) (k + 1) (itemsOf (l.take (k + 1))).length (loc (itemsOf (l.take (k + 1))))
  wrt : ∃ sz, MapB F98 wr (w.heap.size + 3) k sz mW
  own : wr.ownsRow w.heap.size 100 4 va (accN tx l k).length (rowX (accN tx l k))
  bel : Below w.heap.size w wr
  hw : ∀ i x (hi : i < (itemsOf (l.take (k + 1))).length) (hx : x < tx.length), (mW (i, x)).getD false = wrOf (l.take k) tx[x] (itemsOf (l.take (k + 1)))[i]
  hn : ∀ i x, (itemsOf (l.take (k + 1))).length ≤ i → mW (i, x) = none

section
variable {w wr : World} {vt : Value} {tx : List Int} {l : List Ac} {k : Nat} {va : Value} {mW : Nat × Nat → Option Bool}
theorem CfMid.lt (h : CfMid w wr vt tx l k va mW) : w.heap.size + 3 < wr.heap.size := by obtain ⟨sz, h1⟩ := h.wrt; exact MapF.lt h1
theorem CfMid.alloc (h : CfMid w wr vt tx l k va mW) (o : Obj) : CfMid w (wr.alloc o) vt tx l k va mW := by
  have hlt := h.lt
  obtain ⟨sz, h1⟩ := h.wrt
  exact ⟨(Below.heap_alloc _ _ _ (by omega)).trans h.box, MapF.alloc h.plc o, MapF.alloc h.itm o, ⟨sz, MapF.alloc h1 o⟩, h.own.alloc o, h.bel.alloc (by omega) o, h.hw, h.hn⟩
theorem CfSt.mid_old (h : CfSt w wr vt tx l k va mW) (hk : k < l.length) (hm : l[k].it ∈ itemsOf (l.take k)) : CfMid w wr vt tx l k va mW := by
  have e := CfSt.old hk hm
  refine ⟨h.box, h.plc, by rw [e]; exact MapF.few h.itm (Nat.le_succ _), h.wrt, h.own, h.bel, fun i x hi hx => ?_, fun i x hi => h.hn i x (by rw [← e]; exact hi)⟩
  rw [h.hw i x (by rw [← e]; exact hi) hx]
  simp only [e]
theorem CfSt.mid_new (h : CfSt w wr vt tx l k va mW) (hk : k < l.length) (ht : tch l[k].k = true) (hm : l[k].it ∉ itemsOf (l.take k)) {w1 : World}
    (h1 : MapI F9 w1 (w.heap.size + 2) (k + 1) ((itemsOf (l.take k)).length + 1) (fun j => if j = l[k].it then some ((itemsOf (l.take k)).length : Int) else loc (itemsOf (l.take k)) j)) (hg : wr.grownBy w1 (some (w.heap.size + 2))) : CfMid w w1 vt tx l k va mW := by
  have e := CfSt.new hk ht hm
  have hlt := h.lt
  obtain ⟨sz, h2⟩ := h.wrt
  obtain ⟨es, c, hmap⟩ := MapF.isMap h.itm
  rw [loc_put hm rfl] at h1
  refine ⟨(hg.block _ (by omega) (by simp)).trans h.box, MapF.kept h.plc hg (by simp), by rw [e, List.length_append]; exact h1, ⟨sz, MapF.kept h2 hg (by simp)⟩, h.own.kept hg (.inr (own_not_map h.own hmap).symm), h.bel.grown hg (by omega) (fun j ej => by cases ej; omega), fun i x hi hx => ?_, fun i x hi => h.hn i x (by rw [e] at hi; simp at hi; omega)⟩
  have hi' : i < (itemsOf (l.take k)).length + 1 := by have := hi; rw [e] at this; simpa using this
  rcases Nat.lt_or_ge i (itemsOf (l.take k)).length with h3 | h3
  · rw [h.hw i x h3 hx]
    simp only [e, List.getElem_append_left h3]
  · rw [h.hn i x h3]
    obtain rfl : i = (itemsOf (l.take k)).length := by omega
    have : (itemsOf (l.take (k + 1)))[(itemsOf (l.take k)).length]'hi = l[k].it := by simp only [e]; rw [List.getElem_append_right (Nat.le_refl _)]; simp
    rw [this]
    cases hv : wrOf (l.take k) tx[x] l[k].it
    · rfl
    · exact absurd (wrOf_mem hv) hm

theorem CfMid.ownC (h : CfMid w wr vt tx l k va mW) {wC : World} {o98 : Obj} (hgC : (wr.alloc o98).grownBy wC (some (w.heap.size + 3))) : wC.ownsRow w.heap.size 100 4 va (accN tx l k).length (rowX (accN tx l k)) ∧ w.heap.size ≤ wC.heap.size := by
  have h1 := h.alloc o98
  have hlt1 := h1.lt
  obtain ⟨sz1, wrt1⟩ := h1.wrt
  obtain ⟨es, c, hmap⟩ := MapF.isMap wrt1
  exact ⟨h1.own.kept hgC (.inr (own_not_map h1.own hmap).symm), by have := hgC.size; omega⟩

theorem CfMid.cellC (h : CfMid w wr vt tx l k va mW) {wC : World} {o98 : Obj} (hgC : (wr.alloc o98).grownBy wC (some (w.heap.size + 3))) : wC.cell? ⟨w.heap.size, 2, none⟩ = some va := by
  have h1 := h.alloc o98
  have hlt1 := h1.lt
  have boxC : wC.heap[w.heap.size]? = some (.cells #[vt, .int .i64 0, va] 63 (0, 0)) := (hgC.block _ (by omega) (by simp)).trans h1.box
  rw [cell_of_row _ _ _ _ _ _ boxC]; rfl

/-- The access is laid down. -/
theorem CfMid.done (h : CfMid w wr vt tx l k va mW) (hk : k < l.length) (ht : tch l[k].k = true) (hnd : tx.Nodup) (hmt : l[k].t ∈ tx) {wC wE : World} {o98 o100 : Obj} {sz : Nat} {v' : Value}
    (hC : MapB F98 wC (w.heap.size + 3) (k + 1) sz (fun j => if j = (ix (itemsOf (l.take (k + 1))) l[k].it, ix tx l[k].t) then some (wrOf (l.take (k + 1)) l[k].t l[k].it) else mW j)) (hgC : (wr.alloc o98).grownBy wC (some (w.heap.size + 3)))
    (hE : wE.ownsRow w.heap.size 100 4 v' ((accN tx l k).length + 1) (rowX (accN tx l k) ++ (Acc.mk (ix tx l[k].t) (ix (itemsOf (l.take (k + 1))) l[k].it) k (wrOf (l.take (k + 1)) l[k].t l[k].it)).cells)) (hgE : (wC.alloc o100).grownBy wE va.ownBlock) :
    wE.cell? ⟨w.heap.size, 2, none⟩ = some va ∧ wE.frozen? ⟨w.heap.size, 2, none⟩ = false ∧ Hid (∃ mW', CfSt w (wE.setCell ⟨w.heap.size, 2, none⟩ v') vt tx l (k + 1) v' mW') := by
  have hlt := h.lt
  have h1 := h.alloc o98
  have hlt1 := h1.lt
  have boxC : wC.heap[w.heap.size]? = some (.cells #[vt, .int .i64 0, va] 63 (0, 0)) := (hgC.block _ (by omega) (by simp)).trans h1.box
  have plcC : MapI F32 wC _ _ _ _ := MapF.kept h1.plc hgC (by simp)
  have itmC : MapI F9 wC _ _ _ _ := MapF.kept h1.itm hgC (by simp)
  obtain ⟨sz1, wrt1⟩ := h1.wrt
  obtain ⟨es, c, hmap⟩ := MapF.isMap wrt1
  have ownC : wC.ownsRow w.heap.size 100 4 va (accN tx l k).length (rowX (accN tx l k)) := h1.own.kept hgC (.inr (own_not_map h1.own hmap).symm)
  have belC : Below w.heap.size w wC := h1.bel.grown hgC (by omega) (fun j ej => by cases ej; omega)
  have hltC : w.heap.size + 3 < wC.heap.size := MapF.lt hC
  have boxD : (wC.alloc o100).heap[w.heap.size]? = some (.cells #[vt, .int .i64 0, va] 63 (0, 0)) := (Below.heap_alloc _ _ _ (by omega)).trans boxC
  have ownD := ownC.alloc o100
  have hneB : va.ownBlock ≠ some w.heap.size := own_apart ownD boxD (by decide)
  have boxE : wE.heap[w.heap.size]? = some (.cells #[vt, .int .i64 0, va] 63 (0, 0)) := (hgE.block _ (by simp; omega) (fun e => hneB e.symm)).trans boxD
  refine ⟨by rw [cell_of_row _ _ _ _ _ _ boxE]; rfl, frozen_of_row _ _ _ _ _ boxE, hid ?_⟩
  have kp : ∀ {b : Nat} {es : Array MapEntry} {c : Nat}, (wC.alloc o100).heap[b]? = some (.map es c) → some b ≠ va.ownBlock := fun hm => own_not_map ownD hm
  obtain ⟨e1, c1, m1⟩ := MapF.isMap (MapF.alloc plcC o100)
  obtain ⟨e2, c2, m2⟩ := MapF.isMap (MapF.alloc itmC o100)
  obtain ⟨e3, c3, m3⟩ := MapF.isMap (MapF.alloc hC o100)
  have hacc : accN tx l (k + 1) = accN tx l k ++ [Acc.mk (ix tx l[k].t) (ix (itemsOf (l.take (k + 1))) l[k].it) k (wrOf (l.take (k + 1)) l[k].t l[k].it)] := by rw [accN_succ hk, ht]; rfl
  refine ⟨_, ?_, MapF.setCell (MapF.kept (MapF.alloc plcC o100) hgE (kp m1)) (by simp) _, MapF.setCell (MapF.kept (MapF.alloc itmC o100) hgE (kp m2)) (by simp) _, ⟨sz, MapF.setCell (MapF.kept (MapF.alloc hC o100) hgE (kp m3)) (by simp) _⟩, ?_, ?_, ?_, ?_⟩
  · rw [heap_setCell_same _ _ _ _ _ _ boxE]; simp
  · rw [hacc, rowX_append, List.length_append]
    have := hE.kept (grownBy_setCell'' wE w.heap.size 2 v') (.inr (own_apart hE boxE (by decide)))
    simpa [rowX] using this
  · exact (((belC.alloc (by omega) _).grown hgE (by simp; omega) (fun j ej => own_ge ownD ej))).setCell (p := ⟨w.heap.size, 2, none⟩) (Nat.le_refl _) _
  · intro i x hi hx
    have hit : l[k].it ∈ itemsOf (l.take (k + 1)) := CfSt.item_now hk ht
    by_cases e : (i, x) = (ix (itemsOf (l.take (k + 1))) l[k].it, ix tx l[k].t)
    · rw [if_pos e]
      simp only [Prod.mk.injEq] at e
      obtain ⟨rfl, rfl⟩ := e
      rw [ix_get hit, ix_get hmt]
      rfl
    · have : ¬ (l[k].t = tx[x] ∧ l[k].it = (itemsOf (l.take (k + 1)))[i]) := fun ⟨q1, q2⟩ => e (by
        simp only [Prod.mk.injEq]
        exact ⟨by rw [q2, ix_nodup (itemsOf_nodup _) hi], by rw [q1, ix_nodup hnd hx]⟩)
      have hws : ∀ s0, ¬ (l[k].t = tx[x] ∧ l[k].it = s0) → wrOf (l.take (k + 1)) tx[x] s0 = wrOf (l.take k) tx[x] s0 := fun s0 hs => by
        rw [List.take_succ_eq_append_getElem hk, wrOf_snoc]; simp [hs]
      rw [if_neg e, h.hw i x hi hx, hws _ this]
  · intro i x hi
    have hit : l[k].it ∈ itemsOf (l.take (k + 1)) := CfSt.item_now hk ht
    have : ¬ (i, x) = (ix (itemsOf (l.take (k + 1))) l[k].it, ix tx l[k].t) := fun e => by
      simp only [Prod.mk.injEq] at e
      have := ix_lt hit
      omega
    rw [if_neg this]
    exact h.hn i x hi
end

end Go.Proofs.YbulkbgasDoor

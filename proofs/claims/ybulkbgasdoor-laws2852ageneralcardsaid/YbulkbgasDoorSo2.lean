import Derived.Test.YbulkbgasDoorSo
namespace Go.Proofs.YbulkbgasDoor
open Go.RowKit Go.Maps
set_option linter.unusedVariables false

theorem Ybad.E47 : ElemT 47 32 1 8 (.int .i64 0) := ⟨Ybad.underlying47, by kernel_rfl, rfl, by decide, by decide⟩
def rowT (l : List Int) : List Value := l.map fun x => Value.int .i64 x
theorem rowT_snoc (a : List Int) (c : Int) : rowT (a ++ [c]) = rowT a ++ [.int .i64 c] := by simp [rowT]
theorem rowT_length (l : List Int) : (rowT l).length = l.length := by simp [rowT]
theorem SlI.of_own {W : World} {base : Nat} {v : Value} {l : List Int} (h : W.ownsRow base 32 1 v l.length (rowT l)) : SlI W v l := by
  obtain ⟨a, cap, h1, h2, h3⟩ := els_own h
  refine ⟨a, cap, h1, h2, fun i hi => ?_⟩
  obtain ⟨b, e1, e2, e3, e4⟩ := h3 i hi
  refine ⟨b, 0, e1, e3, ?_⟩
  have : ((rowT l).drop (i * 1)).take 1 = [.int .i64 (l.getD i 0)] := by
    rw [Nat.mul_one, List.drop_eq_getElem_cons (by rw [rowT_length]; exact hi)]
    simp [rowT, List.getD_eq_getElem?_getD, List.getElem?_eq_getElem hi]
  rw [this] at e4
  simpa using e4

/-! ### How it stands in serialOrder -/
structure SoA (w wr : World) (n : Nat) (D : Nat → Int) : Prop where
  fx : Fix wr w.heap.size 3 n (fun j => .int .i64 (D j))
  sz : wr.heap.size = w.heap.size + 1
  bel : Below w.heap.size w wr
structure SoB (w wr : World) (n : Nat) (D : Nat → Int) (H : List Nat) (vH : Value) : Prop where
  fx : Fix wr w.heap.size 3 n (fun j => .int .i64 (D j))
  hp : Hp wr (w.heap.size + 1) (w.heap.size + 2) H vH
  bel : Below w.heap.size w wr
structure SoC (w wr : World) (n : Nat) (D : Nat → Int) (H : List Nat) (vH : Value) (T : List Int) (vO : Value) : Prop where
  st : SoB w wr n D H vH
  ord : wr.ownsRow (w.heap.size + 2) 32 1 vO T.length (rowT T)
section
variable {w wr w' : World} {n : Nat} {D : Nat → Int} {H : List Nat} {vH : Value} {T : List Int} {vO : Value}
theorem upd_updL (D : Nat → Int) (j : Nat) (x : Int) (i : Nat) : upd (fun j => Value.int .i64 (D j)) j (.int .i64 x) i = .int .i64 (updL D j x i) := by unfold upd updL; split <;> rfl
theorem SoA.setD (h : SoA w wr n D) {j : Nat} (hj : j < n) (x : Int) : SoA w (wr.setCell ⟨w.heap.size, j, none⟩ (.int .i64 x)) n (updL D j x) :=
  ⟨(h.fx.set hj _).congr fun i _ => upd_updL D j x i, by simpa using h.sz, h.bel.setCell (p := ⟨w.heap.size, j, none⟩) (by simp) _⟩
theorem SoA.begin (h : SoA w wr n D) : SoB w (wr.alloc (.cells #[.slice none 0 0] 115)) n D [] (.slice none 0 0) :=
  ⟨h.fx.alloc _, ⟨alloc_at h.sz, World.ownsRow_nil _ _ _ _⟩, h.bel.alloc (by have := h.sz; omega) _⟩
theorem SoB.lt (h : SoB w wr n D H vH) : w.heap.size + 1 < wr.heap.size := h.hp.lt
theorem SoB.setD (h : SoB w wr n D H vH) {j : Nat} (hj : j < n) (x : Int) : SoB w (wr.setCell ⟨w.heap.size, j, none⟩ (.int .i64 x)) n (updL D j x) H vH := by
  refine ⟨(h.fx.set hj _).congr fun i _ => upd_updL D j x i, ⟨?_, h.hp.own.kept (grownBy_setCell'' wr w.heap.size j _) (.inr fun e => ?_)⟩, h.bel.setCell (p := ⟨w.heap.size, j, none⟩) (by simp) _⟩
  · rw [heap_setCell_other _ _ _ _ (by show _ ≠ _; simp)]; exact h.hp.box
  · have := own_ge h.hp.own e; omega
theorem SoC.setD (h : SoC w wr n D H vH T vO) {j : Nat} (hj : j < n) (x : Int) : SoC w (wr.setCell ⟨w.heap.size, j, none⟩ (.int .i64 x)) n (updL D j x) H vH T vO :=
  ⟨h.st.setD hj x, h.ord.kept (grownBy_setCell'' wr w.heap.size j _) (.inr fun e => by have := own_ge h.ord e; omega)⟩
theorem SoB.to (h : SoB w wr n D H vH) {H' : List Nat} {vH' : Value} (t : HpTo (w.heap.size + 1) (w.heap.size + 2) wr vH w' H' vH') : SoB w w' n D H' vH' := by
  have hlt := h.lt
  have hge : ∀ g, g < w.heap.size + 2 → vH.ownBlock ≠ some g := fun g hg e => by have := own_ge h.hp.own e; omega
  refine ⟨(t.kept.block w.heap.size (by omega) (by omega) (hge _ (by omega))).trans h.fx, t.hp, h.bel.trans ⟨t.kept.os, t.kept.tape, t.kept.output, t.kept.size, fun k hk => t.kept.block k (by omega) (by omega) (hge _ (by omega))⟩⟩
theorem own_of_block {base e k m : Nat} {v : Value} {xs : List Value} (h : wr.ownsRow base e k v m xs) (hb : ∀ g, v.ownBlock = some g → w'.heap[g]? = wr.heap[g]?) : w'.ownsRow base e k v m xs := by
  refine ⟨h.1, ?_⟩
  rcases h.2 with h1 | ⟨g, cap, cur, h1, h2, h3, h4⟩
  · exact .inl h1
  · exact .inr ⟨g, cap, cur, h1, h2, (hb g (by rw [h1]; rfl)).trans h3, h4⟩
theorem SoC.to (h : SoC w wr n D H vH T vO) {H' : List Nat} {vH' : Value} (t : HpTo (w.heap.size + 1) (w.heap.size + 2) wr vH w' H' vH') : SoC w w' n D H' vH' T vO := by
  refine ⟨h.st.to t, own_of_block h.ord fun g hg => ?_⟩
  have h1 := own_ge h.ord hg
  have h2 := (h.ord.lt g hg).2
  refine t.kept.block g h2 (by omega) (fun e => ?_)
  rcases h.ord.2 with ⟨e1, _⟩ | ⟨g', cap, cur, e1, _, e3, _⟩
  · rw [e1] at hg; simp [Value.ownBlock] at hg
  · rw [e1] at hg
    obtain rfl : g' = g := by simpa [Value.ownBlock] using hg
    exact own_apart h.st.hp.own e3 (by decide) e
theorem SoC.ap (h : SoC w wr n D H vH T vO) {wE : World} {g cap : Nat} {x : Int} (o : Obj) (ho : wE.ownsRow (w.heap.size + 2) 32 1 (.slice (some ⟨g, 0, none⟩) (T.length + 1) cap) (T.length + 1) (rowT T ++ [.int .i64 x])) (hg : (wr.alloc o).grownBy wE vO.ownBlock) :
    SoC w wE n D H vH (T ++ [x]) (.slice (some ⟨g, 0, none⟩) (T.length + 1) cap) := by
  have hlt := h.st.lt
  have hge : ∀ k, k < w.heap.size + 2 → some k ≠ vO.ownBlock := fun k hk e => by have := own_ge h.ord e.symm; omega
  have hb : ∀ k, k < wr.heap.size → some k ≠ vO.ownBlock → wE.heap[k]? = wr.heap[k]? := fun k hk hne => (hg.block k (by simp; omega) hne).trans (Below.heap_alloc _ _ _ hk)
  have hsz := hg.size
  simp only [World.size_alloc] at hsz
  refine ⟨⟨(hb _ (by omega) (hge _ (by omega))).trans h.st.fx, ⟨(hb _ (by omega) (hge _ (by omega))).trans h.st.hp.box, own_of_block h.st.hp.own fun k hk => ?_⟩, h.st.bel.trans ⟨hg.os, hg.tape, hg.output, by omega, fun k hk => hb k (by omega) (hge _ (by omega))⟩⟩, by rw [rowT_snoc, List.length_append]; exact ho⟩
  have hk2 := (h.st.hp.own.lt k hk).2
  refine hb k hk2 (fun e => ?_)
  rcases h.ord.2 with ⟨e1, _⟩ | ⟨g', cap, cur, e1, _, e3, _⟩
  · rw [e1] at e; simp [Value.ownBlock] at e
  · rw [e1] at e
    obtain rfl : k = g' := by simpa [Value.ownBlock] using e
    exact own_apart h.st.hp.own e3 (by decide) hk
theorem SoB.make (h : SoB w wr n D H vH) {w2 : World} {g c : Nat} (ho : w2.ownsRow (w.heap.size + 2) 32 1 (.slice (some ⟨g, 0, none⟩) 0 c) 0 []) (hg : wr.grownBy w2 none) : SoC w w2 n D H vH [] (.slice (some ⟨g, 0, none⟩) 0 c) := by
  have hlt := h.lt
  refine ⟨⟨(hg.block _ (by omega) (by simp)).trans h.fx, ⟨(hg.block _ (by omega) (by simp)).trans h.hp.box, own_of_block h.hp.own fun k hk => hg.block k ((h.hp.own.lt k hk).2) (by simp)⟩, h.bel.trans ⟨hg.os, hg.tape, hg.output, hg.size, fun k hk => hg.block k (by omega) (by simp)⟩⟩, ho⟩
end

theorem degTo_le {X : Nat → List Nat} {r L : Nat} (h : ∀ i, i < r → (X i).length ≤ L) (j : Nat) : 0 ≤ degTo X r j ∧ degTo X r j ≤ (r : Int) * L := by
  induction r with
  | zero => simp [degTo]
  | succ r ih =>
    have h1 := ih (fun i hi => h i (by omega))
    have h2 : (X r).count j ≤ L := Nat.le_trans List.count_le_length (h r (by omega))
    rw [degTo_succ, show ((r + 1 : Nat) : Int) * L = (r : Int) * L + L by rw [Int.natCast_add, Int.add_mul]; simp]
    omega
theorem count_take_succ {l : List Nat} {t : Nat} (h : t < l.length) (j : Nat) : ((l.take (t + 1)).count j : Int) = (l.take t).count j + if l[t] = j then 1 else 0 := by
  rw [List.take_succ_eq_append_getElem h, List.count_append, List.count_singleton]
  by_cases e : l[t] = j <;> simp [e]
end Go.Proofs.YbulkbgasDoor

import Derived.Test.YbulkbgasDoorAl1
import Derived.Test.YbulkbgasDoorLc
import Derived.Test.YbulkbgasDoorLk2
import Derived.Test.YbulkbgasDoorDelB
namespace Go.Proofs.YbulkbgasDoor
open Go.RowKit Go.Maps
set_option linter.unusedVariables false
set_option linter.unusedSimpArgs false
attribute [local go_sem ↓] Go.wp_at_zero Go.wp_at_succ

structure AlS (w wr : World) (n Bm cnt : Nat) (vl vo : Value) (mt : Nat → Option Value) (v : Nat → Value) (X : Nat → List Nat) : Prop where
  box : wr.heap[w.heap.size]? = some (.cells #[vl, vo, .map (some Bm)] 57 (0, 0))
  mp : MapVal wr (w.heap.size + 1) cnt mt
  mv : ∀ t, t < n → (mt t).getD (.slice none 0 0) = v t
  fam : FamI wr (w.heap.size + 2) 3 1 n v X
  bel : Below w.heap.size w wr
  nb : n ≤ 1000
section
variable {w wr w' : World} {n Bm cnt : Nat} {vl vo : Value} {mt : Nat → Option Value} {v : Nat → Value} {X : Nat → List Nat}
theorem AlS.lt (h : AlS w wr n Bm cnt vl vo mt v X) : w.heap.size + 1 < wr.heap.size := h.mp.lt
theorem AlS.out {row : Option Nat} (h : AlS w wr n Bm cnt vl vo mt v X) (hg : wr.grownBy w' row) (hr : ∀ g, row = some g → w.heap.size + 2 ≤ g ∧ ∀ i, i < n → (v i).ownBlock ≠ some g) : AlS w w' n Bm cnt vl vo mt v X := by
  have hl := h.lt
  have hne : ∀ g, g < w.heap.size + 2 → some g ≠ row := fun g hgl e => by have := (hr g e.symm).1; omega
  exact ⟨(hg.block _ (by omega) (hne _ (by omega))).trans h.box, h.mp.kept hg (hne _ (by omega)), h.mv, h.fam.keptOut hg (fun i hi g e e2 => (hr g e2).2 i hi e), h.bel.grown hg (by omega) (fun g e => by have := (hr g e).1; omega), h.nb⟩
theorem AlS.alloc (h : AlS w wr n Bm cnt vl vo mt v X) (o : Obj) : AlS w (wr.alloc o) n Bm cnt vl vo mt v X := h.out (World.grownBy_alloc _ _ none) (fun g e => by cases e)
theorem AlS.drew (h : AlS w wr n Bm cnt vl vo mt v X) : AlS w wr.drew n Bm cnt vl vo mt v X := h.out (row := none) ⟨rfl, rfl, rfl, Nat.le_refl _, fun _ _ _ => rfl⟩ (fun g e => by cases e)
theorem AlS.drewN (h : AlS w wr n Bm cnt vl vo mt v X) (q : Nat) : AlS w (wr.drewN q) n Bm cnt vl vo mt v X := h.out (row := none) ⟨rfl, rfl, rfl, Nat.le_refl _, fun _ _ _ => rfl⟩ (fun g e => by cases e)
theorem AlS.pcell (h : AlS w wr n Bm cnt vl vo mt v X) {g j : Nat} {u : Value} (hg : g < w.heap.size) (hc : w.cell? ⟨g, j, none⟩ = some u) : wr.cell? ⟨g, j, none⟩ = some u := (h.bel.cell (p := ⟨g, j, none⟩) hg).trans hc
theorem AlS.look (h : AlS w wr n Bm cnt vl vo mt v X) {t : Nat} (ht : t < n) : (Instr.lookup 135 (.map (some (w.heap.size + 1))) (.int .i64 (t : Int)) false).run Ybad.prog wr = .ok (v t) wr := by
  have := h.mp.get (t := t) (by have := h.nb; omega)
  rw [h.mv t ht] at this
  exact this
theorem AlS.grown (h : AlS w wr n Bm cnt vl vo mt v X) {t : Nat} (ht : t < n) {w1 : World} (hg : wr.grownBy w1 (v t).ownBlock) : (∀ g j u, g < w.heap.size → w.cell? ⟨g, j, none⟩ = some u → w1.cell? ⟨g, j, none⟩ = some u) ∧ (Instr.lookup 135 (.map (some (w.heap.size + 1))) (.int .i64 (t : Int)) false).run Ybad.prog w1 = .ok (v t) w1 ∧ MapVal w1 (w.heap.size + 1) cnt mt := by
  have hl := h.lt
  have hge : ∀ g, (v t).ownBlock = some g → w.heap.size + 2 ≤ g := fun g e => own_ge (h.fam.own t ht) e
  have hb := h.bel.grown hg (by omega) (fun g e => by have := hge g e; omega)
  have hm := h.mp.kept hg (fun e => by have := hge _ e.symm; omega)
  refine ⟨fun g j u hgl hc => (hb.cell (p := ⟨g, j, none⟩) hgl).trans hc, ?_, hm⟩
  have := hm.get (t := t) (by have := h.nb; omega)
  rw [h.mv t ht] at this
  exact this
/-- After the append, and the map told. -/
theorem AlS.put (h : AlS w wr n Bm cnt vl vo mt v X) {t : Nat} (ht : t < n) {w1 w2 : World} {v1 : Value} {l : List Nat} (ho : w1.ownsRow (w.heap.size + 2) 3 1 v1 l.length (rowI l)) (hg : wr.grownBy w1 (v t).ownBlock) (hn : ∀ g, v1.ownBlock = some g → (v t).ownBlock = some g ∨ wr.heap.size ≤ g)
    (hm : MapVal w2 (w.heap.size + 1) (cnt + 1) (updL mt t (some v1))) (h2 : w1.grownBy w2 (some (w.heap.size + 1))) : AlS w w2 n Bm (cnt + 1) vl vo (updL mt t (some v1)) (updL v t v1) (updL X t l) := by
  have hl := h.lt
  have hge : ∀ g, (v t).ownBlock = some g → w.heap.size + 2 ≤ g := fun g e => own_ge (h.fam.own t ht) e
  have hs := hg.size
  refine ⟨?_, hm, fun t' ht' => ?_, (h.fam.turn ht ho hg hn).kept h2 (by omega), ?_, h.nb⟩
  · exact (h2.block _ (by omega) (by simp)).trans ((hg.block _ (by omega) (fun e => by have := hge _ e.symm; omega)).trans h.box)
  · unfold updL; split
    · rfl
    · exact h.mv t' ht'
  · exact (h.bel.grown hg (by omega) (fun g e => by have := hge g e; omega)).grown h2 (by omega) (fun g e => by cases e; omega)
end

def Cpy (wr : World) (B : Nat) (c : Acc) : Prop := wr.heap[B]? = some (.cells #[.int .i64 (c.x : Int), .int .i64 (c.i : Int), .int .i64 (c.p : Int), .bool c.w] 100 (0, 0))
section
variable {wr w' : World} {B : Nat} {c : Acc}
theorem Cpy.lt (h : Cpy wr B c) : B < wr.heap.size := (Array.getElem?_eq_some_iff.1 h).1
theorem Cpy.c0 (h : Cpy wr B c) : wr.cell? ⟨B, 0, none⟩ = some (.int .i64 (c.x : Int)) := by rw [cell_of_row _ _ _ _ _ _ h]; rfl
theorem Cpy.c1 (h : Cpy wr B c) : wr.cell? ⟨B, 1, none⟩ = some (.int .i64 (c.i : Int)) := by rw [cell_of_row _ _ _ _ _ _ h]; rfl
theorem Cpy.c2 (h : Cpy wr B c) : wr.cell? ⟨B, 2, none⟩ = some (.int .i64 (c.p : Int)) := by rw [cell_of_row _ _ _ _ _ _ h]; rfl
theorem Cpy.c3 (h : Cpy wr B c) : wr.cell? ⟨B, 3, none⟩ = some (.bool c.w) := by rw [cell_of_row _ _ _ _ _ _ h]; rfl
theorem Cpy.set (h : Cpy wr B c) {g : Nat} (hg : B ≠ g) (j : Nat) (u : Value) : Cpy (wr.setCell ⟨g, j, none⟩ u) B c := by unfold Cpy; rw [heap_setCell_other wr _ _ u (by show B ≠ g; exact hg)]; exact h
end
structure AlQ (w wr : World) (n Bm cnt : Nat) (vl vo : Value) (mt : Nat → Option Value) (v : Nat → Value) (X : Nat → List Nat) (Bp np : Nat) (F : Nat → Int) : Prop where
  st : AlS w wr n Bm cnt vl vo mt v X
  fx : Fix wr Bp 65 (np * 2) (fun j => .int .i64 (F j))
  top : ∀ i, i < n → ∀ g, (v i).ownBlock = some g → g < Bp
  ge : w.heap.size + 2 ≤ Bp
section
variable {w wr w' : World} {n Bm cnt : Nat} {vl vo : Value} {mt : Nat → Option Value} {v : Nat → Value} {X : Nat → List Nat} {Bp np : Nat} {F : Nat → Int}
theorem AlQ.out {row : Option Nat} (h : AlQ w wr n Bm cnt vl vo mt v X Bp np F) (hg : wr.grownBy w' row) (hr : ∀ g, row = some g → Bp < g) : AlQ w w' n Bm cnt vl vo mt v X Bp np F :=
  ⟨h.st.out hg (fun g e => ⟨by have := hr g e; have := h.ge; omega, fun i hi e2 => by have := hr g e; have := h.top i hi g e2; omega⟩), h.fx.grown hg (fun e => by have := hr _ e.symm; omega), h.top, h.ge⟩
theorem AlQ.alloc (h : AlQ w wr n Bm cnt vl vo mt v X Bp np F) (o : Obj) : AlQ w (wr.alloc o) n Bm cnt vl vo mt v X Bp np F := h.out (World.grownBy_alloc _ _ none) (fun g e => by cases e)
theorem AlQ.drewN (h : AlQ w wr n Bm cnt vl vo mt v X Bp np F) (q : Nat) : AlQ w (wr.drewN q) n Bm cnt vl vo mt v X Bp np F := h.out (row := none) ⟨rfl, rfl, rfl, Nat.le_refl _, fun _ _ _ => rfl⟩ (fun g e => by cases e)
theorem AlQ.congr {F' : Nat → Int} (h : AlQ w wr n Bm cnt vl vo mt v X Bp np F) (he : ∀ j, j < np * 2 → F j = F' j) : AlQ w wr n Bm cnt vl vo mt v X Bp np F' := ⟨h.st, h.fx.congr (fun j hj => by rw [he j hj]), h.top, h.ge⟩
theorem AlQ.setF (h : AlQ w wr n Bm cnt vl vo mt v X Bp np F) {k : Nat} (hk : k < np) (x y : Int) : AlQ w ((wr.setCell ⟨Bp, k * 2, none⟩ (.int .i64 x)).setCell ⟨Bp, k * 2 + 1, none⟩ (.int .i64 y)) n Bm cnt vl vo mt v X Bp np (upd2 F k x y) := by
  have g1 := gr_trans (gr_set wr Bp (k * 2) (.int .i64 x)) (gr_set _ Bp (k * 2 + 1) (.int .i64 y))
  refine ⟨h.st.out g1 (fun g e => by cases e; exact ⟨h.ge, fun i hi e2 => by have := h.top i hi _ e2; omega⟩), ((h.fx.set (j := k * 2) (by omega) _).set (j := k * 2 + 1) (by omega) _).congr fun j hj => ?_, h.top, h.ge⟩
  unfold upd
  dsimp only
  unfold upd2 updL
  by_cases e : j = k * 2 + 1
  · rw [if_pos e, if_pos e]
  · rw [if_neg e, if_neg e]
    by_cases e2 : j = k * 2
    · rw [if_pos e2, if_pos e2]
    · rw [if_neg e2, if_neg e2]
theorem AlQ.c0 (h : AlQ w wr n Bm cnt vl vo mt v X Bp np F) {k : Nat} (hk : k < np) : wr.cell? ⟨Bp, k * 2, none⟩ = some (.int .i64 (F (k * 2))) := h.fx.cell (j := k * 2) (by omega)
theorem AlQ.c1 (h : AlQ w wr n Bm cnt vl vo mt v X Bp np F) {k : Nat} (hk : k < np) : wr.cell? ⟨Bp, k * 2 + 1, none⟩ = some (.int .i64 (F (k * 2 + 1))) := h.fx.cell (j := k * 2 + 1) (by omega)
theorem AlQ.lt (h : AlQ w wr n Bm cnt vl vo mt v X Bp np F) : Bp < wr.heap.size := h.fx.lt
end
theorem Ybad.E26 : ElemT 26 67 8 96 (.agg #[.int .i64 0, .int .i64 0, .string ⟨#[]⟩, .int .i64 0, .string ⟨#[]⟩, .string ⟨#[]⟩, .int .i64 0, .string ⟨#[]⟩]) := ⟨Ybad.underlying26, by kernel_rfl, rfl, by decide, by decide⟩
/-- The arcs, so many of them laid. -/
theorem arcC_one (x y : Ac) : ∀ v ∈ arcC x y, v.oneCell' = true := by simp [arcC, Value.oneCell']
section
variable {ops : Array Oper} {rest : List Oper} {Q : Exit → Act → World → Prop} {a : Act} {w : World} {tt : TypeId} {ps : String} {dst : Option Tmp} {aft : Array Edge}
theorem st67 {t u : Tmp} (b o : Nat) (x y : Ac) (hx : a.eval (.tmp t) = .pointer (some ⟨b, o, none⟩)) (hy : a.eval (.tmp u) = .agg (arcC x y).toArray) (ht : w.there b o 8)
    (h : wpList Ybad.prog ops Q rest (a.put dst undef) (w.setCells b o (arcC x y))) : wpList Ybad.prog ops Q ({ dst := dst, op := .store 67 (.tmp t) (.tmp u), type := tt, pos := ps, after := aft, guard := none } :: rest) a w :=
  wpList_store_mid rfl 67 (.tmp t) (.tmp u) rfl b o (arcC x y).toArray hx hy ht Ybad.size67 (all_oneCell_toArray (arcC_one x y)) h
end
structure AlR (w wi : World) (Bp Ba np : Nat) (F : Nat → Int) (k : Nat) (Bf Cf : Nat → Ac) : Prop where
  bel : Below w.heap.size w wi
  fx : Fix wi Bp 65 (np * 2) (fun j => .int .i64 (F j))
  th : wi.there Ba 0 (np * 8)
  rg : ∀ i, i < k → wi.rangeAt Ba (i * 8) (arcC (Bf i) (Cf i))
  ge : w.heap.size ≤ Bp
  ne : Bp < Ba
  lt : Ba < wi.heap.size
section
variable {w wi w' : World} {Bp Ba np : Nat} {F : Nat → Int} {k : Nat} {Bf Cf : Nat → Ac}
theorem AlR.begin {wr : World} {n Bm cnt : Nat} {vl vo : Value} {mt : Nat → Option Value} {v : Nat → Value} {X : Nat → List Nat} (h : AlQ w wr n Bm cnt vl vo mt v X Bp np F) (z : Nat → Value) : AlR w (wr.alloc (.cells (rowF (np * 8) z) 67)) Bp wr.heap.size np F 0 Bf Cf := by
  have hb : Fix (wr.alloc (.cells (rowF (np * 8) z) 67)) wr.heap.size 67 (np * 8) z := heap_alloc_new _ _
  refine ⟨h.st.bel.alloc (by have := h.st.lt; omega) _, h.fx.alloc _, fun j hj => ⟨?_, ?_⟩, fun i hi => by omega, by have := h.ge; omega, h.lt, by simp⟩
  · rw [Nat.zero_add, hb.cell hj]; rfl
  · exact hb.free _
theorem AlR.below (h : AlR w wi Bp Ba np F k Bf Cf) (hb : Below wi.heap.size wi w') : AlR w w' Bp Ba np F k Bf Cf := by
  refine ⟨h.bel.trans (hb.mono h.bel.size), h.fx.below hb h.fx.lt, fun j hj => ⟨?_, ?_⟩, fun i hi => rangeAt_below (h.rg i hi) hb h.lt, h.ge, h.ne, Nat.lt_of_lt_of_le h.lt hb.size⟩
  · rw [hb.cell (p := ⟨Ba, 0 + j, none⟩) h.lt]; exact (h.th j hj).1
  · have := (h.th j hj).2
    have hk := hb.block Ba h.lt
    unfold World.frozen? at this ⊢
    simp only [hk]
    exact this
theorem AlR.alloc (h : AlR w wi Bp Ba np F k Bf Cf) (o : Obj) : AlR w (wi.alloc o) Bp Ba np F k Bf Cf := h.below ((Below.refl _ _).alloc (Nat.le_refl _) _)
theorem AlR.thk (h : AlR w wi Bp Ba np F k Bf Cf) (hk : k < np) : wi.there Ba (k * 8) 8 := fun j hj => by
  have hj8 : j < 8 := hj
  have := h.th (k * 8 + j) (by omega)
  rw [Nat.zero_add] at this
  exact this
theorem AlR.set (h : AlR w wi Bp Ba np F k Bf Cf) (hk : k < np) {a b : Ac} (ha : Bf k = a) (hb : Cf k = b) : AlR w (wi.setCells Ba (k * 8) (arcC a b)) Bp Ba np F (k + 1) Bf Cf := by
  have hg := setCells_grown Ba (arcC a b) (k * 8) wi
  refine ⟨h.bel.grown hg (by have := h.bel.size; omega) (fun g e => by cases e; have := h.ge; have := h.ne; omega), h.fx.grown hg (by have := h.ne; simp; omega), World.there_setCells h.th _ _ _, fun i hi => ?_, h.ge, h.ne, Nat.lt_of_lt_of_le h.lt hg.size⟩
  by_cases e : i = k
  · subst e
    rw [ha, hb]
    exact World.rangeAt_setCells_same wi Ba (i * 8) _ (h.thk hk)
  · exact World.rangeAt_setCells_apart (h.rg i (by omega)) Ba (k * 8) _ (.inr (.inl (by show i * 8 + 8 ≤ k * 8; omega)))
end
theorem MapI.lookOk {W : World} {b n sz : Nat} {m : Nat × Nat → Option Int} (h : MapI F98 W b n sz m) {i x : Nat} (hi : i ≤ 1000000) (hx : x ≤ 1000000) : (Instr.lookup 55 (.map (some b)) (.agg #[.int .i64 (i : Int), .int .i64 (x : Int)]) true).run Ybad.prog W = .ok (.tuple #[.int .i64 ((m (i, x)).getD 0), .bool (m (i, x)).isSome]) W := by
  obtain ⟨D, hD, hsz, hs⟩ := h
  have hV : F98.V (i, x) := ⟨by show i ≤ _; omega, by show x ≤ _; omega⟩
  obtain ⟨v, pl, hr, hv⟩ := hD.look_ok keyed98 Ybad.underlying55 (Ybad.zeroValue3 W) (plainElem_int Ybad.underlying3 rfl) (F98.ok (i, x) hV)
  rw [(hs (i, x) hV).2] at hv
  rw [(hs (i, x) hV).1] at hr
  obtain ⟨c, rfl, h2, _⟩ := plainElem_int_inv Ybad.underlying3 hv
  dsimp only at h2
  have e1 : ((m (i, x)).map fun c => (DataW.lit (.int .i64 c) : DataW Unit)).isSome = (m (i, x)).isSome := by cases m (i, x) <;> rfl
  have e2 : (m (i, x)).getD 0 = c := by
    cases h : m (i, x) with
    | none => rw [h] at h2; simp at h2; simp [h2.1]
    | some x => rw [h] at h2; simp at h2; simp [h2.1]
  rw [e1] at hr
  rw [e2]
  exact hr

set_option maxRecDepth 1000000 in
set_option maxHeartbeats 2000000 in
theorem along_any (w : World) (Bc n m capt capl capP gP Bo Bm : Nat) (at_ as_ : Option Addr) (va vs vl : Value) (A : List Acc) (l : List Ac) (path : List Nat) (hA : A.length ≤ 300) (hn : n ≤ 300) (hm : m ≤ 1000) (hbx : w.heap[Bc]? = some (.cells #[.slice at_ n capt, .int .i64 (m : Int), va] 63 (0, 0))) (hs : SlX w va A) (hsm : ∀ a ∈ A, a.x < n ∧ a.i < m ∧ a.p < l.length) (hso : A.Pairwise (fun a b => a.p < b.p))
    (hll : l.length ≤ 300) (hsl : SlA w vs l) (hvl : SlS w vl (spF A)) (hmp : MapI F98 w Bm A.length (keysF A).length (loc (keysF A)))
    (np : Nat) (hnp : path.length = np + 1) (hpn : ∀ x ∈ path, x < n) (hnp2 : np ≤ 1000) (hgP : gP < w.heap.size) (hpc : ∀ k (hk : k < path.length), w.cell? ⟨gP, k, none⟩ = some (.int .i64 (path[k] : Int))) (hpl : np + 1 ≤ capP) (hsu : ∀ k, k < np → Succ A (path.getD k 0) (path.getD (k + 1) 0)) :
    Calls Ybad.prog 31 #[.pointer (some ⟨Bc, 0, none⟩), vs, .agg #[vl, .slice (some ⟨Bo, 0, none⟩) A.length A.length, .map (some Bm)], .slice (some ⟨gP, 0, none⟩) (np + 1) capP] w fun e w' => ∃ (g : Nat) (B C : Nat → Ac), e = .returned (.slice (some ⟨g, 0, none⟩) np np) ∧ w.heap.size ≤ g ∧ (∀ k, k < np → w'.rangeAt g (k * 8) (arcC (B k) (C k))) ∧ g < w'.heap.size ∧ Below w.heap.size w w' ∧
      ∀ k, k < np → ∃ a ∈ A, ∃ c ∈ A, a.x = path.getD k 0 ∧ c.x = path.getD (k + 1) 0 ∧ a.i = c.i ∧ B k = l.getD a.p ac0 ∧ C k = l.getD c.p ac0 := by
  obtain ⟨aX, capX, rfl, hcX, hel⟩ := hs
  have HSL := hid hel
  have HM := hid hsm
  have HSO := hid hso
  have HBX := hid hbx
  have HVS := hid hsl
  obtain ⟨aS, capS, rfl, hcS, helS⟩ := hvl
  have HVL := hid helS
  have HMP := hid hmp
  have HPN := hid hpn
  have HPC := hid hpc
  have HSU := hid hsu
  have HNP := hid hnp
  have hBl : Bc < w.heap.size := (Array.getElem?_eq_some_iff.1 hbx).1
  clear hel hsm hso hbx hsl helS hmp hpn hpc hsu hnp
  have ST0 := hid (show AlS w ((w.alloc (.cells #[.slice aS (spF A).length capS, .slice (some ⟨Bo, 0, none⟩) A.length A.length, .map (some Bm)] 57)).alloc (.map #[] 0)) n Bm 0 (.slice aS (spF A).length capS) (.slice (some ⟨Bo, 0, none⟩) A.length A.length) (fun _ => none) (fun _ => .slice none 0 0) (inX path 0) from
    ⟨(Below.heap_alloc _ _ _ (by simp)).trans (heap_alloc_new _ _), by have := MapVal.made (w.alloc (.cells #[.slice aS (spF A).length capS, .slice (some ⟨Bo, 0, none⟩) A.length A.length, .map (some Bm)] 57)); simpa using this, fun _ _ => rfl, (Fam.nil rowI rfl _ _ 3 1 n).congr (fun _ _ => rfl) (fun _ _ => rfl), ((Below.refl _ w).alloc (Nat.le_refl _) _).alloc (by simp) _, by omega⟩)
  obtain ⟨wB, hwB⟩ : ∃ wB, wB = (w.alloc (.cells #[.slice aS (spF A).length capS, .slice (some ⟨Bo, 0, none⟩) A.length A.length, .map (some Bm)] 57)).alloc (.map #[] 0) := ⟨_, rfl⟩
  rw [← hwB] at ST0
  have hmm := @run_makeMap Ybad.prog
  go_enter Ybad.func31, Ybad.ntmps31
  go_upto_region 2 with fail
  rw [← hwB]
  clear hwB hmm
  have hp1 : (1 : Int) ≤ (np : Int) + 1 := by omega
  have hp2 : (np : Int) + 1 ≤ (capP : Int) := by omega
  have hp3 : (1 : Int) ≤ (capP : Int) := by omega
  go_cut [26, 27] from 24 to 25 (fun v26 v27 wc => v26 = .int .i64 (np : Int) ∧ v27 = .int .i64 0 ∧ wc = wB)
  case first =>
    by_cases hc1 : capP = 1
    · go_wp2_with fail
      go_meet
      exact ⟨rfl, rfl, rfl⟩
    · go_wp2_with fail
      go_meet
      exact ⟨rfl, rfl, rfl⟩
  case rest =>
  obtain ⟨rfl, rfl, rfl⟩ := hcut
  clear hp3
  go_wp2_with fail
  go_loopg [27] np (fun g0 iv wr => ∃ (k : Nat) (mt : Nat → Option Value) (v : Nat → Value) (X : Nat → List Nat), k ≤ np ∧ g0 = np - k ∧ iv = .int .i64 (k : Int) ∧ AlS w wr n Bm k (.slice aS (spF A).length capS) (.slice (some ⟨Bo, 0, none⟩) A.length A.length) mt v X ∧ ∀ t, t < n → X t = inX path k t)
  case atStart => exact ⟨0, _, _, _, Nat.zero_le _, rfl, rfl, ST0.out, fun _ _ => rfl⟩
  case round =>
    obtain ⟨k, mt, v, X, hk, rfl, rfl, hst, hX⟩ := hrel
    have ST := hid hst
    have HX := hid hX
    clear hst hX ST0
    by_cases hlt : k < np
    · have hki : (k : Int) < (np : Int) := by omega
      have hk0 : (0 : Int) ≤ (k : Int) := by omega
      have hk1 : (k : Int) + 1 < (np : Int) + 1 := by omega
      have hk10 : (0 : Int) ≤ (k : Int) + 1 := by omega
      have hkT : ((k : Int) + 1).toNat = k + 1 := by omega
      have hwk : IntKind.i64.wrap ((k : Int) + 1) = (k : Int) + 1 := by rw [IntKind.wrap_i64]; omega
      have hk1l : k + 1 < path.length := by have := HNP.out; omega
      have cP := HPC.out (k + 1) hk1l
      obtain ⟨t, ht⟩ : ∃ t, path[k + 1] = t := ⟨_, rfl⟩
      rw [ht] at cP
      have htn : t < n := by rw [← ht]; exact HPN.out _ (List.getElem_mem _)
      have HTT := hid (show path.getD (k + 1) 0 = t from by rw [List.getD_eq_getElem?_getD, List.getElem?_eq_getElem hk1l, Option.getD_some, ht])
      have HLX : (X t).length ≤ 100000 := by rw [HX.out t htn]; have := inX_len path k t; omega
      clear ht
      go_upto_region 5 with fail
      refine wp_region_L 16 (S := (fun (W : World) => W.cell? ⟨gP, k + 1, none⟩ = some (.int .i64 (t : Int)) ∧ (Instr.lookup 135 (.map (some (w.heap.size + 1))) (.int .i64 (t : Int)) false).run Ybad.prog W = .ok (v t) W)) (by kernel_rfl) ?_
      have hHeld : ((fun (W : World) => W.cell? ⟨gP, k + 1, none⟩ = some (.int .i64 (t : Int)) ∧ (Instr.lookup 135 (.map (some (w.heap.size + 1))) (.int .i64 (t : Int)) false).run Ybad.prog W = .ok (v t) W)) _ := ⟨ST.out.drew.pcell hgP cP, ST.out.drew.look htn⟩
      refine wpAnyL_take (i := 0) (v := .map (some (w.heap.size + 1))) rfl (by kernel_rfl) (by kernel_rfl) (by kernel_rfl) (by kernel_rfl) (fun _ _ _ h => h) (Or.inl ⟨by rfl, ?_⟩) (by assumption) ?_
      · intro w hSw
        try dsimp only at hSw
        go_simp
      simp only [Act.put, List.setIfInBounds_toArray, List.set_cons_zero, List.set_cons_succ, List.getElem_toArray, List.getElem_cons_zero, List.getElem_cons_succ]
      refine wpAnyL_take (i := 1) (v := .slice (some ⟨gP, 0, none⟩) (np + 1) capP) rfl (by kernel_rfl) (by kernel_rfl) (by kernel_rfl) (by kernel_rfl) (fun _ _ _ h => h) (Or.inl ⟨by rfl, ?_⟩) (by assumption) ?_
      · intro w hSw
        try dsimp only at hSw
        go_simp
      simp only [Act.put, List.setIfInBounds_toArray, List.set_cons_zero, List.set_cons_succ, List.getElem_toArray, List.getElem_cons_zero, List.getElem_cons_succ]
      refine wpAnyL_take (i := 2) (v := .int .i64 (k : Int)) rfl (by kernel_rfl) (by kernel_rfl) (by kernel_rfl) (by kernel_rfl) (fun _ _ _ h => h) (Or.inl ⟨by rfl, ?_⟩) (by assumption) ?_
      · intro w hSw
        try dsimp only at hSw
        go_simp
      simp only [Act.put, List.setIfInBounds_toArray, List.set_cons_zero, List.set_cons_succ, List.getElem_toArray, List.getElem_cons_zero, List.getElem_cons_succ]
      refine wpAnyL_take (i := 3) (v := .int .i64 ((k : Int) + 1 : Int)) rfl (by kernel_rfl) (by kernel_rfl) (by kernel_rfl) (by kernel_rfl) (fun _ _ _ h => h) (Or.inl ⟨by rfl, ?_⟩) (by assumption) ?_
      · intro w hSw
        try dsimp only at hSw
        go_simp
      simp only [Act.put, List.setIfInBounds_toArray, List.set_cons_zero, List.set_cons_succ, List.getElem_toArray, List.getElem_cons_zero, List.getElem_cons_succ]
      refine wpAnyL_take (i := 4) (v := .pointer (some ⟨gP, k + 1, none⟩)) rfl (by kernel_rfl) (by kernel_rfl) (by kernel_rfl) (by kernel_rfl) (fun _ _ _ h => h) (Or.inl ⟨by rfl, ?_⟩) (by assumption) ?_
      · intro w hSw
        try dsimp only at hSw
        go_simp
      simp only [Act.put, List.setIfInBounds_toArray, List.set_cons_zero, List.set_cons_succ, List.getElem_toArray, List.getElem_cons_zero, List.getElem_cons_succ]
      refine wpAnyL_take (i := 5) (v := .int .i64 (t : Int)) rfl (by kernel_rfl) (by kernel_rfl) (by kernel_rfl) (by kernel_rfl) (fun _ _ _ h => h) (Or.inl ⟨by rfl, ?_⟩) (by assumption) ?_
      · intro w hSw
        try dsimp only at hSw
        go_simp
      simp only [Act.put, List.setIfInBounds_toArray, List.set_cons_zero, List.set_cons_succ, List.getElem_toArray, List.getElem_cons_zero, List.getElem_cons_succ]
      refine wpAnyL_take (i := 6) (v := .map (some (w.heap.size + 1))) rfl (by kernel_rfl) (by kernel_rfl) (by kernel_rfl) (by kernel_rfl) (fun _ _ _ h => h) (Or.inl ⟨by rfl, ?_⟩) (by assumption) ?_
      · intro w hSw
        try dsimp only at hSw
        go_simp
      simp only [Act.put, List.setIfInBounds_toArray, List.set_cons_zero, List.set_cons_succ, List.getElem_toArray, List.getElem_cons_zero, List.getElem_cons_succ]
      refine wpAnyL_take (i := 7) (v := .slice (some ⟨gP, 0, none⟩) (np + 1) capP) rfl (by kernel_rfl) (by kernel_rfl) (by kernel_rfl) (by kernel_rfl) (fun _ _ _ h => h) (Or.inl ⟨by rfl, ?_⟩) (by assumption) ?_
      · intro w hSw
        try dsimp only at hSw
        go_simp
      simp only [Act.put, List.setIfInBounds_toArray, List.set_cons_zero, List.set_cons_succ, List.getElem_toArray, List.getElem_cons_zero, List.getElem_cons_succ]
      refine wpAnyL_take (i := 8) (v := .int .i64 (k : Int)) rfl (by kernel_rfl) (by kernel_rfl) (by kernel_rfl) (by kernel_rfl) (fun _ _ _ h => h) (Or.inl ⟨by rfl, ?_⟩) (by assumption) ?_
      · intro w hSw
        try dsimp only at hSw
        go_simp
      simp only [Act.put, List.setIfInBounds_toArray, List.set_cons_zero, List.set_cons_succ, List.getElem_toArray, List.getElem_cons_zero, List.getElem_cons_succ]
      refine wpAnyL_take (i := 9) (v := .int .i64 ((k : Int) + 1 : Int)) rfl (by kernel_rfl) (by kernel_rfl) (by kernel_rfl) (by kernel_rfl) (fun _ _ _ h => h) (Or.inl ⟨by rfl, ?_⟩) (by assumption) ?_
      · intro w hSw
        try dsimp only at hSw
        go_simp
      simp only [Act.put, List.setIfInBounds_toArray, List.set_cons_zero, List.set_cons_succ, List.getElem_toArray, List.getElem_cons_zero, List.getElem_cons_succ]
      refine wpAnyL_take (i := 10) (v := .pointer (some ⟨gP, k + 1, none⟩)) rfl (by kernel_rfl) (by kernel_rfl) (by kernel_rfl) (by kernel_rfl) (fun _ _ _ h => h) (Or.inl ⟨by rfl, ?_⟩) (by assumption) ?_
      · intro w hSw
        try dsimp only at hSw
        go_simp
      simp only [Act.put, List.setIfInBounds_toArray, List.set_cons_zero, List.set_cons_succ, List.getElem_toArray, List.getElem_cons_zero, List.getElem_cons_succ]
      refine wpAnyL_take (i := 11) (v := .int .i64 (t : Int)) rfl (by kernel_rfl) (by kernel_rfl) (by kernel_rfl) (by kernel_rfl) (fun _ _ _ h => h) (Or.inl ⟨by rfl, ?_⟩) (by assumption) ?_
      · intro w hSw
        try dsimp only at hSw
        go_simp
      simp only [Act.put, List.setIfInBounds_toArray, List.set_cons_zero, List.set_cons_succ, List.getElem_toArray, List.getElem_cons_zero, List.getElem_cons_succ]
      refine wpAnyL_take (i := 12) (v := v t) rfl (by kernel_rfl) (by kernel_rfl) (by kernel_rfl) (by kernel_rfl) (fun _ _ _ h => h) (Or.inl ⟨by rfl, ?_⟩) (by assumption) ?_
      · intro w hSw
        try dsimp only at hSw
        go_simp
      simp only [Act.put, List.setIfInBounds_toArray, List.set_cons_zero, List.set_cons_succ, List.getElem_toArray, List.getElem_cons_zero, List.getElem_cons_succ]
      refine wpAnyL_take (i := 13) (v := .int .i64 (k : Int)) rfl (by kernel_rfl) (by kernel_rfl) (by kernel_rfl) (by kernel_rfl) (fun _ _ _ h => h) (Or.inl ⟨by rfl, ?_⟩) (by assumption) ?_
      · intro w hSw
        try dsimp only at hSw
        go_simp
      simp only [Act.put, List.setIfInBounds_toArray, List.set_cons_zero, List.set_cons_succ, List.getElem_toArray, List.getElem_cons_zero, List.getElem_cons_succ]
      refine wpAnyL_one (i := 14) (by kernel_rfl) rfl (fun K hK => ?_)
      go_simp
      refine hK.out _ _ (fun _ => ⟨(ST.out.alloc _).drew.pcell hgP cP, (ST.out.alloc _).drew.look htn⟩) ?_
      clear hK K
      try simp only [Act.put, List.setIfInBounds_toArray, List.set_cons_zero, List.set_cons_succ, List.getElem_toArray, List.getElem_cons_zero, List.getElem_cons_succ]
      refine wpAnyL_one (i := 15) (by kernel_rfl) rfl (fun K hK => ?_)
      refine apD (by rfl) _ _ (by rfl) (w.heap.size + 2) (v t) (X t) (k : Int) wr.heap.size (wr.heap.size + 1) (by rfl) (by rfl) ((ST.out.alloc _).drew.fam.own t htn) (heap_alloc_new wr _) HLX (by simp [World.size_alloc]; have := ST.out.lt; omega) (by simp [World.size_alloc]) ?_
      intro g1 cap2 w1 hown1 hgrow hat hlt1
      have TT := hid ((ST.out.alloc (.cells #[.int .i64 (k : Int)] 3)).drew.grown htn hgrow)
      have HO1 := hid hown1
      have HGR := hid hgrow
      have HAT := hid hat
      clear hown1 hgrow hat
      refine hK.out _ _ (fun _ => ⟨TT.out.1 _ _ _ hgP cP, TT.out.2.1⟩) ?_
      clear hK K
      try simp only [Act.put, List.setIfInBounds_toArray, List.set_cons_zero, List.set_cons_succ, List.getElem_toArray, List.getElem_cons_zero, List.getElem_cons_succ]
      refine wpAnyL_one (i := 16) (by kernel_rfl) rfl (fun K hK => ?_)
      refine MapVal.put (by rfl) _ _ _ (by rfl) TT.out.2.2 (by omega) (by rfl) (t := t) (by omega) (by rfl) (val := .slice (some ⟨g1, 0, none⟩) ((X t).length + 1) cap2) (by rfl) ?_
      intro w2 hmp hg2
      have SN := hid ((ST.out.alloc (.cells #[.int .i64 (k : Int)] 3)).drew.put htn (l := X t ++ [k]) (by rw [List.length_append, rowI_snoc]; exact HO1.out) HGR.out (fun g e => by simp only [Value.ownBlock, Option.some.injEq] at e; subst e; rcases HAT.out with h | h; exact .inl h; exact .inr (by simp [World.size_alloc]; omega)) hmp hg2)
      clear hmp hg2
      refine hK.out _ _ (fun h => absurd rfl h) ?_
      clear hK K
      try simp only [Act.put, List.setIfInBounds_toArray, List.set_cons_zero, List.set_cons_succ, List.getElem_toArray, List.getElem_cons_zero, List.getElem_cons_succ]
      refine wpAnyL_done (by kernel_rfl) ?_ _
      clear HO1 HGR HAT TT hHeld
      go_wp2_with fail
      go_roundg (np - (k + 1))
      case measure => omega
      case rel =>
        refine ⟨k + 1, _, _, _, by omega, rfl, by go_num, SN.out, fun t' ht' => ?_⟩
        rw [inX_succ, HTT.out]
        unfold updL
        by_cases e : t' = t
        · subst e; rw [if_pos rfl, if_pos rfl, HX.out t' ht']
        · rw [if_neg e, if_neg e, HX.out t' ht']
    · obtain rfl : k = np := by omega
      have HTOP := hid (show ∀ i, i < n → ∀ g, (v i).ownBlock = some g → g < wr.heap.size from fun i hi g e => ((ST.out.fam.own i hi).lt g e).2)
      have hmk := fun (W : World) => mk2 Ybad.E59 k (by omega) W
      have hk11 : (k : Int) + 1 - 1 = (k : Int) := by omega
      have S1 := hid (show AlQ w (wr.alloc (.cells (rowF (k * 2) fun _ => .int .i64 0) 65)) n Bm k (.slice aS (spF A).length capS) (.slice (some ⟨Bo, 0, none⟩) A.length A.length) mt v X wr.heap.size k (fun j => if j < 0 * 2 then -1 else 0) from
        ⟨ST.out.alloc _, (show Fix (wr.alloc (.cells (rowF (k * 2) fun _ => .int .i64 0) 65)) wr.heap.size 65 (k * 2) (fun _ => .int .i64 0) from heap_alloc_new _ _).congr (fun j _ => by rw [if_neg (by omega)]), HTOP.out, by have := ST.out.lt; omega⟩)
      obtain ⟨Bp, hBp⟩ : ∃ Bp, Bp = wr.heap.size := ⟨_, rfl⟩
      obtain ⟨w1, hw1⟩ : ∃ w1, w1 = wr.alloc (.cells (rowF (k * 2) fun _ => .int .i64 0) 65) := ⟨_, rfl⟩
      rw [← hBp, ← hw1] at S1
      go_upto_region 8 with fail
      rw [← hBp, ← hw1]
      clear hBp hw1 hmk ST HTOP
      go_wp2_with fail
      go_loopg [53] k (fun g0 iv wi => ∃ q : Nat, q ≤ k ∧ g0 = k - q ∧ iv = .int .i64 (q : Int) ∧ AlQ w wi n Bm k (.slice aS (spF A).length capS) (.slice (some ⟨Bo, 0, none⟩) A.length A.length) mt v X Bp k (fun j => if j < q * 2 then -1 else 0))
      case atStart => exact ⟨0, Nat.zero_le _, rfl, rfl, S1.out⟩
      case round =>
        obtain ⟨q, hq, rfl, rfl, hst⟩ := hrel
        have SQ := hid hst
        clear hst S1
        by_cases hql : q < k
        · have hqi : (q : Int) < (k : Int) := by omega
          have hq0 : (0 : Int) ≤ (q : Int) := by omega
          have c0 := SQ.out.c0 hql
          have f0 := SQ.out.fx.free (q * 2)
          have c1 := SQ.out.c1 hql
          have f1 := SQ.out.fx.free (q * 2 + 1)
          go_wp2_with fail
          go_roundg (k - (q + 1))
          case measure => omega
          case rel =>
            refine ⟨q + 1, by omega, rfl, by go_num, (SQ.out.setF hql (-1) (-1)).congr fun j hj => ?_⟩
            unfold upd2 updL
            by_cases e : j = q * 2 + 1
            · rw [if_pos e, if_pos (by omega)]
            · rw [if_neg e]
              dsimp only
              by_cases e2 : j = q * 2
              · rw [if_pos e2, if_pos (by omega)]
              · rw [if_neg e2]
                by_cases e3 : j < q * 2
                · rw [if_pos e3, if_pos (by omega)]
                · rw [if_neg e3, if_neg (by omega)]
        · obtain rfl : q = k := by omega
          have SR := hid (show AlQ w wr n Bm q (.slice aS (spF A).length capS) (.slice (some ⟨Bo, 0, none⟩) A.length A.length) mt v X Bp q ((A.take 0).foldl (alAcc (spF A) (keysF A) path q) (fun _ => -1)) from SQ.out.congr fun j hj => by rw [if_pos hj]; rfl)
          have cb : wr.cell? ⟨Bc, 2, none⟩ = some (.slice aX A.length capX) := SQ.out.st.pcell hBl (by rw [cell_of_row _ _ _ _ _ _ HBX.out]; rfl)
          clear SQ
          go_wp2_with fail
          go_loopg [66] A.length (fun g0 iv wi => ∃ a : Nat, a ≤ A.length ∧ g0 = A.length - a ∧ iv = .int .i64 (a : Int) ∧ AlQ w wi n Bm q (.slice aS (spF A).length capS) (.slice (some ⟨Bo, 0, none⟩) A.length A.length) mt v X Bp q ((A.take a).foldl (alAcc (spF A) (keysF A) path q) (fun _ => -1)))
          case atStart => exact ⟨0, Nat.zero_le _, rfl, rfl, SR.out⟩
          case round =>
            obtain ⟨a, ha, rfl, rfl, hst⟩ := hrel
            have SA := hid hst
            clear hst SR cb
            by_cases hal : a < A.length
            · have hai : (a : Int) < (A.length : Int) := by omega
              have ha0 : (0 : Int) ≤ (a : Int) := by omega
              obtain ⟨bA, off, rfl, hbl, c0', c1', c2', c3'⟩ := acc_at HSL.out hal hal
              obtain ⟨c, hc⟩ : ∃ c, A[a] = c := ⟨_, rfl⟩
              have hcA : c ∈ A := by rw [← hc]; exact List.getElem_mem _
              have hsm := HM.out c hcA
              rw [hc] at c0' c1' c2' c3'
              have c0 := SA.out.st.pcell hbl c0'
              have c1 := SA.out.st.pcell hbl c1'
              have c2 := SA.out.st.pcell hbl c2'
              have c3 := SA.out.st.pcell hbl c3'
              have HTK := hid (show A.take (a + 1) = A.take a ++ [c] from by rw [List.take_succ_eq_append_getElem hal, hc])
              clear c0' c1' c2' c3' hc
              go_upto_region 16 with fail
              have CP1 := hid (show Cpy (wr.alloc (.cells #[.int .i64 (c.x : Int), .int .i64 (c.i : Int), .int .i64 (c.p : Int), .bool c.w] 100)) wr.heap.size c from heap_alloc_new _ _)
              have ST1 := hid (SA.out.alloc (.cells #[.int .i64 (c.x : Int), .int .i64 (c.i : Int), .int .i64 (c.p : Int), .bool c.w] 100))
              obtain ⟨B, hBB⟩ : ∃ B, B = wr.heap.size := ⟨_, rfl⟩
              obtain ⟨W0, hW0⟩ : ∃ W0, W0 = wr.alloc (.cells #[.int .i64 (c.x : Int), .int .i64 (c.i : Int), .int .i64 (c.p : Int), .bool c.w] 100) := ⟨_, rfl⟩
              have HBp := hid (show Bp < B by rw [hBB]; exact SA.out.lt)
              rw [← hBB, ← hW0] at CP1
              rw [← hW0] at ST1
              rw [← hBB, ← hW0]
              clear hBB hW0 c0 c1 c2 c3 SA
              have cc0 := CP1.out.c0
              have hLk := ST1.out.st.look hsm.1
              have HXE := hid (HX.out c.x hsm.1)
              obtain ⟨aI, capI, hvI, hleI, -, -⟩ := own_form (ST1.out.st.fam.own c.x hsm.1)
              obtain ⟨lX, hlX⟩ : ∃ lX, (X c.x).length = lX := ⟨_, rfl⟩
              rw [hlX] at hvI
              rw [hvI] at hLk
              have HLX := hid hlX
              have HVI := hid hvI
              have hlX3 : lX ≤ 1000 := by rw [← hlX, HXE.out]; exact Nat.le_trans (inX_len _ _ _) hnp2
              clear hvI hlX
              obtain ⟨F0, hF0⟩ : ∃ F0, F0 = (A.take a).foldl (alAcc (spF A) (keysF A) path q) (fun _ => -1) := ⟨_, rfl⟩
              rw [← hF0] at ST1
              have HF0 := hid hF0
              clear hF0
              go_wp2_with fail
              go_loopg [75] lX (fun g0 iv wi => ∃ (j : Nat) (F : Nat → Int), j ≤ lX ∧ g0 = lX - j ∧ iv = .int .i64 (j : Int) ∧ AlQ w wi n Bm q (.slice aS (spF A).length capS) (.slice (some ⟨Bo, 0, none⟩) A.length A.length) mt v X Bp q F ∧ Cpy wi B c ∧ F = ((inX path q c.x).take j).foldl (alOne (spF A) (keysF A) path c) F0)
              case atStart => exact ⟨0, F0, Nat.zero_le _, rfl, rfl, ST1.out, CP1.out, rfl⟩
              case round =>
                obtain ⟨j, F, hj, rfl, rfl, hst, hcp, hF⟩ := hrel
                have S2 := hid hst
                have CP2 := hid hcp
                have HF := hid hF
                clear hst hcp hF ST1 CP1 hLk cc0
                by_cases hjl : j < lX
                · have hji : (j : Int) < (lX : Int) := by omega
                  have hj0 : (0 : Int) ≤ (j : Int) := by omega
                  have hjX : j < (X c.x).length := by rw [HLX.out]; exact hjl
                  obtain ⟨gI, capI', hv1, -, -, -, hcI⟩ := ownI_cell (S2.out.st.fam.own c.x hsm.1) hjX
                  rw [HVI.out, HLX.out] at hv1
                  simp only [Value.slice.injEq] at hv1
                  obtain ⟨rfl, -, rfl⟩ := hv1
                  obtain ⟨k1, hk1⟩ : ∃ k1, (X c.x)[j] = k1 := ⟨_, rfl⟩
                  rw [hk1] at hcI
                  have hkm : k1 ∈ inX path q c.x := by rw [← HXE.out, ← hk1]; exact List.getElem_mem _
                  have hkq : k1 < q := (inX_mem.1 hkm).1
                  have HTK2 := hid (show (inX path q c.x).take (j + 1) = (inX path q c.x).take j ++ [k1] from by
                    have : j < (inX path q c.x).length := by rw [← HXE.out]; exact hjX
                    rw [List.take_succ_eq_append_getElem this]
                    congr 2
                    rw [← hk1]
                    simp only [HXE.out])
                  clear hk1 hkm hjX
                  have hkp : k1 < path.length := by have := HNP.out; omega
                  have cP := S2.out.st.pcell hgP (HPC.out k1 hkp)
                  obtain ⟨t1, ht1⟩ : ∃ t1, path[k1] = t1 := ⟨_, rfl⟩
                  rw [ht1] at cP
                  have ht1n : t1 < n := by rw [← ht1]; exact HPN.out _ (List.getElem_mem _)
                  have HT1 := hid (show path.getD k1 0 = t1 from by rw [List.getD_eq_getElem?_getD, List.getElem?_eq_getElem hkp, Option.getD_some, ht1])
                  clear ht1
                  have hk1i : (k1 : Int) < (q : Int) + 1 := by omega
                  have hk1q : (k1 : Int) < (q : Int) := by omega
                  have hk10 : (0 : Int) ≤ (k1 : Int) := by omega
                  have b2 : wr.cell? ⟨w.heap.size, 2, none⟩ = some (.map (some Bm)) := by rw [cell_of_row _ _ _ _ _ _ S2.out.st.box]; rfl
                  have b0 : wr.cell? ⟨w.heap.size, 0, none⟩ = some (.slice aS (spF A).length capS) := by rw [cell_of_row _ _ _ _ _ _ S2.out.st.box]; rfl
                  have cc1 := CP2.out.c1
                  have HMW := hid (show MapI F98 wr Bm A.length (keysF A).length (loc (keysF A)) from MapF.kept HMP.out (below_gr S2.out.st.bel) (by simp))
                  have hLk2 := HMW.out.lookOk (i := c.i) (x := t1) (by omega) (by omega)
                  by_cases hin : (c.i, t1) ∈ keysF A
                  · rw [loc_mem hin] at hLk2
                    simp only [Option.getD_some, Option.isSome_some] at hLk2
                    obtain ⟨ix1, hix1⟩ : ∃ ix1, ix (keysF A) (c.i, t1) = ix1 := ⟨_, rfl⟩
                    have hixl : ix1 < (spF A).length := by
                      rw [← hix1]
                      have := ix_lt hin
                      unfold keysF at this ⊢
                      rw [List.length_map] at this
                      exact this
                    rw [hix1] at hLk2
                    obtain ⟨bS, oS, rfl, hbS, -, -, s2, s3, -⟩ := sp_at5 HVL.out hixl
                    obtain ⟨s, hs0⟩ : ∃ s, (spF A).getD ix1 sp0 = s := ⟨_, rfl⟩
                    rw [hs0] at s2 s3
                    have s2' := S2.out.st.pcell hbS s2
                    have s3' := S2.out.st.pcell hbS s3
                    have HIN := hid hin
                    have HIX := hid hix1
                    have HS0 := hid hs0
                    have hS3 : (spF A).length ≤ 300 := Nat.le_trans (spF_length_le _) hA
                    have hixi : (ix1 : Int) < ((spF A).length : Int) := by omega
                    have hix0 : (0 : Int) ≤ (ix1 : Int) := by omega
                    clear hin hix1 hs0 s2 s3
                    have HSK := hid (show SpOk A s from by
                      obtain ⟨s', e1, _, _, e4⟩ := sp_keyed HSO.out HIN.out
                      rw [HIX.out, HS0.out] at e1
                      rw [e1]; exact e4)
                    have hsf : (s.f : Int) ≤ 300 := by
                      obtain ⟨a', ha', _, e'⟩ := HSK.out.f
                      have := (HM.out a' ha').2.2
                      omega
                    have hsw : -1 ≤ s.w ∧ s.w ≤ 300 := by
                      rcases HSK.out.w with ⟨e', _⟩ | ⟨a', ha', _, _, e', _⟩
                      · omega
                      · have := (HM.out a' ha').2.2
                        omega
                    go_upto_region 19 with fail
                    replace hLk2 : (Instr.lookup 55 (.map (some Bm)) (.agg #[.int .i64 (c.i : Int), .int .i64 (t1 : Int)]) true).run Ybad.prog wr.drew = .ok (.tuple #[.int .i64 (ix1 : Int), .bool true]) wr.drew := by
                      have := MapI.lookOk (show MapI F98 wr.drew Bm A.length (keysF A).length (loc (keysF A)) from MapF.kept HMW.out (W' := wr.drew) (row := none) ⟨rfl, rfl, rfl, Nat.le_refl _, fun _ _ _ => rfl⟩ (by simp)) (i := c.i) (x := t1) (by omega) (by omega)
                      rw [loc_mem HIN.out, HIX.out] at this
                      exact this
                    refine wp_region_L 15 (S := (fun (W : World) => W.cell? ⟨w.heap.size, 2, none⟩ = some (.map (some Bm)) ∧ W.cell? ⟨B, 1, none⟩ = some (.int .i64 (c.i : Int)) ∧ W.cell? ⟨gP, k1, none⟩ = some (.int .i64 (t1 : Int)) ∧ (Instr.lookup 55 (.map (some Bm)) (.agg #[.int .i64 (c.i : Int), .int .i64 (t1 : Int)]) true).run Ybad.prog W = .ok (.tuple #[.int .i64 (ix1 : Int), .bool true]) W)) (by kernel_rfl) ?_
                    have hHeld : ((fun (W : World) => W.cell? ⟨w.heap.size, 2, none⟩ = some (.map (some Bm)) ∧ W.cell? ⟨B, 1, none⟩ = some (.int .i64 (c.i : Int)) ∧ W.cell? ⟨gP, k1, none⟩ = some (.int .i64 (t1 : Int)) ∧ (Instr.lookup 55 (.map (some Bm)) (.agg #[.int .i64 (c.i : Int), .int .i64 (t1 : Int)]) true).run Ybad.prog W = .ok (.tuple #[.int .i64 (ix1 : Int), .bool true]) W)) _ := (show ((fun (W : World) => W.cell? ⟨w.heap.size, 2, none⟩ = some (.map (some Bm)) ∧ W.cell? ⟨B, 1, none⟩ = some (.int .i64 (c.i : Int)) ∧ W.cell? ⟨gP, k1, none⟩ = some (.int .i64 (t1 : Int)) ∧ (Instr.lookup 55 (.map (some Bm)) (.agg #[.int .i64 (c.i : Int), .int .i64 (t1 : Int)]) true).run Ybad.prog W = .ok (.tuple #[.int .i64 (ix1 : Int), .bool true]) W)) wr.drew from ⟨b2, cc1, cP, hLk2⟩)
                    refine wpAnyL_take (i := 0) (v := .pointer (some ⟨w.heap.size, 2, none⟩)) rfl (by kernel_rfl) (by kernel_rfl) (by kernel_rfl) (by kernel_rfl) (fun _ _ _ h => h) (Or.inl ⟨by rfl, ?_⟩) (by assumption) ?_
                    · intro w hSw
                      try dsimp only at hSw
                      go_simp
                    simp only [Act.put, List.setIfInBounds_toArray, List.set_cons_zero, List.set_cons_succ, List.getElem_toArray, List.getElem_cons_zero, List.getElem_cons_succ]
                    refine wpAnyL_take (i := 1) (v := .map (some Bm)) rfl (by kernel_rfl) (by kernel_rfl) (by kernel_rfl) (by kernel_rfl) (fun _ _ _ h => h) (Or.inl ⟨by rfl, ?_⟩) (by assumption) ?_
                    · intro w hSw
                      try dsimp only at hSw
                      go_simp
                    simp only [Act.put, List.setIfInBounds_toArray, List.set_cons_zero, List.set_cons_succ, List.getElem_toArray, List.getElem_cons_zero, List.getElem_cons_succ]
                    refine wpAnyL_take (i := 2) (v := .pointer (some ⟨B, 1, none⟩)) rfl (by kernel_rfl) (by kernel_rfl) (by kernel_rfl) (by kernel_rfl) (fun _ _ _ h => h) (Or.inl ⟨by rfl, ?_⟩) (by assumption) ?_
                    · intro w hSw
                      try dsimp only at hSw
                      go_simp
                    simp only [Act.put, List.setIfInBounds_toArray, List.set_cons_zero, List.set_cons_succ, List.getElem_toArray, List.getElem_cons_zero, List.getElem_cons_succ]
                    refine wpAnyL_take (i := 3) (v := .int .i64 (c.i : Int)) rfl (by kernel_rfl) (by kernel_rfl) (by kernel_rfl) (by kernel_rfl) (fun _ _ _ h => h) (Or.inl ⟨by rfl, ?_⟩) (by assumption) ?_
                    · intro w hSw
                      try dsimp only at hSw
                      go_simp
                    simp only [Act.put, List.setIfInBounds_toArray, List.set_cons_zero, List.set_cons_succ, List.getElem_toArray, List.getElem_cons_zero, List.getElem_cons_succ]
                    refine wpAnyL_take (i := 4) (v := .slice (some ⟨gP, 0, none⟩) (q + 1) capP) rfl (by kernel_rfl) (by kernel_rfl) (by kernel_rfl) (by kernel_rfl) (fun _ _ _ h => h) (Or.inl ⟨by rfl, ?_⟩) (by assumption) ?_
                    · intro w hSw
                      try dsimp only at hSw
                      go_simp
                    simp only [Act.put, List.setIfInBounds_toArray, List.set_cons_zero, List.set_cons_succ, List.getElem_toArray, List.getElem_cons_zero, List.getElem_cons_succ]
                    refine wpAnyL_take (i := 5) (v := .int .i64 (k1 : Int)) rfl (by kernel_rfl) (by kernel_rfl) (by kernel_rfl) (by kernel_rfl) (fun _ _ _ h => h) (Or.inl ⟨by rfl, ?_⟩) (by assumption) ?_
                    · intro w hSw
                      try dsimp only at hSw
                      go_simp
                    simp only [Act.put, List.setIfInBounds_toArray, List.set_cons_zero, List.set_cons_succ, List.getElem_toArray, List.getElem_cons_zero, List.getElem_cons_succ]
                    refine wpAnyL_take (i := 6) (v := .pointer (some ⟨gP, k1, none⟩)) rfl (by kernel_rfl) (by kernel_rfl) (by kernel_rfl) (by kernel_rfl) (fun _ _ _ h => h) (Or.inl ⟨by rfl, ?_⟩) (by assumption) ?_
                    · intro w hSw
                      try dsimp only at hSw
                      go_simp
                    simp only [Act.put, List.setIfInBounds_toArray, List.set_cons_zero, List.set_cons_succ, List.getElem_toArray, List.getElem_cons_zero, List.getElem_cons_succ]
                    refine wpAnyL_take (i := 7) (v := .int .i64 (t1 : Int)) rfl (by kernel_rfl) (by kernel_rfl) (by kernel_rfl) (by kernel_rfl) (fun _ _ _ h => h) (Or.inl ⟨by rfl, ?_⟩) (by assumption) ?_
                    · intro w hSw
                      try dsimp only at hSw
                      go_simp
                    simp only [Act.put, List.setIfInBounds_toArray, List.set_cons_zero, List.set_cons_succ, List.getElem_toArray, List.getElem_cons_zero, List.getElem_cons_succ]
                    refine wpAnyL_take (i := 8) (v := .agg #[.int .i64 (c.i : Int), .int .i64 (t1 : Int)]) rfl (by kernel_rfl) (by kernel_rfl) (by kernel_rfl) (by kernel_rfl) (fun _ _ _ h => h) (Or.inl ⟨by rfl, ?_⟩) (by assumption) ?_
                    · intro w hSw
                      try dsimp only at hSw
                      go_simp
                    simp only [Act.put, List.setIfInBounds_toArray, List.set_cons_zero, List.set_cons_succ, List.getElem_toArray, List.getElem_cons_zero, List.getElem_cons_succ]
                    refine wpAnyL_take (i := 9) (v := .tuple #[.int .i64 (ix1 : Int), .bool true]) rfl (by kernel_rfl) (by kernel_rfl) (by kernel_rfl) (by kernel_rfl) (fun _ _ _ h => h) (Or.inl ⟨by rfl, ?_⟩) (by assumption) ?_
                    · intro w hSw
                      try dsimp only at hSw
                      go_simp
                    simp only [Act.put, List.setIfInBounds_toArray, List.set_cons_zero, List.set_cons_succ, List.getElem_toArray, List.getElem_cons_zero, List.getElem_cons_succ]
                    refine wpAnyL_take (i := 10) (v := .tuple #[.int .i64 (ix1 : Int), .bool true]) rfl (by kernel_rfl) (by kernel_rfl) (by kernel_rfl) (by kernel_rfl) (fun _ _ _ h => h) (Or.inl ⟨by rfl, ?_⟩) (by assumption) ?_
                    · intro w hSw
                      try dsimp only at hSw
                      go_simp
                    simp only [Act.put, List.setIfInBounds_toArray, List.set_cons_zero, List.set_cons_succ, List.getElem_toArray, List.getElem_cons_zero, List.getElem_cons_succ]
                    refine wpAnyL_take (i := 11) (v := .int .i64 (ix1 : Int)) rfl (by kernel_rfl) (by kernel_rfl) (by kernel_rfl) (by kernel_rfl) (fun _ _ _ h => h) (Or.inl ⟨by rfl, ?_⟩) (by assumption) ?_
                    · intro w hSw
                      try dsimp only at hSw
                      go_simp
                    simp only [Act.put, List.setIfInBounds_toArray, List.set_cons_zero, List.set_cons_succ, List.getElem_toArray, List.getElem_cons_zero, List.getElem_cons_succ]
                    refine wpAnyL_take (i := 12) (v := .bool true) rfl (by kernel_rfl) (by kernel_rfl) (by kernel_rfl) (by kernel_rfl) (fun _ _ _ h => h) (Or.inl ⟨by rfl, ?_⟩) (by assumption) ?_
                    · intro w hSw
                      try dsimp only at hSw
                      go_simp
                    simp only [Act.put, List.setIfInBounds_toArray, List.set_cons_zero, List.set_cons_succ, List.getElem_toArray, List.getElem_cons_zero, List.getElem_cons_succ]
                    refine wpAnyL_take (i := 13) (v := .int .i64 (ix1 : Int)) rfl (by kernel_rfl) (by kernel_rfl) (by kernel_rfl) (by kernel_rfl) (fun _ _ _ h => h) (Or.inl ⟨by rfl, ?_⟩) (by assumption) ?_
                    · intro w hSw
                      try dsimp only at hSw
                      go_simp
                    simp only [Act.put, List.setIfInBounds_toArray, List.set_cons_zero, List.set_cons_succ, List.getElem_toArray, List.getElem_cons_zero, List.getElem_cons_succ]
                    refine wpAnyL_take (i := 14) (v := .bool true) rfl (by kernel_rfl) (by kernel_rfl) (by kernel_rfl) (by kernel_rfl) (fun _ _ _ h => h) (Or.inl ⟨by rfl, ?_⟩) (by assumption) ?_
                    · intro w hSw
                      try dsimp only at hSw
                      go_simp
                    simp only [Act.put, List.setIfInBounds_toArray, List.set_cons_zero, List.set_cons_succ, List.getElem_toArray, List.getElem_cons_zero, List.getElem_cons_succ]
                    refine wpAnyL_done (by kernel_rfl) ?_ _
                    clear hHeld hLk2
                    have cc2 := CP2.out.c2
                    have cc3 := CP2.out.c3
                    have q0 := S2.out.c0 hkq
                    have q1 := S2.out.c1 hkq
                    have g0 := S2.out.fx.free (k1 * 2)
                    have g1 := S2.out.fx.free (k1 * 2 + 1)
                    obtain ⟨fk, hfk⟩ : ∃ fk, F (k1 * 2) = fk := ⟨_, rfl⟩
                    rw [hfk] at q0
                    have HFK := hid hfk
                    clear hfk
                    obtain ⟨cw, hcw⟩ : ∃ cw, c.w = cw := ⟨_, rfl⟩
                    rw [hcw] at cc3
                    have HCW := hid hcw
                    clear hcw
                    have HBp2 := HBp
                    cases cw with
                    | true =>
                      have HE := hid (show alE (spF A) (keysF A) path c k1 = (s.f : Int) from by unfold alE; rw [if_pos HCW.out, HT1.out, HIX.out, HS0.out])
                      by_cases hcd : fk < 0 ∧ (s.f : Int) < (c.p : Int)
                      · obtain ⟨hd1, hd2⟩ := hcd
                        have hd3 : (s.f : Int) ≥ 0 := by omega
                        have HAO := hid (show alOne (spF A) (keysF A) path c F k1 = upd2 F k1 (s.f : Int) (c.p : Int) from by
                          unfold alOne
                          rw [HE.out, HT1.out, if_pos ⟨HIN.out, by rw [HFK.out]; exact hd1, by omega, hd2⟩])
                        go_wp2_with fail
                        go_roundg (lX - (j + 1))
                        case measure => omega
                        case rel => exact ⟨j + 1, _, by omega, rfl, by go_num, (S2.out.drewN 1).setF hkq (s.f : Int) (c.p : Int), (Cpy.set (Cpy.set (show Cpy (wr.drewN 1) B c from CP2.out) (by have := HBp.out; omega) _ _) (by have := HBp.out; omega) _ _), by rw [HTK2.out, List.foldl_append, ← HF.out]; exact HAO.out.symm⟩
                      · have HAO := hid (show alOne (spF A) (keysF A) path c F k1 = F from by
                          unfold alOne
                          rw [HE.out, HT1.out, if_neg (fun h => hcd ⟨by rw [← HFK.out]; exact h.2.1, h.2.2.2⟩)])
                        by_cases hd1 : fk < 0
                        · have hd2 : ¬ (s.f : Int) < (c.p : Int) := fun h => hcd ⟨hd1, h⟩
                          have hd3 : (s.f : Int) ≥ 0 := by omega
                          clear hcd
                          go_wp2_with fail
                          go_roundg (lX - (j + 1))
                          case measure => omega
                          case rel => exact ⟨j + 1, F, by omega, rfl, by go_num, S2.out.drewN 1, CP2.out, by rw [HTK2.out, List.foldl_append, ← HF.out]; exact HAO.out.symm⟩
                        · clear hcd
                          go_wp2_with fail
                          go_roundg (lX - (j + 1))
                          case measure => omega
                          case rel => exact ⟨j + 1, F, by omega, rfl, by go_num, S2.out.drewN 1, CP2.out, by rw [HTK2.out, List.foldl_append, ← HF.out]; exact HAO.out.symm⟩
                    | false =>
                      have HE := hid (show alE (spF A) (keysF A) path c k1 = s.w from by unfold alE; rw [if_neg (by rw [HCW.out]; simp), HT1.out, HIX.out, HS0.out])
                      by_cases hcd : fk < 0 ∧ 0 ≤ s.w ∧ s.w < (c.p : Int)
                      · obtain ⟨hd1, hd3', hd2⟩ := hcd
                        have hd3 : s.w ≥ 0 := by omega
                        have HAO := hid (show alOne (spF A) (keysF A) path c F k1 = upd2 F k1 s.w (c.p : Int) from by
                          unfold alOne
                          rw [HE.out, HT1.out, if_pos ⟨HIN.out, by rw [HFK.out]; exact hd1, by omega, hd2⟩])
                        clear hd3'
                        go_wp2_with fail
                        go_roundg (lX - (j + 1))
                        case measure => omega
                        case rel => exact ⟨j + 1, _, by omega, rfl, by go_num, (S2.out.drewN 1).setF hkq s.w (c.p : Int), (Cpy.set (Cpy.set (show Cpy (wr.drewN 1) B c from CP2.out) (by have := HBp.out; omega) _ _) (by have := HBp.out; omega) _ _), by rw [HTK2.out, List.foldl_append, ← HF.out]; exact HAO.out.symm⟩
                      · have HAO := hid (show alOne (spF A) (keysF A) path c F k1 = F from by
                          unfold alOne
                          rw [HE.out, HT1.out, if_neg (fun h => hcd ⟨by rw [← HFK.out]; exact h.2.1, h.2.2⟩)])
                        by_cases hd1 : fk < 0
                        · by_cases hd3 : s.w ≥ 0
                          · have hd2 : ¬ s.w < (c.p : Int) := fun h => hcd ⟨hd1, by omega, h⟩
                            clear hcd
                            go_wp2_with fail
                            go_roundg (lX - (j + 1))
                            case measure => omega
                            case rel => exact ⟨j + 1, F, by omega, rfl, by go_num, S2.out.drewN 1, CP2.out, by rw [HTK2.out, List.foldl_append, ← HF.out]; exact HAO.out.symm⟩
                          · clear hcd
                            go_wp2_with fail
                            go_roundg (lX - (j + 1))
                            case measure => omega
                            case rel => exact ⟨j + 1, F, by omega, rfl, by go_num, S2.out.drewN 1, CP2.out, by rw [HTK2.out, List.foldl_append, ← HF.out]; exact HAO.out.symm⟩
                        · clear hcd
                          go_wp2_with fail
                          go_roundg (lX - (j + 1))
                          case measure => omega
                          case rel => exact ⟨j + 1, F, by omega, rfl, by go_num, S2.out.drewN 1, CP2.out, by rw [HTK2.out, List.foldl_append, ← HF.out]; exact HAO.out.symm⟩
                  · rw [loc_not hin] at hLk2
                    simp only [Option.getD_none, Option.isSome_none] at hLk2
                    have HAO := hid (show alOne (spF A) (keysF A) path c F k1 = F from by unfold alOne; rw [HT1.out, if_neg (fun h => hin h.1)])
                    have HIN := hid hin
                    clear hin
                    go_upto_region 19 with fail
                    replace hLk2 : (Instr.lookup 55 (.map (some Bm)) (.agg #[.int .i64 (c.i : Int), .int .i64 (t1 : Int)]) true).run Ybad.prog wr.drew = .ok (.tuple #[.int .i64 0, .bool false]) wr.drew := by
                      have := MapI.lookOk (show MapI F98 wr.drew Bm A.length (keysF A).length (loc (keysF A)) from MapF.kept HMW.out (W' := wr.drew) (row := none) ⟨rfl, rfl, rfl, Nat.le_refl _, fun _ _ _ => rfl⟩ (by simp)) (i := c.i) (x := t1) (by omega) (by omega)
                      rw [loc_not HIN.out] at this
                      exact this
                    refine wp_region_L 15 (S := (fun (W : World) => W.cell? ⟨w.heap.size, 2, none⟩ = some (.map (some Bm)) ∧ W.cell? ⟨B, 1, none⟩ = some (.int .i64 (c.i : Int)) ∧ W.cell? ⟨gP, k1, none⟩ = some (.int .i64 (t1 : Int)) ∧ (Instr.lookup 55 (.map (some Bm)) (.agg #[.int .i64 (c.i : Int), .int .i64 (t1 : Int)]) true).run Ybad.prog W = .ok (.tuple #[.int .i64 0, .bool false]) W)) (by kernel_rfl) ?_
                    have hHeld : ((fun (W : World) => W.cell? ⟨w.heap.size, 2, none⟩ = some (.map (some Bm)) ∧ W.cell? ⟨B, 1, none⟩ = some (.int .i64 (c.i : Int)) ∧ W.cell? ⟨gP, k1, none⟩ = some (.int .i64 (t1 : Int)) ∧ (Instr.lookup 55 (.map (some Bm)) (.agg #[.int .i64 (c.i : Int), .int .i64 (t1 : Int)]) true).run Ybad.prog W = .ok (.tuple #[.int .i64 0, .bool false]) W)) _ := (show ((fun (W : World) => W.cell? ⟨w.heap.size, 2, none⟩ = some (.map (some Bm)) ∧ W.cell? ⟨B, 1, none⟩ = some (.int .i64 (c.i : Int)) ∧ W.cell? ⟨gP, k1, none⟩ = some (.int .i64 (t1 : Int)) ∧ (Instr.lookup 55 (.map (some Bm)) (.agg #[.int .i64 (c.i : Int), .int .i64 (t1 : Int)]) true).run Ybad.prog W = .ok (.tuple #[.int .i64 0, .bool false]) W)) wr.drew from ⟨b2, cc1, cP, hLk2⟩)
                    refine wpAnyL_take (i := 0) (v := .pointer (some ⟨w.heap.size, 2, none⟩)) rfl (by kernel_rfl) (by kernel_rfl) (by kernel_rfl) (by kernel_rfl) (fun _ _ _ h => h) (Or.inl ⟨by rfl, ?_⟩) (by assumption) ?_
                    · intro w hSw
                      try dsimp only at hSw
                      go_simp
                    simp only [Act.put, List.setIfInBounds_toArray, List.set_cons_zero, List.set_cons_succ, List.getElem_toArray, List.getElem_cons_zero, List.getElem_cons_succ]
                    refine wpAnyL_take (i := 1) (v := .map (some Bm)) rfl (by kernel_rfl) (by kernel_rfl) (by kernel_rfl) (by kernel_rfl) (fun _ _ _ h => h) (Or.inl ⟨by rfl, ?_⟩) (by assumption) ?_
                    · intro w hSw
                      try dsimp only at hSw
                      go_simp
                    simp only [Act.put, List.setIfInBounds_toArray, List.set_cons_zero, List.set_cons_succ, List.getElem_toArray, List.getElem_cons_zero, List.getElem_cons_succ]
                    refine wpAnyL_take (i := 2) (v := .pointer (some ⟨B, 1, none⟩)) rfl (by kernel_rfl) (by kernel_rfl) (by kernel_rfl) (by kernel_rfl) (fun _ _ _ h => h) (Or.inl ⟨by rfl, ?_⟩) (by assumption) ?_
                    · intro w hSw
                      try dsimp only at hSw
                      go_simp
                    simp only [Act.put, List.setIfInBounds_toArray, List.set_cons_zero, List.set_cons_succ, List.getElem_toArray, List.getElem_cons_zero, List.getElem_cons_succ]
                    refine wpAnyL_take (i := 3) (v := .int .i64 (c.i : Int)) rfl (by kernel_rfl) (by kernel_rfl) (by kernel_rfl) (by kernel_rfl) (fun _ _ _ h => h) (Or.inl ⟨by rfl, ?_⟩) (by assumption) ?_
                    · intro w hSw
                      try dsimp only at hSw
                      go_simp
                    simp only [Act.put, List.setIfInBounds_toArray, List.set_cons_zero, List.set_cons_succ, List.getElem_toArray, List.getElem_cons_zero, List.getElem_cons_succ]
                    refine wpAnyL_take (i := 4) (v := .slice (some ⟨gP, 0, none⟩) (q + 1) capP) rfl (by kernel_rfl) (by kernel_rfl) (by kernel_rfl) (by kernel_rfl) (fun _ _ _ h => h) (Or.inl ⟨by rfl, ?_⟩) (by assumption) ?_
                    · intro w hSw
                      try dsimp only at hSw
                      go_simp
                    simp only [Act.put, List.setIfInBounds_toArray, List.set_cons_zero, List.set_cons_succ, List.getElem_toArray, List.getElem_cons_zero, List.getElem_cons_succ]
                    refine wpAnyL_take (i := 5) (v := .int .i64 (k1 : Int)) rfl (by kernel_rfl) (by kernel_rfl) (by kernel_rfl) (by kernel_rfl) (fun _ _ _ h => h) (Or.inl ⟨by rfl, ?_⟩) (by assumption) ?_
                    · intro w hSw
                      try dsimp only at hSw
                      go_simp
                    simp only [Act.put, List.setIfInBounds_toArray, List.set_cons_zero, List.set_cons_succ, List.getElem_toArray, List.getElem_cons_zero, List.getElem_cons_succ]
                    refine wpAnyL_take (i := 6) (v := .pointer (some ⟨gP, k1, none⟩)) rfl (by kernel_rfl) (by kernel_rfl) (by kernel_rfl) (by kernel_rfl) (fun _ _ _ h => h) (Or.inl ⟨by rfl, ?_⟩) (by assumption) ?_
                    · intro w hSw
                      try dsimp only at hSw
                      go_simp
                    simp only [Act.put, List.setIfInBounds_toArray, List.set_cons_zero, List.set_cons_succ, List.getElem_toArray, List.getElem_cons_zero, List.getElem_cons_succ]
                    refine wpAnyL_take (i := 7) (v := .int .i64 (t1 : Int)) rfl (by kernel_rfl) (by kernel_rfl) (by kernel_rfl) (by kernel_rfl) (fun _ _ _ h => h) (Or.inl ⟨by rfl, ?_⟩) (by assumption) ?_
                    · intro w hSw
                      try dsimp only at hSw
                      go_simp
                    simp only [Act.put, List.setIfInBounds_toArray, List.set_cons_zero, List.set_cons_succ, List.getElem_toArray, List.getElem_cons_zero, List.getElem_cons_succ]
                    refine wpAnyL_take (i := 8) (v := .agg #[.int .i64 (c.i : Int), .int .i64 (t1 : Int)]) rfl (by kernel_rfl) (by kernel_rfl) (by kernel_rfl) (by kernel_rfl) (fun _ _ _ h => h) (Or.inl ⟨by rfl, ?_⟩) (by assumption) ?_
                    · intro w hSw
                      try dsimp only at hSw
                      go_simp
                    simp only [Act.put, List.setIfInBounds_toArray, List.set_cons_zero, List.set_cons_succ, List.getElem_toArray, List.getElem_cons_zero, List.getElem_cons_succ]
                    refine wpAnyL_take (i := 9) (v := .tuple #[.int .i64 0, .bool false]) rfl (by kernel_rfl) (by kernel_rfl) (by kernel_rfl) (by kernel_rfl) (fun _ _ _ h => h) (Or.inl ⟨by rfl, ?_⟩) (by assumption) ?_
                    · intro w hSw
                      try dsimp only at hSw
                      go_simp
                    simp only [Act.put, List.setIfInBounds_toArray, List.set_cons_zero, List.set_cons_succ, List.getElem_toArray, List.getElem_cons_zero, List.getElem_cons_succ]
                    refine wpAnyL_take (i := 10) (v := .tuple #[.int .i64 0, .bool false]) rfl (by kernel_rfl) (by kernel_rfl) (by kernel_rfl) (by kernel_rfl) (fun _ _ _ h => h) (Or.inl ⟨by rfl, ?_⟩) (by assumption) ?_
                    · intro w hSw
                      try dsimp only at hSw
                      go_simp
                    simp only [Act.put, List.setIfInBounds_toArray, List.set_cons_zero, List.set_cons_succ, List.getElem_toArray, List.getElem_cons_zero, List.getElem_cons_succ]
                    refine wpAnyL_take (i := 11) (v := .int .i64 0) rfl (by kernel_rfl) (by kernel_rfl) (by kernel_rfl) (by kernel_rfl) (fun _ _ _ h => h) (Or.inl ⟨by rfl, ?_⟩) (by assumption) ?_
                    · intro w hSw
                      try dsimp only at hSw
                      go_simp
                    simp only [Act.put, List.setIfInBounds_toArray, List.set_cons_zero, List.set_cons_succ, List.getElem_toArray, List.getElem_cons_zero, List.getElem_cons_succ]
                    refine wpAnyL_take (i := 12) (v := .bool false) rfl (by kernel_rfl) (by kernel_rfl) (by kernel_rfl) (by kernel_rfl) (fun _ _ _ h => h) (Or.inl ⟨by rfl, ?_⟩) (by assumption) ?_
                    · intro w hSw
                      try dsimp only at hSw
                      go_simp
                    simp only [Act.put, List.setIfInBounds_toArray, List.set_cons_zero, List.set_cons_succ, List.getElem_toArray, List.getElem_cons_zero, List.getElem_cons_succ]
                    refine wpAnyL_take (i := 13) (v := .int .i64 0) rfl (by kernel_rfl) (by kernel_rfl) (by kernel_rfl) (by kernel_rfl) (fun _ _ _ h => h) (Or.inl ⟨by rfl, ?_⟩) (by assumption) ?_
                    · intro w hSw
                      try dsimp only at hSw
                      go_simp
                    simp only [Act.put, List.setIfInBounds_toArray, List.set_cons_zero, List.set_cons_succ, List.getElem_toArray, List.getElem_cons_zero, List.getElem_cons_succ]
                    refine wpAnyL_take (i := 14) (v := .bool false) rfl (by kernel_rfl) (by kernel_rfl) (by kernel_rfl) (by kernel_rfl) (fun _ _ _ h => h) (Or.inl ⟨by rfl, ?_⟩) (by assumption) ?_
                    · intro w hSw
                      try dsimp only at hSw
                      go_simp
                    simp only [Act.put, List.setIfInBounds_toArray, List.set_cons_zero, List.set_cons_succ, List.getElem_toArray, List.getElem_cons_zero, List.getElem_cons_succ]
                    refine wpAnyL_done (by kernel_rfl) ?_ _
                    clear hHeld
                    go_wp2_with fail
                    go_roundg (lX - (j + 1))
                    case measure => omega
                    case rel => exact ⟨j + 1, F, by omega, rfl, by go_num, S2.out.drewN _, CP2.out, by rw [HTK2.out, List.foldl_append, ← HF.out]; exact HAO.out.symm⟩
                · obtain rfl : j = lX := by omega
                  go_wp2_with fail
                  go_roundg (A.length - (a + 1))
                  case measure => omega
                  case rel =>
                    refine ⟨a + 1, by omega, rfl, by go_num, ?_⟩
                    have e : F = (A.take (a + 1)).foldl (alAcc (spF A) (keysF A) path q) (fun _ => -1) := by
                      rw [HTK.out, List.foldl_append, ← HF0.out, HF.out, ← HLX.out, HXE.out, List.take_length]; rfl
                    rw [← e]; exact S2.out
            · obtain rfl : a = A.length := by omega
              rw [List.take_length] at SA
              have HAL := hid (fun k (hk : k < q) => alF_ok (np := q) HSO.out hk (HSU.out k hk))
              have SB := hid (show AlQ w wr n Bm q (.slice aS (spF A).length capS) (.slice (some ⟨Bo, 0, none⟩) A.length A.length) mt v X Bp q (alF (spF A) (keysF A) path q A) from SA.out)
              clear SA
              have hmk := fun (W : World) => mkRow Ybad.E26 q (by omega) rfl W
              obtain ⟨Bf, hBf⟩ : ∃ Bf : Nat → Ac, Bf = fun k => l.getD (alF (spF A) (keysF A) path q A (k * 2)).toNat ac0 := ⟨_, rfl⟩
              obtain ⟨Cf, hCf⟩ : ∃ Cf : Nat → Ac, Cf = fun k => l.getD (alF (spF A) (keysF A) path q A (k * 2 + 1)).toNat ac0 := ⟨_, rfl⟩
              obtain ⟨z26, hz26⟩ : ∃ z26 : Nat → Value, z26 = fun j => (Value.agg #[.int .i64 0, .int .i64 0, .string ⟨#[]⟩, .int .i64 0, .string ⟨#[]⟩, .string ⟨#[]⟩, .int .i64 0, .string ⟨#[]⟩]).cells[j % 8]! := ⟨_, rfl⟩
              rw [← hz26] at hmk
              clear hz26
              have S0 := hid (show AlR w (wr.alloc (.cells (rowF (q * 8) z26) 67)) Bp wr.heap.size q (alF (spF A) (keysF A) path q A) 0 Bf Cf from AlR.begin SB.out z26)
              obtain ⟨Ba, hBa⟩ : ∃ Ba, Ba = wr.heap.size := ⟨_, rfl⟩
              obtain ⟨w1, hw1⟩ : ∃ w1, w1 = wr.alloc (.cells (rowF (q * 8) z26) 67) := ⟨_, rfl⟩
              rw [← hBa, ← hw1] at S0
              have HBA := hid (show w.heap.size ≤ Ba from by rw [hBa]; have := SB.out.st.lt; omega)
              go_upto_region 29 with fail
              rw [← hBa, ← hw1]
              clear hBa hw1 hmk SB
              have HBF := hid hBf
              have HCF := hid hCf
              clear hBf hCf
              go_wp2_with fail
              go_loopg [138] q (fun g0 iv wi => ∃ k : Nat, k ≤ q ∧ g0 = q - k ∧ iv = .int .i64 (k : Int) ∧ AlR w wi Bp Ba q (alF (spF A) (keysF A) path q A) k Bf Cf)
              case atStart => exact ⟨0, Nat.zero_le _, rfl, rfl, S0.out⟩
              case round =>
                obtain ⟨k, hk, rfl, rfl, hst⟩ := hrel
                have SR := hid hst
                clear hst S0
                by_cases hkq : k < q
                · have hki : (k : Int) < (q : Int) := by omega
                  have hk0 : (0 : Int) ≤ (k : Int) := by omega
                  obtain ⟨x, hx, y, hy, -, -, -, e1, e2⟩ := HAL.out k hkq
                  have c0 := SR.out.fx.cell (j := k * 2) (by omega)
                  have c1 := SR.out.fx.cell (j := k * 2 + 1) (by omega)
                  try dsimp only at c0 c1
                  rw [e1] at c0
                  rw [e2] at c1
                  have hxl := (HM.out x hx).2.2
                  have hyl := (HM.out y hy).2.2
                  have HBK := hid (show Bf k = l[x.p] from by rw [HBF.out]; dsimp only; rw [e1, Int.toNat_natCast, List.getD_eq_getElem?_getD, List.getElem?_eq_getElem hxl, Option.getD_some])
                  have HCK := hid (show Cf k = l[y.p] from by rw [HCF.out]; dsimp only; rw [e2, Int.toNat_natCast, List.getD_eq_getElem?_getD, List.getElem?_eq_getElem hyl, Option.getD_some])
                  have S1 := hid (SR.out.alloc (.cells #[.int .i64 (x.p : Int), .int .i64 (y.p : Int)] 65))
                  have HARC := hid (arc_any (wr.alloc (.cells #[.int .i64 (x.p : Int), .int .i64 (y.p : Int)] 65)) vs l x.p y.p hxl hyl (by omega) (HVS.out.below S1.out.bel))
                  obtain ⟨ex, hex⟩ : ∃ ex, l[x.p] = ex := ⟨_, rfl⟩
                  obtain ⟨ey, hey⟩ : ∃ ey, l[y.p] = ey := ⟨_, rfl⟩
                  rw [hex, hey] at HARC
                  rw [hex] at HBK
                  rw [hey] at HCK
                  clear e1 e2 hex hey
                  go_wp2_with (first
                    | (go_at_call 24; refine Calls.mono HARC.out ?_; rintro e w2 ⟨rfl, hb⟩; have S2 := hid (S1.out.below hb); clear hb; dsimp only)
                    | ((with_reducible refine st67 (t := 148) (u := 147) Ba (k * 8) ex ey ?_ ?_ ?_ ?_); (exact rfl); (exact rfl); (exact S2.out.thk hkq); (skip)))
                  have S3 := hid (S2.out.set hkq HBK.out HCK.out)
                  go_roundg (q - (k + 1))
                  case measure => omega
                  case rel => exact ⟨k + 1, by omega, rfl, by go_num, S3.out⟩
                · obtain rfl : k = q := by omega
                  go_wp2_with fail
                  go_ret
                  refine ⟨Ba, Bf, Cf, rfl, HBA.out, SR.out.rg, SR.out.lt, SR.out.bel, fun i hi => ?_⟩
                  obtain ⟨x, hx, y, hy, h1, h2, h3, e1, e2⟩ := HAL.out i hi
                  refine ⟨x, hx, y, hy, h1, h2, h3, ?_, ?_⟩
                  · rw [HBF.out]; dsimp only; rw [e1, Int.toNat_natCast]
                  · rw [HCF.out]; dsimp only; rw [e2, Int.toNat_natCast]

end Go.Proofs.YbulkbgasDoor

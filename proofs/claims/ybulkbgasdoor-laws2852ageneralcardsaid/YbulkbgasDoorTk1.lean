import Derived.Test.YbulkbgasDoorCw4
namespace Go.Proofs.YbulkbgasDoor
open Go.RowKit Go.Maps
set_option linter.unusedVariables false

/-! ### The walk's memory while 'next' runs -/
structure TkM (w0 w1 wr : World) (n m L Bc : Nat) (b : Nat → Nat) (met : Nat → Bool) (ia nw rd wn : Nat → Nat) (v : Nat → Value) (X : Nat → List Nat) (T u : Nat) (vf : Value) (F : List Nat) : Prop where
  cw : CwS w0 wr n m L Bc b met ia nw rd wn v X
  bx : wr.heap[w1.heap.size]? = some (.cells #[.pointer (some ⟨w0.heap.size + 10, 0, none⟩)] 75 (0, 0))
  bu : wr.heap[w1.heap.size + 1]? = some (.cells #[.int .i64 (u : Int)] 3 (0, 0))
  bf : wr.heap[w1.heap.size + 2]? = some (.cells #[vf] 54 (0, 0))
  fr : wr.ownsRow (w1.heap.size + 3) 3 1 vf F.length (rowI F)
  top : ∀ r, r < cwN n m → ∀ g, (v r).ownBlock = some g → g < T
  tw : T ≤ w1.heap.size
  tb : w0.heap.size + 11 ≤ T
  kp : ∀ g, T ≤ g → g < w1.heap.size → wr.heap[g]? = w1.heap[g]?
section
variable {w0 w1 wr w' : World} {n m L Bc : Nat} {b : Nat → Nat} {met : Nat → Bool} {ia nw rd wn : Nat → Nat} {v : Nat → Value} {X : Nat → List Nat} {T u : Nat} {vf : Value} {F : List Nat}
theorem TkM.lt (h : TkM w0 w1 wr n m L Bc b met ia nw rd wn v X T u vf F) : w1.heap.size + 2 < wr.heap.size := (Array.getElem?_eq_some_iff.1 h.bf).1
theorem TkM.cx (h : TkM w0 w1 wr n m L Bc b met ia nw rd wn v X T u vf F) : wr.cell? ⟨w1.heap.size, 0, none⟩ = some (.pointer (some ⟨w0.heap.size + 10, 0, none⟩)) := by rw [cell_of_row _ _ _ _ _ _ h.bx]; rfl
theorem TkM.cu (h : TkM w0 w1 wr n m L Bc b met ia nw rd wn v X T u vf F) : wr.cell? ⟨w1.heap.size + 1, 0, none⟩ = some (.int .i64 (u : Int)) := by rw [cell_of_row _ _ _ _ _ _ h.bu]; rfl
theorem TkM.cf (h : TkM w0 w1 wr n m L Bc b met ia nw rd wn v X T u vf F) : wr.cell? ⟨w1.heap.size + 2, 0, none⟩ = some vf := by rw [cell_of_row _ _ _ _ _ _ h.bf]; rfl
theorem TkM.ff (h : TkM w0 w1 wr n m L Bc b met ia nw rd wn v X T u vf F) (j : Nat) : wr.frozen? ⟨w1.heap.size + 2, j, none⟩ = false := frozen_of_row _ _ _ _ _ h.bf
theorem TkM.alloc (h : TkM w0 w1 wr n m L Bc b met ia nw rd wn v X T u vf F) (o : Obj) : TkM w0 w1 (wr.alloc o) n m L Bc b met ia nw rd wn v X T u vf F := by
  have hl := h.lt
  exact ⟨h.cw.g.alloc o, (Below.heap_alloc _ _ _ (by omega)).trans h.bx, (Below.heap_alloc _ _ _ (by omega)).trans h.bu, (Below.heap_alloc _ _ _ (by omega)).trans h.bf, h.fr.alloc o, h.top, h.tw, h.tb, fun g hg hg2 => (Below.heap_alloc _ _ _ (by omega)).trans (h.kp g hg hg2)⟩
theorem TkM.drew (h : TkM w0 w1 wr n m L Bc b met ia nw rd wn v X T u vf F) : TkM w0 w1 wr.drew n m L Bc b met ia nw rd wn v X T u vf F :=
  ⟨h.cw.g.drew, h.bx, h.bu, h.bf, h.fr.kept (w' := wr.drew) (show wr.grownBy wr.drew none from ⟨rfl, rfl, rfl, Nat.le_refl _, fun _ _ _ => rfl⟩) (by cases e : vf.ownBlock <;> simp), h.top, h.tw, h.tb, h.kp⟩
theorem TkM.drewN (h : TkM w0 w1 wr n m L Bc b met ia nw rd wn v X T u vf F) (q : Nat) : TkM w0 w1 (wr.drewN q) n m L Bc b met ia nw rd wn v X T u vf F :=
  ⟨h.cw.g.drewN q, h.bx, h.bu, h.bf, h.fr.kept (w' := wr.drewN q) (show wr.grownBy (wr.drewN q) none from ⟨rfl, rfl, rfl, Nat.le_refl _, fun _ _ _ => rfl⟩) (by cases e : vf.ownBlock <;> simp), h.top, h.tw, h.tb, h.kp⟩
/-- A change within the walk's own blocks. -/
theorem TkM.inner (h : TkM w0 w1 wr n m L Bc b met ia nw rd wn v X T u vf F) {g : Nat} (hg : g < T) (gr : wr.grownBy w' (some g)) {met' : Nat → Bool} {ia' nw' rd' wn' : Nat → Nat} {X' : Nat → List Nat} (hc : CwS w0 w' n m L Bc b met' ia' nw' rd' wn' v X') : TkM w0 w1 w' n m L Bc b met' ia' nw' rd' wn' v X' T u vf F := by
  have hl := h.lt
  have ht := h.tw
  refine ⟨hc, (gr.block _ (by omega) (by simp; omega)).trans h.bx, (gr.block _ (by omega) (by simp; omega)).trans h.bu, (gr.block _ (by omega) (by simp; omega)).trans h.bf, h.fr.kept gr (.inr fun e => ?_), h.top, h.tw, h.tb, fun k hk hk2 => (gr.block _ (by omega) (by simp; omega)).trans (h.kp k hk hk2)⟩
  have := own_ge h.fr e
  omega
theorem TkM.setMet (h : TkM w0 w1 wr n m L Bc b met ia nw rd wn v X T u vf F) {j : Nat} (hj : j < n) (x : Bool) : TkM w0 w1 (wr.setCell ⟨b 0, j, none⟩ (.bool x)) n m L Bc b (updL met j x) ia nw rd wn v X T u vf F :=
  h.inner (by have := (h.cw.rng 0 (by omega)).2; have := h.tb; omega) (gr_set wr (b 0) j _) (h.cw.setMet hj x)
theorem TkM.setRd (h : TkM w0 w1 wr n m L Bc b met ia nw rd wn v X T u vf F) {j : Nat} (hj : j < m) (x : Nat) : TkM w0 w1 (wr.setCell ⟨b 8, j, none⟩ (.int .i64 (x : Int))) n m L Bc b met ia nw (updL rd j x) wn v X T u vf F :=
  h.inner (by have := (h.cw.rng 8 (by omega)).2; have := h.tb; omega) (gr_set wr (b 8) j _) (h.cw.setRd hj x)
theorem TkM.setWn (h : TkM w0 w1 wr n m L Bc b met ia nw rd wn v X T u vf F) {j : Nat} (hj : j < m) (x : Nat) : TkM w0 w1 (wr.setCell ⟨b 9, j, none⟩ (.int .i64 (x : Int))) n m L Bc b met ia nw rd (updL wn j x) v X T u vf F :=
  h.inner (by have := (h.cw.rng 9 (by omega)).2; have := h.tb; omega) (gr_set wr (b 9) j _) (h.cw.setWn hj x)
/-- What is returned has grown. -/
theorem TkM.app (h : TkM w0 w1 wr n m L Bc b met ia nw rd wn v X T u vf F) {vE : Value} {F' : List Nat} (ho : w'.ownsRow (w1.heap.size + 3) 3 1 vE F'.length (rowI F')) (hg : wr.grownBy w' vf.ownBlock) :
    w'.cell? ⟨w1.heap.size + 2, 0, none⟩ = some vf ∧ w'.frozen? ⟨w1.heap.size + 2, 0, none⟩ = false ∧ Hid (TkM w0 w1 (w'.setCell ⟨w1.heap.size + 2, 0, none⟩ vE) n m L Bc b met ia nw rd wn v X T u vE F') := by
  have hl := h.lt
  have ht := h.tw
  have htb := h.tb
  have hne : ∀ g, g < w1.heap.size + 3 → some g ≠ vf.ownBlock := fun g hg e => by have := own_ge h.fr e.symm; omega
  have bf1 := (hg.block _ (by omega) (hne (w1.heap.size + 2) (by omega))).trans h.bf
  have cw1 : CwS w0 w' n m L Bc b met ia nw rd wn v X := by
    refine ⟨h.cw.inj, h.cw.rng, (hg.block _ (by omega) (hne _ (by omega))).trans h.cw.box, fun k hk => (h.cw.fx k hk).grown hg (hne _ (by have := (h.cw.rng k hk).2; omega)), h.cw.fam.keptOut hg (fun r hr g e e2 => ?_), h.cw.bel.grown hg (by omega) (fun g e => ?_)⟩
    · have := h.top r hr g e; exact hne g (by omega) e2.symm
    · have := own_ge h.fr e; omega
  refine ⟨by rw [cell_of_row _ _ _ _ _ _ bf1]; rfl, frozen_of_row _ _ _ _ _ bf1, hid ⟨?_, ?_, ?_, ?_, ?_, h.top, h.tw, h.tb, fun g hg1 hg2 => ?_⟩⟩
  · have gs := gr_set w' (w1.heap.size + 2) 0 vE
    refine ⟨cw1.inj, cw1.rng, (gs.block _ (by have := cw1.lt; omega) (by simp; omega)).trans cw1.box, fun k hk => (cw1.fx k hk).grown gs (by have := (cw1.rng k hk).2; simp; omega), cw1.fam.keptOut gs (fun r hr g e e2 => ?_), cw1.bel.grown gs (by have := hg.size; omega) (fun g e => by cases e; omega)⟩
    have := h.top r hr g e
    simp at e2
    omega
  · rw [heap_setCell_other w' _ _ _ (by show _ ≠ w1.heap.size + 2; omega)]; exact (hg.block _ (by omega) (hne _ (by omega))).trans h.bx
  · rw [heap_setCell_other w' _ _ _ (by show _ ≠ w1.heap.size + 2; omega)]; exact (hg.block _ (by omega) (hne _ (by omega))).trans h.bu
  · rw [heap_setCell_same _ _ _ _ _ _ bf1]; rfl
  · exact ho.kept (gr_set w' (w1.heap.size + 2) 0 vE) (.inr fun e => by have := own_ge ho e; omega)
  · rw [heap_setCell_other w' _ _ _ (by show _ ≠ w1.heap.size + 2; omega)]; exact (hg.block _ (by omega) (hne _ (by omega))).trans (h.kp g hg1 hg2)
end

/-! ### Blocks that a change leaves alone -/
def Kp (T q : Nat) (w : World) (vf : Value) (wi : World) (vf' : Value) : Prop := w.heap.size ≤ wi.heap.size ∧ ∀ B, T ≤ B → B < w.heap.size → B ≠ q → vf.ownBlock ≠ some B → wi.heap[B]? = w.heap[B]? ∧ vf'.ownBlock ≠ some B
theorem Kp.refl (T q : Nat) (w : World) (vf : Value) : Kp T q w vf w vf := ⟨Nat.le_refl _, fun _ _ _ _ h => ⟨rfl, h⟩⟩
theorem Kp.inner {T q : Nat} {w wi w2 : World} {vf vf' : Value} (h : Kp T q w vf wi vf') {g : Nat} (hg : g < T) (gr : wi.grownBy w2 (some g)) : Kp T q w vf w2 vf' :=
  ⟨Nat.le_trans h.1 gr.size, fun B h1 h2 h3 h4 => ⟨(gr.block B (Nat.lt_of_lt_of_le h2 h.1) (by simp; omega)).trans (h.2 B h1 h2 h3 h4).1, (h.2 B h1 h2 h3 h4).2⟩⟩
theorem Kp.app {T q : Nat} {w wi wE : World} {vf vf' vE : Value} (h : Kp T q w vf wi vf') (o : Obj) (hg : (wi.alloc o).grownBy wE vf'.ownBlock) {g1 : Nat} (he : vE.ownBlock = some g1) (hat : vf'.ownBlock = some g1 ∨ g1 = (wi.alloc o).heap.size) : Kp T q w vf (wE.setCell ⟨q, 0, none⟩ vE) vE := by
  have hs := hg.size
  have h1 := h.1
  simp only [World.size_alloc] at hs hat
  refine ⟨by simp; omega, fun B a1 a2 a3 a4 => ?_⟩
  obtain ⟨b1, b2⟩ := h.2 B a1 a2 a3 a4
  refine ⟨?_, fun e => ?_⟩
  · rw [heap_setCell_other wE _ _ _ (by show B ≠ q; exact a3), hg.block B (by simp; omega) (fun e => b2 e.symm), Below.heap_alloc _ _ _ (by omega)]
    exact b1
  · rw [he] at e
    cases e
    rcases hat with h5 | h5
    · exact b2 h5
    · omega

/-- A row that lies whole in its block, as a block of so many cells. -/
theorem fix_of_own {W : World} {base g n : Nat} {l : List Nat} (hl : l.length = n) (h : W.ownsRow base 3 1 (.slice (some ⟨g, 0, none⟩) n n) l.length (rowI l)) : Fix W g 3 n (fun j => .int .i64 (l.getD j 0 : Int)) := by
  subst hl
  rcases h.2 with ⟨h1, _⟩ | ⟨g', cap, cur, h1, h2, h3, h4, h5, h6, h7⟩
  · cases h1
  · simp only [Value.slice.injEq, Option.some.injEq, Addr.mk.injEq, and_true, true_and] at h1
    obtain ⟨rfl, rfl⟩ := h1
    have hs : cur.size = l.length := by rw [h6, Nat.mul_one]
    unfold Fix
    rw [h3]
    congr 2
    refine Array.ext (by rw [hs, rowF_size]) (fun j hj1 hj2 => ?_)
    have hj : j < l.length := by omega
    have e1 : cur[j]? = (rowI l)[j]? := by
      rw [← h7, List.getElem?_take, if_pos (by omega), Array.getElem?_toList]
    have e2 := rowF_get (f := fun j => Value.int .i64 (l.getD j 0 : Int)) hj
    rw [List.getElem?_eq_getElem (by rw [rowI_length]; exact hj), rowI_get hj, Array.getElem?_eq_getElem hj1] at e1
    rw [Array.getElem?_eq_getElem hj2] at e2
    rw [Option.some.inj e1, Option.some.inj e2]
    simp [List.getD_eq_getElem?_getD, List.getElem?_eq_getElem hj]
def rowR (k : Nat) (R : Nat → Nat) : List Nat := (List.range (k + 1)).map R
theorem rowR_getD {k : Nat} {R : Nat → Nat} {j : Nat} (h : j < k + 1) : (rowR k R).getD j 0 = R j := by simp [rowR, List.getD_eq_getElem?_getD, h]
section
variable {w0 w1 wr w' : World} {n m L Bc : Nat} {b : Nat → Nat} {met : Nat → Bool} {ia nw rd wn : Nat → Nat} {v : Nat → Value} {X : Nat → List Nat} {T u : Nat} {vf : Value} {F : List Nat}
/-- The row of what remains, of an item. -/
theorem TkM.rem (h : TkM w0 w1 wr n m L Bc b met ia nw rd wn v X T u vf F) {r k g : Nat} {R : Nat → Nat} (hr : r < cwN n m) (hv : v r = .slice (some ⟨g, 0, none⟩) (k + 1) (k + 1)) (hX : X r = rowR k R) : Fix wr g 3 (k + 1) (fun j => .int .i64 ((R j : Nat) : Int)) := by
  have := h.cw.fam.own r hr
  rw [hv, hX] at this
  exact (fix_of_own (by simp [rowR]) this).congr (fun j hj => by rw [rowR_getD hj])
theorem TkM.remNew (h : TkM w0 w1 wr n m L Bc b met ia nw rd wn v X T u vf F) {r k g : Nat} {R' : Nat → Nat} (hr : r < cwN n m) (hk : k ≤ 1000) (hv : v r = .slice (some ⟨g, 0, none⟩) (k + 1) (k + 1)) (hf : Fix w' g 3 (k + 1) (fun j => .int .i64 ((R' j : Nat) : Int))) (hg : wr.grownBy w' (some g)) : TkM w0 w1 w' n m L Bc b met ia nw rd wn v (updL X r (rowR k R')) T u vf F := by
  have hgb : (v r).ownBlock = some g := by rw [hv]; rfl
  have hge := h.cw.ge hr hgb
  have ho := own_of_fix (l := rowR k R') (base := w0.heap.size + 11) hf (by simp [rowR]) (fun j hj => by simp [rowR]) hge (by omega)
  have ht := h.cw.g.turn hr (v' := .slice (some ⟨g, 0, none⟩) (k + 1) (k + 1)) ho (by rw [hgb]; exact hg) (fun g' e => .inl (by rw [hgb]; simp only [Value.ownBlock] at e; exact e))
  rw [← hv, updL_self] at ht
  exact h.inner (h.top r hr g hgb) hg ht
end

/-! ### What 'take' does, plainly -/
structure TkI (n u : Nat) (Tx : List Nat) (fr i : Nat) (met0 : Nat → Bool) (F0 : List Nat) (met : Nat → Bool) (F : List Nat) (R : Nat → Nat) : Prop where
  rem : Rem Tx.length R
  dr : ∀ j (hj : j < Tx.length), R j ≠ j → met Tx[j] = true
  don : ∀ j (hj : j < Tx.length), fr ≤ j → j < i → Tx[j] = u ∨ met Tx[j] = true
  gr : ∃ G, F = F0 ++ G ∧ G.Nodup ∧ (∀ x ∈ G, x < n ∧ met0 x = false ∧ x ≠ u ∧ ∃ j, ∃ hj : j < Tx.length, fr ≤ j ∧ Tx[j] = x) ∧ ∀ x, met x = true ↔ met0 x = true ∨ x ∈ G
section
variable {n u : Nat} {Tx : List Nat} {fr i : Nat} {met0 met : Nat → Bool} {F0 F : List Nat} {R R' : Nat → Nat}
theorem TkI.begin (hr : Rem Tx.length R) (hd : ∀ j (hj : j < Tx.length), R j ≠ j → met0 Tx[j] = true) (hi : ∀ j, fr ≤ j → j < i → R j ≠ j) : TkI n u Tx fr i met0 F0 met0 F0 R :=
  ⟨hr, hd, fun j hj h1 h2 => .inr (hd j hj (hi j h1 h2)), [], by simp, by simp, by simp, by simp⟩
/-- On to the next that remains. -/
theorem TkI.next (h : TkI n u Tx fr i met0 F0 met F R) {k : Nat} (hr : Rem Tx.length R') (he : ∀ j, R' j = j ↔ R j = j) (hi : ∀ (hi : i < Tx.length), Tx[i] = u ∨ met Tx[i] = true) (hk : ∀ j, i + 1 ≤ j → j < k → R j ≠ j) : TkI n u Tx fr k met0 F0 met F R' := by
  refine ⟨hr, fun j hj hne => h.dr j hj (fun e => hne ((he j).2 e)), fun j hj h1 h2 => ?_, h.gr⟩
  by_cases e1 : j < i
  · exact h.don j hj h1 e1
  · by_cases e2 : j = i
    · subst e2; exact hi hj
    · exact .inr (h.dr j hj (hk j (by omega) h2))
/-- One is dropped that has been met. -/
theorem TkI.drop (h : TkI n u Tx fr i met0 F0 met F R) (hi : i < Tx.length) (hm : met Tx[i] = true) (hR : R i = i) : TkI n u Tx fr i met0 F0 met F (updL R i (i + 1)) :=
  ⟨h.rem.drop hi hR, fun j hj hne => by
    by_cases e : j = i
    · subst e; exact hm
    · exact h.dr j hj (by rw [updL_other _ e] at hne; exact hne), h.don, h.gr⟩
/-- One is met. -/
theorem TkI.meet (h : TkI n u Tx fr i met0 F0 met F R) (hi : i < Tx.length) (hf : fr ≤ i) (hu : Tx[i] ≠ u) (hn : Tx[i] < n) (hm : met Tx[i] = false) : TkI n u Tx fr i met0 F0 (updL met Tx[i] true) (F ++ [Tx[i]]) R := by
  have hup : ∀ x, met x = true → updL met Tx[i] true x = true := fun x hx => by unfold updL; split <;> simp_all
  obtain ⟨G, h1, h2, h3, h4⟩ := h.gr
  have hng : Tx[i] ∉ G := fun hg => by have := (h4 Tx[i]).2 (.inr hg); rw [hm] at this; cases this
  have hn0 : met0 Tx[i] = false := by
    cases e : met0 Tx[i] with
    | false => rfl
    | true => have := (h4 Tx[i]).2 (.inl e); rw [hm] at this; cases this
  refine ⟨h.rem, fun j hj hne => hup _ (h.dr j hj hne), fun j hj a1 a2 => (h.don j hj a1 a2).imp id (hup _), G ++ [Tx[i]], by rw [h1, List.append_assoc], ?_, ?_, ?_⟩
  · rw [List.nodup_append]
    exact ⟨h2, by simp, fun a ha c hc => by simp at hc; subst hc; exact fun e => hng (e ▸ ha)⟩
  · intro x hx
    rcases List.mem_append.1 hx with hx | hx
    · exact h3 x hx
    · simp at hx; subst hx; exact ⟨hn, hn0, hu, i, hi, hf, rfl⟩
  · intro x
    unfold updL
    by_cases e : x = Tx[i]
    · subst e; simp
    · rw [if_neg e, h4 x]; simp [e]
end
end Go.Proofs.YbulkbgasDoor

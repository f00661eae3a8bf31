import Derived.Test.YbulkbgasDoorNa2
namespace Go.Proofs.YbulkbgasDoor
open Go.RowKit Go.Maps
set_option linter.unusedVariables false

/-! ### firstConflicts, plainly -/
structure Fc where
  F : Nat → Int
  U : Nat → Int
  L : Nat → List Nat
def upd2 (F : Nat → Int) (t : Nat) (x y : Int) : Nat → Int := updL (updL F (t * 2) x) (t * 2 + 1) y
/-- One that waits, met. -/
def fcIn (back : Bool) (P tx : Nat → Nat) (U : Nat → Int) (own : Nat) (c : Acc) (F : Nat → Int) (i : Nat) : Nat → Int :=
  if i = own then F
  else if F (tx i * 2) < 0 then
    (if back = true then upd2 F (tx i) (c.p : Int) (P (if c.w = true then U (i * 2) else U (i * 2 + 1)).toNat : Int)
     else upd2 F (tx i) (P (if c.w = true then U (i * 2) else U (i * 2 + 1)).toNat : Int) (c.p : Int))
  else F
/-- One of the two lists of the item, met. -/
def fcHalf (back : Bool) (P tx : Nat → Nat) (own : Nat) (c : Acc) (s : Fc) (k : Nat) : Fc :=
  if k = 0 ∧ c.w = false then s
  else ⟨(s.L (c.i * 2 + k)).foldl (fcIn back P tx s.U own c) s.F, s.U, updL s.L (c.i * 2 + k) ((s.L (c.i * 2 + k)).filter (· == own))⟩
def fcReg1 (own : Nat) (c : Acc) (q : Nat) (s : Fc) : Fc :=
  if s.U (own * 2) < 0 then ⟨s.F, updL s.U (own * 2) (q : Int), if c.w = true then s.L else updL s.L (c.i * 2) (s.L (c.i * 2) ++ [own])⟩ else s
def fcReg2 (own : Nat) (c : Acc) (q : Nat) (s : Fc) : Fc :=
  if c.w = true ∧ s.U (own * 2 + 1) < 0 then ⟨s.F, updL s.U (own * 2 + 1) (q : Int), updL s.L (c.i * 2 + 1) (s.L (c.i * 2 + 1) ++ [own])⟩ else s
def fcStep (back : Bool) (P tx : Nat → Nat) (own : Nat) (c : Acc) (q : Nat) (s : Fc) : Fc :=
  fcReg2 own c q (fcReg1 own c q (fcHalf back P tx own c (fcHalf back P tx own c s 0) 1))
def fcAt (back : Bool) (n k : Nat) : Nat := if back = true then n - 1 - k else k
def fc0 : Fc := ⟨fun _ => -1, fun _ => -1, fun _ => []⟩
def fcF (back : Bool) (A : List Acc) (tx ow : Nat → Nat) : Nat → Fc
  | 0 => fc0
  | k + 1 => fcStep back (fun q => (A.getD q a0).p) tx (ow (fcAt back A.length k)) (A.getD (fcAt back A.length k) a0) (fcAt back A.length k) (fcF back A tx ow k)

/-! ### How it stands in memory -/
structure FcSt (w wr : World) (bx : Array Value) (nT nS nI : Nat) (v : Nat → Value) (s : Fc) : Prop where
  box : wr.heap[w.heap.size]? = some (.cells bx 57 (0, 0))
  fi : Fix wr (w.heap.size + 1) 65 (nT * 2) (fun j => .int .i64 (s.F j))
  wa : Fix wr (w.heap.size + 2) 106 (nS * 2) (fun j => .int .i64 (s.U j))
  wt : Fix wr (w.heap.size + 3) 109 (nI * 2) v
  fam : FamI wr (w.heap.size + 4) 3 1 (nI * 2) v s.L
  bel : Below w.heap.size w wr
section
variable {w wr : World} {bx : Array Value} {nT nS nI : Nat} {v : Nat → Value} {s : Fc}
theorem FcSt.lt (h : FcSt w wr bx nT nS nI v s) : w.heap.size + 3 < wr.heap.size := h.wt.lt
theorem FcSt.alloc (h : FcSt w wr bx nT nS nI v s) (o : Obj) : FcSt w (wr.alloc o) bx nT nS nI v s := by
  have hl := h.lt
  exact ⟨(Below.heap_alloc _ _ _ (by omega)).trans h.box, h.fi.alloc o, h.wa.alloc o, h.wt.alloc o, h.fam.alloc o, h.bel.alloc (by omega) o⟩
theorem FcSt.heap {wr' : World} (h : FcSt w wr bx nT nS nI v s) (e : wr'.heap = wr.heap) (hb : Below w.heap.size w wr') : FcSt w wr' bx nT nS nI v s := by
  refine ⟨by rw [e]; exact h.box, by unfold Fix; rw [e]; exact h.fi, by unfold Fix; rw [e]; exact h.wa, by unfold Fix; rw [e]; exact h.wt, ⟨fun i hi => ?_, h.fam.sep⟩, hb⟩
  have := h.fam.own i hi
  unfold World.ownsRow at this ⊢
  rw [e]; exact this
theorem FcSt.drewN (h : FcSt w wr bx nT nS nI v s) (k : Nat) : FcSt w (wr.drewN k) bx nT nS nI v s := h.heap rfl (below_drewN h.bel k)
theorem FcSt.drew (h : FcSt w wr bx nT nS nI v s) : FcSt w wr.drew bx nT nS nI v s := h.heap rfl ⟨h.bel.os, h.bel.tape, h.bel.output, h.bel.size, h.bel.block⟩
theorem FcSt.ne (h : FcSt w wr bx nT nS nI v s) {i : Nat} (hi : i < nI * 2) {b : Nat} (hb : b < w.heap.size + 4) : some b ≠ (v i).ownBlock := fun e => by have := own_ge (h.fam.own i hi) e.symm; omega
/-- The two cells of a pair, turned. -/
theorem FcSt.setF (h : FcSt w wr bx nT nS nI v s) {t : Nat} (ht : t < nT) (x y : Int) :
    FcSt w ((wr.setCell ⟨w.heap.size + 1, t * 2, none⟩ (.int .i64 x)).setCell ⟨w.heap.size + 1, t * 2 + 1, none⟩ (.int .i64 y)) bx nT nS nI v { s with F := upd2 s.F t x y } := by
  have hl := h.lt
  refine ⟨?_, ((h.fi.set (j := t * 2) (by omega) _).set (j := t * 2 + 1) (by omega) _).congr fun j hj => ?_, (h.wa.other _ _ (by omega) _).other _ _ (by omega) _, (h.wt.other _ _ (by omega) _).other _ _ (by omega) _, (h.fam.setCell (by omega) _ _).setCell (by omega) _ _, (h.bel.setCell (p := ⟨w.heap.size + 1, t * 2, none⟩) (by simp) _).setCell (p := ⟨w.heap.size + 1, t * 2 + 1, none⟩) (by simp) _⟩
  · rw [heap_setCell_other _ _ _ _ (by show _ ≠ _; simp), heap_setCell_other _ _ _ _ (by show _ ≠ _; simp)]; exact h.box
  · unfold upd
    dsimp only
    unfold upd2 updL
    by_cases e : j = t * 2 + 1
    · rw [if_pos e, if_pos e]
    · rw [if_neg e, if_neg e]
      by_cases e2 : j = t * 2
      · rw [if_pos e2, if_pos e2]
      · rw [if_neg e2, if_neg e2]
theorem FcSt.setU (h : FcSt w wr bx nT nS nI v s) {j : Nat} (hj : j < nS * 2) (x : Int) : FcSt w (wr.setCell ⟨w.heap.size + 2, j, none⟩ (.int .i64 x)) bx nT nS nI v { s with U := updL s.U j x } := by
  have hl := h.lt
  refine ⟨?_, h.fi.other _ _ (by omega) _, (h.wa.set hj _).congr fun i hi => ?_, h.wt.other _ _ (by omega) _, h.fam.setCell (by omega) _ _, h.bel.setCell (p := ⟨w.heap.size + 2, j, none⟩) (by simp) _⟩
  · rw [heap_setCell_other _ _ _ _ (by show _ ≠ _; simp)]; exact h.box
  · unfold upd updL; dsimp only; split <;> rfl
/-- One of the lists turns. -/
theorem FcSt.turn (h : FcSt w wr bx nT nS nI v s) {i : Nat} (hi : i < nI * 2) {wE : World} {v' : Value} {l : List Nat} (ho : wE.ownsRow (w.heap.size + 4) 3 1 v' l.length (rowI l)) (hg : wr.grownBy wE (v i).ownBlock) (hn : ∀ g, v'.ownBlock = some g → (v i).ownBlock = some g ∨ wr.heap.size ≤ g) :
    wE.cell? ⟨w.heap.size + 3, i, none⟩ = some (v i) ∧ wE.frozen? ⟨w.heap.size + 3, i, none⟩ = false ∧ Hid (FcSt w (wE.setCell ⟨w.heap.size + 3, i, none⟩ v') bx nT nS nI (updL v i v') { s with L := updL s.L i l }) := by
  have hlt := h.lt
  have nn : ∀ b, b < w.heap.size + 4 → some b ≠ (v i).ownBlock := fun b hb => h.ne hi hb
  have wt1 := h.wt.grown hg (nn _ (by omega))
  refine ⟨wt1.cell hi, wt1.free i, hid ⟨?_, (h.fi.grown hg (nn _ (by omega))).other _ _ (by omega) _, (h.wa.grown hg (nn _ (by omega))).other _ _ (by omega) _, (wt1.set hi v').congr fun j hj => rfl, (h.fam.turn hi ho hg hn).setCell (by omega) _ _, (h.bel.grown hg (by omega) fun k hk => ?_).setCell (p := ⟨w.heap.size + 3, i, none⟩) (by simp) _⟩⟩
  · rw [heap_setCell_other _ _ _ _ (by show _ ≠ _; simp)]
    exact (hg.block _ (by omega) (nn _ (by omega))).trans h.box
  · have := own_ge (h.fam.own i hi) hk; omega
/-- A cell of one of the lists turns, in place. -/
theorem FcSt.inPlace (h : FcSt w wr bx nT nS nI v s) {i : Nat} (hi : i < nI * 2) {g n cap : Nat} (hv : v i = .slice (some ⟨g, 0, none⟩) n cap) {j : Nat} (hj : j < (s.L i).length) (y : Nat) :
    FcSt w (wr.setCell ⟨g, j, none⟩ (.int .i64 (y : Int))) bx nT nS nI v { s with L := updL s.L i ((s.L i).set j y) } := by
  have hlt := h.lt
  have ho := h.fam.own i hi
  have hnl : n = (s.L i).length := by
    rcases ho.2 with ⟨h1, _⟩ | ⟨g', cap', cur, h1, _⟩
    · rw [hv] at h1; cases h1
    · rw [hv] at h1; cases h1; rfl
  subst hnl
  rw [hv] at ho
  have hge : w.heap.size + 4 ≤ g := own_ge ho rfl
  have hs := own_setCell ho (j := j) (by rw [rowI_length]; exact hj) (.int .i64 (y : Int))
  have e : (rowI (s.L i)).set j (.int .i64 (y : Int)) = rowI ((s.L i).set j y) := by unfold rowI; rw [List.map_set]
  rw [e] at hs
  have hg : wr.grownBy (wr.setCell ⟨g, j, none⟩ (.int .i64 (y : Int))) (v i).ownBlock := by rw [hv]; exact grownBy_setCell'' _ _ _ _
  refine ⟨?_, h.fi.other _ _ (by omega) _, h.wa.other _ _ (by omega) _, h.wt.other _ _ (by omega) _, ?_, h.bel.setCell (p := ⟨g, j, none⟩) (by show _ ≤ g; omega) _⟩
  · rw [heap_setCell_other _ _ _ _ (by show _ ≠ g; omega)]; exact h.box
  · have ht := h.fam.turn hi (v' := v i) (l := (s.L i).set j y) (by rw [hv, List.length_set]; exact hs) hg (fun g' hg' => .inl hg')
    exact ht.congr (fun k hk => by unfold updL; split <;> simp_all) (fun k hk => rfl)
end

/-- An owned row, cut short. -/
theorem own_take {w : World} {base g n cap : Nat} {l : List Nat} (h : w.ownsRow base 3 1 (.slice (some ⟨g, 0, none⟩) n cap) n (rowI l)) {k : Nat} (hk : k ≤ n) : w.ownsRow base 3 1 (.slice (some ⟨g, 0, none⟩) k cap) k (rowI (l.take k)) := by
  have h1 := h.1
  rw [rowI_length] at h1
  refine ⟨by rw [rowI_length, List.length_take]; omega, ?_⟩
  rcases h.2 with ⟨h2, _⟩ | ⟨g', cap', cur, h2, h3, h4, h5, h6, h7, h8⟩
  · cases h2
  · cases h2
    refine .inr ⟨g, cap, cur, rfl, h3, h4, by omega, h6, h7, ?_⟩
    rw [Nat.mul_one] at h8 ⊢
    have : rowI (l.take k) = (rowI l).take k := by unfold rowI; rw [List.map_take]
    rw [this, ← h8, List.take_take, Nat.min_eq_left hk]

section
variable {ops : Array Oper} {rest : List Oper} {Q : Exit → Act → World → Prop} {a : Act} {w : World} {tt : TypeId} {ps : String} {dst : Option Tmp} {aft : Array Edge}
/-- 'append(v, y)' of an int, where there is room. -/
theorem apRoom {t u : Tmp} (g n cap h0 : Nat) (y : Int) (hs : a.eval (.tmp t) = .slice (some ⟨g, 0, none⟩) n cap) (hx : a.eval (.tmp u) = .slice (some ⟨h0, 0, none⟩) 1 1) (hh : w.heap[h0]? = some (.cells #[.int .i64 y] 3 (0, 0))) (hroom : n + 1 ≤ cap)
    (u0 : Value) (hc : w.cell? ⟨g, n, none⟩ = some u0) (hf : w.frozen? ⟨g, n, none⟩ = false)
    (h : wpList Ybad.prog ops Q rest (a.put dst (.slice (some ⟨g, 0, none⟩) (n + 1) cap)) (w.setCell ⟨g, n, none⟩ (.int .i64 y))) :
    wpList Ybad.prog ops Q ({ dst := dst, op := .call { callee := .builtin .append, args := #[.tmp t, .tmp u], argTypes := #[54, 54] }, type := tt, pos := ps, after := aft, guard := none } :: rest) a w := by
  refine wpList_plain rfl fun K hK' => ?_
  obtain ⟨ie, hie, hz, hsz, hb2⟩ := info_parts Ybad.E54.info
  have hrun := run_append_room_cells (P := Ybad.prog) w 54 tt 3 ie Ybad.E54.und hie g 0 n cap ⟨h0, 0, none⟩ 1 1 [.int .i64 y] (by rw [hsz]; rfl) (World.news_of_block (cs := #[.int .i64 y]) (t := 3) (fr := (0, 0)) hh) (by simp [Value.oneCell']) hroom (fun j hj => by
      simp at hj; subst hj; rw [hsz]; simp [hc]) (fun j hj => by simp at hj; subst hj; rw [hsz]; simpa using hf)
  rw [hsz] at hrun
  have e : w.setCells g (0 + n * 1) [.int .i64 y] = w.setCell ⟨g, n, none⟩ (.int .i64 y) := by simp [World.setCells]
  rw [e] at hrun
  unfold Oper.wp
  simp [execOp, resolve, invoke, builtin, hs, hx, hrun, Result.andThen]
  exact hK' _ _ h
end

end Go.Proofs.YbulkbgasDoor

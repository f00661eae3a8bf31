import Derived.Test.YbulkbgasDoorTa2
import Derived.Test.YbulkbgasDoorGs
namespace Go.Proofs.YbulkbgasDoor
open Go.RowKit Go.Maps
set_option linter.unusedVariables false

/-! ### Tarjan's search in memory -/
def rowP (l : List (Nat × Nat)) : List Value := l.flatMap fun p => [Value.int .i64 (p.1 : Int), Value.int .i64 (p.2 : Int)]
theorem rowP_snoc (l : List (Nat × Nat)) (p : Nat × Nat) : rowP (l ++ [p]) = rowP l ++ [.int .i64 (p.1 : Int), .int .i64 (p.2 : Int)] := by simp [rowP]
theorem rowP_length (l : List (Nat × Nat)) : (rowP l).length = l.length * 2 := by
  induction l with
  | nil => rfl
  | cons p l ih => have : (rowP (p :: l)).length = 2 + (rowP l).length := by simp [rowP]; omega
                   rw [this, ih, List.length_cons]; omega
theorem Ybad.E54' : ElemT 54 3 1 8 (.int .i64 0) := ⟨Ybad.underlying54, by kernel_rfl, rfl, by decide, by decide⟩
theorem Ybad.E159 : ElemT 159 161 2 16 (.agg #[.int .i64 0, .int .i64 0]) := ⟨Ybad.underlying159, by kernel_rfl, rfl, by decide, by decide⟩
theorem Ybad.E121' : ElemT 121 4 1 1 (.bool false) := ⟨Ybad.underlying121, by kernel_rfl, rfl, by decide, by decide⟩

/-- The types and the lengths of the ten fixed blocks. -/
def taT (k : Nat) : Nat := match k with | 0 => 4 | 1 => 3 | 2 => 54 | 3 => 3 | 4 => 54 | 5 => 54 | 6 => 4 | 7 => 121 | 8 => 159 | _ => 3
def taL (n k : Nat) : Nat := match k with | 0 => n | 1 => n | 3 => n | 6 => n | _ => 1
structure TaG (n : Nat) (w0 wr : World) (V : Nat → Nat → Value) (C : List Nat) (vC : Value) (P : List (Nat × Nat)) (vP : Value) : Prop where
  fx : ∀ k, k < 10 → Fix wr (w0.heap.size + k) (taT k) (taL n k) (V k)
  co : wr.ownsRow (w0.heap.size + 10) 3 1 vC C.length (rowI C)
  pa : wr.ownsRow (w0.heap.size + 10) 161 2 vP P.length (rowP P)
  bel : Below w0.heap.size w0 wr
section
variable {n : Nat} {w0 wr w' : World} {V : Nat → Nat → Value} {C : List Nat} {vC : Value} {P : List (Nat × Nat)} {vP : Value}
theorem TaG.lt (h : TaG n w0 wr V C vC P vP) : w0.heap.size + 9 < wr.heap.size := (h.fx 9 (by omega)).lt
theorem TaG.alloc (h : TaG n w0 wr V C vC P vP) (o : Obj) : TaG n w0 (wr.alloc o) V C vC P vP :=
  ⟨fun k hk => (h.fx k hk).alloc o, h.co.alloc o, h.pa.alloc o, h.bel.alloc (by have := h.lt; omega) o⟩
theorem TaG.drewN (h : TaG n w0 wr V C vC P vP) (q : Nat) : TaG n w0 (wr.drewN q) V C vC P vP :=
  have hg : wr.grownBy (wr.drewN q) none := ⟨rfl, rfl, rfl, Nat.le_refl _, fun _ _ _ => rfl⟩
  ⟨fun k hk => (h.fx k hk).drewN q, h.co.kept hg (by cases e : vC.ownBlock <;> simp), h.pa.kept hg (by cases e : vP.ownBlock <;> simp), below_drewN h.bel q⟩
theorem TaG.congr (h : TaG n w0 wr V C vC P vP) {V' : Nat → Nat → Value} (he : ∀ k, k < 10 → ∀ j, j < taL n k → V k j = V' k j) : TaG n w0 wr V' C vC P vP :=
  ⟨fun k hk => (h.fx k hk).congr (he k hk), h.co, h.pa, h.bel⟩
theorem TaG.ge (h : TaG n w0 wr V C vC P vP) : (∀ g, vC.ownBlock = some g → w0.heap.size + 10 ≤ g) ∧ ∀ g, vP.ownBlock = some g → w0.heap.size + 10 ≤ g := ⟨fun g e => own_ge h.co e, fun g e => own_ge h.pa e⟩
/-- A cell of a fixed block is turned. -/
theorem TaG.set (h : TaG n w0 wr V C vC P vP) {k0 j : Nat} (hk : k0 < 10) (hj : j < taL n k0) (v : Value) : TaG n w0 (wr.setCell ⟨w0.heap.size + k0, j, none⟩ v) (fun k => if k = k0 then upd (V k0) j v else V k) C vC P vP := by
  have hg := gr_set wr (w0.heap.size + k0) j v
  refine ⟨fun k hk' => ?_, h.co.kept hg (.inr fun e => by have := h.ge.1 _ e; omega), h.pa.kept hg (.inr fun e => by have := h.ge.2 _ e; omega), h.bel.grown hg (by have := h.lt; omega) (fun b e => by cases e; omega)⟩
  by_cases e : k = k0
  · subst e; simp only [if_true]; exact (h.fx k hk').set hj v
  · simp only [if_neg e]; exact (h.fx k hk').other _ _ (by omega) v
theorem TaG.cell (h : TaG n w0 wr V C vC P vP) {k j : Nat} (hk : k < 10) (hj : j < taL n k) : wr.cell? ⟨w0.heap.size + k, j, none⟩ = some (V k j) := (h.fx k hk).cell hj
theorem TaG.free (h : TaG n w0 wr V C vC P vP) {k : Nat} (hk : k < 10) (j : Nat) : wr.frozen? ⟨w0.heap.size + k, j, none⟩ = false := (h.fx k hk).free j
/-- The component has grown. -/
theorem TaG.apC (h : TaG n w0 wr V C vC P vP) {wE : World} {vE : Value} {C' : List Nat} (ho : wE.ownsRow (w0.heap.size + 10) 3 1 vE C'.length (rowI C')) (hg : wr.grownBy wE vC.ownBlock) : TaG n w0 wE V C' vE P vP := by
  refine ⟨fun k hk => (h.fx k hk).grown hg fun e => by have := h.ge.1 _ e.symm; omega, ho, h.pa.kept hg ?_, h.bel.grown hg (by have := h.lt; omega) (fun b e => by have := h.ge.1 _ e; omega)⟩
  cases e : vP.ownBlock with
  | none => exact .inl rfl
  | some g =>
    refine .inr fun e' => ?_
    rcases h.pa.2 with ⟨hn, _⟩ | ⟨g', cap, cur, hv, _, hh, _⟩
    · rw [hn] at e; simp [Value.ownBlock] at e
    · rw [hv] at e; simp [Value.ownBlock] at e; subst e
      exact own_apart h.co hh (by decide) (e'.symm)
/-- The path has grown. -/
theorem TaG.apP (h : TaG n w0 wr V C vC P vP) {wE : World} {vE : Value} {P' : List (Nat × Nat)} (ho : wE.ownsRow (w0.heap.size + 10) 161 2 vE P'.length (rowP P')) (hg : wr.grownBy wE vP.ownBlock) : TaG n w0 wE V C vC P' vE := by
  refine ⟨fun k hk => (h.fx k hk).grown hg fun e => by have := h.ge.2 _ e.symm; omega, h.co.kept hg ?_, ho, h.bel.grown hg (by have := h.lt; omega) (fun b e => by have := h.ge.2 _ e; omega)⟩
  cases e : vC.ownBlock with
  | none => exact .inl rfl
  | some g =>
    refine .inr fun e' => ?_
    rcases h.co.2 with ⟨hn, _⟩ | ⟨g', cap, cur, hv, _, hh, _⟩
    · rw [hn] at e; simp [Value.ownBlock] at e
    · rw [hv] at e; simp [Value.ownBlock] at e; subst e
      exact own_apart h.pa hh (by decide) (e'.symm)
end

/-- What the ten blocks hold in a state of the search. -/
def TaV (n N : Nat) (s : Tar) (vC vP : Value) : Nat → Nat → Value := fun k j => match k with
  | 0 => .bool (s.on j)
  | 1 => .int .i64 (s.ord j : Int)
  | 2 => .slice (some ⟨N + 1, 0, none⟩) n n
  | 3 => .int .i64 (s.low j : Int)
  | 4 => .slice (some ⟨N + 3, 0, none⟩) n n
  | 5 => vC
  | 6 => .bool (decide (j ∈ s.comp))
  | 7 => .slice (some ⟨N + 6, 0, none⟩) n n
  | 8 => vP
  | _ => .int .i64 (s.cnt : Int)
def TaS (n : Nat) (w0 wr : World) (s : Tar) (vC vP : Value) : Prop := TaG n w0 wr (TaV n w0.heap.size s vC vP) s.comp vC s.path vP

theorem fillP (p : Nat × Nat) : Instr.fill (fun i => some (i * 2, 2)) ((Array.range (1 * 2)).map ((#[.int .i64 0, .int .i64 0] : Array Value)[· % 2]!)) [(0, .agg #[.int .i64 (p.1 : Int), .int .i64 (p.2 : Int)])] = some #[.int .i64 (p.1 : Int), .int .i64 (p.2 : Int)] := by
  kernel_rfl
section
variable {ops : Array Oper} {rest : List Oper} {Q : Exit → Act → World → Prop} {a : Act} {w : World} {tt : TypeId} {ps : String} {dst : Option Tmp} {aft : Array Edge}
theorem bs161 {t : Tmp} (p : Nat × Nat) (hx : a.eval (.tmp t) = .agg #[.int .i64 (p.1 : Int), .int .i64 (p.2 : Int)])
    (h : wpList Ybad.prog ops Q rest (a.put dst (.slice (some ⟨w.heap.size, 0, none⟩) 1 1)) (w.alloc (.cells #[.int .i64 (p.1 : Int), .int .i64 (p.2 : Int)] 161))) : wpList Ybad.prog ops Q ({ dst := dst, op := .buildSlice 159 1 #[(0, .tmp t)], type := tt, pos := ps, after := aft, guard := none } :: rest) a w := by
  obtain ⟨ie, hie, hz, hs, hb⟩ := info_parts Ybad.E159.info
  refine wpList_buildSlice rfl 159 161 1 _ rfl #[.int .i64 (p.1 : Int), .int .i64 (p.2 : Int)] ie _ Ybad.underlying159 hie hz (by rw [hs]; omega) (by rw [hs]; omega) ?_ h
  rw [hs]
  simp only [List.map_toArray, List.map_cons, List.map_nil, hx]
  exact fillP p
end

theorem lt10 {P : Nat → Prop} (h0 : P 0) (h1 : P 1) (h2 : P 2) (h3 : P 3) (h4 : P 4) (h5 : P 5) (h6 : P 6) (h7 : P 7) (h8 : P 8) (h9 : P 9) : ∀ k, k < 10 → P k := fun k hk => by
  rcases (show k = 0 ∨ k = 1 ∨ k = 2 ∨ k = 3 ∨ k = 4 ∨ k = 5 ∨ k = 6 ∨ k = 7 ∨ k = 8 ∨ k = 9 by omega) with rfl | rfl | rfl | rfl | rfl | rfl | rfl | rfl | rfl | rfl
  · exact h0
  · exact h1
  · exact h2
  · exact h3
  · exact h4
  · exact h5
  · exact h6
  · exact h7
  · exact h8
  · exact h9
theorem TaG.drew {n : Nat} {w0 wr : World} {V : Nat → Nat → Value} {C : List Nat} {vC : Value} {P : List (Nat × Nat)} {vP : Value} (h : TaG n w0 wr V C vC P vP) : TaG n w0 wr.drew V C vC P vP :=
  ⟨h.fx, h.co.drew, h.pa.drew, h.bel.drew⟩
theorem taUpd (f : Nat → Nat) (i x j : Nat) : upd (fun j => Value.int .i64 ((f j : Nat) : Int)) i (.int .i64 (x : Int)) j = .int .i64 ((updL f i x j : Nat) : Int) := by
  unfold upd updL; split <;> rfl

set_option maxRecDepth 1000000 in
set_option maxHeartbeats 4000000 in
theorem reach_any (n : Nat) (w0 w : World) (s : Tar) (vC vP : Value) (v : Nat) (hv : v < n) (hn : n ≤ 1000) (hcnt : s.cnt ≤ 1000) (hcl : s.comp.length ≤ 1000) (hpl : s.path.length ≤ 1000) (h : TaS n w0 w s vC vP) :
    Calls Ybad.prog 66 #[.int .i64 (v : Int), .pointer (some ⟨w0.heap.size + 9, 0, none⟩), .pointer (some ⟨w0.heap.size + 2, 0, none⟩), .pointer (some ⟨w0.heap.size + 4, 0, none⟩), .pointer (some ⟨w0.heap.size + 5, 0, none⟩), .pointer (some ⟨w0.heap.size + 7, 0, none⟩), .pointer (some ⟨w0.heap.size + 8, 0, none⟩)] w fun e w' => ∃ vC' vP', e = .returned (.tuple #[]) ∧ TaS n w0 w' (s.reach v) vC' vP' := by
  have H := hid (show TaG n w0 w (TaV n w0.heap.size s vC vP) s.comp vC s.path vP from h)
  clear h
  obtain ⟨N, hN⟩ : ∃ N, N = w0.heap.size := ⟨_, rfl⟩
  have hvi : (v : Int) < (n : Int) := by omega
  have hv0 : (0 : Int) ≤ (v : Int) := by omega
  obtain ⟨aC, capC, hvC, hcC, _, _⟩ := own_form H.out.co
  obtain ⟨aP, capP, hvP, hcP, _, _⟩ := own_form H.out.pa
  subst hvC
  subst hvP
  have c9 : w.cell? ⟨w0.heap.size + 9, 0, none⟩ = some (.int .i64 (s.cnt : Int)) := H.out.cell (k := 9) (by omega) Nat.zero_lt_one
  have f9 := H.out.free (k := 9) (by omega) 0
  have H1 := hid (H.out.set (k0 := 9) (j := 0) (by omega) Nat.zero_lt_one (.int .i64 ((s.cnt : Int) + 1)))
  obtain ⟨w1, hw1⟩ : ∃ w1, w1 = w.setCell ⟨w0.heap.size + 9, 0, none⟩ (.int .i64 ((s.cnt : Int) + 1)) := ⟨_, rfl⟩
  rw [← hw1] at H1
  have c2 : w1.cell? ⟨w0.heap.size + 2, 0, none⟩ = some (.slice (some ⟨w0.heap.size + 1, 0, none⟩) n n) := H1.out.cell (k := 2) (j := 0) (by omega) Nat.zero_lt_one
  have c4 : w1.cell? ⟨w0.heap.size + 4, 0, none⟩ = some (.slice (some ⟨w0.heap.size + 3, 0, none⟩) n n) := H1.out.cell (k := 4) (j := 0) (by omega) Nat.zero_lt_one
  have c9' : w1.cell? ⟨w0.heap.size + 9, 0, none⟩ = some (.int .i64 ((s.cnt : Int) + 1)) := H1.out.cell (k := 9) (j := 0) (by omega) Nat.zero_lt_one
  have c1 : w1.cell? ⟨w0.heap.size + 1, v, none⟩ = some (.int .i64 (s.ord v : Int)) := H1.out.cell (k := 1) (j := v) (by omega) hv
  have c3 : w1.cell? ⟨w0.heap.size + 3, v, none⟩ = some (.int .i64 (s.low v : Int)) := H1.out.cell (k := 3) (j := v) (by omega) hv
  have f1 := H1.out.free (k := 1) (by omega) v
  have f3 := H1.out.free (k := 3) (by omega) v
  go_enter Ybad.func66, Ybad.ntmps66
  go_upto_region 1 with fail
  rw [← hw1]
  clear hw1 c9 f9
  have H2a := hid (H1.out.set (k0 := 1) (j := v) (by omega) hv (.int .i64 ((s.cnt : Int) + 1)))
  have H2 := hid (H2a.out.set (k0 := 3) (j := v) (by omega) hv (.int .i64 ((s.cnt : Int) + 1)))
  have H2b := hid (H1.out.set (k0 := 3) (j := v) (by omega) hv (.int .i64 ((s.cnt : Int) + 1)))
  have H2' := hid (H2b.out.set (k0 := 1) (j := v) (by omega) hv (.int .i64 ((s.cnt : Int) + 1)))
  obtain ⟨s1, hs1⟩ : ∃ s1 : Tar, s1 = { s with cnt := s.cnt + 1, ord := updL s.ord v (s.cnt + 1), low := updL s.low v (s.cnt + 1) } := ⟨_, rfl⟩
  have hc1 : s1.comp = s.comp := by rw [hs1]
  have hp1 : s1.path = s.path := by rw [hs1]
  have hr1 : s.reach v = { s1 with comp := s1.comp ++ [v], path := s1.path ++ [(v, 0)] } := by rw [hs1]; rfl
  have HV : ∀ (V1 : Nat → Nat → Value), (∀ k, k < 10 → ∀ j, V1 k j = if k = 9 then (if j = 0 then .int .i64 ((s.cnt : Int) + 1) else TaV n w0.heap.size s (.slice aC s.comp.length capC) (.slice aP s.path.length capP) 9 j) else if k = 1 then upd (TaV n w0.heap.size s (.slice aC s.comp.length capC) (.slice aP s.path.length capP) 1) v (.int .i64 ((s.cnt : Int) + 1)) j else if k = 3 then upd (TaV n w0.heap.size s (.slice aC s.comp.length capC) (.slice aP s.path.length capP) 3) v (.int .i64 ((s.cnt : Int) + 1)) j else TaV n w0.heap.size s (.slice aC s.comp.length capC) (.slice aP s.path.length capP) k j) → ∀ k, k < 10 → ∀ j, j < taL n k → V1 k j = TaV n w0.heap.size s1 (.slice aC s.comp.length capC) (.slice aP s.path.length capP) k j := fun V1 h1 => lt10 (fun j hj => by rw [h1 0 (by omega)]; subst hs1; rfl) (fun j hj => by rw [h1 1 (by omega)]; subst hs1; exact taUpd s.ord v (s.cnt + 1) j) (fun j hj => by rw [h1 2 (by omega)]; rfl) (fun j hj => by rw [h1 3 (by omega)]; subst hs1; exact taUpd s.low v (s.cnt + 1) j) (fun j hj => by rw [h1 4 (by omega)]; rfl) (fun j hj => by rw [h1 5 (by omega)]; rfl) (fun j hj => by rw [h1 6 (by omega)]; subst hs1; rfl) (fun j hj => by rw [h1 7 (by omega)]; rfl) (fun j hj => by rw [h1 8 (by omega)]; rfl) (fun j hj => by
      have hj' : j < 1 := hj
      obtain rfl : j = 0 := by omega
      rw [h1 9 (by omega)]; subst hs1; rfl)
  have HV1 := hid HV
  have HR1 := hid hr1
  have HC1 := hid hc1
  have HP1 := hid hp1
  clear HV hr1 hc1 hp1 hs1
  go_cut [] from 8 to 17 (fun wd => TaG n w0 wd (TaV n w0.heap.size s1 (.slice aC s.comp.length capC) (.slice aP s.path.length capP)) s.comp (.slice aC s.comp.length capC) s.path (.slice aP s.path.length capP))
  case first =>
    go_region_held3 (fun W => W.cell? ⟨w0.heap.size + 2, 0, none⟩ = some (.slice (some ⟨w0.heap.size + 1, 0, none⟩) n n) ∧ W.cell? ⟨w0.heap.size + 4, 0, none⟩ = some (.slice (some ⟨w0.heap.size + 3, 0, none⟩) n n) ∧ W.cell? ⟨w0.heap.size + 9, 0, none⟩ = some (.int .i64 ((s.cnt : Int) + 1))) (go_keep) (fail)
    all_goals go_wp2_with fail
    all_goals go_meet
    exact (H2.out.congr (HV1.out _ (lt10 (fun j => rfl) (fun j => rfl) (fun j => rfl) (fun j => rfl) (fun j => rfl) (fun j => rfl) (fun j => rfl) (fun j => rfl) (fun j => rfl) (fun j => rfl)))).drew
  case rest =>
    have H3 := hid hcut
    clear hcut H H1 H2a H2 H2b H2' c1 c2 c3 c4 c9' f1 f3
    have c5 : wc.cell? ⟨w0.heap.size + 5, 0, none⟩ = some (.slice aC s.comp.length capC) := H3.out.cell (k := 5) (by omega) Nat.zero_lt_one
    have hz := H3.out.lt
    go_wp2_with (first
      | ((with_reducible refine apK Ybad.E54' (t := 18) (u := 20) (w0.heap.size + 10) (.slice aC s.comp.length capC) s.comp.length (rowI s.comp) [.int .i64 (v : Int)] wc.heap.size ?_ ?_ ?_ ?_ ?_ ?_ ?_ ?_ ?_); (exact rfl); (exact rfl); (exact H3.out.co.alloc _); (exact heap_alloc_new _ _); (exact rfl); (intro x hx; simp at hx; subst hx; rfl); omega; (simp; omega); (intro g1 cap1 wE hownE hgE _ _); (have H4 := hid ((H3.out.alloc _).apC (C' := s.comp ++ [v]) (by rw [List.length_append, rowI_snoc]; exact hownE) hgE)); (have c5E : wE.cell? ⟨w0.heap.size + 5, 0, none⟩ = some (.slice aC s.comp.length capC) := H4.out.cell (k := 5) (by omega) Nat.zero_lt_one); (have f5E := H4.out.free (k := 5) (by omega) 0); (have H5 := hid (H4.out.set (k0 := 5) (j := 0) (by omega) Nat.zero_lt_one (.slice (some ⟨g1, 0, none⟩) (s.comp.length + 1) cap1))); (have d7 : (wE.setCell ⟨w0.heap.size + 5, 0, none⟩ (.slice (some ⟨g1, 0, none⟩) (s.comp.length + 1) cap1)).cell? ⟨w0.heap.size + 7, 0, none⟩ = some (.slice (some ⟨w0.heap.size + 6, 0, none⟩) n n) := H5.out.cell (k := 7) (by omega) Nat.zero_lt_one); (have d6 := H5.out.cell (k := 6) (j := v) (by omega) hv); (have g6 := H5.out.free (k := 6) (by omega) v); (have H6 := hid (H5.out.set (k0 := 6) (j := v) (by omega) hv (.bool true))); (have d8 : ((wE.setCell ⟨w0.heap.size + 5, 0, none⟩ (.slice (some ⟨g1, 0, none⟩) (s.comp.length + 1) cap1)).setCell ⟨w0.heap.size + 6, v, none⟩ (.bool true)).cell? ⟨w0.heap.size + 8, 0, none⟩ = some (.slice aP s.path.length capP) := H6.out.cell (k := 8) (by omega) Nat.zero_lt_one); (have hzE := H4.out.lt); clear hownE hgE)
      | ((with_reducible refine bs161 (t := 27) (v, 0) ?_ ?_); (exact rfl))
      | ((with_reducible refine apK Ybad.E159 (t := 25) (u := 28) (w0.heap.size + 10) (.slice aP s.path.length capP) s.path.length (rowP s.path) [.int .i64 (v : Int), .int .i64 0] ((wE.setCell ⟨w0.heap.size + 5, 0, none⟩ (.slice (some ⟨g1, 0, none⟩) (s.comp.length + 1) cap1)).setCell ⟨w0.heap.size + 6, v, none⟩ (.bool true)).heap.size ?_ ?_ ?_ ?_ ?_ ?_ ?_ ?_ ?_); (exact rfl); (exact rfl); (exact H6.out.pa.alloc _); (exact heap_alloc_new _ _); (exact rfl); (intro x hx; simp at hx; rcases hx with rfl | rfl <;> rfl); omega; (simp; omega); (intro g2 cap2 wF hownF hgF _ _); (have H7 := hid ((H6.out.alloc _).apP (P' := s.path ++ [(v, 0)]) (by rw [List.length_append, rowP_snoc]; exact hownF) hgF)); (have c8F : wF.cell? ⟨w0.heap.size + 8, 0, none⟩ = some (.slice aP s.path.length capP) := H7.out.cell (k := 8) (by omega) Nat.zero_lt_one); (have f8F := H7.out.free (k := 8) (by omega) 0); (have H8 := hid (H7.out.set (k0 := 8) (j := 0) (by omega) Nat.zero_lt_one (.slice (some ⟨g2, 0, none⟩) (s.path.length + 1) cap2))); clear hownF hgF))
    go_end0
    refine ⟨rfl, .slice (some ⟨g1, 0, none⟩) (s.comp.length + 1) cap1, .slice (some ⟨g2, 0, none⟩) (s.path.length + 1) cap2, ?_⟩
    have hr1 := HR1.out
    have hc1 := HC1.out
    have hp1 := HP1.out
    rw [hr1]
    unfold TaS
    have e1 : ({ s1 with comp := s1.comp ++ [v], path := s1.path ++ [(v, 0)] } : Tar).comp = s.comp ++ [v] := by rw [← hc1]
    have e2 : ({ s1 with comp := s1.comp ++ [v], path := s1.path ++ [(v, 0)] } : Tar).path = s.path ++ [(v, 0)] := by rw [← hp1]
    rw [e1, e2]
    refine H8.out.congr (lt10 (fun j hj => rfl) (fun j hj => rfl) (fun j hj => rfl) (fun j hj => rfl) (fun j hj => rfl) (fun j hj => ?_) (fun j hj => ?_) (fun j hj => rfl) (fun j hj => ?_) (fun j hj => rfl))
    · have hj' : j < 1 := hj
      obtain rfl : j = 0 := by omega
      rfl
    · show upd (TaV n w0.heap.size s1 (.slice aC s.comp.length capC) (.slice aP s.path.length capP) 6) v (.bool true) j = .bool (decide (j ∈ s1.comp ++ [v]))
      unfold upd
      by_cases ej : j = v
      · rw [if_pos ej, ej]; simp
      · rw [if_neg ej]
        show Value.bool (decide (j ∈ s1.comp)) = _
        congr 1
        simp [ej]
    · have hj' : j < 1 := hj
      obtain rfl : j = 0 := by omega
      rfl

end Go.Proofs.YbulkbgasDoor

import Derived.Test.YbulkbgasDoorNx2
import Derived.Test.YbulkbgasDoorRv
import Derived.Test.YbulkbgasDoorGp2
import Derived.Test.YbulkbgasDoorSo2
namespace Go.Proofs.YbulkbgasDoor
open Go.RowKit Go.Maps
set_option linter.unusedVariables false

/-! ### The search for a cycle, plainly -/
structure BfI (A : List Acc) (n start : Nat) (N : List Nat) (Z : List Int) (i : Nat) (met : Nat → Bool) : Prop where
  ln : Z.length = N.length
  hd : N[0]? = some start
  pa : ∀ k, 0 < k → k < N.length → ∃ j, j < k ∧ Z[k]? = some (j : Int) ∧ Succ A (N.getD j 0) (N.getD k 0)
  lt : ∀ x ∈ N, x < n
  nd : N.Nodup
  mt : ∀ x, met x = true ↔ x ∈ N.drop 1
  dn : ∀ k, k < i → ∀ x, Succ A (N.getD k 0) x → met x = true
  il : i ≤ N.length
theorem BfI.begin (A : List Acc) {n start : Nat} (h : start < n) : BfI A n start [start] [-1] 0 (fun _ => false) :=
  ⟨rfl, rfl, fun k h1 h2 => by simp at h2; omega, fun x hx => by simp at hx; omega, by simp, by simp, fun k hk => by omega, by simp⟩
section
variable {A : List Acc} {n start : Nat} {N : List Nat} {Z : List Int} {i : Nat} {met : Nat → Bool}
theorem BfI.pos (h : BfI A n start N Z i met) : 0 < N.length := by
  have := h.hd
  rcases Nat.eq_zero_or_pos N.length with h0 | h0
  · rw [List.length_eq_zero_iff.1 h0] at this; simp at this
  · exact h0
theorem BfI.len (h : BfI A n start N Z i met) : N.length ≤ n := by
  have := nodup_lenN' (List.range n) N h.nd (fun t ht => List.mem_range.2 (h.lt t ht))
  rwa [List.length_range] at this
theorem BfI.cons (h : BfI A n start N Z i met) : N = start :: N.drop 1 := by
  have := h.hd
  cases e : N with
  | nil => rw [e] at this; simp at this
  | cons a t => rw [e] at this; simp at this; subst this; simp
/-- All that could be reached has been: the start with it. -/
theorem BfI.back (h : BfI A n start N Z N.length met) (hc : ∃ x, Succ A start x ∧ Star (Succ A) x start) : False := by
  obtain ⟨x, h1, h2⟩ := hc
  have hst : ∀ y, y ∈ N → ∀ z, Succ A y z → met z = true := fun y hy z hz => by
    obtain ⟨k, hk, e⟩ := List.mem_iff_getElem.1 hy
    refine h.dn k hk z ?_
    rw [List.getD_eq_getElem?_getD, List.getElem?_eq_getElem hk, Option.getD_some, e]; exact hz
  have hin : ∀ y, met y = true → y ∈ N := fun y hy => List.mem_of_mem_drop ((h.mt y).1 hy)
  have hall : ∀ a b, Star (Succ A) a b → met a = true → met b = true := fun a b hs => by
    induction hs with
    | refl => exact id
    | step h t ih => exact fun ha => ih (hst _ (hin _ ha) _ h)
  have hs0 : start ∈ N := by rw [h.cons]; simp
  have hx := hst start hs0 x h1
  have := (h.mt start).1 (hall _ _ h2 hx)
  have hnd := h.nd
  rw [h.cons] at hnd
  exact (List.nodup_cons.1 hnd).1 this
/-- The fresh successors, so many of them taken. -/
theorem BfI.next {u : Nat} {F : List Nat} {met' : Nat → Bool} (h : BfI A n start N Z i met) (hi : i < N.length) (hu : N.getD i 0 = u) (hF : ∀ x ∈ F, x < n ∧ met x = false ∧ Succ A u x) (hm : ∀ x, met' x = true ↔ met x = true ∨ x ∈ F) (ha : ∀ x, Succ A u x → met' x = true) (hnd : F.Nodup) (hs : start ∉ F) :
    BfI A n start (N ++ F) (Z ++ List.replicate F.length (i : Int)) (i + 1) met' := by
  have gl : ∀ k, k < N.length → (N ++ F).getD k 0 = N.getD k 0 := fun k hk => by
    rw [List.getD_eq_getElem?_getD, List.getD_eq_getElem?_getD, List.getElem?_append_left hk]
  have hpos := h.pos
  refine ⟨by simp [h.ln], ?_, fun k h1 h2 => ?_, fun x hx => ?_, ?_, fun x => ?_, fun k hk x hx => ?_, by simp; omega⟩
  · rw [List.getElem?_append_left hpos]; exact h.hd
  · by_cases e : k < N.length
    · obtain ⟨j, j1, j2, j3⟩ := h.pa k h1 e
      refine ⟨j, j1, ?_, ?_⟩
      · rw [List.getElem?_append_left (by rw [h.ln]; exact e)]; exact j2
      · rw [gl j (by omega), gl k e]; exact j3
    · have h2' : k - N.length < F.length := by simp at h2; omega
      refine ⟨i, by omega, ?_, ?_⟩
      · rw [List.getElem?_append_right (by rw [h.ln]; omega), List.getElem?_replicate, if_pos (by rw [h.ln]; exact h2')]
      · rw [gl i hi, hu]
        rw [List.getD_eq_getElem?_getD, List.getElem?_append_right (by omega), List.getElem?_eq_getElem h2', Option.getD_some]
        exact (hF _ (List.getElem_mem h2')).2.2
  · rcases List.mem_append.1 hx with hx | hx
    · exact h.lt x hx
    · exact (hF x hx).1
  · rw [List.nodup_append]
    refine ⟨h.nd, hnd, fun a ha b hb e => ?_⟩
    subst e
    rw [h.cons] at ha
    rcases List.mem_cons.1 ha with ha | ha
    · subst ha; exact hs hb
    · have := (h.mt a).2 ha
      rw [(hF a hb).2.1] at this; cases this
  · rw [hm x, h.mt x, List.drop_append_of_le_length hpos, List.mem_append]
  · by_cases e : k < i
    · rw [gl k (by omega)] at hx
      exact (hm x).2 (.inl (h.dn k e x hx))
    · obtain rfl : k = i := by omega
      rw [gl k hi, hu] at hx
      exact ha x hx
end

theorem getD_left {C D : List Nat} {k : Nat} (h : k < C.length) : (C ++ D).getD k 0 = C.getD k 0 := by
  rw [List.getD_eq_getElem?_getD, List.getD_eq_getElem?_getD, List.getElem?_append_left h]
/-- The way back. -/
structure BkI (A : List Acc) (start : Nat) (N : List Nat) (i : Nat) (C : List Nat) (k : Nat) : Prop where
  ne : 0 < C.length
  hd : C[0]? = some start
  ch : ∀ m, m + 1 < C.length → Succ A (C.getD (m + 1) 0) (C.getD m 0)
  la : Succ A (N.getD k 0) (C.getD (C.length - 1) 0)
  bd : C.length + k ≤ i + 1
theorem BkI.snoc {A : List Acc} {start : Nat} {N : List Nat} {i : Nat} {C : List Nat} {k : Nat} (h : BkI A start N i C k) : ∀ m, m + 1 < (C ++ [N.getD k 0]).length → Succ A ((C ++ [N.getD k 0]).getD (m + 1) 0) ((C ++ [N.getD k 0]).getD m 0) := by
  intro m hm
  have hne := h.ne
  simp at hm
  by_cases e : m + 1 < C.length
  · have := h.ch m e
    rw [getD_left e, getD_left (by omega)]
    exact this
  · obtain rfl : m = C.length - 1 := by omega
    have := h.la
    rw [List.getD_eq_getElem?_getD (l := C ++ [N.getD k 0]), List.getElem?_append_right (by omega), show C.length - 1 + 1 - C.length = 0 by omega, List.getElem?_cons_zero, Option.getD_some, List.getD_eq_getElem?_getD (l := C ++ [N.getD k 0]), List.getElem?_append_left (by omega), ← List.getD_eq_getElem?_getD]
    exact this
theorem BkI.step {A : List Acc} {n start : Nat} {N : List Nat} {Z : List Int} {i : Nat} {met : Nat → Bool} {C : List Nat} {k j : Nat} (h : BkI A start N i C k) (hj : j < k) (hs : Succ A (N.getD j 0) (N.getD k 0)) : BkI A start N i (C ++ [N.getD k 0]) j := by
  have hne := h.ne
  have hb := h.bd
  refine ⟨by simp, ?_, h.snoc, ?_, by simp; omega⟩
  · rw [List.getElem?_append_left hne]; exact h.hd
  · rw [List.length_append, List.length_singleton, Nat.add_sub_cancel, List.getD_eq_getElem?_getD (l := C ++ [N.getD k 0]), List.getElem?_append_right (Nat.le_refl _), Nat.sub_self, List.getElem?_cons_zero, Option.getD_some]
    exact hs
/-- A closed way of conflicts. -/
structure CycI (A : List Acc) (n : Nat) (R : List Nat) : Prop where
  two : 2 ≤ R.length
  few : R.length ≤ n + 2
  lt : ∀ x ∈ R, x < n
  su : ∀ m, m + 1 < R.length → Succ A (R.getD m 0) (R.getD (m + 1) 0)
  cl : R.getD 0 0 = R.getD (R.length - 1) 0
theorem Succ.ltn {A : List Acc} {n : Nat} (hx : ∀ a ∈ A, a.x < n) {u v : Nat} (h : Succ A u v) : u < n ∧ v < n := by
  obtain ⟨_, p, q, h1, h2, h3, h4, _⟩ := h
  constructor
  · rw [← h3, aA_get (by omega)]; exact hx _ (List.getElem_mem _)
  · rw [← h4, aA_get h2]; exact hx _ (List.getElem_mem _)
theorem BkI.stop {A : List Acc} {n start : Nat} {N : List Nat} {i : Nat} {C : List Nat} (hx : ∀ a ∈ A, a.x < n) (h : BkI A start N i C 0) (h0 : N.getD 0 0 = start) (hi : i ≤ n) : CycI A n (C ++ [start]).reverse := by
  have hne := h.ne
  have hb := h.bd
  have hs := h.snoc
  rw [h0] at hs
  have key : ∀ m, m + 1 < (C ++ [start]).reverse.length → Succ A ((C ++ [start]).reverse.getD m 0) ((C ++ [start]).reverse.getD (m + 1) 0) := fun m hm => by
    rw [List.length_reverse] at hm
    have := hs ((C ++ [start]).length - 1 - (m + 1)) (by omega)
    rw [List.getD_eq_getElem?_getD, List.getD_eq_getElem?_getD, List.getElem?_reverse (by omega), List.getElem?_reverse hm, ← List.getD_eq_getElem?_getD, ← List.getD_eq_getElem?_getD]
    rw [show (C ++ [start]).length - 1 - m = (C ++ [start]).length - 1 - (m + 1) + 1 by omega]
    exact this
  refine ⟨by simp; omega, by simp; omega, fun x hxm => ?_, key, ?_⟩
  · obtain ⟨m, hm, e⟩ := List.mem_iff_getElem.1 hxm
    have g : ∀ k (hk : k < (C ++ [start]).reverse.length), (C ++ [start]).reverse.getD k 0 = (C ++ [start]).reverse[k] := fun k hk => by
      rw [List.getD_eq_getElem?_getD, List.getElem?_eq_getElem hk, Option.getD_some]
    by_cases e2 : m + 1 < (C ++ [start]).reverse.length
    · have := ((key m e2).ltn hx).1
      rw [g m hm, e] at this; exact this
    · have hl : 2 ≤ (C ++ [start]).reverse.length := by simp; omega
      have := ((key (m - 1) (by omega)).ltn hx).2
      rw [show m - 1 + 1 = m by omega, g m hm, e] at this; exact this
  · have hl : (C ++ [start]).reverse.length = C.length + 1 := by simp
    rw [hl, List.getD_eq_getElem?_getD, List.getD_eq_getElem?_getD, List.getElem?_reverse (by simp), List.getElem?_reverse (by simp)]
    have e1 : (C ++ [start]).length - 1 - 0 = C.length := by simp
    have e2 : (C ++ [start]).length - 1 - (C.length + 1 - 1) = 0 := by simp
    rw [e1, e2, List.getElem?_append_right (Nat.le_refl _), Nat.sub_self, List.getElem?_append_left hne, h.hd]
    rfl

/-! ### How it stands in memory -/
theorem own_lit {W : World} {base g e : Nat} {xs : List Value} (h : W.heap[g]? = some (.cells xs.toArray e (0, 0))) (hb : base ≤ g) (hn : xs.length ≤ 100000) : W.ownsRow base e 1 (.slice (some ⟨g, 0, none⟩) xs.length xs.length) xs.length xs :=
  ⟨by omega, .inr ⟨g, xs.length, xs.toArray, rfl, hb, h, Nat.le_refl _, by unfold maxLen; omega, by simp, by simp⟩⟩
theorem CwG.apart {w0 wr w' : World} {n m L Bc : Nat} {b : Nat → Nat} {V : Nat → Nat → Value} {v : Nat → Value} {X : Nat → List Nat} {T : Nat} (h : CwG w0 wr n m L Bc b V v X) (htop : ∀ r, r < cwN n m → ∀ g, (v r).ownBlock = some g → g < T) (hT : w0.heap.size + 11 ≤ T) {row : Option Nat} (hg : wr.grownBy w' row) (hr : ∀ g, row = some g → T ≤ g) : CwG w0 w' n m L Bc b V v X := by
  have hne : ∀ g, g < T → some g ≠ row := fun g hgT e => by have := hr g e.symm; omega
  refine ⟨h.inj, h.rng, (hg.block _ h.lt (hne _ (by omega))).trans h.box, fun k hk => (h.fx k hk).grown hg (hne _ (by have := (h.rng k hk).2; omega)), h.fam.keptOut hg (fun r hr' g e e2 => ?_), h.bel.grown hg (by have := h.lt; omega) (fun g e => by have := hr g e; omega)⟩
  have := htop r hr' g e
  exact hne g (by omega) e2.symm

structure ScS (w0 w2 wr : World) (n m L Bc : Nat) (b : Nat → Nat) (met : Nat → Bool) (ia nw rd wn : Nat → Nat) (v : Nat → Value) (X : Nat → List Nat) (T : Nat) (vv : Nat → Value) (Y : Nat → List Int) : Prop where
  cw : CwS w0 wr n m L Bc b met ia nw rd wn v X
  top : ∀ r, r < cwN n m → ∀ g, (v r).ownBlock = some g → g < T
  tb : w0.heap.size + 11 ≤ T
  tw : T ≤ w2.heap.size
  sz : w2.heap.size ≤ wr.heap.size
  fam : Fam rowT wr w2.heap.size 3 1 3 vv Y
section
variable {w0 w2 wr w' : World} {n m L Bc : Nat} {b : Nat → Nat} {met : Nat → Bool} {ia nw rd wn : Nat → Nat} {v : Nat → Value} {X : Nat → List Nat} {T : Nat} {vv : Nat → Value} {Y : Nat → List Int}
theorem ScS.alloc (h : ScS w0 w2 wr n m L Bc b met ia nw rd wn v X T vv Y) (o : Obj) : ScS w0 w2 (wr.alloc o) n m L Bc b met ia nw rd wn v X T vv Y :=
  ⟨h.cw.g.alloc o, h.top, h.tb, h.tw, by have := h.sz; simp; omega, h.fam.alloc o⟩
/-- One of the three rows turns. -/
theorem ScS.turn (h : ScS w0 w2 wr n m L Bc b met ia nw rd wn v X T vv Y) {r : Nat} (hr : r < 3) {v' : Value} {l : List Int} (ho : w'.ownsRow w2.heap.size 3 1 v' l.length (rowT l)) (hg : wr.grownBy w' (vv r).ownBlock) (hn : ∀ g, v'.ownBlock = some g → (vv r).ownBlock = some g ∨ wr.heap.size ≤ g) : ScS w0 w2 w' n m L Bc b met ia nw rd wn v X T (updL vv r v') (updL Y r l) :=
  ⟨h.cw.g.apart h.top h.tb hg (fun g e => by have := own_ge (h.fam.own r hr) e; have := h.tw; omega), h.top, h.tb, h.tw, Nat.le_trans h.sz hg.size, h.fam.turn hr ho hg hn⟩
/-- After a call of next. -/
theorem ScS.next (h : ScS w0 w2 wr n m L Bc b met ia nw rd wn v X T vv Y) {met' : Nat → Bool} {ia' nw' rd' wn' : Nat → Nat} {X' : Nat → List Nat} (hc : CwS w0 w' n m L Bc b met' ia' nw' rd' wn' v X') (hk : ∀ g, T ≤ g → g < wr.heap.size → w'.heap[g]? = wr.heap[g]?) (hs : wr.heap.size ≤ w'.heap.size) : ScS w0 w2 w' n m L Bc b met' ia' nw' rd' wn' v X' T vv Y :=
  ⟨hc, h.top, h.tb, h.tw, Nat.le_trans h.sz hs, ⟨fun i hi => own_of_block (h.fam.own i hi) (fun g e => hk g (by have := own_ge (h.fam.own i hi) e; have := h.tw; omega) ((h.fam.own i hi).lt g e).2), h.fam.sep⟩⟩
end
theorem rowT_get {l : List Int} {i : Nat} (h : i < l.length) : (rowT l)[i]'(by rw [rowT_length]; exact h) = .int .i64 l[i] := by simp [rowT]
theorem ownT_cell {w : World} {base e : Nat} {v : Value} {l : List Int} (h : w.ownsRow base e 1 v l.length (rowT l)) {i : Nat} (hi : i < l.length) :
    ∃ g cap, v = .slice (some ⟨g, 0, none⟩) l.length cap ∧ base ≤ g ∧ g < w.heap.size ∧ l.length ≤ cap ∧ w.cell? ⟨g, i, none⟩ = some (.int .i64 l[i]) := by
  rcases h.2 with ⟨_, h0⟩ | ⟨g, cap, cur, rfl, hb, hh, h6, h7, h8, ht⟩
  · omega
  · refine ⟨g, cap, rfl, hb, (Array.getElem?_eq_some_iff.1 hh).1, h6, ?_⟩
    have := (own_cell h (j := i) (by rw [rowT_length]; exact hi)).1
    rw [this, rowT_get hi]
def toI (l : List Nat) : List Int := l.map fun x : Nat => (x : Int)
theorem toI_length (l : List Nat) : (toI l).length = l.length := by simp [toI]
theorem toI_snoc (l : List Nat) (x : Nat) : toI (l ++ [x]) = toI l ++ [(x : Int)] := by simp [toI]
theorem rowT_toI (l : List Nat) : rowT (toI l) = rowI l := by simp [rowT, rowI, toI]
theorem toI_get {l : List Nat} {i : Nat} (h : i < l.length) : (toI l)[i]'(by rw [toI_length]; exact h) = (l[i] : Int) := by simp [toI]

end Go.Proofs.YbulkbgasDoor

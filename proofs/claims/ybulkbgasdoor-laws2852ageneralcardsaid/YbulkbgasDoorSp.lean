import Derived.Laws.MakeOwn
import Derived.Test.YbulkbgasDoorCf3
namespace Go.Proofs.YbulkbgasDoor
open Go.RowKit Go.Maps
set_option linter.unusedVariables false

/-- 'make([]E, n)' -/
theorem mkRow {sl e k bytes : Nat} {z : Value} (E : ElemT sl e k bytes z) (n : Nat) (hn : n ≤ 100000) (hz : z.cells.size = k) (w : World) :
    (Instr.makeSlice sl (.int .i64 (n : Int)) (.int .i64 (n : Int))).run Ybad.prog w = .ok (.slice (some ⟨w.heap.size, 0, none⟩) n n) (w.alloc (.cells (rowF (n * k) (fun j => z.cells[j % k]!)) e)) := by
  obtain ⟨ie, hie, hz0, hsz, hb2⟩ := info_parts E.info
  have hf := E.few
  have hk := E.pos
  have hmul : (ie.bytes : Int) * (n : Int) ≤ 281474976710656 := by
    have : ie.bytes * n ≤ 400 * 100000 := Nat.mul_le_mul (by omega) hn
    have h2 : ((ie.bytes * n : Nat) : Int) ≤ 40000000 := by omega
    rw [Int.natCast_mul] at h2; omega
  have hr := run_make (P := Ybad.prog) w sl e ie z E.und hie hz0 .i64 .i64 (n : Int) (n : Int) (by omega) (Int.le_refl _) hmul (by omega)
  rw [hr, hsz]
  simp only [Int.toNat_natCast]
  have : madeCells z.cells (n * k) = rowF (n * k) (fun j => z.cells[j % k]!) := by
    apply Array.ext
    · simp [madeCells, rowF]
    · intro i h1 h2
      simp [madeCells, rowF, hz]
  rw [this]

theorem mkRow1 {sl e bytes : Nat} {z : Value} (E : ElemT sl e 1 bytes z) (hz : z.cells = #[z]) (n : Nat) (hn : n ≤ 100000) (w : World) :
    (Instr.makeSlice sl (.int .i64 (n : Int)) (.int .i64 (n : Int))).run Ybad.prog w = .ok (.slice (some ⟨w.heap.size, 0, none⟩) n n) (w.alloc (.cells (rowF n (fun _ => z)) e)) := by
  rw [mkRow E n hn (by rw [hz]; rfl) w, Nat.mul_one]
  congr 3
  apply rowF_congr
  intro i hi
  rw [hz, Nat.mod_one]; rfl

theorem Ybad.E54 : ElemT 54 3 1 8 (.int .i64 0) := ⟨Ybad.underlying54, by kernel_rfl, rfl, by decide, by decide⟩

/-! ### Spans -/
structure Sp where
  x : Nat
  i : Nat
  f : Nat
  w : Int
  la : Nat
def Sp.cells (s : Sp) : List Value := [.int .i64 (s.x : Int), .int .i64 (s.i : Int), .int .i64 (s.f : Int), .int .i64 s.w, .int .i64 (s.la : Int)]
def Sp.key (s : Sp) : Nat × Nat := (s.i, s.x)
def Acc.key (a : Acc) : Nat × Nat := (a.i, a.x)
def rowS (l : List Sp) : List Value := l.flatMap Sp.cells
theorem rowS_append (a b : List Sp) : rowS (a ++ b) = rowS a ++ rowS b := by simp [rowS]
theorem rowS_length (l : List Sp) : (rowS l).length = l.length * 5 := by
  induction l with
  | nil => rfl
  | cons c cs ih =>
    have : (rowS (c :: cs)).length = 5 + (rowS cs).length := by simp [rowS, Sp.cells]; omega
    rw [this, ih, List.length_cons]; omega
theorem rowS_get : ∀ (l : List Sp) (i : Nat) (hi : i < l.length), ((rowS l).drop (i * 5)).take 5 = l[i].cells
  | c :: cs, 0, _ => by simp [rowS, Sp.cells]
  | c :: cs, i + 1, hi => by
    have h0 : rowS (c :: cs) = c.cells ++ rowS cs := by simp [rowS]
    have h1 : c.cells.length = 5 := rfl
    rw [h0, List.drop_append, show c.cells.drop ((i + 1) * 5) = [] from List.drop_eq_nil_of_le (by omega), h1, show (i + 1) * 5 - 5 = i * 5 from by omega, List.nil_append]
    simpa using rowS_get cs i (by simpa using hi)
theorem Sp.one (c : Sp) : ∀ v ∈ c.cells, v.oneCell' = true := by simp [Sp.cells, Value.oneCell']
/-- A cell of the row, turned. -/
theorem rowS_set : ∀ (l : List Sp) (i j : Nat) (hi : i < l.length) (hj : j < 5) (v : Value) (s' : Sp), s'.cells = l[i].cells.set j v → (rowS l).set (i * 5 + j) v = rowS (l.set i s')
  | c :: cs, 0, j, _, hj, v, s', h => by
    have h0 : rowS (c :: cs) = c.cells ++ rowS cs := by simp [rowS]
    have h1 : c.cells.length = 5 := rfl
    rw [h0, List.set_append_left _ _ (by omega), List.set_cons_zero]
    have h2 : rowS (s' :: cs) = s'.cells ++ rowS cs := by simp [rowS]
    rw [h2, h]
    simp
  | c :: cs, i + 1, j, hi, hj, v, s', h => by
    have h0 : rowS (c :: cs) = c.cells ++ rowS cs := by simp [rowS]
    have h1 : c.cells.length = 5 := rfl
    rw [h0, List.set_append_right _ _ (by omega), h1, show (i + 1) * 5 + j - 5 = i * 5 + j from by omega, List.set_cons_succ]
    have h2 : rowS (c :: cs.set i s') = c.cells ++ rowS (cs.set i s') := by simp [rowS]
    rw [h2, rowS_set cs i j (by simpa using hi) hj v s' (by simpa using h)]
def SlS (W : World) (v : Value) (l : List Sp) : Prop := ∃ a cap, v = .slice a l.length cap ∧ l.length ≤ cap ∧ Els W 5 a l.length fun i => (l.getD i ⟨0, 0, 0, 0, 0⟩).cells
theorem SlS.below {W W' : World} {v : Value} {l : List Sp} (h : SlS W v l) (hb : Below W.heap.size W W') : SlS W' v l := by
  obtain ⟨a, cap, h1, h2, h3⟩ := h
  exact ⟨a, cap, h1, h2, h3.below hb⟩
theorem SlS.of_own {W : World} {base : Nat} {v : Value} {l : List Sp} (h : W.ownsRow base 102 5 v l.length (rowS l)) : SlS W v l := by
  obtain ⟨a, cap, h1, h2, h3⟩ := els_own h
  refine ⟨a, cap, h1, h2, fun i hi => ?_⟩
  obtain ⟨b, e1, e2, e3, e4⟩ := h3 i hi
  rw [rowS_get l i hi] at e4
  refine ⟨b, 0, e1, e3, ?_⟩
  simpa [List.getD_eq_getElem?_getD, List.getElem?_eq_getElem hi] using e4
theorem Ybad.E53 : ElemT 53 102 5 40 (.agg #[.int .i64 0, .int .i64 0, .int .i64 0, .int .i64 0, .int .i64 0]) := ⟨Ybad.underlying53, by kernel_rfl, rfl, by decide, by decide⟩
theorem fill102 (c : Sp) : Instr.fill (fun i => some (i * 5, 5)) ((Array.range (1 * 5)).map ((#[.int .i64 0, .int .i64 0, .int .i64 0, .int .i64 0, .int .i64 0] : Array Value)[· % 5]!)) [(0, .agg c.cells.toArray)] = some c.cells.toArray := by
  kernel_rfl
section
variable {ops : Array Oper} {rest : List Oper} {Q : Exit → Act → World → Prop} {a : Act} {w : World} {tt : TypeId} {ps : String} {dst : Option Tmp} {aft : Array Edge}
theorem bs102 {t : Tmp} (c : Sp) (hx : a.eval (.tmp t) = .agg c.cells.toArray)
    (h : wpList Ybad.prog ops Q rest (a.put dst (.slice (some ⟨w.heap.size, 0, none⟩) 1 1)) (w.alloc (.cells c.cells.toArray 102))) : wpList Ybad.prog ops Q ({ dst := dst, op := .buildSlice 53 1 #[(0, .tmp t)], type := tt, pos := ps, after := aft, guard := none } :: rest) a w := by
  obtain ⟨ie, hie, hz, hs, hb⟩ := info_parts Ybad.E53.info
  refine wpList_buildSlice rfl 53 102 1 _ rfl c.cells.toArray ie _ Ybad.underlying53 hie hz (by rw [hs]; omega) (by rw [hs]; omega) ?_ h
  rw [hs]
  simp only [List.map_toArray, List.map_cons, List.map_nil, hx]
  exact fill102 c
end

/-- A cell of a row that one owns, turned. -/
theorem own_setCell {w : World} {base e size g n cap : Nat} {xs : List Value} (h : w.ownsRow base e size (.slice (some ⟨g, 0, none⟩) n cap) n xs) {j : Nat} (hj : j < xs.length) (v : Value) :
    (w.setCell ⟨g, j, none⟩ v).ownsRow base e size (.slice (some ⟨g, 0, none⟩) n cap) n (xs.set j v) := by
  refine ⟨by simpa using h.1, ?_⟩
  rcases h.2 with ⟨h1, _⟩ | ⟨g', cap', cur, h1, h2, h3, h4, h5, h6, h7⟩
  · cases h1
  · simp only [Value.slice.injEq, Option.some.injEq, Addr.mk.injEq, and_true, true_and] at h1
    obtain ⟨rfl, rfl⟩ := h1
    refine .inr ⟨g, cap, cur.setIfInBounds j v, rfl, h2, heap_setCell_same _ _ _ _ _ _ h3, by simpa using h4, by simpa using h5, by simpa using h6, ?_⟩
    rw [← h7]
    simp [List.take_set]
theorem own_cell {w : World} {base e size g n cap : Nat} {xs : List Value} (h : w.ownsRow base e size (.slice (some ⟨g, 0, none⟩) n cap) n xs) {j : Nat} (hj : j < xs.length) : w.cell? ⟨g, j, none⟩ = some xs[j] ∧ w.frozen? ⟨g, j, none⟩ = false := by
  rcases h.2 with ⟨h1, _⟩ | ⟨g', cap', cur, h1, h2, h3, h4, h5, h6, h7⟩
  · cases h1
  · simp only [Value.slice.injEq, Option.some.injEq, Addr.mk.injEq, and_true, true_and] at h1
    obtain ⟨rfl, rfl⟩ := h1
    refine ⟨?_, frozen_of_row _ _ _ _ _ h3⟩
    rw [cell_of_row _ _ _ _ _ _ h3]
    have : xs[j]? = some xs[j] := List.getElem?_eq_getElem hj
    rw [← this, ← h7]
    have hlt : j < n * size := by have := h.1; omega
    rw [List.getElem?_take_of_lt hlt]
    simp

/-! ### The plain function -/
open Classical in
/-- One access, taken in. -/
noncomputable def spStep (S : List Sp) (a : Acc) : List Sp :=
  if a.key ∈ S.map Sp.key then S.modify (ix (S.map Sp.key) a.key) (fun s => { s with w := if a.w = true ∧ s.w < 0 then (a.p : Int) else s.w, la := a.p })
  else S ++ [⟨a.x, a.i, a.p, if a.w = true then (a.p : Int) else -1, a.p⟩]
noncomputable def spF (A : List Acc) : List Sp := A.foldl spStep []
theorem spF_snoc (A : List Acc) (a : Acc) : spF (A ++ [a]) = spStep (spF A) a := by unfold spF; rw [List.foldl_append]; rfl
noncomputable def keysF (A : List Acc) : List (Nat × Nat) := (spF A).map Sp.key

theorem keys_step (S : List Sp) (a : Acc) : (spStep S a).map Sp.key = S.map Sp.key ∨ (a.key ∉ S.map Sp.key ∧ (spStep S a).map Sp.key = S.map Sp.key ++ [a.key]) := by
  unfold spStep
  split
  · left
    apply List.ext_getElem?
    intro j
    simp only [List.getElem?_map, List.getElem?_modify]
    split <;> cases S[j]? <;> simp [Sp.key]
  · right
    rename_i h
    exact ⟨h, by simp [Sp.key, Acc.key]⟩
theorem keys_old {S : List Sp} {a : Acc} (h : a.key ∈ S.map Sp.key) : (spStep S a).map Sp.key = S.map Sp.key := by
  rcases keys_step S a with h1 | ⟨h1, _⟩
  · exact h1
  · exact absurd h h1
theorem keys_new {S : List Sp} {a : Acc} (h : a.key ∉ S.map Sp.key) : (spStep S a).map Sp.key = S.map Sp.key ++ [a.key] := by
  unfold spStep; rw [if_neg h]; simp [Sp.key, Acc.key]
theorem key_now (S : List Sp) (a : Acc) : a.key ∈ (spStep S a).map Sp.key := by
  by_cases h : a.key ∈ S.map Sp.key
  · rw [keys_old h]; exact h
  · rw [keys_new h]; simp
theorem keysF_nodup (A : List Acc) : (keysF A).Nodup := by
  suffices ∀ (A : List Acc) (S : List Sp), (S.map Sp.key).Nodup → ((A.foldl spStep S).map Sp.key).Nodup from this A [] List.nodup_nil
  intro A
  induction A with
  | nil => intro S h; exact h
  | cons a A ih =>
    intro S h
    rw [List.foldl_cons]
    apply ih
    rcases keys_step S a with h1 | ⟨h1, h2⟩
    · rw [h1]; exact h
    · rw [h2, List.nodup_append]
      exact ⟨h, by simp, fun x hx y hy e => by simp at hy; subst hy; subst e; exact h1 hx⟩
theorem keysF_prefix (A : List Acc) (n : Nat) : keysF (A.take n) <+: keysF A := by
  suffices ∀ (B : List Acc) (S : List Sp), S.map Sp.key <+: (B.foldl spStep S).map Sp.key by
    have h := this (A.drop n) (spF (A.take n))
    unfold keysF
    have e : (A.drop n).foldl spStep (spF (A.take n)) = spF A := by unfold spF; rw [← List.foldl_append, List.take_append_drop]
    rw [e] at h; exact h
  intro B
  induction B with
  | nil => intro S; exact List.prefix_rfl
  | cons a B ih =>
    intro S
    rw [List.foldl_cons]
    refine List.IsPrefix.trans ?_ (ih _)
    rcases keys_step S a with h1 | ⟨h1, h2⟩
    · rw [h1]; exact List.prefix_rfl
    · rw [h2]; exact List.prefix_append _ _
theorem key_mem {A : List Acc} {j : Nat} (hj : j < A.length) {n : Nat} (hn : j < n) : A[j].key ∈ keysF (A.take n) := by
  have h1 : A[j].key ∈ keysF (A.take (j + 1)) := by
    unfold keysF; rw [List.take_succ_eq_append_getElem hj, spF_snoc]; exact key_now _ _
  have h2 := keysF_prefix (A.take n) (j + 1)
  rw [List.take_take, Nat.min_eq_left (by omega)] at h2
  exact h2.subset h1
theorem ix_prefix {α : Type} {l m : List α} {a : α} (h : l <+: m) (ha : a ∈ l) : ix m a = ix l a := by
  obtain ⟨r, rfl⟩ := h
  exact ix_append ha

end Go.Proofs.YbulkbgasDoor

import Derived.Test.YbulkbgasDoorMapF
import Derived.Test.YbulkbgasDoorStrip
namespace Go.Proofs.YbulkbgasDoor
open Go.RowKit Go.Maps
set_option linter.unusedVariables false

/-- Does it read or write its item? -/
def tch (k : ByteArray) : Bool := k.toList == [114] || k.toList == [119]
def isW (k : ByteArray) : Bool := k.toList == [119]

set_option maxHeartbeats 1000000 in
theorem touch_any (k : ByteArray) (w : World) : Calls Ybad.prog 38 #[.string k] w fun e w' => e = .returned (.bool (tch k)) ∧ w' = w := by
  have hk : tch k = (k.toList == [114] || k.toList == [119]) := rfl
  generalize tch k = r at *
  have HK := hid hk
  clear hk
  go_enter Ybad.func38, Ybad.ntmps38
  go_wp2
  all_goals go_ret
  all_goals refine ⟨?_, rfl⟩
  all_goals have hk := HK.out
  all_goals simp_all

/-! ### Slices of ints -/
def SlI (W : World) (v : Value) (xs : List Int) : Prop := ∃ a cap, v = .slice a xs.length cap ∧ xs.length ≤ cap ∧ Els W 1 a xs.length fun i => [.int .i64 (xs.getD i 0)]
theorem SlI.below {W W' : World} {v : Value} {l : List Int} (h : SlI W v l) (hb : Below W.heap.size W W') : SlI W' v l := by
  obtain ⟨a, cap, h1, h2, h3⟩ := h
  exact ⟨a, cap, h1, h2, h3.below hb⟩
theorem int_at {W : World} {a : Option Addr} {n : Nat} {l : List Int} (h : Els W 1 a n fun i => [.int .i64 (l.getD i 0)]) {k : Nat} (hk : k < n) (hl : k < l.length) :
    ∃ b off, a = some ⟨b, off, none⟩ ∧ b < W.heap.size ∧ W.cell? ⟨b, off + k, none⟩ = some (.int .i64 l[k]) := by
  obtain ⟨b, off, h1, h2, h3⟩ := h k hk
  have e : l.getD k 0 = l[k] := by simp [List.getD_eq_getElem?_getD, List.getElem?_eq_getElem hl]
  dsimp only at h3
  rw [e, Nat.mul_one] at h3
  exact ⟨b, off, h1, h2, h3 0 _ rfl⟩

/-! ### Accesses -/
structure Acc where
  x : Nat
  i : Nat
  p : Nat
  w : Bool
def Acc.cells (a : Acc) : List Value := [.int .i64 (a.x : Int), .int .i64 (a.i : Int), .int .i64 (a.p : Int), .bool a.w]
def rowX (l : List Acc) : List Value := l.flatMap Acc.cells
theorem rowX_append (a b : List Acc) : rowX (a ++ b) = rowX a ++ rowX b := by simp [rowX]
theorem rowX_get : ∀ (l : List Acc) (i : Nat) (hi : i < l.length), ((rowX l).drop (i * 4)).take 4 = l[i].cells
  | c :: cs, 0, _ => by simp [rowX, Acc.cells]
  | c :: cs, i + 1, hi => by
    have h0 : rowX (c :: cs) = c.cells ++ rowX cs := by simp [rowX]
    have h1 : c.cells.length = 4 := rfl
    rw [h0, List.drop_append, show c.cells.drop ((i + 1) * 4) = [] from List.drop_eq_nil_of_le (by omega), h1, show (i + 1) * 4 - 4 = i * 4 from by omega, List.nil_append]
    simpa using rowX_get cs i (by simpa using hi)
theorem Acc.one (c : Acc) : ∀ v ∈ c.cells, v.oneCell' = true := by simp [Acc.cells, Value.oneCell']
def SlX (W : World) (v : Value) (l : List Acc) : Prop := ∃ a cap, v = .slice a l.length cap ∧ l.length ≤ cap ∧ Els W 4 a l.length fun i => (l.getD i ⟨0, 0, 0, false⟩).cells
theorem SlX.below {W W' : World} {v : Value} {l : List Acc} (h : SlX W v l) (hb : Below W.heap.size W W') : SlX W' v l := by
  obtain ⟨a, cap, h1, h2, h3⟩ := h
  exact ⟨a, cap, h1, h2, h3.below hb⟩
theorem SlX.of_own {W : World} {base : Nat} {v : Value} {l : List Acc} (h : W.ownsRow base 100 4 v l.length (rowX l)) : SlX W v l := by
  obtain ⟨a, cap, h1, h2, h3⟩ := els_own h
  refine ⟨a, cap, h1, h2, fun i hi => ?_⟩
  obtain ⟨b, e1, e2, e3, e4⟩ := h3 i hi
  rw [rowX_get l i hi] at e4
  refine ⟨b, 0, e1, e3, ?_⟩
  simpa [List.getD_eq_getElem?_getD, List.getElem?_eq_getElem hi] using e4
theorem Ybad.E61 : ElemT 61 100 4 32 (.agg #[.int .i64 0, .int .i64 0, .int .i64 0, .bool false]) := ⟨Ybad.underlying61, by kernel_rfl, rfl, by decide, by decide⟩
theorem fill100 (c : Acc) : Instr.fill (fun i => some (i * 4, 4)) ((Array.range (1 * 4)).map ((#[.int .i64 0, .int .i64 0, .int .i64 0, .bool false] : Array Value)[· % 4]!)) [(0, .agg c.cells.toArray)] = some c.cells.toArray := by
  kernel_rfl
section
variable {ops : Array Oper} {rest : List Oper} {Q : Exit → Act → World → Prop} {a : Act} {w : World} {tt : TypeId} {ps : String} {dst : Option Tmp} {aft : Array Edge}
theorem bs100 {t : Tmp} (c : Acc) (hx : a.eval (.tmp t) = .agg c.cells.toArray)
    (h : wpList Ybad.prog ops Q rest (a.put dst (.slice (some ⟨w.heap.size, 0, none⟩) 1 1)) (w.alloc (.cells c.cells.toArray 100))) : wpList Ybad.prog ops Q ({ dst := dst, op := .buildSlice 61 1 #[(0, .tmp t)], type := tt, pos := ps, after := aft, guard := none } :: rest) a w := by
  obtain ⟨ie, hie, hz, hs, hb⟩ := info_parts Ybad.E61.info
  refine wpList_buildSlice rfl 61 100 1 _ rfl c.cells.toArray ie _ Ybad.underlying61 hie hz (by rw [hs]; omega) (by rw [hs]; omega) ?_ h
  rw [hs]
  simp only [List.map_toArray, List.map_cons, List.map_nil, hx]
  exact fill100 c
end

/-! ### The plain functions -/
open Classical in
/-- The first place of a. -/
noncomputable def ix {α : Type} (l : List α) (a : α) : Nat := l.findIdx fun x => decide (x = a)
theorem ix_cons_self {α : Type} (a : α) (l : List α) : ix (a :: l) a = 0 := by unfold ix; rw [List.findIdx_cons]; simp
theorem ix_cons_ne {α : Type} {a b : α} (h : b ≠ a) (l : List α) : ix (b :: l) a = ix l a + 1 := by unfold ix; rw [List.findIdx_cons]; simp [h]
theorem ix_lt {α : Type} {l : List α} {a : α} (h : a ∈ l) : ix l a < l.length := by
  unfold ix; exact List.findIdx_lt_length_of_exists ⟨a, h, by simp⟩
theorem ix_get {α : Type} {l : List α} {a : α} (h : a ∈ l) : l[ix l a]'(ix_lt h) = a := by
  have := List.findIdx_getElem (xs := l) (p := fun x => @decide (x = a) (Classical.propDecidable _)) (w := ix_lt h)
  exact @of_decide_eq_true _ (Classical.propDecidable _) this
theorem ix_append {α : Type} {l m : List α} {a : α} (h : a ∈ l) : ix (l ++ m) a = ix l a := by
  induction l with
  | nil => simp at h
  | cons b l ih =>
    by_cases e : b = a
    · subst e; rw [List.cons_append, ix_cons_self, ix_cons_self]
    · rw [List.cons_append, ix_cons_ne e, ix_cons_ne e, ih ((List.mem_cons.1 h).resolve_left fun h => e h.symm)]
theorem ix_new {α : Type} {l : List α} {a : α} (h : a ∉ l) : ix (l ++ [a]) a = l.length := by
  induction l with
  | nil => exact ix_cons_self _ _
  | cons b l ih =>
    have e : b ≠ a := fun e => h (by simp [e])
    rw [List.cons_append, ix_cons_ne e, ih (fun hm => h (List.mem_cons_of_mem _ hm)), List.length_cons]
theorem ix_nodup {α : Type} {l : List α} (hn : l.Nodup) {i : Nat} (hi : i < l.length) : ix l l[i] = i := by
  have hm : l[i] ∈ l := List.getElem_mem hi
  exact (List.getElem_inj (h₀ := ix_lt hm) (h₁ := hi) hn).1 (ix_get hm)

open Classical in
/-- The items in the order in which they are first read or written. -/
noncomputable def itemsOf (l : List Ac) : List ByteArray := l.foldl (fun acc a => if tch a.k = true ∧ a.it ∉ acc then acc ++ [a.it] else acc) []
open Classical in
/-- Has t written it? -/
noncomputable def wrOf (l : List Ac) (t : Int) (it : ByteArray) : Bool := l.any fun a => isW a.k && decide (a.t = t ∧ a.it = it)
noncomputable def accN (tx : List Int) (l : List Ac) : Nat → List Acc
  | 0 => []
  | n + 1 => accN tx l n ++ (match l[n]? with | some a => if tch a.k then [⟨ix tx a.t, ix (itemsOf (l.take (n + 1))) a.it, n, wrOf (l.take (n + 1)) a.t a.it⟩] else [] | none => [])

open Classical in
theorem itemsOf_snoc (l : List Ac) (a : Ac) : itemsOf (l ++ [a]) = if tch a.k = true ∧ a.it ∉ itemsOf l then itemsOf l ++ [a.it] else itemsOf l := by
  unfold itemsOf; rw [List.foldl_append]; rfl
open Classical in
theorem wrOf_snoc (l : List Ac) (a : Ac) (t : Int) (it : ByteArray) : wrOf (l ++ [a]) t it = (wrOf l t it || (isW a.k && decide (a.t = t ∧ a.it = it))) := by
  unfold wrOf; rw [List.any_append]; simp
theorem accN_succ {tx : List Int} {l : List Ac} {n : Nat} (h : n < l.length) : accN tx l (n + 1) = accN tx l n ++ (if tch l[n].k then [⟨ix tx l[n].t, ix (itemsOf (l.take (n + 1))) l[n].it, n, wrOf (l.take (n + 1)) l[n].t l[n].it⟩] else []) := by
  rw [accN, List.getElem?_eq_getElem h]
open Classical in
theorem itemsOf_nodup (l : List Ac) : (itemsOf l).Nodup := by
  suffices ∀ (l : List Ac) (acc : List ByteArray), acc.Nodup → (l.foldl (fun acc a => if tch a.k = true ∧ a.it ∉ acc then acc ++ [a.it] else acc) acc).Nodup from this l [] List.nodup_nil
  intro l
  induction l with
  | nil => intro acc h; exact h
  | cons a l ih =>
    intro acc h
    rw [List.foldl_cons]
    apply ih
    split
    · rename_i hc
      rw [List.nodup_append]
      refine ⟨h, by simp, fun x hx y hy e => ?_⟩
      simp at hy
      subst hy; subst e
      exact hc.2 hx
    · exact h
open Classical in
theorem wrOf_mem {l : List Ac} {t : Int} {it : ByteArray} (h : wrOf l t it = true) : it ∈ itemsOf l := by
  suffices ∀ (l : List Ac) (acc : List ByteArray), (it ∈ acc ∨ wrOf l t it = true) → it ∈ l.foldl (fun acc a => if tch a.k = true ∧ a.it ∉ acc then acc ++ [a.it] else acc) acc from this l [] (.inr h)
  intro l
  induction l with
  | nil => intro acc h; rcases h with h | h; exact h; simp [wrOf] at h
  | cons a l ih =>
    intro acc h
    rw [List.foldl_cons]
    apply ih
    rcases h with h | h
    · left
      split
      · exact List.mem_append_left _ h
      · exact h
    · unfold wrOf at h
      rw [List.any_cons, Bool.or_eq_true] at h
      rcases h with h | h
      · simp only [Bool.and_eq_true, decide_eq_true_eq] at h
        obtain ⟨h1, h2, h3⟩ := h
        left
        split
        · rw [← h3]; simp
        · rename_i hc
          have : tch a.k = true := by unfold tch; unfold isW at h1; rw [h1]; simp
          rw [← h3]
          by_cases hm : a.it ∈ acc
          · exact hm
          · exact absurd ⟨this, hm⟩ hc
      · right; exact h

end Go.Proofs.YbulkbgasDoor

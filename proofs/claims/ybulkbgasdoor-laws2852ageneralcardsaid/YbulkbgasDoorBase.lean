import Derived.Test.YbulkbgasDoorRows
import Derived.Laws.Rows
import Derived.Laws.Tables
import Derived.Laws.AppendOwn
import Derived.Below
import Derived.Deep.Draws
import Derived.WalkKit
import Derived.WalkSpells
import Derived.WalkLawsBesides
import Derived.BigQuiet
import Derived.Deep.QuietTactic
import Derived.Great.BuildSlice
import Derived.Deep.WholeRow
import Derived.Deep.MidRow
import Derived.Deep.AppendLies
namespace Go.Proofs.YbulkbgasDoor
open Go.RowKit
set_option linter.unusedVariables false

theorem hid {p : Prop} (h : p) : Hid p := h
theorem add0 (b j : Nat) : (⟨b, 0, none⟩ : Addr).add j = ⟨b, j, none⟩ := by unfold Addr.add; split <;> simp_all
theorem below_drewN {n : Nat} {w w' : World} (h : Below n w w') (k : Nat) : Below n w (w'.drewN k) := ⟨h.os, h.tape, h.output, h.size, h.block⟩

theorem alloc_at {w : World} {o : Obj} {g : Nat} (h : w.heap.size = g) : (w.alloc o).heap[g]? = some o := by subst h; exact heap_alloc_new w o

/-! ### Elements of a slice that lie in memory -/

/-- The i-th element (k cells each) of the slice at a reads f i, for i < n. -/
def Els (W : World) (k : Nat) (a : Option Addr) (n : Nat) (f : Nat → List Value) : Prop :=
  ∀ i, i < n → ∃ b off, a = some ⟨b, off, none⟩ ∧ b < W.heap.size ∧ W.rangeAt b (off + i * k) (f i)

theorem rangeAt_below {n : Nat} {w w' : World} {b o : Nat} {cs : List Value} (h : w.rangeAt b o cs) (hb : Below n w w') (hl : b < n) : w'.rangeAt b o cs :=
  fun j v hv => (hb.cell (p := ⟨b, o + j, none⟩) hl).trans (h j v hv)

theorem Els.below {W W' : World} {k : Nat} {a : Option Addr} {n : Nat} {f : Nat → List Value} (h : Els W k a n f) (hb : Below W.heap.size W W') : Els W' k a n f := fun i hi => by
  obtain ⟨b, off, h1, h2, h3⟩ := h i hi
  exact ⟨b, off, h1, Nat.lt_of_lt_of_le h2 hb.size, rangeAt_below h3 hb h2⟩

theorem Els.zero (W : World) (k : Nat) (a : Option Addr) (f : Nat → List Value) : Els W k a 0 f := fun i hi => absurd hi (by omega)

/-- A row that one owns, element by element. -/
theorem els_own {W : World} {base e k : Nat} {v : Value} {n : Nat} {xs : List Value} (h : W.ownsRow base e k v n xs) :
    ∃ a cap, v = .slice a n cap ∧ n ≤ cap ∧ ∀ i, i < n → ∃ b, a = some ⟨b, 0, none⟩ ∧ base ≤ b ∧ b < W.heap.size ∧ W.rangeAt b (0 + i * k) ((xs.drop (i * k)).take k) := by
  rcases h.2 with ⟨rfl, h0⟩ | ⟨g, cap, cur, rfl, hb, hh, h6, h7, h8, ht⟩
  · exact ⟨none, 0, by rw [h0], by omega, fun i hi => absurd hi (by omega)⟩
  · refine ⟨some ⟨g, 0, none⟩, cap, rfl, by omega, fun i hi => ⟨g, rfl, hb, (Array.getElem?_eq_some_iff.1 hh).1, fun j v hv => ?_⟩⟩
    rw [cell_of_row _ _ _ _ _ _ hh, Nat.zero_add]
    have hj : j < k := by
      have := (List.getElem?_eq_some_iff.1 hv).1
      simp at this
      omega
    rw [List.getElem?_take_of_lt hj, List.getElem?_drop, ← ht] at hv
    have hlt : i * k + j < n * k := by
      have : (i + 1) * k ≤ n * k := Nat.mul_le_mul_right _ hi
      rw [Nat.add_mul] at this
      omega
    rw [List.getElem?_take_of_lt hlt] at hv
    simpa using hv

theorem own_apart {w : World} {base : Nat} {v : Value} {n : Nat} {xs : List Value} {e t g : Nat} {size : Nat} {old : Array Value} {fr : Nat × Nat} (h : w.ownsRow base e size v n xs) (hg : w.heap[g]? = some (.cells old t fr)) (ht : t ≠ e) : v.ownBlock ≠ some g := by
  rcases h.2 with ⟨rfl, _⟩ | ⟨g', cap, cur, rfl, hb, hh, _⟩
  · simp [Value.ownBlock]
  · intro e'
    simp [Value.ownBlock] at e'
    subst e'
    rw [hg] at hh
    simp at hh
    exact ht hh.2.1

/-- The facts on a slice type's elements. -/
structure ElemT (sl e k bytes : Nat) (z : Value) : Prop where
  und : Ybad.prog.underlying sl = some (.slice e)
  info : (Ybad.prog.info? e).map (fun i => (i.zero, i.size, i.bytes)) = some (some z, k, bytes)
  zc : z.cells.size = k
  pos : 0 < k
  few : bytes ≤ 400

section
variable {ops : Array Oper} {rest : List Oper} {Q : Exit → Act → World → Prop} {a : Act} {w : World} {tt : TypeId} {ps : String} {dst : Option Tmp} {aft : Array Edge}

/-- 'append(v, x)' -/
theorem apK {sl e k bytes : Nat} {z : Value} (E : ElemT sl e k bytes z) {t u : Tmp} (base : Nat) (v : Value) (n : Nat) (xs news : List Value) (h0 : Nat) (hs : a.eval (.tmp t) = v) (hx : a.eval (.tmp u) = .slice (some ⟨h0, 0, none⟩) 1 1)
    (hown : w.ownsRow base e k v n xs) (hh : w.heap[h0]? = some (.cells news.toArray e (0, 0))) (hl : news.length = k) (h1 : ∀ x ∈ news, x.oneCell' = true) (hn : n ≤ 100000) (hb : base ≤ w.heap.size)
    (hK : ∀ g cap w', w'.ownsRow base e k (.slice (some ⟨g, 0, none⟩) (n + 1) cap) (n + 1) (xs ++ news) → w.grownBy w' v.ownBlock → (v.ownBlock = some g ∨ g = w.heap.size) → g < w'.heap.size → wpList Ybad.prog ops Q rest (a.put dst (.slice (some ⟨g, 0, none⟩) (n + 1) cap)) w') :
    wpList Ybad.prog ops Q ({ dst := dst, op := .call { callee := .builtin .append, args := #[.tmp t, .tmp u], argTypes := #[sl, sl] }, type := tt, pos := ps, after := aft, guard := none } :: rest) a w := by
  obtain ⟨ie, hie, hz, hsz, hb2⟩ := info_parts E.info
  have hf := E.few
  refine wpList_append_lies w rfl (.tmp t) (.tmp u) sl rfl base e ie _ k bytes E.und hie hz hsz hb2 E.zc E.pos v n xs hs hown ⟨h0, 0, none⟩ 1 1 news hx (by rw [hl]; omega) ?_ h1 (by decide) (by unfold maxLen; omega) ?_ hb _ rfl hK
  · intro j u hj
    rw [add0]
    rw [cell_of_row _ _ _ _ _ _ hh]
    simpa using hj
  · have : (n + 1) * bytes ≤ 100001 * 400 := Nat.mul_le_mul (by omega) hf
    omega

/-- A whole struct out of the middle of a row. -/
theorem ldK {ty : TypeId} {d : TypeDesc} {t : Tmp} (hu : Ybad.prog.underlying ty = some d) (hd : d.isRow = true) (b o : Nat) (cs : List Value) (hx : a.eval (.tmp t) = .pointer (some ⟨b, o, none⟩)) (hc : w.rangeAt b o cs) (hi : (Ybad.prog.info? ty).map (·.size) = some cs.length)
    (h : wpList Ybad.prog ops Q rest (a.put dst (.agg cs.toArray)) w) : wpList Ybad.prog ops Q ({ dst := dst, op := .load ty (.tmp t), type := tt, pos := ps, after := aft, guard := none } :: rest) a w :=
  wpList_load_mid rfl ty (.tmp t) rfl b o hx cs d hc hu hd hi h

/-- A whole struct into a box that has just been made. -/
theorem stNew {ty : TypeId} {t u : Tmp} (w0 : World) (old cells : Array Value) (hw : w = w0.alloc (.cells old ty)) (hx : a.eval (.tmp t) = .pointer (some ⟨w0.heap.size, 0, none⟩)) (hy : a.eval (.tmp u) = .agg cells) (hi : (Ybad.prog.info? ty).map (·.size) = some cells.size) (ho : old.size = cells.size) (h1 : cells.all (·.oneCell') = true)
    (h : wpList Ybad.prog ops Q rest (a.put dst undef) (w0.alloc (.cells cells ty))) : wpList Ybad.prog ops Q ({ dst := dst, op := .store ty (.tmp t) (.tmp u), type := tt, pos := ps, after := aft, guard := none } :: rest) a w := by
  subst hw
  refine wpList_store_row rfl ty (.tmp t) (.tmp u) rfl w0.heap.size cells hx hy ty _ (heap_alloc_new w0 _) hi ho h1 ?_
  rw [World.setRow_alloc_new]
  exact h
end

/-! ### Rows of a fixed length -/

def rowF (n : Nat) (f : Nat → Value) : Array Value := ((List.range n).map f).toArray
theorem rowF_size (n : Nat) (f : Nat → Value) : (rowF n f).size = n := by simp [rowF]
theorem rowF_get {n : Nat} {f : Nat → Value} {j : Nat} (h : j < n) : (rowF n f)[j]? = some (f j) := by simp [rowF, h]
/-- f, but for v at j. -/
def upd (f : Nat → Value) (j : Nat) (v : Value) : Nat → Value := fun i => if i = j then v else f i
theorem rowF_set {n : Nat} {f : Nat → Value} {j : Nat} (h : j < n) (v : Value) : (rowF n f).setIfInBounds j v = rowF n (upd f j v) := by
  apply Array.ext
  · simp [rowF]
  · intro i h1 h2
    have hi : i < n := by simpa [rowF] using h2
    rw [Array.getElem_setIfInBounds (by simpa [rowF] using hi)]
    by_cases e : j = i
    · subst e; simp [rowF, upd]
    · have e' : ¬ i = j := fun h => e h.symm
      simp [rowF, upd, e, e']
theorem rowF_congr {n : Nat} {f g : Nat → Value} (h : ∀ i, i < n → f i = g i) : rowF n f = rowF n g := by
  unfold rowF
  congr 1
  exact List.map_congr_left fun i hi => h i (by simpa using hi)

/-- Block g is a row of n cells, the i-th of which holds f i. -/
def Fix (W : World) (g t n : Nat) (f : Nat → Value) : Prop := W.heap[g]? = some (.cells (rowF n f) t (0, 0))
section
variable {W W' : World} {g t n : Nat} {f : Nat → Value}
theorem Fix.lt (h : Fix W g t n f) : g < W.heap.size := (Array.getElem?_eq_some_iff.1 h).1
theorem Fix.cell (h : Fix W g t n f) {j : Nat} (hj : j < n) : W.cell? ⟨g, j, none⟩ = some (f j) := by rw [cell_of_row _ _ _ _ _ _ h, rowF_get hj]
theorem Fix.free (h : Fix W g t n f) (j : Nat) : W.frozen? ⟨g, j, none⟩ = false := frozen_of_row _ _ _ _ _ h
theorem Fix.set (h : Fix W g t n f) {j : Nat} (hj : j < n) (v : Value) : Fix (W.setCell ⟨g, j, none⟩ v) g t n (upd f j v) := by
  unfold Fix
  rw [heap_setCell_same _ _ _ _ _ _ h, rowF_set hj]
theorem Fix.other (h : Fix W g t n f) (g' j : Nat) (hne : g ≠ g') (v : Value) : Fix (W.setCell ⟨g', j, none⟩ v) g t n f := by
  unfold Fix
  rw [heap_setCell_other W _ _ v hne]; exact h
theorem Fix.alloc (h : Fix W g t n f) (o : Obj) : Fix (W.alloc o) g t n f := (Below.heap_alloc _ _ _ h.lt).trans h
theorem Fix.drewN (h : Fix W g t n f) (k : Nat) : Fix (W.drewN k) g t n f := h
theorem Fix.below {b : Nat} (h : Fix W g t n f) (hb : Below b W W') (hg : g < b) : Fix W' g t n f := (hb.block g hg).trans h
theorem Fix.grown {row : Option Nat} (h : Fix W g t n f) (hg : W.grownBy W' row) (hne : some g ≠ row) : Fix W' g t n f := (hg.block g h.lt hne).trans h
theorem Fix.congr {f' : Nat → Value} (h : Fix W g t n f) (he : ∀ i, i < n → f i = f' i) : Fix W g t n f' := by unfold Fix; rw [← rowF_congr he]; exact h
end

/-! ### Actions -/

structure Ac where
  k : ByteArray
  t : Int
  it : ByteArray
  deriving DecidableEq

def Ac.cells (a : Ac) : List Value := [.string a.k, .int .i64 a.t, .string a.it]
def rowA (l : List Ac) : List Value := l.flatMap Ac.cells
theorem rowA_append (a b : List Ac) : rowA (a ++ b) = rowA a ++ rowA b := by simp [rowA]
theorem rowA_length (l : List Ac) : (rowA l).length = l.length * 3 := by
  induction l with
  | nil => rfl
  | cons c cs ih =>
    have : (rowA (c :: cs)).length = 3 + (rowA cs).length := by simp [rowA, Ac.cells]; omega
    rw [this, ih, List.length_cons]; omega
theorem rowA_get : ∀ (l : List Ac) (i : Nat) (hi : i < l.length), ((rowA l).drop (i * 3)).take 3 = l[i].cells
  | c :: cs, 0, _ => by simp [rowA, Ac.cells]
  | c :: cs, i + 1, hi => by
    have h0 : rowA (c :: cs) = c.cells ++ rowA cs := by simp [rowA]
    have h1 : c.cells.length = 3 := rfl
    rw [h0, List.drop_append, show c.cells.drop ((i + 1) * 3) = [] from List.drop_eq_nil_of_le (by omega), h1, show (i + 1) * 3 - 3 = i * 3 from by omega, List.nil_append]
    simpa using rowA_get cs i (by simpa using hi)
theorem Ac.one (c : Ac) : ∀ v ∈ c.cells, v.oneCell' = true := by simp [Ac.cells, Value.oneCell']

/-- The slice v holds the actions l. -/
def SlA (W : World) (v : Value) (l : List Ac) : Prop := ∃ a cap, v = .slice a l.length cap ∧ l.length ≤ cap ∧ Els W 3 a l.length fun i => (l.getD i ⟨⟨#[]⟩, 0, ⟨#[]⟩⟩).cells

theorem SlA.below {W W' : World} {v : Value} {l : List Ac} (h : SlA W v l) (hb : Below W.heap.size W W') : SlA W' v l := by
  obtain ⟨a, cap, h1, h2, h3⟩ := h
  exact ⟨a, cap, h1, h2, h3.below hb⟩

theorem SlA.of_own {W : World} {base : Nat} {v : Value} {l : List Ac} (h : W.ownsRow base 34 3 v l.length (rowA l)) : SlA W v l := by
  obtain ⟨a, cap, h1, h2, h3⟩ := els_own h
  refine ⟨a, cap, h1, h2, fun i hi => ?_⟩
  obtain ⟨b, e1, e2, e3, e4⟩ := h3 i hi
  rw [rowA_get l i hi] at e4
  refine ⟨b, 0, e1, e3, ?_⟩
  simpa [List.getD_eq_getElem?_getD, List.getElem?_eq_getElem hi] using e4

theorem Ybad.E24 : ElemT 24 34 3 40 (.agg #[.string ⟨#[]⟩, .int .i64 0, .string ⟨#[]⟩]) := ⟨Ybad.underlying24, by kernel_rfl, rfl, by decide, by decide⟩
theorem Ybad.size34 : (Ybad.prog.info? 34).map (·.size) = some 3 := by kernel_rfl
theorem Ybad.size42 : (Ybad.prog.info? 42).map (·.size) = some 3 := by kernel_rfl
theorem fill34 (c : Ac) : Instr.fill (fun i => some (i * 3, 3)) ((Array.range (1 * 3)).map ((#[.string ⟨#[]⟩, .int .i64 0, .string ⟨#[]⟩] : Array Value)[· % 3]!)) [(0, .agg c.cells.toArray)] = some c.cells.toArray := by
  kernel_rfl

section
variable {ops : Array Oper} {rest : List Oper} {Q : Exit → Act → World → Prop} {a : Act} {w : World} {tt : TypeId} {ps : String} {dst : Option Tmp} {aft : Array Edge}

theorem bs34 {t : Tmp} (c : Ac) (hx : a.eval (.tmp t) = .agg c.cells.toArray)
    (h : wpList Ybad.prog ops Q rest (a.put dst (.slice (some ⟨w.heap.size, 0, none⟩) 1 1)) (w.alloc (.cells c.cells.toArray 34))) : wpList Ybad.prog ops Q ({ dst := dst, op := .buildSlice 24 1 #[(0, .tmp t)], type := tt, pos := ps, after := aft, guard := none } :: rest) a w := by
  obtain ⟨ie, hie, hz, hs, hb⟩ := info_parts Ybad.E24.info
  refine wpList_buildSlice rfl 24 34 1 _ rfl c.cells.toArray ie _ Ybad.underlying24 hie hz (by rw [hs]; omega) (by rw [hs]; omega) ?_ h
  rw [hs]
  simp only [List.map_toArray, List.map_cons, List.map_nil, hx]
  exact fill34 c
end

end Go.Proofs.YbulkbgasDoor

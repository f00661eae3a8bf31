import Derived.Laws.Rows
import Derived.Laws.Tables
import Derived.Laws.AppendOwn
import Derived.Below
import Derived.Deep.Draws
namespace Go.Proofs.Ybulkbgae
open Go.RowKit
set_option linter.unusedVariables false

theorem hid {p : Prop} (h : p) : Hid p := h

/-- A node of an expression's tree, as the walk over it meets it: where it lies, its op, its function's name. -/
structure Nd where
  b : Nat
  off : Nat
  op : Int
  fn : ByteArray

/-- The names of the calls among the nodes. -/
def names (L : List Nd) : List ByteArray := (L.filter fun x => decide (x.op = 2)).map (·.fn)

theorem names_append (a b : List Nd) : names (a ++ b) = names a ++ names b := by simp [names]
theorem names_cons (x : Nd) (L : List Nd) : names (x :: L) = (if x.op = 2 then [x.fn] else []) ++ names L := by
  by_cases h : x.op = 2 <;> simp [names, h]
theorem names_nil : names [] = [] := rfl

/-- The twelve cells of an Expression. -/
abbrev exC (op : Int) (s u fn : ByteArray) (sl : Value) : Array Value :=
  #[.int .u8 op, .string s, .int .u8 0, .string ⟨#[]⟩, .int .u8 0, .string ⟨#[]⟩, .string u, .string fn, sl, .string ⟨#[]⟩, .int .i64 0, .int .i64 0]

/-- An Expression as a value: its op, its strings, its args slice, and the nodes that lie behind that slice. -/
structure Ch where
  op : Int
  s : ByteArray
  u : ByteArray
  fn : ByteArray
  a : Option Addr
  len : Nat
  cap : Nat
  L : List Nd

def Ch.cells (c : Ch) : Array Value := exC c.op c.s c.u c.fn (.slice c.a c.len c.cap)
theorem Ch.size (c : Ch) : c.cells.size = 12 := rfl

/-- The names that it brings. -/
def Ch.names (c : Ch) : List ByteArray := (if c.op = 2 then [c.fn] else []) ++ Ybulkbgae.names c.L

/-- The cells of a row of Expressions. -/
def rowOf (cs : List Ch) : List Value := cs.flatMap fun c => c.cells.toList

theorem rowOf_length (cs : List Ch) : (rowOf cs).length = cs.length * 12 := by
  induction cs with
  | nil => rfl
  | cons c cs ih =>
    have : (rowOf (c :: cs)).length = 12 + (rowOf cs).length := by simp [rowOf, Ch.cells]; omega
    rw [this, ih, List.length_cons]; omega

theorem rowOf_append (a b : List Ch) : rowOf (a ++ b) = rowOf a ++ rowOf b := by simp [rowOf]

/-- The nodes of a row of Expressions that lies in block g, from the i-th on. -/
def nodes (g : Nat) : Nat → List Ch → List Nd
  | _, [] => []
  | i, c :: cs => (⟨g, 12 * i, c.op, c.fn⟩ :: c.L) ++ nodes g (i + 1) cs

theorem names_nodes (g : Nat) : ∀ (i : Nat) (cs : List Ch), names (nodes g i cs) = cs.flatMap Ch.names
  | _, [] => rfl
  | i, c :: cs => by
    rw [nodes, names_append, names_cons, names_nodes g (i + 1) cs]
    simp [Ch.names]

/-- What lies behind an args slice: rows of Expressions in blocks from lo on, n storeys at the most. -/
def Kid : Nat → Nat → World → Option Addr → Nat → List Nd → Prop
  | 0, _, _, _, len, L => len = 0 ∧ L = []
  | n + 1, lo, w, a, len, L => (len = 0 ∧ L = []) ∨ ∃ g cur cs, a = some ⟨g, 0, none⟩ ∧ lo ≤ g ∧ w.heap[g]? = some (.cells cur 50 (0, 0)) ∧ (cs.length = len ∧ len ≤ 2) ∧ cur.toList.take (len * 12) = rowOf cs ∧ (∀ c ∈ cs, Kid n lo w c.a c.len c.L) ∧ L = nodes g 0 cs

theorem Kid.keep : ∀ {n lo lo' : Nat} {w w' : World} {a : Option Addr} {len : Nat} {L : List Nd}, Kid n lo w a len L → lo' ≤ lo → (∀ g cur, lo ≤ g → w.heap[g]? = some (.cells cur 50 (0, 0)) → w'.heap[g]? = some (.cells cur 50 (0, 0))) → Kid n lo' w' a len L
  | 0, _, _, _, _, _, _, _, h, _, _ => h
  | n + 1, lo, lo', w, w', a, len, L, h, hlo, hk => by
    rcases h with h | ⟨g, cur, cs, h1, h2, h3, h4, h5, h6, h7⟩
    · exact .inl h
    · exact .inr ⟨g, cur, cs, h1, by omega, hk g cur h2 h3, h4, h5, fun c hc => (h6 c hc).keep hlo hk, h7⟩

theorem Kid.more : ∀ {n lo : Nat} {w : World} {a : Option Addr} {len : Nat} {L : List Nd}, Kid n lo w a len L → Kid (n + 1) lo w a len L
  | 0, _, _, _, _, _, h => .inl h
  | n + 1, lo, w, a, len, L, h => by
    rcases h with h | ⟨g, cur, cs, h1, h2, h3, h4, h5, h6, h7⟩
    · exact .inl h
    · exact .inr ⟨g, cur, cs, h1, h2, h3, h4, h5, fun c hc => (h6 c hc).more, h7⟩

theorem Kid.upTo {n m lo : Nat} {w : World} {a : Option Addr} {len : Nat} {L : List Nd} (h : Kid n lo w a len L) (hm : n ≤ m) : Kid m lo w a len L := by
  obtain ⟨k, rfl⟩ : ∃ k, m = n + k := ⟨m - n, by omega⟩
  induction k with
  | zero => exact h
  | succ k ih => exact (ih (by omega)).more

/-- An owned row of Expressions is what a slice leads to. -/
theorem Kid.of_own {n lo base len : Nat} {w : World} {a : Option Addr} {cap : Nat} {cs : List Ch} (h : w.ownsRow base 50 12 (.slice a len cap) len (rowOf cs)) (hb : lo ≤ base) (hm : len ≤ 2) (hc : ∀ c ∈ cs, Kid n lo w c.a c.len c.L) :
    ∃ L, Kid (n + 1) lo w a len L ∧ names L = cs.flatMap Ch.names := by
  have hl : cs.length = len := by have := h.1; rw [rowOf_length] at this; omega
  rcases h.2 with ⟨hv, h0⟩ | ⟨g, cap', cur, hv, hg, hh, _, _, _, ht⟩
  · subst h0
    have : cs = [] := List.length_eq_zero_iff.1 hl
    subst this
    exact ⟨[], .inl ⟨rfl, rfl⟩, rfl⟩
  · simp only [Value.slice.injEq] at hv
    obtain ⟨rfl, _, rfl⟩ := hv
    exact ⟨nodes g 0 cs, .inr ⟨g, cur, cs, rfl, by omega, hh, ⟨hl, hm⟩, ht, hc, rfl⟩, names_nodes g 0 cs⟩

/-- WHAT MAY TURN while the tree is built: the generator's own block B; rows of strings behind it. -/
structure Fr (B : Nat) (w w' : World) : Prop where
  os : w'.os = w.os
  tape : w'.tape = w.tape
  output : w'.output = w.output
  size : w.heap.size ≤ w'.heap.size
  block : ∀ k, k < w.heap.size → k ≠ B → (B < k → ∀ cs fr, w.heap[k]? ≠ some (.cells cs 9 fr)) → w'.heap[k]? = w.heap[k]?

theorem Fr.refl (B : Nat) (w : World) : Fr B w w := ⟨rfl, rfl, rfl, Nat.le_refl _, fun _ _ _ _ => rfl⟩
theorem Fr.trans {B : Nat} {a b c : World} (h : Fr B a b) (k : Fr B b c) : Fr B a c :=
  ⟨k.os.trans h.os, k.tape.trans h.tape, k.output.trans h.output, Nat.le_trans h.size k.size, fun i h1 h2 h3 => by
    have e := h.block i h1 h2 h3
    rw [k.block i (Nat.lt_of_lt_of_le h1 h.size) h2 (fun hb cs fr => by rw [e]; exact h3 hb cs fr), e]⟩
theorem Fr.drewN {B : Nat} {a w : World} (h : Fr B a w) (n : Nat) : Fr B a (w.drewN n) := h.trans ⟨rfl, rfl, rfl, Nat.le_refl _, fun _ _ _ _ => rfl⟩
theorem Fr.alloc {B : Nat} {a w : World} (h : Fr B a w) (o : Obj) : Fr B a (w.alloc o) :=
  h.trans ⟨rfl, rfl, rfl, by simp, fun k hk _ _ => Below.heap_alloc _ _ _ hk⟩
theorem Fr.setB {B : Nat} {a w : World} (h : Fr B a w) (j : Nat) (v : Value) : Fr B a (w.setCell ⟨B, j, none⟩ v) :=
  h.trans ⟨rfl, rfl, rfl, by simp [World.setCell], fun k _ hk _ => heap_setCell_other w _ k v hk⟩
/-- A store into a block that is new since a. -/
theorem Fr.setRow {B : Nat} {a w : World} (h : Fr B a w) {g : Nat} (hg : a.heap.size ≤ g) (cs : Array Value) : Fr B a (w.setRow g cs) :=
  ⟨h.os, h.tape, h.output, by simpa using h.size, fun k h1 h2 h3 => by rw [setRow_other w g k cs (by omega)]; exact h.block k h1 h2 h3⟩
/-- An append onto a row that is new since a. -/
theorem Fr.grownNew {B : Nat} {a w w' : World} {row : Option Nat} (h : Fr B a w) (hg : w.grownBy w' row) (hr : ∀ k, row = some k → a.heap.size ≤ k) : Fr B a w' :=
  ⟨hg.os.trans h.os, hg.tape.trans h.tape, hg.output.trans h.output, Nat.le_trans h.size hg.size, fun k h1 h2 h3 => by
    rw [hg.block k (Nat.lt_of_lt_of_le h1 h.size) (fun e => by have := hr k e.symm; omega)]; exact h.block k h1 h2 h3⟩
/-- An append onto the row of strings. -/
theorem Fr.grownStr {B : Nat} {w w' : World} {v : Value} {n : Nat} {xs : List Value} (ho : w.ownsRow (B + 1) 9 1 v n xs) (hg : w.grownBy w' v.ownBlock) : Fr B w w' :=
  ⟨hg.os, hg.tape, hg.output, hg.size, fun k h1 h2 h3 => hg.block k h1 (fun e => by
    rcases ho.2 with ⟨rfl, _⟩ | ⟨g, cap, cur, rfl, hb, hh, _⟩
    · simp [Value.ownBlock] at e
    · simp [Value.ownBlock] at e
      subst e
      exact h3 (by omega) _ _ hh)⟩
/-- Below B nothing has turned. -/
theorem Fr.below {B : Nat} {w w' : World} (h : Fr B w w') (hB : B ≤ w.heap.size) : Below B w w' :=
  ⟨h.os, h.tape, h.output, h.size, fun k hk => h.block k (by omega) (by omega) (fun h => by omega)⟩
/-- A block of Expressions, or whatever is no row of strings. -/
theorem Fr.keeps {B : Nat} {w w' : World} (h : Fr B w w') {g : Nat} {cur : Array Value} {t : TypeId} (ht : t ≠ 9) (hB : g ≠ B) (hg : w.heap[g]? = some (.cells cur t (0, 0))) : w'.heap[g]? = some (.cells cur t (0, 0)) := by
  rw [h.block g (Array.getElem?_eq_some_iff.1 hg).1 hB (fun _ cs fr => by rw [hg]; simp [ht])]; exact hg

theorem Kid.fr {n lo B : Nat} {w w' : World} {a : Option Addr} {len : Nat} {L : List Nd} (h : Kid n lo w a len L) (hB : B < lo) (hf : Fr B w w') : Kid n lo w' a len L :=
  h.keep (Nat.le_refl _) fun g cur hg hh => hf.keeps (by decide) (by omega) hh

theorem Kid.nil (n lo : Nat) (w : World) (a : Option Addr) : Kid n lo w a 0 [] := by
  cases n with
  | zero => exact ⟨rfl, rfl⟩
  | succ n => exact .inl ⟨rfl, rfl⟩

/-- The codes that came in, below B. -/
def Codes (B : Nat) (w : World) (ca : Option Addr) (clen : Nat) : Prop := clen ≤ 1024 ∧ ∀ i, i < clen → ∃ b off z, ca = some ⟨b, off, none⟩ ∧ b < B ∧ w.cell? ⟨b, off + i, none⟩ = some (.int .u8 z) ∧ 0 ≤ z ∧ z ≤ 255
/-- The names that came in, below B. -/
def Names (B : Nat) (w : World) (na : Option Addr) (nlen : Nat) : Prop := nlen ≤ maxLen ∧ ∀ i, i < nlen → ∃ b off s, na = some ⟨b, off, none⟩ ∧ b < B ∧ w.cell? ⟨b, off + i, none⟩ = some (.string s)

theorem Codes.below {B : Nat} {w w' : World} {ca : Option Addr} {clen : Nat} (h : Codes B w ca clen) (hb : Below B w w') : Codes B w' ca clen :=
  ⟨h.1, fun i hi => by obtain ⟨b, off, z, h1, h2, h3, h4⟩ := h.2 i hi; exact ⟨b, off, z, h1, h2, (hb.cell (p := ⟨b, off + i, none⟩) h2).trans h3, h4⟩⟩
theorem Names.below {B : Nat} {w w' : World} {na : Option Addr} {nlen : Nat} (h : Names B w na nlen) (hb : Below B w w') : Names B w' na nlen :=
  ⟨h.1, fun i hi => by obtain ⟨b, off, z, h1, h2, h3⟩ := h.2 i hi; exact ⟨b, off, z, h1, h2, (hb.cell (p := ⟨b, off + i, none⟩) h2).trans h3⟩⟩

/-- The generator in memory: its five cells; the names that it has laid down so far. -/
structure Gen (B : Nat) (ca na : Option Addr) (clen ccap nlen ncap : Nat) (w : World) (pos : Nat) (xs : List ByteArray) (wv : Value) : Prop where
  blk : w.heap[B]? = some (.cells #[.slice ca clen ccap, .slice na nlen ncap, .int .i64 pos, .int .i64 xs.length, wv] 37 (0, 0))
  own : w.ownsRow (B + 1) 9 1 wv xs.length (xs.map Value.string)
  hx : xs.length ≤ pos
  hp : pos ≤ clen
  hc : clen ≤ 1024

theorem own_apart {w : World} {base : Nat} {v : Value} {n : Nat} {xs : List Value} {e t g : Nat} {size : Nat} {old : Array Value} (h : w.ownsRow base e size v n xs) (hg : w.heap[g]? = some (.cells old t (0, 0))) (ht : t ≠ e) : v.ownBlock ≠ some g := by
  rcases h.2 with ⟨rfl, _⟩ | ⟨g', cap, cur, rfl, hb, hh, _⟩
  · simp [Value.ownBlock]
  · intro e'
    simp [Value.ownBlock] at e'
    subst e'
    rw [hg] at hh
    simp at hh
    exact ht hh.2

section
variable {B : Nat} {ca na : Option Addr} {clen ccap nlen ncap : Nat} {w w' : World} {pos : Nat} {xs : List ByteArray} {wv : Value}

theorem Gen.lt (h : Gen B ca na clen ccap nlen ncap w pos xs wv) : B < w.heap.size := (Array.getElem?_eq_some_iff.1 h.blk).1
theorem Gen.c0 (h : Gen B ca na clen ccap nlen ncap w pos xs wv) : w.cell? ⟨B, 0, none⟩ = some (.slice ca clen ccap) := by rw [cell_of_row _ _ _ _ _ _ h.blk]; rfl
theorem Gen.c1 (h : Gen B ca na clen ccap nlen ncap w pos xs wv) : w.cell? ⟨B, 1, none⟩ = some (.slice na nlen ncap) := by rw [cell_of_row _ _ _ _ _ _ h.blk]; rfl
theorem Gen.c2 (h : Gen B ca na clen ccap nlen ncap w pos xs wv) : w.cell? ⟨B, 2, none⟩ = some (.int .i64 pos) := by rw [cell_of_row _ _ _ _ _ _ h.blk]; rfl
theorem Gen.c3 (h : Gen B ca na clen ccap nlen ncap w pos xs wv) : w.cell? ⟨B, 3, none⟩ = some (.int .i64 xs.length) := by rw [cell_of_row _ _ _ _ _ _ h.blk]; rfl
theorem Gen.c4 (h : Gen B ca na clen ccap nlen ncap w pos xs wv) : w.cell? ⟨B, 4, none⟩ = some wv := by rw [cell_of_row _ _ _ _ _ _ h.blk]; rfl
theorem Gen.free (h : Gen B ca na clen ccap nlen ncap w pos xs wv) (j : Nat) : w.frozen? ⟨B, j, none⟩ = false := frozen_of_row _ _ _ _ _ h.blk

theorem Gen.grown {row : Option Nat} (h : Gen B ca na clen ccap nlen ncap w pos xs wv) (hg : w.grownBy w' row) (hB : some B ≠ row) (hr : wv.ownBlock = none ∨ wv.ownBlock ≠ row) : Gen B ca na clen ccap nlen ncap w' pos xs wv :=
  ⟨by rw [hg.block B h.lt hB]; exact h.blk, h.own.kept hg hr, h.hx, h.hp, h.hc⟩
theorem Gen.alloc (h : Gen B ca na clen ccap nlen ncap w pos xs wv) (o : Obj) : Gen B ca na clen ccap nlen ncap (w.alloc o) pos xs wv :=
  ⟨by rw [Below.heap_alloc _ _ _ h.lt]; exact h.blk, h.own.alloc o, h.hx, h.hp, h.hc⟩
theorem Gen.drewN (h : Gen B ca na clen ccap nlen ncap w pos xs wv) (k : Nat) : Gen B ca na clen ccap nlen ncap (w.drewN k) pos xs wv :=
  h.grown (row := none) ⟨rfl, rfl, rfl, Nat.le_refl _, fun _ _ _ => rfl⟩ (by simp) (by cases wv.ownBlock <;> simp)
/-- 'g.pos++' -/
theorem Gen.bump (h : Gen B ca na clen ccap nlen ncap w pos xs wv) (hlt : pos < clen) : Gen B ca na clen ccap nlen ncap (w.setCell ⟨B, 2, none⟩ (.int .i64 ((pos : Int) + 1))) (pos + 1) xs wv := by
  refine ⟨?_, ownsRow_setCell_below h.own (by simp) _, by have := h.hx; omega, by omega, h.hc⟩
  rw [heap_setCell_same _ _ _ _ _ _ h.blk]
  simp
/-- 'g.ncalls++; g.want = append(g.want, name)' -/
theorem Gen.named {v' : Value} {w1 : World} {s : ByteArray} (h : Gen B ca na clen ccap nlen ncap w pos xs wv) (hlt : xs.length < pos)
    (ho : w1.ownsRow (B + 1) 9 1 v' (xs.length + 1) (xs.map Value.string ++ [.string s])) (hb : w1.heap[B]? = some (.cells #[.slice ca clen ccap, .slice na nlen ncap, .int .i64 pos, .int .i64 ((xs.length : Int) + 1), wv] 37 (0, 0))) :
    Gen B ca na clen ccap nlen ncap (w1.setCell ⟨B, 4, none⟩ v') pos (xs ++ [s]) v' := by
  refine ⟨?_, ?_, by simp; omega, h.hp, h.hc⟩
  · rw [heap_setCell_same _ _ _ _ _ _ hb]
    simp
  · have := ownsRow_setCell_below ho (a := ⟨B, 4, none⟩) (by simp) v'
    simpa using this
end

end Go.Proofs.Ybulkbgae

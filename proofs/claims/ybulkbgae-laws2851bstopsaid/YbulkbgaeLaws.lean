import Derived.Test.YbulkbgaeExpr
import Derived.Great.BuildSlice
import Derived.Deep.WholeRow
import Derived.Deep.AppendLies
namespace Go.Proofs.Ybulkbgae
open Go.RowKit
set_option linter.unusedVariables false

theorem Ch.one (c : Ch) : c.cells.all (·.oneCell') = true := exC_one _ _ _ _ _ _ _
theorem Yba.info50 : (Yba.prog.info? 50).map (fun i => (i.zero, i.size, i.bytes)) = some (some (.agg (exC 0 ⟨#[]⟩ ⟨#[]⟩ ⟨#[]⟩ (.slice none 0 0))), 12, 160) := by kernel_rfl

theorem fill_two (c1 c2 : Ch) : Instr.fill (fun i => some (i * 12, 12)) ((Array.range (2 * 12)).map ((exC 0 ⟨#[]⟩ ⟨#[]⟩ ⟨#[]⟩ (.slice none 0 0))[· % 12]!)) [(0, .agg c1.cells), (1, .agg c2.cells)] = some (rowOf [c1, c2]).toArray := by
  kernel_rfl
theorem fill_one (c1 : Ch) : Instr.fill (fun i => some (i * 12, 12)) ((Array.range (1 * 12)).map ((exC 0 ⟨#[]⟩ ⟨#[]⟩ ⟨#[]⟩ (.slice none 0 0))[· % 12]!)) [(0, .agg c1.cells)] = some (rowOf [c1]).toArray := by
  kernel_rfl
theorem add0 (b j : Nat) : (⟨b, 0, none⟩ : Addr).add j = ⟨b, j, none⟩ := by unfold Addr.add; split <;> simp_all

theorem setRow_new {w : World} (c : Ch) : (w.alloc Z50).setRow w.heap.size c.cells = w.alloc (.cells c.cells 50) := World.setRow_alloc_new w _ _ _

section
variable {ops : Array Oper} {rest : List Oper} {Q : Exit → Act → World → Prop} {a : Act} {w : World} {tt : TypeId} {ps : String} {dst : Option Tmp} {aft : Array Edge}

/-- A whole Expression out of a box. -/
theorem ld50 {t : Tmp} (g : Nat) (c : Ch) (hx : a.eval (.tmp t) = .pointer (some ⟨g, 0, none⟩)) (hg : w.heap[g]? = some (.cells c.cells 50 (0, 0)))
    (h : wpList Yba.prog ops Q rest (a.put dst (.agg c.cells)) w) : wpList Yba.prog ops Q ({ dst := dst, op := .load 50 (.tmp t), type := tt, pos := ps, after := aft, guard := none } :: rest) a w :=
  wpList_load_row rfl 50 (.tmp t) rfl g hx 50 c.cells (0, 0) _ hg Yba.underlying50 rfl Yba.size50 h

/-- A whole Expression into a box that has just been made. -/
theorem st50 {t u : Tmp} (w0 : World) (c : Ch) (hw : w = w0.alloc Z50) (hx : a.eval (.tmp t) = .pointer (some ⟨w0.heap.size, 0, none⟩)) (hy : a.eval (.tmp u) = .agg c.cells)
    (h : wpList Yba.prog ops Q rest (a.put dst undef) (w0.alloc (.cells c.cells 50))) : wpList Yba.prog ops Q ({ dst := dst, op := .store 50 (.tmp t) (.tmp u), type := tt, pos := ps, after := aft, guard := none } :: rest) a w := by
  subst hw
  refine wpList_store_row rfl 50 (.tmp t) (.tmp u) rfl w0.heap.size c.cells hx hy 50 _ (heap_alloc_new w0 Z50) Yba.size50 rfl c.one ?_
  rw [setRow_new]
  exact h

/-- A whole Expression into the result's box. -/
theorem st50r {t u : Tmp} (g : Nat) (c : Ch) (hx : a.eval (.tmp t) = .pointer (some ⟨g, 0, none⟩)) (hy : a.eval (.tmp u) = .agg c.cells) (hg : w.heap[g]? = some Z50)
    (h : wpList Yba.prog ops Q rest (a.put dst undef) (w.setRow g c.cells)) : wpList Yba.prog ops Q ({ dst := dst, op := .store 50 (.tmp t) (.tmp u), type := tt, pos := ps, after := aft, guard := none } :: rest) a w :=
  wpList_store_row rfl 50 (.tmp t) (.tmp u) rfl g c.cells hx hy 50 _ hg Yba.size50 rfl c.one h

theorem bs50_1 {t : Tmp} (c : Ch) (hx : a.eval (.tmp t) = .agg c.cells)
    (h : wpList Yba.prog ops Q rest (a.put dst (.slice (some ⟨w.heap.size, 0, none⟩) 1 1)) (w.alloc (.cells (rowOf [c]).toArray 50))) : wpList Yba.prog ops Q ({ dst := dst, op := .buildSlice 46 1 #[(0, .tmp t)], type := tt, pos := ps, after := aft, guard := none } :: rest) a w := by
  obtain ⟨ie, hie, hz, hs, hb⟩ := info_parts Yba.info50
  refine wpList_buildSlice rfl 46 50 1 _ rfl (rowOf [c]).toArray ie _ Yba.underlying46 hie hz (by rw [hs]; omega) (by rw [hs]; omega) ?_ h
  rw [hs]
  simp only [List.map_toArray, List.map_cons, List.map_nil, hx]
  exact fill_one c

theorem bs50_2 {t u : Tmp} (c1 c2 : Ch) (hx : a.eval (.tmp t) = .agg c1.cells) (hy : a.eval (.tmp u) = .agg c2.cells)
    (h : wpList Yba.prog ops Q rest (a.put dst (.slice (some ⟨w.heap.size, 0, none⟩) 2 2)) (w.alloc (.cells (rowOf [c1, c2]).toArray 50))) : wpList Yba.prog ops Q ({ dst := dst, op := .buildSlice 46 2 #[(0, .tmp t), (1, .tmp u)], type := tt, pos := ps, after := aft, guard := none } :: rest) a w := by
  obtain ⟨ie, hie, hz, hs, hb⟩ := info_parts Yba.info50
  refine wpList_buildSlice rfl 46 50 2 _ rfl (rowOf [c1, c2]).toArray ie _ Yba.underlying46 hie hz (by rw [hs]; omega) (by rw [hs]; omega) ?_ h
  rw [hs]
  simp only [List.map_toArray, List.map_cons, List.map_nil, hx, hy]
  exact fill_two c1 c2
end

section
variable {ops : Array Oper} {rest : List Oper} {Q : Exit → Act → World → Prop} {a : Act} {w : World} {tt : TypeId} {ps : String} {dst : Option Tmp} {aft : Array Edge}

/-- 'make([]Expression, 0, n)' -/
theorem mk50 {t : Tmp} (base m : Nat) (hm : m ≤ 1000) (hc : a.eval (.tmp t) = .int .i64 (m : Int)) (hb : base ≤ w.heap.size)
    (hK : ∀ w', w'.ownsRow base 50 12 (.slice (some ⟨w.heap.size, 0, none⟩) 0 m) 0 [] → w.grownBy w' none → wpList Yba.prog ops Q rest (a.put dst (.slice (some ⟨w.heap.size, 0, none⟩) 0 m)) w') :
    wpList Yba.prog ops Q ({ dst := dst, op := .makeSlice 46 (.const (.int .i64 0)) (.tmp t), type := tt, pos := ps, after := aft, guard := none } :: rest) a w := by
  obtain ⟨ie, hie, hz, hs, hb2⟩ := info_parts Yba.info50
  exact wpList_make_own w rfl (.const (.int .i64 0)) (.tmp t) 46 rfl base 50 ie _ 12 Yba.underlying46 hie hz hs .i64 .i64 _ m rfl hc rfl (by rw [hb2]; omega) (by unfold maxLen; omega) hb hK

/-- 'append(args, a)', within the capacity. -/
theorem ap50 {t u : Tmp} (base g k cap : Nat) (cs : List Ch) (c : Ch) (h0 : Nat) (hs : a.eval (.tmp t) = .slice (some ⟨g, 0, none⟩) k cap) (hx : a.eval (.tmp u) = .slice (some ⟨h0, 0, none⟩) 1 1)
    (hown : w.ownsRow base 50 12 (.slice (some ⟨g, 0, none⟩) k cap) k (rowOf cs)) (hh : w.heap[h0]? = some (.cells (rowOf [c]).toArray 50 (0, 0))) (hb : k + 1 ≤ cap)
    (hK : ∀ w', w'.ownsRow base 50 12 (.slice (some ⟨g, 0, none⟩) (k + 1) cap) (k + 1) (rowOf (cs ++ [c])) → w.grownBy w' (some g) → wpList Yba.prog ops Q rest (a.put dst (.slice (some ⟨g, 0, none⟩) (k + 1) cap)) w') :
    wpList Yba.prog ops Q ({ dst := dst, op := .call { callee := .builtin .append, args := #[.tmp t, .tmp u], argTypes := #[46, 46] }, type := tt, pos := ps, after := aft, guard := none } :: rest) a w := by
  obtain ⟨ie, hie, hz, hsz, hb2⟩ := info_parts Yba.info50
  refine wpList_append_fits w rfl (.tmp t) (.tmp u) 46 rfl base 50 ie 12 Yba.underlying46 hie hsz g k cap (rowOf cs) hs hown ⟨h0, 0, none⟩ 1 1 (rowOf [c]) hx (rowOf_length [c]) ?_ ?_ hb ?_
  · intro j u hj
    rw [add0]
    rw [cell_of_row _ _ _ _ _ _ hh]
    simpa using hj
  · intro v hv
    have : v ∈ c.cells := by simpa [rowOf] using hv
    exact Array.all_eq_true_iff_forall_mem.1 c.one v this
  · intro w' h1 h2
    exact hK w' (by rw [rowOf_append]; exact h1) h2

theorem Yba.info9 : (Yba.prog.info? 9).map (fun i => (i.zero, i.size, i.bytes)) = some (some (.string ⟨#[]⟩), 1, 16) := by kernel_rfl

/-- 'append(g.want, name)' -/
theorem ap9 {t u : Tmp} (B : Nat) (wv : Value) (xs : List ByteArray) (s : ByteArray) (h0 : Nat) (hs : a.eval (.tmp t) = wv) (hx : a.eval (.tmp u) = .slice (some ⟨h0, 0, none⟩) 1 1)
    (hown : w.ownsRow (B + 1) 9 1 wv xs.length (xs.map Value.string)) (hh : w.heap[h0]? = some (.cells #[.string s] 9 (0, 0))) (hl : xs.length ≤ 100000) (hB : B + 1 ≤ w.heap.size)
    (hK : ∀ g cap w', w'.ownsRow (B + 1) 9 1 (.slice (some ⟨g, 0, none⟩) (xs.length + 1) cap) (xs.length + 1) (xs.map Value.string ++ [.string s]) → w.grownBy w' wv.ownBlock → wpList Yba.prog ops Q rest (a.put dst (.slice (some ⟨g, 0, none⟩) (xs.length + 1) cap)) w') :
    wpList Yba.prog ops Q ({ dst := dst, op := .call { callee := .builtin .append, args := #[.tmp t, .tmp u], argTypes := #[34, 34] }, type := tt, pos := ps, after := aft, guard := none } :: rest) a w := by
  obtain ⟨ie, hie, hz, hsz, hb2⟩ := info_parts Yba.info9
  refine wpList_append_lies w rfl (.tmp t) (.tmp u) 34 rfl (B + 1) 9 ie _ 1 16 Yba.underlying34 hie hz hsz hb2 rfl (by decide) wv xs.length (xs.map Value.string) hs hown ⟨h0, 0, none⟩ 1 1 [.string s] hx rfl ?_ ?_ (by decide) (by unfold maxLen; omega) (by omega) hB _ rfl ?_
  · intro j u hj
    rw [add0]
    rw [cell_of_row _ _ _ _ _ _ hh]
    simpa using hj
  · intro v hv
    simp at hv
    subst hv
    rfl
  · intro g cap w' h1 h2 _ _
    exact hK g cap w' h1 h2
end

theorem own_fr {B base n : Nat} {w w' : World} {v : Value} {xs : List Value} (h : w.ownsRow base 50 12 v n xs) (hB : B < base) (hf : Fr B w w') : w'.ownsRow base 50 12 v n xs := by
  refine ⟨h.1, ?_⟩
  rcases h.2 with h2 | ⟨g, cap, cur, h3, h4, h5, h6⟩
  · exact .inl h2
  · exact .inr ⟨g, cap, cur, h3, h4, hf.keeps (by decide) (by omega) h5, h6⟩

/-- The contract of expr one storey down. -/
def ExprAt (B : Nat) (ca na : Option Addr) (clen ccap nlen ncap n : Nat) (d : Int) : Prop :=
  ∀ (w : World) (pos : Nat) (xs : List ByteArray) (wv : Value), Codes B w ca clen → Names B w na nlen → Gen B ca na clen ccap nlen ncap w pos xs wv →
    Calls Yba.prog 18 #[.pointer (some ⟨B, 0, none⟩), .int .i64 d] w (ExprSaid B ca na clen ccap nlen ncap n w pos xs)

/-- The world ahead of the first call in expr: the result's box, some draws, 'g.pos++'. -/
abbrev W0 (w : World) (B pos k : Nat) : World := ((w.alloc Z50).drewN k).setCell ⟨B, 2, none⟩ (.int .i64 ((pos : Int) + 1))

section
variable {B : Nat} {ca na : Option Addr} {clen ccap nlen ncap n pos : Nat} {xs : List ByteArray} {wv : Value} {w : World}
theorem W0_fr (pos k : Nat) : Fr B w (W0 w B pos k) := (((Fr.refl B w).alloc _).drewN _).setB _ _
theorem W0_box (hB : B < w.heap.size) (pos k : Nat) : (W0 w B pos k).heap[w.heap.size]? = some Z50 := by
  rw [heap_setCell_other _ _ _ _ (by simp; omega)]; exact heap_alloc_new w Z50
theorem W0_gen (hG : Gen B ca na clen ccap nlen ncap w pos xs wv) (hp : pos < clen) (k : Nat) : Gen B ca na clen ccap nlen ncap (W0 w B pos k) (pos + 1) xs wv := ((hG.alloc Z50).drewN k).bump hp
theorem W0_size (pos k : Nat) : (W0 w B pos k).heap.size = w.heap.size + 1 := by simp [World.setCell, World.drewN]
end

theorem Kid.alloc {n lo : Nat} {w : World} {a : Option Addr} {len : Nat} {L : List Nd} (h : Kid n lo w a len L) (o : Obj) : Kid n lo (w.alloc o) a len L :=
  h.keep (Nat.le_refl _) fun g cur _ hh => (Below.heap_alloc w _ g (Array.getElem?_eq_some_iff.1 hh).1).trans hh
theorem Kid.low {n lo lo' : Nat} {w : World} {a : Option Addr} {len : Nat} {L : List Nd} (h : Kid n lo w a len L) (hl : lo' ≤ lo) : Kid n lo' w a len L :=
  h.keep hl fun _ _ _ hh => hh

end Go.Proofs.Ybulkbgae

import Derived.Test.YbulkbgaeLaws
namespace Go.Proofs.Ybulkbgae
open Go.RowKit
set_option linter.unusedVariables false

/-- A Constraint as a value: its op, its parts slice, its two sides, and the nodes that lie behind the parts. -/
structure Co where
  op : Int
  a : Option Addr
  len : Nat
  cap : Nat
  l : Ch
  r : Ch
  L : List Nd

def Co.cells (c : Co) : Array Value :=
  #[.int .u8 c.op, .slice c.a c.len c.cap,
    .int .u8 c.l.op, .string c.l.s, .int .u8 0, .string ⟨#[]⟩, .int .u8 0, .string ⟨#[]⟩, .string c.l.u, .string c.l.fn, .slice c.l.a c.l.len c.l.cap, .string ⟨#[]⟩, .int .i64 0, .int .i64 0,
    .int .u8 c.r.op, .string c.r.s, .int .u8 0, .string ⟨#[]⟩, .int .u8 0, .string ⟨#[]⟩, .string c.r.u, .string c.r.fn, .slice c.r.a c.r.len c.r.cap, .string ⟨#[]⟩, .int .i64 0, .int .i64 0,
    .pointer none]

theorem Co.one (c : Co) : c.cells.all (·.oneCell') = true := by simp [Co.cells, Value.oneCell']

abbrev ch0 : Ch := ⟨0, ⟨#[]⟩, ⟨#[]⟩, ⟨#[]⟩, none, 0, 0, []⟩
abbrev co0 : Co := ⟨0, none, 0, 0, ch0, ch0, []⟩
abbrev Z53 : Obj := .cells co0.cells 53

def Co.names (c : Co) : List ByteArray := if 3 ≤ c.op then c.l.names ++ c.r.names else Ybulkbgae.names c.L

/-- The nodes of a Constraint that lies at (g, off). -/
def Co.nd (c : Co) (g off : Nat) : List Nd := if 3 ≤ c.op then (⟨g, off + 2, c.l.op, c.l.fn⟩ :: c.l.L) ++ (⟨g, off + 14, c.r.op, c.r.fn⟩ :: c.r.L) else c.L

theorem Co.names_nd (c : Co) (g off : Nat) : Ybulkbgae.names (c.nd g off) = c.names := by
  unfold Co.nd Co.names
  split
  · rw [names_append, names_cons, names_cons]; simp [Ch.names]
  · rfl

def rowC (cs : List Co) : List Value := cs.flatMap fun c => c.cells.toList

theorem rowC_length (cs : List Co) : (rowC cs).length = cs.length * 27 := by
  induction cs with
  | nil => rfl
  | cons c cs ih =>
    have : (rowC (c :: cs)).length = 27 + (rowC cs).length := by simp [rowC, Co.cells]; omega
    rw [this, ih, List.length_cons]; omega

theorem rowC_append (a b : List Co) : rowC (a ++ b) = rowC a ++ rowC b := by simp [rowC]

def nodesC (g : Nat) : Nat → List Co → List Nd
  | _, [] => []
  | i, c :: cs => c.nd g (27 * i) ++ nodesC g (i + 1) cs

theorem names_nodesC (g : Nat) : ∀ (i : Nat) (cs : List Co), names (nodesC g i cs) = cs.flatMap Co.names
  | _, [] => rfl
  | i, c :: cs => by
    rw [nodesC, names_append, Co.names_nd, names_nodesC g (i + 1) cs]
    simp

/-- An atom's two sides. -/
def Sides (lo : Nat) (w : World) (c : Co) : Prop := Kid 4 lo w c.l.a c.l.len c.l.L ∧ Kid 4 lo w c.r.a c.r.len c.r.L

/-- What lies behind a parts slice. -/
def Par : Nat → Nat → World → Option Addr → Nat → List Nd → Prop
  | 0, _, _, _, len, L => len = 0 ∧ L = []
  | m + 1, lo, w, a, len, L => (len = 0 ∧ L = []) ∨ ∃ g cur cs, a = some ⟨g, 0, none⟩ ∧ lo ≤ g ∧ w.heap[g]? = some (.cells cur 53 (0, 0)) ∧ (cs.length = len ∧ len ≤ 8) ∧ cur.toList.take (len * 27) = rowC cs ∧
      (∀ c ∈ cs, (3 ≤ c.op ∧ Sides lo w c) ∨ (0 ≤ c.op ∧ c.op < 3 ∧ Par m lo w c.a c.len c.L)) ∧ L = nodesC g 0 cs

/-- A whole Constraint. -/
def CoOk (m lo : Nat) (w : World) (c : Co) : Prop := (3 ≤ c.op ∧ Sides lo w c) ∨ (0 ≤ c.op ∧ c.op < 3 ∧ Par m lo w c.a c.len c.L)

theorem Sides.keep {lo lo' : Nat} {w w' : World} {c : Co} (h : Sides lo w c) (hlo : lo' ≤ lo) (hk : ∀ g cur, lo ≤ g → w.heap[g]? = some (.cells cur 50 (0, 0)) → w'.heap[g]? = some (.cells cur 50 (0, 0))) : Sides lo' w' c :=
  ⟨h.1.keep hlo hk, h.2.keep hlo hk⟩

theorem Par.keep : ∀ {m lo lo' : Nat} {w w' : World} {a : Option Addr} {len : Nat} {L : List Nd}, Par m lo w a len L → lo' ≤ lo → (∀ g cur t, t = 50 ∨ t = 53 → lo ≤ g → w.heap[g]? = some (.cells cur t (0, 0)) → w'.heap[g]? = some (.cells cur t (0, 0))) → Par m lo' w' a len L
  | 0, _, _, _, _, _, _, _, h, _, _ => h
  | m + 1, lo, lo', w, w', a, len, L, h, hlo, hk => by
    rcases h with h | ⟨g, cur, cs, h1, h2, h3, h4, h5, h6, h7⟩
    · exact .inl h
    · refine .inr ⟨g, cur, cs, h1, by omega, hk g cur 53 (.inr rfl) h2 h3, h4, h5, fun c hc => ?_, h7⟩
      rcases h6 c hc with ⟨a1, a2⟩ | ⟨a1, a2, a3⟩
      · exact .inl ⟨a1, a2.keep hlo fun g cur => hk g cur 50 (.inl rfl)⟩
      · exact .inr ⟨a1, a2, a3.keep hlo hk⟩

theorem CoOk.keep {m lo lo' : Nat} {w w' : World} {c : Co} (h : CoOk m lo w c) (hlo : lo' ≤ lo) (hk : ∀ g cur t, t = 50 ∨ t = 53 → lo ≤ g → w.heap[g]? = some (.cells cur t (0, 0)) → w'.heap[g]? = some (.cells cur t (0, 0))) : CoOk m lo' w' c := by
  rcases h with ⟨a1, a2⟩ | ⟨a1, a2, a3⟩
  · exact .inl ⟨a1, a2.keep hlo fun g cur => hk g cur 50 (.inl rfl)⟩
  · exact .inr ⟨a1, a2, a3.keep hlo hk⟩

theorem Yba.size53 : (Yba.prog.info? 53).map (·.size) = some 27 := by kernel_rfl
theorem Yba.info53 : (Yba.prog.info? 53).map (fun i => (i.zero, i.size, i.bytes)) = some (some (.agg co0.cells), 27, 360) := by kernel_rfl
theorem fill_c (c : Co) : Instr.fill (fun i => some (i * 27, 27)) ((Array.range (1 * 27)).map (co0.cells[· % 27]!)) [(0, .agg c.cells)] = some (rowC [c]).toArray := by
  kernel_rfl
theorem built_atom (op : Int) (l r : Ch) : Yba.prog.built 53 [(0, .int .u8 op), (2, .agg l.cells), (3, .agg r.cells)] = some (Co.mk op none 0 0 l r []).cells := by kernel_rfl

section
variable {ops : Array Oper} {rest : List Oper} {Q : Exit → Act → World → Prop} {a : Act} {w : World} {tt : TypeId} {ps : String} {dst : Option Tmp} {aft : Array Edge}

/-- A whole Constraint into a box that is known. -/
theorem st53r {t u : Tmp} (g : Nat) (c : Co) (hx : a.eval (.tmp t) = .pointer (some ⟨g, 0, none⟩)) (hy : a.eval (.tmp u) = .agg c.cells) (hg : w.heap[g]? = some Z53)
    (h : wpList Yba.prog ops Q rest (a.put dst undef) (w.setRow g c.cells)) : wpList Yba.prog ops Q ({ dst := dst, op := .store 53 (.tmp t) (.tmp u), type := tt, pos := ps, after := aft, guard := none } :: rest) a w :=
  wpList_store_row rfl 53 (.tmp t) (.tmp u) rfl g c.cells hx hy 53 _ hg Yba.size53 rfl c.one h

/-- .. into one that has just been made. -/
theorem st53 {t u : Tmp} (w0 : World) (c : Co) (hw : w = w0.alloc Z53) (hx : a.eval (.tmp t) = .pointer (some ⟨w0.heap.size, 0, none⟩)) (hy : a.eval (.tmp u) = .agg c.cells)
    (h : wpList Yba.prog ops Q rest (a.put dst undef) (w0.alloc (.cells c.cells 53))) : wpList Yba.prog ops Q ({ dst := dst, op := .store 53 (.tmp t) (.tmp u), type := tt, pos := ps, after := aft, guard := none } :: rest) a w := by
  subst hw
  refine wpList_store_row rfl 53 (.tmp t) (.tmp u) rfl w0.heap.size c.cells hx hy 53 _ (heap_alloc_new w0 Z53) Yba.size53 rfl c.one ?_
  rw [World.setRow_alloc_new]
  exact h

theorem bd53 {t u v : Tmp} (op : Int) (l r : Ch) (h0 : a.eval (.tmp t) = .int .u8 op) (h2 : a.eval (.tmp u) = .agg l.cells) (h3 : a.eval (.tmp v) = .agg r.cells)
    (h : wpList Yba.prog ops Q rest (a.put dst (.agg (Co.mk op none 0 0 l r []).cells)) w) : wpList Yba.prog ops Q ({ dst := dst, op := .build 53 #[(0, .tmp t), (2, .tmp u), (3, .tmp v)], type := tt, pos := ps, after := aft, guard := none } :: rest) a w := by
  refine wpList_buildTo rfl 53 _ rfl dst rfl _ ?_ h
  simp only [List.map_toArray, List.map_cons, List.map_nil, h0, h2, h3]
  exact built_atom op l r

theorem bs53 {t : Tmp} (c : Co) (hx : a.eval (.tmp t) = .agg c.cells)
    (h : wpList Yba.prog ops Q rest (a.put dst (.slice (some ⟨w.heap.size, 0, none⟩) 1 1)) (w.alloc (.cells (rowC [c]).toArray 53))) : wpList Yba.prog ops Q ({ dst := dst, op := .buildSlice 39 1 #[(0, .tmp t)], type := tt, pos := ps, after := aft, guard := none } :: rest) a w := by
  obtain ⟨ie, hie, hz, hs, hb⟩ := info_parts Yba.info53
  refine wpList_buildSlice rfl 39 53 1 _ rfl (rowC [c]).toArray ie _ Yba.underlying39 hie hz (by rw [hs]; omega) (by rw [hs]; omega) ?_ h
  rw [hs]
  simp only [List.map_toArray, List.map_cons, List.map_nil, hx]
  exact fill_c c

/-- 'append(parts, ..)' -/
theorem ap53 {t u : Tmp} (base : Nat) (v : Value) (cs : List Co) (c : Co) (h0 : Nat) (hs : a.eval (.tmp t) = v) (hx : a.eval (.tmp u) = .slice (some ⟨h0, 0, none⟩) 1 1)
    (hown : w.ownsRow base 53 27 v cs.length (rowC cs)) (hh : w.heap[h0]? = some (.cells (rowC [c]).toArray 53 (0, 0))) (hl : cs.length ≤ 1000) (hb : base ≤ w.heap.size)
    (hK : ∀ g cap w', w'.ownsRow base 53 27 (.slice (some ⟨g, 0, none⟩) (cs.length + 1) cap) (cs.length + 1) (rowC (cs ++ [c])) → w.grownBy w' v.ownBlock → wpList Yba.prog ops Q rest (a.put dst (.slice (some ⟨g, 0, none⟩) (cs.length + 1) cap)) w') :
    wpList Yba.prog ops Q ({ dst := dst, op := .call { callee := .builtin .append, args := #[.tmp t, .tmp u], argTypes := #[39, 39] }, type := tt, pos := ps, after := aft, guard := none } :: rest) a w := by
  obtain ⟨ie, hie, hz, hsz, hb2⟩ := info_parts Yba.info53
  refine wpList_append_lies w rfl (.tmp t) (.tmp u) 39 rfl base 53 ie _ 27 360 Yba.underlying39 hie hz hsz hb2 rfl (by decide) v cs.length (rowC cs) hs hown ⟨h0, 0, none⟩ 1 1 (rowC [c]) hx (rowC_length [c]) ?_ ?_ (by decide) (by unfold maxLen; omega) (by omega) hb _ rfl ?_
  · intro j u hj
    rw [add0]
    rw [cell_of_row _ _ _ _ _ _ hh]
    simpa using hj
  · intro x hx
    have : x ∈ c.cells := by simpa [rowC] using hx
    exact Array.all_eq_true_iff_forall_mem.1 c.one x this
  · intro g cap w' h1 h2 _ _
    exact hK g cap w' (by rw [rowC_append]; exact h1) h2
end

end Go.Proofs.Ybulkbgae

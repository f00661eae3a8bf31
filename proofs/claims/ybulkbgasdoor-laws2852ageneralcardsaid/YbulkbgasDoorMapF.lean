import Derived.Test.YbulkbgasDoorMap
namespace Go.Proofs.YbulkbgasDoor
open Go.RowKit Go.Maps
set_option linter.unusedVariables false
set_option linter.unusedSectionVars false

/-- A family of keys of type k. -/
structure KeyFam (k : TypeId) (ι : Type) where
  V : ι → Prop
  key : ι → Value
  lit : ι → Lit
  ok : ∀ i, V i → keyOf Ybad.prog k (key i) = some (lit i)
  inj : ∀ i j, key i = key j → i = j

theorem wf64 {c : Int} (h0 : 0 ≤ c) (h1 : c ≤ 1000000000) : (Lit.int .i64 c).wf = true := by
  have := wrap64_wf c
  rwa [show wrap64 c = c from by unfold wrap64; omega] at this

def F32 : KeyFam 32 Int := ⟨fun t => 0 ≤ t ∧ t ≤ 1000000000, fun t => .int .i64 t, fun t => .int .i64 t, fun t h => keyOf_int_mk Ybad.underlying32 (wf64 h.1 h.2), fun i j h => by cases h; rfl⟩
def F9 : KeyFam 9 ByteArray := ⟨fun s => s.size ≤ maxLen, fun s => .string s, fun s => .string s.data.toList, fun s h => by
  unfold keyOf; rw [Ybad.underlying9]; unfold mapKey; rw [Ybad.underlying9]; dsimp only; rw [if_pos h], fun i j h => by cases h; rfl⟩
theorem key98 {a b : Nat} (ha : a ≤ 1000000000) (hb : b ≤ 1000000000) : keyOf Ybad.prog 98 (.agg #[.int .i64 (a : Int), .int .i64 (b : Int)]) = some (.string (keyBytes [.int .i64 (a : Int), .int .i64 (b : Int)])) := by
  have h1 : Ybad.prog.keyType 98 = true := by kernel_rfl
  have h2 : Ybad.prog.cellsOf 98 = 2 := by kernel_rfl
  have h3 : Ybad.prog.cellsOf 3 = 1 := by kernel_rfl
  have wa := wf64 (c := (a : Int)) (by omega) (by omega)
  have wb := wf64 (c := (b : Int)) (by omega) (by omega)
  have hl : ∀ d, Ybad.prog.keyLits (d + 1 + 1) 98 [.int .i64 (a : Int), .int .i64 (b : Int)] = some [.int .i64 (a : Int), .int .i64 (b : Int)] := fun d => by
    have e1 : Ybad.prog.keyLits (d + 1) 3 [.int .i64 (a : Int)] = some [.int .i64 (a : Int)] := by unfold Program.keyLits; rw [Ybad.underlying3]; dsimp only; rw [if_pos ⟨rfl, wa⟩]
    have e2 : Ybad.prog.keyLits (d + 1) 3 [.int .i64 (b : Int)] = some [.int .i64 (b : Int)] := by unfold Program.keyLits; rw [Ybad.underlying3]; dsimp only; rw [if_pos ⟨rfl, wb⟩]
    unfold Program.keyLits
    rw [Ybad.underlying98]
    dsimp only
    rw [h2, h3, if_pos (show [Value.int .i64 (a : Int), Value.int .i64 (b : Int)].length = 2 from rfl)]
    simp [List.range, List.range.loop, e1, e2]
  obtain ⟨n, hn⟩ : ∃ n, Ybad.prog.types.size = n + 1 := ⟨Ybad.prog.types.size - 1, by have : 0 < Ybad.prog.types.size := of_decide_eq_true (by kernel_rfl); omega⟩
  unfold keyOf
  rw [Ybad.underlying98]
  dsimp only
  have hf : (Value.agg #[.int .i64 (a : Int), .int .i64 (b : Int)]).formed Ybad.prog 98 = true := by unfold Value.formed; rw [Ybad.underlying98, h2]; rfl
  rw [h1, hf, hn]
  have := hl n
  simp [Value.cells, this]
def F98 : KeyFam 98 (Nat × Nat) := ⟨fun p => p.1 ≤ 1000000000 ∧ p.2 ≤ 1000000000, fun p => .agg #[.int .i64 (p.1 : Int), .int .i64 (p.2 : Int)], fun p => .string (keyBytes [.int .i64 (p.1 : Int), .int .i64 (p.2 : Int)]), fun p h => key98 h.1 h.2, fun i j h => by
  simp only [Value.agg.injEq, Array.mk.injEq, List.cons.injEq, Value.int.injEq, true_and, and_true] at h
  obtain ⟨i1, i2⟩ := i
  obtain ⟨j1, j2⟩ := j
  simp only [Prod.mk.injEq]
  omega⟩

theorem laidOutYbad : laidOutB Ybad.prog = true := by kernel_rfl
theorem keyed9 : Keyed Ybad.prog 9 := string_keyed Ybad.underlying9
theorem keyed32' : Keyed Ybad.prog 32 := int_keyed Ybad.underlying32
theorem keyed98 : Keyed Ybad.prog 98 := Keyed.of_law (deep_law_laid laidOutYbad (m := 5) (by decide) (of_decide_eq_true (by kernel_rfl)) (by kernel_rfl) (by rw [Ybad.underlying98]))

/-- Block b is a map of sz entries; at each key of the family it holds m. -/
def MapF {k : TypeId} {ι : Type} (F : KeyFam k ι) (W : World) (R : Value → Option (DataW Unit × List MemPlace)) (b n sz : Nat) (m : ι → Option (DataW Unit)) : Prop :=
  ∃ D, W.ownsMap Ybad.prog k R b n D ∧ Maps.size D = sz ∧ ∀ i, F.V i → Maps.has D (F.lit i) = (m i).isSome ∧ ∀ zd, D.atKey (F.lit i) zd = (m i).getD zd

section
variable {k : TypeId} {ι : Type} {F : KeyFam k ι} {W W' : World} {R : Value → Option (DataW Unit × List MemPlace)} {b n sz : Nat} {m : ι → Option (DataW Unit)}
theorem MapF.made (F : KeyFam k ι) (w : World) (R : Value → Option (DataW Unit × List MemPlace)) : MapF F (w.alloc (.map #[] 0)) R w.heap.size 0 0 (fun _ => none) :=
  ⟨.map [], World.ownsMap_made w _ _ _, rfl, fun _ _ => ⟨rfl, fun _ => rfl⟩⟩
theorem MapF.lt (h : MapF F W R b n sz m) : b < W.heap.size := by obtain ⟨D, h1, _⟩ := h; exact h1.lt
theorem MapF.kept {row : Option Nat} (h : MapF F W R b n sz m) (hg : W.grownBy W' row) (hne : some b ≠ row) : MapF F W' R b n sz m := by obtain ⟨D, h1, h2⟩ := h; exact ⟨D, h1.kept hg hne, h2⟩
theorem MapF.alloc (h : MapF F W R b n sz m) (o : Obj) : MapF F (W.alloc o) R b n sz m := h.kept (World.grownBy_alloc W o none) (by simp)
theorem MapF.drewN (h : MapF F W R b n sz m) (q : Nat) : MapF F (W.drewN q) R b n sz m := h.kept (row := none) ⟨rfl, rfl, rfl, Nat.le_refl _, fun _ _ _ => rfl⟩ (by simp)
theorem MapF.setCell (h : MapF F W R b n sz m) {a : Addr} (ha : b ≠ a.block) (u : Value) : MapF F (W.setCell a u) R b n sz m := by obtain ⟨D, h1, h2⟩ := h; exact ⟨D, h1.setCell ha u, h2⟩
theorem MapF.few (h : MapF F W R b n sz m) {n' : Nat} (hn : n ≤ n') : MapF F W R b n' sz m := by obtain ⟨D, h1, h2⟩ := h; exact ⟨D, h1.mono hn, h2⟩

/-- The store, at a valid key. -/
theorem MapF.stored [DecidableEq ι] (K : Keyed Ybad.prog k) {i : ι} (hi : F.V i) {d : DataW Unit} {D : DataW Unit} {w w' : World} (hD : w.ownsMap Ybad.prog k R b n D) (hs : Maps.size D = sz) (hm : ∀ i, F.V i → Maps.has D (F.lit i) = (m i).isSome ∧ ∀ zd, D.atKey (F.lit i) zd = (m i).getD zd)
    (h1 : w'.ownsMap Ybad.prog k R b (n + 1) (D.put (F.lit i) d)) : MapF F w' R b (n + 1) (if (m i).isSome then sz else sz + 1) (fun j => if j = i then some d else m j) := by
  have hk := F.ok i hi
  refine ⟨_, h1, ?_, fun j hj => ?_⟩
  · rw [size_put (hD.tidy K), (hm i hi).1, hs]
  · by_cases e : j = i
    · subst e
      dsimp only
      rw [if_pos rfl]
      exact ⟨has_put_same hD.isMap (K.key hk) d, fun zd => atKey_put_same hD.isMap (K.key hk) d zd⟩
    · dsimp only
      rw [if_neg e]
      have hne : F.lit j ≠ F.lit i := fun h => e (F.inj _ _ (K.inj (F.ok j hj) (by rw [h]; exact hk)))
      rw [has_put_other hne]
      exact ⟨(hm j hj).1, fun zd => by rw [atKey_put_other hne]; exact (hm j hj).2 zd⟩
end

section
variable {k : TypeId} {ι : Type} {F : KeyFam k ι} [DecidableEq ι]
variable {ops : Array Oper} {rest : List Oper} {Q : Exit → Act → World → Prop} {a : Act} {w : World} {tt : TypeId} {ps : String} {dst : Option Tmp} {aft : Array Edge}

/-- A map to ints. -/
def MapI (F : KeyFam k ι) (W : World) (b n sz : Nat) (m : ι → Option Int) : Prop := MapF F W (plainElem Ybad.prog 3) b n sz (fun i => (m i).map fun c => .lit (.int .i64 c))
/-- A map to bools. -/
def MapB (F : KeyFam k ι) (W : World) (b n sz : Nat) (m : ι → Option Bool) : Prop := MapF F W (plainElem Ybad.prog 4) b n sz (fun i => (m i).map fun c => .lit (.bool c))

theorem mapPutI {t : TypeId} (K : Keyed Ybad.prog k) (ht : Ybad.prog.underlying t = some (.map k 3)) {tm tk tv : Tmp} (b n sz : Nat) (m : ι → Option Int)
    (hm : a.eval (.tmp tm) = .map (some b)) (hown : MapI F w b n sz m) (hn : n < 1000000) (i : ι) (hi : F.V i) (hx : a.eval (.tmp tk) = F.key i) (c : Int) (hc : 0 ≤ c ∧ c ≤ 1000000000) (hv : a.eval (.tmp tv) = .int .i64 c)
    (hK : ∀ w', MapI F w' b (n + 1) (if (m i).isSome then sz else sz + 1) (fun j => if j = i then some c else m j) → w.grownBy w' (some b) → w'.heap.size = w.heap.size → wpList Ybad.prog ops Q rest (a.put dst undef) w') :
    wpList Ybad.prog ops Q ({ dst := dst, op := .mapUpdate t (.tmp tm) (.tmp tk) (.tmp tv), type := tt, pos := ps, after := aft, guard := none } :: rest) a w := by
  obtain ⟨D, hD, hsz, hs⟩ := hown
  refine wpList_mapUpdate_in w rfl (.tmp tm) (.tmp tk) (.tmp tv) t rfl k 3 K ht _ b n D hm hD (by unfold maxLen; omega) _ _ _ hx hv (F.ok i hi) (.lit (.int .i64 c)) [] (plainElem_int Ybad.underlying3 (wf64 hc.1 hc.2)) ?_
  intro w' h1 h2
  have := MapF.stored (F := F) K hi hD hsz hs h1
  have hsz' : w'.heap.size = w.heap.size := by obtain ⟨_, _, _, _, _, rfl⟩ := h2; simp [ChangeMaps.setBlock]
  refine hK w' ?_ h2.grown hsz'
  unfold MapI
  have e1 : ((m i).map fun c => (DataW.lit (.int .i64 c) : DataW Unit)).isSome = (m i).isSome := by cases m i <;> rfl
  rw [e1] at this
  have e2 : (fun j => if j = i then some (DataW.lit (.int .i64 c) : DataW Unit) else (m j).map fun c => .lit (.int .i64 c)) = fun j => ((if j = i then some c else m j).map fun c => (DataW.lit (.int .i64 c) : DataW Unit)) := by
    funext j; by_cases e : j = i <;> simp [e]
  rw [e2] at this
  exact this

theorem mapGetI {t : TypeId} (K : Keyed Ybad.prog k) (ht : Ybad.prog.underlying t = some (.map k 3)) {tm tk : Tmp} (b n sz : Nat) (m : ι → Option Int)
    (hm : a.eval (.tmp tm) = .map (some b)) (hown : MapI F w b n sz m) (i : ι) (hi : F.V i) (hx : a.eval (.tmp tk) = F.key i)
    (hK : wpList Ybad.prog ops Q rest (a.put dst (.tuple #[.int .i64 ((m i).getD 0), .bool (m i).isSome])) w) :
    wpList Ybad.prog ops Q ({ dst := dst, op := .lookup t (.tmp tm) (.tmp tk) true, type := tt, pos := ps, after := aft, guard := none } :: rest) a w := by
  obtain ⟨D, hD, hsz, hs⟩ := hown
  refine wpList_lookup_own_ok w rfl (.tmp tm) (.tmp tk) t rfl k 3 K ht _ (Ybad.zeroValue3 w) (.lit (.int .i64 0)) [] (plainElem_int Ybad.underlying3 rfl) b n D hm hD _ _ hx (F.ok i hi) ?_
  intro v pl hv
  rw [(hs i hi).1]
  rw [(hs i hi).2] at hv
  obtain ⟨c, rfl, h2, _⟩ := plainElem_int_inv Ybad.underlying3 hv
  dsimp only at h2
  have e1 : ((m i).map fun c => (DataW.lit (.int .i64 c) : DataW Unit)).isSome = (m i).isSome := by cases m i <;> rfl
  have e2 : (m i).getD 0 = c := by
    cases h : m i with
    | none => rw [h] at h2; simp at h2; simp [h2.1]
    | some x => rw [h] at h2; simp at h2; simp [h2.1]
  rw [e1, ← e2]
  exact hK

theorem mapPutB {t : TypeId} (K : Keyed Ybad.prog k) (ht : Ybad.prog.underlying t = some (.map k 4)) {tm tk tv : Tmp} (b n sz : Nat) (m : ι → Option Bool)
    (hm : a.eval (.tmp tm) = .map (some b)) (hown : MapB F w b n sz m) (hn : n < 1000000) (i : ι) (hi : F.V i) (hx : a.eval (.tmp tk) = F.key i) (c : Bool) (hv : a.eval (.tmp tv) = .bool c)
    (hK : ∀ w', MapB F w' b (n + 1) (if (m i).isSome then sz else sz + 1) (fun j => if j = i then some c else m j) → w.grownBy w' (some b) → wpList Ybad.prog ops Q rest (a.put dst undef) w') :
    wpList Ybad.prog ops Q ({ dst := dst, op := .mapUpdate t (.tmp tm) (.tmp tk) (.tmp tv), type := tt, pos := ps, after := aft, guard := none } :: rest) a w := by
  obtain ⟨D, hD, hsz, hs⟩ := hown
  refine wpList_mapUpdate_own w rfl (.tmp tm) (.tmp tk) (.tmp tv) t rfl k 4 K ht _ b n D hm hD (by unfold maxLen; omega) _ _ _ hx hv (F.ok i hi) (.lit (.bool c)) [] (plainElem_bool Ybad.underlying4 c) ?_
  intro w' h1 h2
  have := MapF.stored (F := F) K hi hD hsz hs h1
  refine hK w' ?_ h2
  unfold MapB
  have e1 : ((m i).map fun c => (DataW.lit (.bool c) : DataW Unit)).isSome = (m i).isSome := by cases m i <;> rfl
  rw [e1] at this
  have e2 : (fun j => if j = i then some (DataW.lit (.bool c) : DataW Unit) else (m j).map fun c => .lit (.bool c)) = fun j => ((if j = i then some c else m j).map fun c => (DataW.lit (.bool c) : DataW Unit)) := by
    funext j; by_cases e : j = i <;> simp [e]
  rw [e2] at this
  exact this

/-- 'm[k]', where no 'ok' is asked for. -/
theorem mapGetB {t : TypeId} (K : Keyed Ybad.prog k) (ht : Ybad.prog.underlying t = some (.map k 4)) {b n sz : Nat} {m : ι → Option Bool} (hown : MapB F w b n sz m) (i : ι) (hi : F.V i) :
    (Instr.lookup t (.map (some b)) (F.key i) false).run Ybad.prog w = .ok (.bool ((m i).getD false)) w := by
  obtain ⟨D, hD, hsz, hs⟩ := hown
  obtain ⟨v, pl, hr, hv⟩ := hD.lookup K ht (Ybad.zeroValue4 w) (plainElem_bool Ybad.underlying4 false) (F.ok i hi)
  rw [(hs i hi).2] at hv
  dsimp only at hv
  rw [hr]
  cases h : m i with
  | none =>
    rw [h] at hv
    simp [plainElem, Ybad.underlying4] at hv
    cases v <;> simp_all
  | some x =>
    rw [h] at hv
    simp [plainElem, Ybad.underlying4] at hv
    cases v <;> simp_all

theorem mapLenI {t : TypeId} {e : TypeId} (ht : Ybad.prog.underlying t = some (.map k e)) {tm : Tmp} (R : Value → Option (DataW Unit × List MemPlace)) (b n sz : Nat) (m : ι → Option (DataW Unit)) (hm : a.eval (.tmp tm) = .map (some b)) (hown : MapF F w R b n sz m)
    (hK : wpList Ybad.prog ops Q rest (a.put dst (.int .i64 sz)) w) :
    wpList Ybad.prog ops Q ({ dst := dst, op := .call { callee := .builtin .len, args := #[.tmp tm], argTypes := #[t] }, type := tt, pos := ps, after := aft, guard := none } :: rest) a w := by
  obtain ⟨D, hD, hsz, hs⟩ := hown
  subst hsz
  exact wpList_len_own w rfl (.tmp tm) t rfl k e ht R b n D hm hD hK
end

end Go.Proofs.YbulkbgasDoor

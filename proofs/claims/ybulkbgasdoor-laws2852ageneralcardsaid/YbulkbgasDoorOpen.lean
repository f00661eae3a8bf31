import Derived.Test.YbulkbgasDoorPl6
import Derived.Deep.Slices
import Derived.ProofKit
import Derived.LaidMore
import Derived.OpenVars
import Derived.OpenShut
import Derived.Stop.Joined
namespace Go.Proofs.YbulkbgasDoor
open Go.ChangeShapes Go.WideShapes Go.ChangeAt Go.RowKit
set_option linter.unusedVariables false

theorem own : ownKnob Ybad.prog.godebug = none := by kernel_rfl
theorem laidOut : laidOutB Ybad.prog = true := by kernel_rfl
theorem gComp : Ybad.prog.globalNamed "example.com/interleave/interleave.compatibility" = some 0 := by kernel_rfl
theorem gModes : Ybad.prog.globalNamed "example.com/interleave/interleave.lockModes" = some 1 := by kernel_rfl
theorem tComp : (Ybad.prog.globals[0]?).map (·.type) = some 166 := by kernel_rfl
theorem tModes : (Ybad.prog.globals[1]?).map (·.type) = some 164 := by kernel_rfl
theorem Ybad.cells42 : Ybad.prog.cellsOf 42 = 3 := by kernel_rfl
theorem Ybad.cells165 : Ybad.prog.cellsOf 165 = 3 := by kernel_rfl
theorem Ybad.cells5 : Ybad.prog.cellsOf 5 = 1 := by kernel_rfl
theorem Ybad.cells139 : Ybad.prog.cellsOf 139 = 1 := by kernel_rfl
theorem Ybad.cells31 : Ybad.prog.cellsOf 31 = 1 := by kernel_rfl
theorem Ybad.cells164 : Ybad.prog.cellsOf 164 = 1 := by kernel_rfl

/-- A struct of three one-cell fields, opened. -/
theorem open3 {P : Program} {H : Type} {enc : TypeId × Value → H} {W : World} {base : Nat} {spare : Nat → Bool} {held : Bool} {n : Nat} {e : TypeId} {f0 f1 f2 : Field} (he : P.underlying e = some (.struct #[f0, f1, f2]))
    (o0 : f0.offset = 0) (o1 : f1.offset = 1) (o2 : f2.offset = 2) (c0 : P.cellsOf f0.type = 1) (c1 : P.cellsOf f1.type = 1) (c2 : P.cellsOf f2.type = 1)
    {ad : Addr} {k : Nat} {cs' : List Value} {d : DataW H × List MemPlace} (h1 : W.cells? base (ad.add k) 3 = some cs') (h2 : DataW.trod enc P W base spare held n e cs' = some d) :
    ∃ (v0 v1 v2 : Value) (y0 y1 y2 : DataW H × List MemPlace) (m : Nat), W.cell? (ad.add k) = some v0 ∧ W.cell? (ad.add (k + 1)) = some v1 ∧ W.cell? (ad.add (k + 2)) = some v2 ∧
      DataW.trod enc P W base spare held m f0.type [v0] = some y0 ∧ DataW.trod enc P W base spare held m f1.type [v1] = some y1 ∧ DataW.trod enc P W base spare held m f2.type [v2] = some y2 ∧ d.1 = .agg [y0.1, y1.1, y2.1] := by
  obtain ⟨_, hlen, hcell⟩ := World.cells?_some h1
  obtain ⟨xs, m, hm, hxy, _, hxl, hf⟩ := DataW.trod_struct he h2
  match xs, hxl, cs', hlen with
  | [y0, y1, y2], _, [v0, v1, v2], _ =>
    have g0 := hf 0 f0 rfl
    have g1 := hf 1 f1 rfl
    have g2 := hf 2 f2 rfl
    simp [o0, o1, o2, c0, c1, c2] at g0 g1 g2
    have e0 := hcell 0 (by omega)
    have e1 := hcell 1 (by omega)
    have e2 := hcell 2 (by omega)
    rw [Go.Deep.add_add] at e0 e1 e2
    exact ⟨v0, v1, v2, y0, y1, y2, m, by simpa using e0, by simpa using e1, by simpa using e2, g0, g1, g2, by rw [hxy]; rfl⟩

/-- An element's address. -/
theorem add_none {W : World} {ad : Addr} {v : Value} (h : W.cell? (ad.add 0) = some v) : ad.spot = none := by
  simpa [Addr.add] using World.cell?_spot h
theorem add_mk (b off k : Nat) : (⟨b, off, none⟩ : Addr).add k = ⟨b, off + k, none⟩ := Go.WideShapes.add_plain b off k

/-- What came in as a slice of steps. -/
theorem steps_of {H : Type} {enc : TypeId × Value → H} {W : World} {base : Nat} {spare : Nat → Bool} {held : Bool} {fuel : Nat} {a : Option Addr} {len cap : Nat} {x : DataW H × List MemPlace} (hsp : spare = fun _ => true)
    (hf : DataW.trod enc Ybad.prog W base spare held fuel 22 (Value.slice a len cap).cells.toList = some x) :
    ∃ sts : List St, sts.length = len ∧ len ≤ maxLen ∧ (∀ s ∈ sts, s.Ok) ∧ Els W 3 a sts.length fun i => (sts.getD i ⟨0, 0, 0⟩).cells := by
  subst hsp
  rcases Go.Deep.open_slice Ybad.underlying22 hf with ⟨hcs, _⟩ | ⟨ad, len', cap', m, n, D, Pl, hcs, hb, hl, hm, hmm, rfl, hx⟩
  · simp [Value.cells] at hcs
    obtain ⟨rfl, rfl, rfl⟩ := hcs
    exact ⟨[], rfl, Nat.zero_le _, fun s h => by simp at h, fun i hi => by simp at hi⟩
  · simp [Value.cells] at hcs
    obtain ⟨rfl, rfl, rfl⟩ := hcs
    simp at hmm
    subst hmm
    have hspot : 0 < len → ad.spot = none := fun h0 => by
      obtain ⟨cs', h1, h2⟩ := hx 0 (by omega)
      have h42 := Ybad.cells42
      generalize Ybad.prog.cellsOf 42 = ce at h42 h1
      subst h42
      obtain ⟨v0, v1, v2, y0, y1, y2, m', e0, _⟩ := open3 Ybad.underlying42 rfl rfl rfl Ybad.cells5 Ybad.cells5 Ybad.cells5 h1 h2
      exact add_none e0
    have each : ∀ i, i < len → ∃ s : St, s.Ok ∧ ad.spot = none ∧ ad.block < W.heap.size ∧ W.rangeAt ad.block (ad.off + i * 3) s.cells := fun i hi => by
      obtain ⟨cs', h1, h2⟩ := hx i (by omega)
      rw [Ybad.cells42] at h1
      obtain ⟨v0, v1, v2, y0, y1, y2, m', e0, e1, e2, g0, g1, g2, _⟩ := open3 Ybad.underlying42 rfl rfl rfl Ybad.cells5 Ybad.cells5 Ybad.cells5 h1 h2
      obtain ⟨z0, q0, _, w0⟩ := DataW.trod_int Ybad.underlying5 g0
      obtain ⟨z1, q1, _, w1⟩ := DataW.trod_int Ybad.underlying5 g1
      obtain ⟨z2, q2, _, w2⟩ := DataW.trod_int Ybad.underlying5 g2
      simp only [List.cons.injEq, and_true] at q0 q1 q2
      subst q0; subst q1; subst q2
      have hs := hspot (by omega)
      obtain ⟨b, off, spot⟩ := ad
      dsimp only at hs
      subst hs
      rw [add_mk] at e0 e1 e2
      have b0 := bounds_u8 w0
      have b1 := bounds_u8 w1
      have b2 := bounds_u8 w2
      refine ⟨⟨z0, z1, z2⟩, ⟨b0, b1, b2⟩, rfl, block_lt_of_cell (a := ⟨b, off + i * 3, none⟩) e0, fun j v hv => ?_⟩
      match j, hv with
      | 0, hv => simp [St.cells] at hv; subst hv; simpa using e0
      | 1, hv => simp [St.cells] at hv; subst hv; simpa [Nat.add_assoc] using e1
      | 2, hv => simp [St.cells] at hv; subst hv; simpa [Nat.add_assoc] using e2
      | j + 3, hv => simp [St.cells] at hv
    haveI : Inhabited St := ⟨⟨0, 0, 0⟩⟩
    obtain ⟨f, hf'⟩ := Go.Deep.choose_lt each
    refine ⟨(List.range len).map f, by simp, by omega, fun s hs => ?_, fun i hi => ?_⟩
    · obtain ⟨i, hi, rfl⟩ := List.mem_map.1 hs
      exact (hf' i (List.mem_range.1 hi)).1
    · simp only [List.length_map, List.length_range] at hi
      obtain ⟨_, h1, h2, h3⟩ := hf' i hi
      refine ⟨ad.block, ad.off, ?_, h2, ?_⟩
      · cases ad; dsimp only at h1; subst h1; rfl
      · simpa [List.getD_eq_getElem?_getD, List.getElem?_map, hi] using h3

/-! ### The listed variables -/
abbrev laid2 : List (String × DataW Unit) := [("example.com/interleave/interleave.compatibility", Rows.laid_example_com_interleave_interleave_compatibility), ("example.com/interleave/interleave.lockModes", Rows.laid_example_com_interleave_interleave_lockModes)]

theorem str_of {s : ByteArray} {l : List UInt8} {H : Type} (h : (DataW.lit (.string s.data.toList) : DataW H) = .lit (.string l)) : s = ⟨l.toArray⟩ := by
  simp only [DataW.lit.injEq, Lit.string.injEq] at h
  cases s with
  | mk d => dsimp only at h; rw [← h]

theorem laid_of {W : World} (h : laidMetH Ybad.prog laid2 W) : Laid W := by
  rw [MakeChecks.laidMetH_plain _ _ _ (by kernel_rfl)] at h
  obtain ⟨ps, ⟨g0, t0, cs0, f0, p0, q0, hg0, ht0, hv0, hd0, ⟨g1, t1, cs1, f1, p1, q1, hg1, ht1, hv1, hd1, _, _⟩, _⟩, _, _⟩ := h
  obtain rfl := Option.some.inj (gComp.symm.trans hg0)
  obtain rfl := Option.some.inj (gModes.symm.trans hg1)
  obtain rfl := Option.some.inj (tComp.symm.trans ht0)
  obtain rfl := Option.some.inj (tModes.symm.trans ht1)
  have hcell0 := World.var?_cell hg0 hv0 0
  have hcell1 := World.var?_cell hg1 hv1 0
  rcases Go.Deep.open_slice Ybad.underlying166 hd0 with ⟨_, hx⟩ | ⟨a0, len0, cap0, m0, n0, D0, P0, hc0, _, hl0, _, hm0, hx0, el0⟩
  · simp [Rows.laid_example_com_interleave_interleave_compatibility] at hx
  rcases Go.Deep.open_slice Ybad.underlying164 hd1 with ⟨_, hx⟩ | ⟨a1, len1, cap1, m1, n1, D1, P1, hc1, _, hl1, _, hm1, hx1, el1⟩
  · simp [Rows.laid_example_com_interleave_interleave_lockModes] at hx
  rw [Array.eq_one_of_toList hc0] at hcell0
  rw [Array.eq_one_of_toList hc1] at hcell1
  simp only [Prod.mk.injEq, Rows.laid_example_com_interleave_interleave_compatibility, DataW.slice.injEq] at hx0
  simp only [Prod.mk.injEq, Rows.laid_example_com_interleave_interleave_lockModes, DataW.slice.injEq] at hx1
  have hn0 : len0 = 2 := by have := congrArg List.length hx0.1.1; simpa using this.symm
  have hn1 : len1 = 2 := by have := congrArg List.length hx1.1.1; simpa using this.symm
  subst hn0
  subst hn1
  have hD0 := hx0.1.1
  have hD1 := hx1.1.1
  simp [List.range_succ] at hD0 hD1
  have hge0 : 2 ≤ m0 := by rw [hm0]; split <;> omega
  have hge1 : 2 ≤ m1 := by rw [hm1]; split <;> omega
  -- the two entries of the table
  obtain ⟨cs, h1, h2⟩ := el0 0 (by omega)
  obtain ⟨cs', h1', h2'⟩ := el0 1 (by omega)
  have h165 := Ybad.cells165
  generalize Ybad.prog.cellsOf 165 = ce at h165 h1 h1'
  subst h165
  obtain ⟨v0, v1, v2, y0, y1, y2, _, e0, e1, e2, _, k1, _, hd⟩ := open3 Ybad.underlying165 rfl rfl rfl Ybad.cells139 Ybad.cells31 Ybad.cells164 h1 h2
  obtain ⟨v0', v1', v2', y0', y1', y2', _, e0', e1', e2', _, k1', _, hd'⟩ := open3 Ybad.underlying165 rfl rfl rfl Ybad.cells139 Ybad.cells31 Ybad.cells164 h1' h2'
  obtain ⟨s1, r1, t1, _⟩ := DataW.trod_string Ybad.underlying31 k1
  obtain ⟨s1', r1', t1', _⟩ := DataW.trod_string Ybad.underlying31 k1'
  -- the two modes
  obtain ⟨c, i1, i2⟩ := el1 0 (by omega)
  obtain ⟨c', i1', i2'⟩ := el1 1 (by omega)
  have h139 := Ybad.cells139
  generalize Ybad.prog.cellsOf 139 = ce at h139 i1 i1'
  subst h139
  obtain ⟨u, ru, tu, _⟩ := DataW.trod_string Ybad.underlying139 i2
  obtain ⟨u', ru', tu', _⟩ := DataW.trod_string Ybad.underlying139 i2'
  subst ru; subst ru'
  have j0 := cell_of_cells?_one i1
  have j1 := cell_of_cells?_one i1'
  have sp0 := add_none (ad := a0) (by simpa using e0)
  have sp1 := add_none (ad := a1) (by simpa using j0)
  obtain ⟨b0, o0, spot0⟩ := a0
  obtain ⟨b1, o1, spot1⟩ := a1
  dsimp only at sp0 sp1
  subst sp0; subst sp1
  rw [add_mk] at e0 e1 e1' j0 j1
  simp only [List.cons.injEq, and_true] at r1 r1'
  subst r1; subst r1'
  -- what the strings are
  have q1 : y1.1 = .lit (.string [114, 108]) := by
    have := hD0.1.trans hd
    simp only [DataW.agg.injEq, List.cons.injEq] at this
    exact this.2.1.symm
  have q1' : y1'.1 = .lit (.string [119, 108]) := by
    have := hD0.2.trans hd'
    simp only [DataW.agg.injEq, List.cons.injEq] at this
    exact this.2.1.symm
  rw [t1] at q1
  rw [t1'] at q1'
  have z1 := str_of q1
  have z1' := str_of q1'
  have zu : u = mSh := str_of (H := Unit) ((congrArg Prod.fst tu).symm.trans hD1.1.symm)
  have zu' : u' = mEx := str_of (H := Unit) ((congrArg Prod.fst tu').symm.trans hD1.2.symm)
  subst z1; subst z1'; subst zu; subst zu'
  have hb0 := block_lt_of_cell (a := ⟨b0, o0 + 0 * 3, none⟩) e0
  have hb1 := block_lt_of_cell (a := ⟨b1, o1 + 0 * 1, none⟩) j0
  have hz0 := block_lt_of_cell hcell0
  have hz1 := block_lt_of_cell hcell1
  exact ⟨b0, o0, cap0, b1, o1, cap1, hcell0, hcell1, hz0, hz1, hb0, hb1, by simpa using e1, by simpa [Nat.add_assoc] using e1', by simpa using j0, by simpa using j1⟩

end Go.Proofs.YbulkbgasDoor

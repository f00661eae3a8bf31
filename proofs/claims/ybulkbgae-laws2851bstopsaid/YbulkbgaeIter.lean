import Derived.RangeFuncNested
import Derived.RangeFuncBound
import Derived.RangeFuncCalls
import Derived.RangeFuncLeaves
import Derived.Shelf.Abstract
import Derived.Shelf.RegionOpen
import Derived.WalkKit
import Derived.OwnWalkIn
import Derived.TacticsInMore
import Derived.LoopNIn
import Derived.LoopIn
import Derived.Test.YbulkbgaeBuild2
namespace Go.Proofs.Ybulkbgae
open Go.RowKit Go.Shelf
set_option linter.unusedVariables false
set_option linter.unusedSimpArgs false
attribute [local go_sem] Oper.semAt_some

theorem room_of_none {F : Fence} (hd : F.depth = none) (k : Nat) : F.room k := fun d h => by rw [hd] at h; cases h
theorem round_any {F : Fence} (hd : F.depth = none) {m m' : Nat} {P : Program} {l : Nat} {f : FuncId} {tmps : Array Value} {assign body : Code} {w : World} {R : Ending → World → Prop}
    (h : RoundIn F m P l f tmps assign body w R) : RoundIn F m' P l f tmps assign body w R := ⟨h.1, fun c cs _ => h.2 c cs (room_of_none hd _)⟩
theorem yield_any {F : Fence} (hd : F.depth = none) {m : Nat} (m' : Nat) {P : Program} {l : Nat} {args : Array Value} {W : World} {R : Ending → World → Prop} (h : YieldAt F m P l args W R) : YieldAt F m' P l args W R := by
  obtain ⟨fn, tmps, assign, body, hy, hR⟩ := h
  exact ⟨fn, tmps, assign, body, hy, round_any hd hR⟩

/-- A node that lies in w0 as it says. -/
def NdOk (w0 : World) (x : Nd) : Prop := x.b < w0.heap.size ∧ w0.cell? ⟨x.b, x.off, none⟩ = some (.int .u8 x.op) ∧ w0.cell? ⟨x.b, x.off + 7, none⟩ = some (.string x.fn)
abbrev NdA (w0 : World) : Type := { x : Nd // NdOk w0 x }

/-- The twelve cells of an Expression lie at (b, off). -/
def Lies (w0 : World) (b off : Nat) (c : Ch) : Prop := b < w0.heap.size ∧ ∀ j, j < 12 → w0.cell? ⟨b, off + j, none⟩ = c.cells[j]?

/-- What walk says of an Expression that lies at (b, off). -/
def WalkE (F : Fence) (l : Nat) (w0 : World) (N : Nat) (J Jx : List (NdA w0) → World → Prop) (b off : Nat) (nds : List Nd) : Prop :=
  ∀ (m : Nat) (L pre : List (NdA w0)) (W : World), L.map (·.1) = nds → Below w0.heap.size w0 W → J pre W → pre.length + L.length ≤ N →
    CallsIn F m Yba.prog 22 #[.pointer (some ⟨b, off, none⟩), .func (.yield l) #[] #[]] W fun e W' =>
      (e = .returned (.bool true) ∧ J (pre ++ L) W' ∧ Below w0.heap.size W W') ∨ (e = .returned (.bool false) ∧ ∃ q, q <+: L ∧ Jx (pre ++ q) W')

theorem nodes_append (g : Nat) : ∀ (i : Nat) (a b : List Ch), nodes g i (a ++ b) = nodes g i a ++ nodes g (i + a.length) b
  | i, [], b => by simp [nodes]
  | i, c :: a, b => by simp only [List.cons_append, nodes, nodes_append g (i + 1) a b, List.append_assoc, List.length_cons]; rw [show i + 1 + a.length = i + (a.length + 1) from by omega]

theorem nodes_take (g : Nat) (cs : List Ch) (k : Nat) (hk : k < cs.length) : nodes g 0 (cs.take (k + 1)) = nodes g 0 (cs.take k) ++ (⟨g, 12 * k, cs[k].op, cs[k].fn⟩ :: cs[k].L) := by
  rw [List.take_succ_eq_append_getElem hk, nodes_append]
  simp [nodes, Nat.min_eq_left (Nat.le_of_lt hk)]

theorem rowOf_get : ∀ (cs : List Ch) (i j : Nat) (hi : i < cs.length), j < 12 → (rowOf cs)[12 * i + j]? = cs[i].cells[j]?
  | c :: cs, 0, j, _, hj => by
    have : (rowOf (c :: cs)) = c.cells.toList ++ rowOf cs := by simp [rowOf]
    rw [this, List.getElem?_append_left (by have := c.size; simp [this]; omega)]
    simp
  | c :: cs, i + 1, j, hi, hj => by
    have h0 : (rowOf (c :: cs)) = c.cells.toList ++ rowOf cs := by simp [rowOf]
    have h1 : c.cells.toList.length = 12 := by have := c.size; simpa using this
    rw [h0, List.getElem?_append_right (by omega), h1, show 12 * (i + 1) + j - 12 = 12 * i + j from by omega]
    simpa using rowOf_get cs i j (by simpa using hi) hj

/-- The children of an Expression, as the walk meets them. -/
theorem kids_of {k lo : Nat} {w0 : World} {a : Option Addr} {len : Nat} {L : List Nd} (h : Kid k lo w0 a len L) (hlen : 0 < len) :
    ∃ k' g cs, k = k' + 1 ∧ a = some ⟨g, 0, none⟩ ∧ cs.length = len ∧ len ≤ 2 ∧ L = nodes g 0 cs ∧ (∀ c ∈ cs, Kid k' lo w0 c.a c.len c.L) ∧ ∀ i (hi : i < cs.length), Lies w0 g (12 * i) cs[i] := by
  cases k with
  | zero => exact absurd h.1 (by omega)
  | succ k' =>
    rcases h with h | ⟨g, cur, cs, h1, h2, h3, h4, h5, h6, h7⟩
    · exact absurd h.1 (by omega)
    · obtain ⟨h4, h4'⟩ := h4
      refine ⟨k', g, cs, rfl, h1, h4, h4', h7, h6, fun i hi => ⟨(Array.getElem?_eq_some_iff.1 h3).1, fun j hj => ?_⟩⟩
      rw [cell_of_row _ _ _ _ _ _ h3, ← rowOf_get cs i j hi hj, ← h5, List.getElem?_take_of_lt (by omega)]
      simp

set_option maxRecDepth 100000 in
set_option maxHeartbeats 2000000 in
theorem walk_leaf (F : Fence) (hd : F.depth = none) (h22 : F.fn 22) (hro : F.round = none) (l : Nat) (w0 : World) (N : Nat) (J Jx : List (NdA w0) → World → Prop)
    (hY : ∀ m pre x W, J pre W → pre.length < N → YieldAt F m Yba.prog l #[.pointer (some ⟨x.1.b, x.1.off, none⟩)] W fun e W' =>
      (e = .returned (.bool true) ∧ J (pre ++ [x]) W' ∧ Below w0.heap.size W W') ∨ (e = .returned (.bool false) ∧ Jx (pre ++ [x]) W'))
    (b off : Nat) (op : Int) (fn : ByteArray) (a : Option Addr) (cap : Nat) (hb : b < w0.heap.size) (hc8 : w0.cell? ⟨b, off + 8, none⟩ = some (.slice a 0 cap)) :
    WalkE F l w0 N J Jx b off [⟨b, off, op, fn⟩] := by
  intro m L pre W hL hbel hJ hN
  obtain ⟨x, L', rfl, hx, hL'⟩ := List.map_eq_cons_iff.1 hL
  obtain rfl : L' = [] := List.map_eq_nil_iff.1 hL'
  have hxb : x.1.b = b := by rw [hx]
  have hxo : x.1.off = off := by rw [hx]
  have hdd : ∀ k : Nat, (F.depth.isSome = true → 1 ≤ k) := fun k h => by rw [hd] at h; cases h
  obtain ⟨f1, tmps, assign, body, hy, hR⟩ := hY (m - 1) pre x W hJ (by simp at hN; omega)
  rw [hxb, hxo] at hy
  refine callsIn_of_wp Yba.func22 rfl h22 ?_ hro
  simp only [Yba.ntmps22, List.size_toArray, List.length_cons, List.length_nil, Nat.reduceAdd, Nat.reduceSub, Array.replicate_succ, Array.replicate_zero, List.push_toArray, List.append_toArray, List.nil_append, List.cons_append]
  gi_wp2
  refine hR.mono ?_
  clear hR hy hY
  rintro e W1 (⟨rfl, hJ1, hb1⟩ | ⟨rfl, hx1⟩)
  · have hc8' : W1.cell? ⟨b, off + 8, none⟩ = some (.slice a 0 cap) := ((hbel.trans hb1).cell (p := ⟨b, off + 8, none⟩) hb).trans hc8
    gi_wp2
    gi_loopw [15] (fun i wr => i = .int .i64 0 ∧ wr = W1) (fun _ _ => 0)
    case atStart => exact ⟨rfl, rfl⟩
    case round =>
      obtain ⟨rfl, rfl⟩ := hrel
      gi_wp2
      go_ret
      exact .inl ⟨rfl, hJ1, hb1⟩
  · gi_wp2
    go_ret
    exact .inr ⟨rfl, [x], List.prefix_rfl, hx1⟩

set_option maxRecDepth 100000 in
set_option maxHeartbeats 2000000 in
theorem walk_node (F : Fence) (hd : F.depth = none) (h22 : F.fn 22) (hro : F.round = none) (l : Nat) (w0 : World) (N : Nat) (J Jx : List (NdA w0) → World → Prop)
    (hY : ∀ m pre x W, J pre W → pre.length < N → YieldAt F m Yba.prog l #[.pointer (some ⟨x.1.b, x.1.off, none⟩)] W fun e W' =>
      (e = .returned (.bool true) ∧ J (pre ++ [x]) W' ∧ Below w0.heap.size W W') ∨ (e = .returned (.bool false) ∧ Jx (pre ++ [x]) W'))
    (b off : Nat) (op : Int) (fn : ByteArray) (g cap : Nat) (cs : List Ch) (hb : b < w0.heap.size) (hc8 : w0.cell? ⟨b, off + 8, none⟩ = some (.slice (some ⟨g, 0, none⟩) cs.length cap)) (hlen : cs.length ≤ 1000)
    (hk : ∀ i (hi : i < cs.length), WalkE F l w0 N J Jx g (12 * i) (⟨g, 12 * i, cs[i].op, cs[i].fn⟩ :: cs[i].L)) :
    WalkE F l w0 N J Jx b off (⟨b, off, op, fn⟩ :: nodes g 0 cs) := by
  intro m L pre W hL hbel hJ hN
  obtain ⟨x, L', rfl, hx, hL'⟩ := List.map_eq_cons_iff.1 hL
  have hxb : x.1.b = b := by rw [hx]
  have hxo : x.1.off = off := by rw [hx]
  have hdd : ∀ k : Nat, (F.depth.isSome = true → 1 ≤ k) := fun k h => by rw [hd] at h; cases h
  obtain ⟨f1, tmps, assign, body, hy, hR⟩ := hY (m - 1) pre x W hJ (by simp at hN; omega)
  rw [hxb, hxo] at hy
  have HK := hid hk
  have HL := hid hL'
  have HN := hid hN
  clear hk hL' hN hL hY
  refine callsIn_of_wp Yba.func22 rfl h22 ?_ hro
  simp only [Yba.ntmps22, List.size_toArray, List.length_cons, List.length_nil, Nat.reduceAdd, Nat.reduceSub, Array.replicate_succ, Array.replicate_zero, List.push_toArray, List.append_toArray, List.nil_append, List.cons_append]
  gi_wp2
  refine hR.mono ?_
  clear hR hy
  rintro e W1 (⟨rfl, hJ1, hb1⟩ | ⟨rfl, hx1⟩)
  · have hc8' : W1.cell? ⟨b, off + 8, none⟩ = some (.slice (some ⟨g, 0, none⟩) cs.length cap) := ((hbel.trans hb1).cell (p := ⟨b, off + 8, none⟩) hb).trans hc8
    gi_wp2
    gi_loopw [15] (fun i wr => ∃ (k : Nat) (La Lb : List (NdA w0)), k ≤ cs.length ∧ i = .int .i64 k ∧ L' = La ++ Lb ∧ La.map (·.1) = nodes g 0 (cs.take k) ∧ Lb.map (·.1) = nodes g k (cs.drop k) ∧ J (pre ++ [x] ++ La) wr ∧ Below w0.heap.size W wr) (fun i _ => cs.length - (intOf i).toNat)
    case atStart => exact ⟨0, [], L', Nat.zero_le _, rfl, rfl, by simp [nodes], by simpa using HL.out, by simpa using hJ1, hb1⟩
    case round =>
      obtain ⟨k, La, Lb, hk, rfl, hLL, hLa, hLb, hJr, hbr⟩ := hrel
      have c8r : wr.cell? ⟨b, off + 8, none⟩ = some (.slice (some ⟨g, 0, none⟩) cs.length cap) := ((hbel.trans hbr).cell (p := ⟨b, off + 8, none⟩) hb).trans hc8
      by_cases hlt : k < cs.length
      · have hki : (k : Int) < (cs.length : Int) := by omega
        rw [List.drop_eq_getElem_cons hlt, nodes, List.map_eq_append_iff] at hLb
        obtain ⟨Lc, Ld, rfl, hLc, hLd⟩ := hLb
        have hcall := HK.out k hlt (m - 1) Lc (pre ++ [x] ++ La) wr hLc (hbel.trans hbr) hJr (by have := HN.out; rw [hLL] at this; simp at this ⊢; omega)
        rw [Nat.mul_comm 12 k] at hcall
        have HC := hid hcall
        have H1 := hid hLL
        have H2 := hid hLa
        have H3 := hid hLc
        have H4 := hid hLd
        clear hcall hLL hLa hLc hLd
        gi_wp2_with ((try refine ⟨hdd _, ?_⟩); gi_at_call 22; refine CallsIn.mono HC.out ?_; clear HC; rintro e W2 (⟨rfl, hJ2, hb2⟩ | ⟨rfl, q, hq, hx2⟩))
        · go_roundw
          case rel =>
            refine ⟨k + 1, La ++ Lc, Ld, by omega, by go_num, by rw [H1.out]; simp, ?_, H4.out, by simpa using hJ2, hbr.trans hb2⟩
            rw [List.map_append, H2.out, H3.out, nodes_take g cs k hlt]
          case measure => simp [intOf]; omega
        · go_ret
          refine .inr ⟨rfl, [x] ++ (La ++ q), ?_, by simpa using hx2⟩
          obtain ⟨r, rfl⟩ := hq
          exact ⟨r ++ Ld, by rw [H1.out]; simp⟩
      · obtain rfl : k = cs.length := by omega
        have hn : Lb = [] := by
          rw [List.drop_length] at hLb
          exact List.map_eq_nil_iff.1 hLb
        subst hn
        clear hLb
        have H1 := hid hLL
        clear hLL hLa
        gi_wp2
        go_ret
        exact .inl ⟨rfl, by have := H1.out; rw [this]; simpa using hJr, hbr⟩
  · gi_wp2
    go_ret
    exact .inr ⟨rfl, [x], ⟨L', by simp⟩, hx1⟩

end Go.Proofs.Ybulkbgae

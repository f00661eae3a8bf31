import Derived.Test.YbulkbgaeIter
namespace Go.Proofs.Ybulkbgae
open Go.RowKit Go.Shelf
set_option linter.unusedVariables false
set_option linter.unusedSimpArgs false
attribute [local go_sem] Oper.semAt_some

/-- What the round says, at every node. -/
abbrev YieldOk (F : Fence) (l : Nat) (w0 : World) (N : Nat) (J Jx : List (NdA w0) → World → Prop) : Prop :=
  ∀ m pre x W, J pre W → pre.length < N → YieldAt F m Yba.prog l #[.pointer (some ⟨x.1.b, x.1.off, none⟩)] W fun e W' =>
      (e = .returned (.bool true) ∧ J (pre ++ [x]) W' ∧ Below w0.heap.size W W') ∨ (e = .returned (.bool false) ∧ Jx (pre ++ [x]) W')

theorem kid_zero {k lo : Nat} {w : World} {a : Option Addr} {L : List Nd} (h : Kid k lo w a 0 L) : L = [] := by
  cases k with
  | zero => exact h.2
  | succ k =>
    rcases h with h | ⟨g, cur, cs, h1, h2, h3, h4, h5, h6, h7⟩
    · exact h.2
    · have : cs = [] := List.length_eq_zero_iff.1 h4.1
      rw [h7, this]; rfl

theorem walkE_any (F : Fence) (hd : F.depth = none) (h22 : F.fn 22) (hro : F.round = none) (l : Nat) (w0 : World) (N : Nat) (J Jx : List (NdA w0) → World → Prop) (hY : YieldOk F l w0 N J Jx) (lo : Nat) :
    ∀ (k b off : Nat) (c : Ch), Lies w0 b off c → Kid k lo w0 c.a c.len c.L → WalkE F l w0 N J Jx b off (⟨b, off, c.op, c.fn⟩ :: c.L) := by
  intro k
  induction k with
  | zero =>
    intro b off c hl hk
    have h8 : w0.cell? ⟨b, off + 8, none⟩ = some (.slice c.a c.len c.cap) := hl.2 8 (by decide)
    rw [hk.1] at h8
    rw [hk.2]
    exact walk_leaf F hd h22 hro l w0 N J Jx hY b off c.op c.fn c.a c.cap hl.1 h8
  | succ k ih =>
    intro b off c hl hk
    have h8 : w0.cell? ⟨b, off + 8, none⟩ = some (.slice c.a c.len c.cap) := hl.2 8 (by decide)
    by_cases h0 : c.len = 0
    · rw [h0] at h8 hk
      rw [kid_zero hk]
      exact walk_leaf F hd h22 hro l w0 N J Jx hY b off c.op c.fn c.a c.cap hl.1 h8
    · obtain ⟨k', g, cs, e1, e2, e3, e4, e5, e6, e7⟩ := kids_of hk (by omega)
      obtain rfl : k = k' := by omega
      rw [e2, ← e3] at h8
      rw [e5]
      exact walk_node F hd h22 hro l w0 N J Jx hY b off c.op c.fn g c.cap cs hl.1 h8 (by omega) fun i hi => ih g (12 * i) cs[i] (e7 i hi) (e6 _ (List.getElem_mem hi))

/-- The 27 cells of a Constraint lie at (b, off). -/
def LiesC (w0 : World) (b off : Nat) (c : Co) : Prop := b < w0.heap.size ∧ ∀ j, j < 27 → w0.cell? ⟨b, off + j, none⟩ = c.cells[j]?

theorem LiesC.left {w0 : World} {b off : Nat} {c : Co} (h : LiesC w0 b off c) : Lies w0 b (off + 2) c.l := by
  refine ⟨h.1, fun j hj => ?_⟩
  rw [show off + 2 + j = off + (2 + j) from by omega, h.2 (2 + j) (by omega)]
  match j, hj with
  | 0, _ => rfl | 1, _ => rfl | 2, _ => rfl | 3, _ => rfl | 4, _ => rfl | 5, _ => rfl | 6, _ => rfl | 7, _ => rfl | 8, _ => rfl | 9, _ => rfl | 10, _ => rfl | 11, _ => rfl

theorem LiesC.right {w0 : World} {b off : Nat} {c : Co} (h : LiesC w0 b off c) : Lies w0 b (off + 14) c.r := by
  refine ⟨h.1, fun j hj => ?_⟩
  rw [show off + 14 + j = off + (14 + j) from by omega, h.2 (14 + j) (by omega)]
  match j, hj with
  | 0, _ => rfl | 1, _ => rfl | 2, _ => rfl | 3, _ => rfl | 4, _ => rfl | 5, _ => rfl | 6, _ => rfl | 7, _ => rfl | 8, _ => rfl | 9, _ => rfl | 10, _ => rfl | 11, _ => rfl

def WalkC (F : Fence) (l : Nat) (w0 : World) (N : Nat) (J Jx : List (NdA w0) → World → Prop) (b off : Nat) (nds : List Nd) : Prop :=
  ∀ (m : Nat) (L pre : List (NdA w0)) (W : World), L.map (·.1) = nds → Below w0.heap.size w0 W → J pre W → pre.length + L.length ≤ N →
    CallsIn F m Yba.prog 20 #[.pointer (some ⟨b, off, none⟩), .func (.yield l) #[] #[]] W fun e W' =>
      (e = .returned (.bool true) ∧ J (pre ++ L) W' ∧ Below w0.heap.size W W') ∨ (e = .returned (.bool false) ∧ ∃ q, q <+: L ∧ Jx (pre ++ q) W')

theorem nodesC_append (g : Nat) : ∀ (i : Nat) (a b : List Co), nodesC g i (a ++ b) = nodesC g i a ++ nodesC g (i + a.length) b
  | i, [], b => by simp [nodesC]
  | i, c :: a, b => by simp only [List.cons_append, nodesC, nodesC_append g (i + 1) a b, List.append_assoc, List.length_cons]; rw [show i + 1 + a.length = i + (a.length + 1) from by omega]

theorem nodesC_take (g : Nat) (cs : List Co) (k : Nat) (hk : k < cs.length) : nodesC g 0 (cs.take (k + 1)) = nodesC g 0 (cs.take k) ++ cs[k].nd g (27 * k) := by
  rw [List.take_succ_eq_append_getElem hk, nodesC_append]
  simp [nodesC, Nat.min_eq_left (Nat.le_of_lt hk)]

theorem Co.size (c : Co) : c.cells.size = 27 := rfl

theorem rowC_get : ∀ (cs : List Co) (i j : Nat) (hi : i < cs.length), j < 27 → (rowC cs)[27 * i + j]? = cs[i].cells[j]?
  | c :: cs, 0, j, _, hj => by
    have : (rowC (c :: cs)) = c.cells.toList ++ rowC cs := by simp [rowC]
    rw [this, List.getElem?_append_left (by have := c.size; simp [this]; omega)]
    simp
  | c :: cs, i + 1, j, hi, hj => by
    have h0 : (rowC (c :: cs)) = c.cells.toList ++ rowC cs := by simp [rowC]
    have h1 : c.cells.toList.length = 27 := by have := c.size; simpa using this
    rw [h0, List.getElem?_append_right (by omega), h1, show 27 * (i + 1) + j - 27 = 27 * i + j from by omega]
    simpa using rowC_get cs i j (by simpa using hi) hj

theorem parts_of {k lo : Nat} {w0 : World} {a : Option Addr} {len : Nat} {L : List Nd} (h : Par k lo w0 a len L) (hlen : 0 < len) :
    ∃ k' g cs, k = k' + 1 ∧ a = some ⟨g, 0, none⟩ ∧ cs.length = len ∧ len ≤ 8 ∧ L = nodesC g 0 cs ∧ (∀ c ∈ cs, CoOk k' lo w0 c) ∧ ∀ i (hi : i < cs.length), LiesC w0 g (27 * i) cs[i] := by
  cases k with
  | zero => exact absurd h.1 (by omega)
  | succ k' =>
    rcases h with h | ⟨g, cur, cs, h1, h2, h3, h4, h5, h6, h7⟩
    · exact absurd h.1 (by omega)
    · obtain ⟨h4, h4'⟩ := h4
      refine ⟨k', g, cs, rfl, h1, h4, h4', h7, h6, fun i hi => ⟨(Array.getElem?_eq_some_iff.1 h3).1, fun j hj => ?_⟩⟩
      rw [cell_of_row _ _ _ _ _ _ h3, ← rowC_get cs i j hi hj, ← h5, List.getElem?_take_of_lt (by omega)]
      simp

theorem par_zero {k lo : Nat} {w : World} {a : Option Addr} {L : List Nd} (h : Par k lo w a 0 L) : L = [] := by
  cases k with
  | zero => exact h.2
  | succ k =>
    rcases h with h | ⟨g, cur, cs, h1, h2, h3, h4, h5, h6, h7⟩
    · exact h.2
    · have : cs = [] := List.length_eq_zero_iff.1 h4.1
      rw [h7, this]; rfl

/-- isAtom -/
theorem isAtom_in (F : Fence) (n : Nat) (h21 : F.fn 21) (hro : F.round = none) (b off : Nat) (op : Int) (w : World) (hc : w.cell? ⟨b, off, none⟩ = some (.int .u8 op)) :
    CallsIn F n Yba.prog 21 #[.pointer (some ⟨b, off, none⟩)] w fun e w' => e = .returned (.bool (decide (3 ≤ op))) ∧ w' = w := by
  refine callsIn_of_wp Yba.func21 rfl h21 ?_ hro
  simp only [Yba.ntmps21, List.size_toArray, List.length_cons, List.length_nil, Nat.reduceAdd, Nat.reduceSub, Array.replicate_succ, Array.replicate_zero, List.push_toArray, List.append_toArray, List.nil_append, List.cons_append]
  gi_wp2
  go_ret
  exact ⟨rfl, rfl⟩

set_option maxRecDepth 100000 in
set_option maxHeartbeats 2000000 in
theorem walk_atom (F : Fence) (hd : F.depth = none) (h20 : F.fn 20) (h21 : F.fn 21) (h22 : F.fn 22) (hro : F.round = none) (l : Nat) (w0 : World) (N : Nat) (J Jx : List (NdA w0) → World → Prop)
    (b off : Nat) (op : Int) (hop : 3 ≤ op) (hb : b < w0.heap.size) (hc0 : w0.cell? ⟨b, off, none⟩ = some (.int .u8 op)) (La Lb : List Nd)
    (hl : WalkE F l w0 N J Jx b (off + 2) La) (hr : WalkE F l w0 N J Jx b (off + 14) Lb) :
    WalkC F l w0 N J Jx b off (La ++ Lb) := by
  intro m L pre W hL hbel hJ hN
  rw [List.map_eq_append_iff] at hL
  obtain ⟨L1, L2, rfl, hL1, hL2⟩ := hL
  have hdd : ∀ k : Nat, (F.depth.isSome = true → 1 ≤ k) := fun k h => by rw [hd] at h; cases h
  have hc : W.cell? ⟨b, off, none⟩ = some (.int .u8 op) := (hbel.cell (p := ⟨b, off, none⟩) hb).trans hc0
  have ih0 := isAtom_in F (m - 1) h21 hro b off op W hc
  rw [decide_eq_true hop] at ih0
  have ih1 := (hl (m - 1) L1 pre W hL1 hbel hJ (by simp at hN; omega)).mono (R' := fun e W1 =>
      (e = .returned (.bool true) ∧ Hid (Below w0.heap.size W W1) ∧ CallsIn F (m - 1) Yba.prog 22 #[.pointer (some ⟨b, off + 14, none⟩), .func (.yield l) #[] #[]] W1 fun e W' =>
      (e = .returned (.bool true) ∧ J (pre ++ L1 ++ L2) W' ∧ Below w0.heap.size W1 W') ∨ (e = .returned (.bool false) ∧ ∃ q, q <+: L2 ∧ Jx (pre ++ L1 ++ q) W')) ∨
      (e = .returned (.bool false) ∧ ∃ q, q <+: L1 ∧ Jx (pre ++ q) W1))
    (fun e W1 h => h.elim (fun ⟨he, hj, hb1⟩ => .inl ⟨he, hid hb1, hr (m - 1) L2 (pre ++ L1) W1 hL2 (hbel.trans hb1) hj (by simp at hN ⊢; omega)⟩) .inr)
  clear hl hr hL1 hL2 hN hJ hbel hc
  refine callsIn_of_wp Yba.func20 rfl h20 ?_ hro
  simp only [Yba.ntmps20, List.size_toArray, List.length_cons, List.length_nil, Nat.reduceAdd, Nat.reduceSub, Array.replicate_succ, Array.replicate_zero, List.push_toArray, List.append_toArray, List.nil_append, List.cons_append]
  gi_wp2_with (first
    | ((try refine ⟨hdd _, ?_⟩); gi_at_call 21; refine ih0.mono ?_; clear ih0; rintro e w' ⟨rfl, rfl⟩)
    | ((try refine ⟨hdd _, ?_⟩); gi_at_call 22; refine ih1.mono ?_; clear ih1; rintro e W1 (⟨rfl, hb1, ih2⟩ | ⟨rfl, q, hq, hx1⟩))
    | ((try refine ⟨hdd _, ?_⟩); gi_at_call 22; refine ih2.mono ?_; clear ih2; rintro e W2 (⟨rfl, hJ2, hb2⟩ | ⟨rfl, q, hq, hx2⟩)))
  · go_ret
    exact .inl ⟨rfl, by simpa using hJ2, hb1.out.trans hb2⟩
  · go_ret
    obtain ⟨r, hr'⟩ := hq
    exact .inr ⟨rfl, L1 ++ q, ⟨r, by simp [← hr']⟩, by simpa [List.append_assoc] using hx2⟩
  · go_ret
    exact .inr ⟨rfl, q, hq.trans (by simp), hx1⟩

set_option maxRecDepth 100000 in
set_option maxHeartbeats 2000000 in
theorem walk_noparts (F : Fence) (hd : F.depth = none) (h20 : F.fn 20) (h21 : F.fn 21) (hro : F.round = none) (l : Nat) (w0 : World) (N : Nat) (J Jx : List (NdA w0) → World → Prop)
    (b off : Nat) (op : Int) (hop : op < 3) (hb : b < w0.heap.size) (hc0 : w0.cell? ⟨b, off, none⟩ = some (.int .u8 op)) (a : Option Addr) (cap : Nat) (hc1 : w0.cell? ⟨b, off + 1, none⟩ = some (.slice a 0 cap)) :
    WalkC F l w0 N J Jx b off [] := by
  intro m L pre W hL hbel hJ hN
  obtain rfl : L = [] := List.map_eq_nil_iff.1 hL
  have hdd : ∀ k : Nat, (F.depth.isSome = true → 1 ≤ k) := fun k h => by rw [hd] at h; cases h
  have hc : W.cell? ⟨b, off, none⟩ = some (.int .u8 op) := (hbel.cell (p := ⟨b, off, none⟩) hb).trans hc0
  have hc1' : W.cell? ⟨b, off + 1, none⟩ = some (.slice a 0 cap) := (hbel.cell (p := ⟨b, off + 1, none⟩) hb).trans hc1
  have ih0 := isAtom_in F (m - 1) h21 hro b off op W hc
  rw [decide_eq_false (by omega)] at ih0
  clear hc
  refine callsIn_of_wp Yba.func20 rfl h20 ?_ hro
  simp only [Yba.ntmps20, List.size_toArray, List.length_cons, List.length_nil, Nat.reduceAdd, Nat.reduceSub, Array.replicate_succ, Array.replicate_zero, List.push_toArray, List.append_toArray, List.nil_append, List.cons_append]
  gi_wp2_with ((try refine ⟨hdd _, ?_⟩); gi_at_call 21; refine ih0.mono ?_; clear ih0; rintro e w' ⟨rfl, rfl⟩)
  gi_loopw [14] (fun i wr => i = .int .i64 0 ∧ wr = w') (fun _ _ => 0)
  case atStart => exact ⟨rfl, rfl⟩
  case round =>
    obtain ⟨rfl, rfl⟩ := hrel
    gi_wp2
    go_ret
    exact .inl ⟨rfl, by simpa using hJ, Below.refl _ _⟩

set_option maxRecDepth 100000 in
set_option maxHeartbeats 2000000 in
theorem walk_parts (F : Fence) (hd : F.depth = none) (h20 : F.fn 20) (h21 : F.fn 21) (hro : F.round = none) (l : Nat) (w0 : World) (N : Nat) (J Jx : List (NdA w0) → World → Prop)
    (b off : Nat) (op : Int) (hop : op < 3) (hb : b < w0.heap.size) (hc0 : w0.cell? ⟨b, off, none⟩ = some (.int .u8 op)) (g cap : Nat) (cs : List Co) (hc1 : w0.cell? ⟨b, off + 1, none⟩ = some (.slice (some ⟨g, 0, none⟩) cs.length cap)) (hlen : cs.length ≤ 1000)
    (hk : ∀ i (hi : i < cs.length), WalkC F l w0 N J Jx g (27 * i) (cs[i].nd g (27 * i))) :
    WalkC F l w0 N J Jx b off (nodesC g 0 cs) := by
  intro m L pre W hL hbel hJ hN
  have hdd : ∀ k : Nat, (F.depth.isSome = true → 1 ≤ k) := fun k h => by rw [hd] at h; cases h
  have hc : W.cell? ⟨b, off, none⟩ = some (.int .u8 op) := (hbel.cell (p := ⟨b, off, none⟩) hb).trans hc0
  have hc1' : W.cell? ⟨b, off + 1, none⟩ = some (.slice (some ⟨g, 0, none⟩) cs.length cap) := (hbel.cell (p := ⟨b, off + 1, none⟩) hb).trans hc1
  have ih0 := isAtom_in F (m - 1) h21 hro b off op W hc
  rw [decide_eq_false (by omega)] at ih0
  have HK := hid hk
  have HL := hid hL
  have HN := hid hN
  clear hk hL hN hc
  refine callsIn_of_wp Yba.func20 rfl h20 ?_ hro
  simp only [Yba.ntmps20, List.size_toArray, List.length_cons, List.length_nil, Nat.reduceAdd, Nat.reduceSub, Array.replicate_succ, Array.replicate_zero, List.push_toArray, List.append_toArray, List.nil_append, List.cons_append]
  gi_wp2_with ((try refine ⟨hdd _, ?_⟩); gi_at_call 21; refine ih0.mono ?_; clear ih0; rintro e w' ⟨rfl, rfl⟩)
  gi_loopw [14] (fun i wr => ∃ (k : Nat) (La Lb : List (NdA w0)), k ≤ cs.length ∧ i = .int .i64 k ∧ L = La ++ Lb ∧ La.map (·.1) = nodesC g 0 (cs.take k) ∧ Lb.map (·.1) = nodesC g k (cs.drop k) ∧ J (pre ++ La) wr ∧ Below w0.heap.size w' wr) (fun i _ => cs.length - (intOf i).toNat)
  case atStart => exact ⟨0, [], L, Nat.zero_le _, rfl, rfl, by simp [nodesC], by simpa using HL.out, by simpa using hJ, Below.refl _ _⟩
  case round =>
    obtain ⟨k, La, Lb, hk, rfl, hLL, hLa, hLb, hJr, hbr⟩ := hrel
    have c1r : wr.cell? ⟨b, off + 1, none⟩ = some (.slice (some ⟨g, 0, none⟩) cs.length cap) := ((hbel.trans hbr).cell (p := ⟨b, off + 1, none⟩) hb).trans hc1
    by_cases hlt : k < cs.length
    · have hki : (k : Int) < (cs.length : Int) := by omega
      rw [List.drop_eq_getElem_cons hlt, nodesC, List.map_eq_append_iff] at hLb
      obtain ⟨Lc, Ld, rfl, hLc, hLd⟩ := hLb
      have hcall := HK.out k hlt (m - 1) Lc (pre ++ La) wr hLc (hbel.trans hbr) hJr (by have := HN.out; rw [hLL] at this; simp at this ⊢; omega)
      rw [Nat.mul_comm 27 k] at hcall
      have HC := hid hcall
      have H1 := hid hLL
      have H2 := hid hLa
      have H3 := hid hLc
      have H4 := hid hLd
      clear hcall hLL hLa hLc hLd
      gi_wp2_with ((try refine ⟨hdd _, ?_⟩); gi_at_call 20; refine CallsIn.mono HC.out ?_; clear HC; rintro e W2 (⟨rfl, hJ2, hb2⟩ | ⟨rfl, q, hq, hx2⟩))
      · go_roundw
        case rel =>
          refine ⟨k + 1, La ++ Lc, Ld, by omega, by go_num, by rw [H1.out]; simp, ?_, H4.out, by simpa using hJ2, hbr.trans hb2⟩
          rw [List.map_append, H2.out, H3.out, nodesC_take g cs k hlt]
        case measure => simp [intOf]; omega
      · go_ret
        refine .inr ⟨rfl, La ++ q, ?_, by simpa using hx2⟩
        obtain ⟨r, rfl⟩ := hq
        exact ⟨r ++ Ld, by rw [H1.out]; simp⟩
    · obtain rfl : k = cs.length := by omega
      have hn : Lb = [] := by
        rw [List.drop_length] at hLb
        exact List.map_eq_nil_iff.1 hLb
      subst hn
      clear hLb
      have H1 := hid hLL
      clear hLL hLa
      gi_wp2
      go_ret
      exact .inl ⟨rfl, by have := H1.out; rw [this]; simpa using hJr, hbr⟩

theorem walkC_any (F : Fence) (hd : F.depth = none) (h20 : F.fn 20) (h21 : F.fn 21) (h22 : F.fn 22) (hro : F.round = none) (l : Nat) (w0 : World) (N : Nat) (J Jx : List (NdA w0) → World → Prop) (hY : YieldOk F l w0 N J Jx) (lo : Nat) :
    ∀ (k b off : Nat) (c : Co), LiesC w0 b off c → CoOk k lo w0 c → WalkC F l w0 N J Jx b off (c.nd b off) := by
  intro k
  induction k with
  | zero =>
    intro b off c hl hk
    have h0 : w0.cell? ⟨b, off, none⟩ = some (.int .u8 c.op) := hl.2 0 (by decide)
    have h1 : w0.cell? ⟨b, off + 1, none⟩ = some (.slice c.a c.len c.cap) := hl.2 1 (by decide)
    unfold Co.nd
    rcases hk with ⟨hop, hs⟩ | ⟨_, hop, hp⟩
    · rw [if_pos hop]
      exact walk_atom F hd h20 h21 h22 hro l w0 N J Jx b off c.op hop hl.1 h0 _ _ (walkE_any F hd h22 hro l w0 N J Jx hY lo 4 b (off + 2) c.l hl.left hs.1) (walkE_any F hd h22 hro l w0 N J Jx hY lo 4 b (off + 14) c.r hl.right hs.2)
    · rw [if_neg (by omega), hp.2]
      rw [hp.1] at h1
      exact walk_noparts F hd h20 h21 hro l w0 N J Jx b off c.op hop hl.1 h0 c.a c.cap h1
  | succ k ih =>
    intro b off c hl hk
    have h0 : w0.cell? ⟨b, off, none⟩ = some (.int .u8 c.op) := hl.2 0 (by decide)
    have h1 : w0.cell? ⟨b, off + 1, none⟩ = some (.slice c.a c.len c.cap) := hl.2 1 (by decide)
    unfold Co.nd
    rcases hk with ⟨hop, hs⟩ | ⟨_, hop, hp⟩
    · rw [if_pos hop]
      exact walk_atom F hd h20 h21 h22 hro l w0 N J Jx b off c.op hop hl.1 h0 _ _ (walkE_any F hd h22 hro l w0 N J Jx hY lo 4 b (off + 2) c.l hl.left hs.1) (walkE_any F hd h22 hro l w0 N J Jx hY lo 4 b (off + 14) c.r hl.right hs.2)
    · rw [if_neg (by omega)]
      by_cases hz : c.len = 0
      · rw [hz] at h1 hp
        rw [par_zero hp]
        exact walk_noparts F hd h20 h21 hro l w0 N J Jx b off c.op hop hl.1 h0 c.a c.cap h1
      · obtain ⟨k', g, cs, e1, e2, e3, e4, e5, e6, e7⟩ := parts_of hp (by omega)
        obtain rfl : k = k' := by omega
        rw [e2, ← e3] at h1
        rw [e5]
        exact walk_parts F hd h20 h21 hro l w0 N J Jx b off c.op hop hl.1 h0 g c.cap cs h1 (by omega) fun i hi => ih g (27 * i) cs[i] (e7 i hi) (e6 _ (List.getElem_mem hi))

/-! Every node lies as it says. -/

theorem Lies.ok {w0 : World} {b off : Nat} {c : Ch} (h : Lies w0 b off c) : NdOk w0 ⟨b, off, c.op, c.fn⟩ := ⟨h.1, h.2 0 (by decide), h.2 7 (by decide)⟩

theorem mem_nodes {g : Nat} {x : Nd} : ∀ {i : Nat} {cs : List Ch}, x ∈ nodes g i cs → ∃ j, ∃ hj : j < cs.length, x = ⟨g, 12 * (i + j), cs[j].op, cs[j].fn⟩ ∨ x ∈ cs[j].L
  | i, [], h => by simp [nodes] at h
  | i, c :: cs, h => by
    simp only [nodes, List.mem_append, List.mem_cons] at h
    rcases h with (h | h) | h
    · exact ⟨0, by simp, .inl (by simpa using h)⟩
    · exact ⟨0, by simp, .inr (by simpa using h)⟩
    · obtain ⟨j, hj, h⟩ := mem_nodes h
      exact ⟨j + 1, by simpa using hj, by rw [show i + (j + 1) = i + 1 + j from by omega]; simpa using h⟩

theorem Kid.ok : ∀ {k lo : Nat} {w0 : World} {a : Option Addr} {len : Nat} {L : List Nd}, Kid k lo w0 a len L → ∀ x ∈ L, NdOk w0 x := by
  intro k
  induction k with
  | zero => intro lo w0 a len L h x hx; rw [h.2] at hx; simp at hx
  | succ k ih =>
    intro lo w0 a len L h x hx
    by_cases hz : len = 0
    · rw [hz] at h; rw [kid_zero h] at hx; simp at hx
    · obtain ⟨k', g, cs, e1, e2, e3, e4, e5, e6, e7⟩ := kids_of h (by omega)
      obtain rfl : k = k' := by omega
      rw [e5] at hx
      obtain ⟨j, hj, hx⟩ := mem_nodes hx
      rcases hx with hx | hx
      · have := (e7 j hj).ok
        rw [hx, Nat.zero_add]; exact this
      · exact ih (e6 _ (List.getElem_mem hj)) x hx

theorem mem_nodesC {g : Nat} {x : Nd} : ∀ {i : Nat} {cs : List Co}, x ∈ nodesC g i cs → ∃ j, ∃ hj : j < cs.length, x ∈ cs[j].nd g (27 * (i + j))
  | i, [], h => by simp [nodesC] at h
  | i, c :: cs, h => by
    simp only [nodesC, List.mem_append] at h
    rcases h with h | h
    · exact ⟨0, by simp, by simpa using h⟩
    · obtain ⟨j, hj, h⟩ := mem_nodesC h
      exact ⟨j + 1, by simpa using hj, by rw [show i + (j + 1) = i + 1 + j from by omega]; simpa using h⟩

theorem sides_ok {lo b off : Nat} {w0 : World} {c : Co} (hl : LiesC w0 b off c) (hs : Sides lo w0 c) : ∀ x ∈ (⟨b, off + 2, c.l.op, c.l.fn⟩ :: c.l.L) ++ (⟨b, off + 14, c.r.op, c.r.fn⟩ :: c.r.L), NdOk w0 x := by
  intro x hx
  simp only [List.mem_append, List.mem_cons] at hx
  rcases hx with (rfl | hx) | (rfl | hx)
  · exact hl.left.ok
  · exact hs.1.ok x hx
  · exact hl.right.ok
  · exact hs.2.ok x hx

theorem CoOk.ok : ∀ {k lo : Nat} {w0 : World} {b off : Nat} {c : Co}, LiesC w0 b off c → CoOk k lo w0 c → ∀ x ∈ c.nd b off, NdOk w0 x := by
  intro k
  induction k with
  | zero =>
    intro lo w0 b off c hl hk x hx
    unfold Co.nd at hx
    rcases hk with ⟨hop, hs⟩ | ⟨_, hop, hp⟩
    · rw [if_pos hop] at hx; exact sides_ok hl hs x hx
    · rw [if_neg (by omega), hp.2] at hx; simp at hx
  | succ k ih =>
    intro lo w0 b off c hl hk x hx
    unfold Co.nd at hx
    rcases hk with ⟨hop, hs⟩ | ⟨_, hop, hp⟩
    · rw [if_pos hop] at hx; exact sides_ok hl hs x hx
    · rw [if_neg (by omega)] at hx
      by_cases hz : c.len = 0
      · rw [hz] at hp; rw [par_zero hp] at hx; simp at hx
      · obtain ⟨k', g, cs, e1, e2, e3, e4, e5, e6, e7⟩ := parts_of hp (by omega)
        obtain rfl : k = k' := by omega
        rw [e5] at hx
        obtain ⟨j, hj, hx⟩ := mem_nodesC hx
        rw [Nat.zero_add] at hx
        exact ih (e7 j hj) (e6 _ (List.getElem_mem hj)) x hx

/-! How many nodes there are at the most. -/

theorem nodes_length (g : Nat) (B : Nat) : ∀ (i : Nat) (cs : List Ch), (∀ c ∈ cs, c.L.length ≤ B) → (nodes g i cs).length ≤ cs.length * (B + 1)
  | _, [], _ => by simp [nodes]
  | i, c :: cs, h => by
    have h1 := nodes_length g B (i + 1) cs fun d hd => h d (List.mem_cons_of_mem _ hd)
    have h2 := h c List.mem_cons_self
    simp only [nodes, List.length_append, List.length_cons, Nat.add_mul] at h1 ⊢
    omega

theorem nodesC_length (g : Nat) (B : Nat) : ∀ (i : Nat) (cs : List Co), (∀ c ∈ cs, ∀ off, (c.nd g off).length ≤ B) → (nodesC g i cs).length ≤ cs.length * B
  | _, [], _ => by simp [nodesC]
  | i, c :: cs, h => by
    have h1 := nodesC_length g B (i + 1) cs fun d hd => h d (List.mem_cons_of_mem _ hd)
    have h2 := h c List.mem_cons_self (27 * i)
    simp only [nodesC, List.length_append, List.length_cons, Nat.add_mul] at h1 ⊢
    omega

theorem Kid.few : ∀ {k lo : Nat} {w0 : World} {a : Option Addr} {len : Nat} {L : List Nd}, Kid k lo w0 a len L → L.length ≤ 3 ^ k - 1 := by
  intro k
  induction k with
  | zero => intro lo w0 a len L h; rw [h.2]; simp
  | succ k ih =>
    intro lo w0 a len L h
    by_cases hz : len = 0
    · rw [hz] at h; rw [kid_zero h]; simp
    · obtain ⟨k', g, cs, e1, e2, e3, e4, e5, e6, e7⟩ := kids_of h (by omega)
      obtain rfl : k = k' := by omega
      have h1 := nodes_length g (3 ^ k - 1) 0 cs fun c hc => ih (e6 c hc)
      have h3 : 0 < 3 ^ k := Nat.pos_of_ne_zero (by simp)
      rw [show 3 ^ k - 1 + 1 = 3 ^ k from by omega] at h1
      have h2 : cs.length * 3 ^ k ≤ 2 * 3 ^ k := Nat.mul_le_mul_right _ (by omega)
      rw [e5, Nat.pow_succ]
      omega

theorem CoOk.few : ∀ {k lo : Nat} {w0 : World} {c : Co}, CoOk k lo w0 c → ∀ b off, (c.nd b off).length ≤ 200 * 8 ^ k := by
  intro k
  induction k with
  | zero =>
    intro lo w0 c hk b off
    unfold Co.nd
    rcases hk with ⟨hop, hs⟩ | ⟨_, hop, hp⟩
    · have h1 := hs.1.few; have h2 := hs.2.few
      rw [if_pos hop]; simp at h1 h2 ⊢; omega
    · rw [if_neg (by omega), hp.2]; simp
  | succ k ih =>
    intro lo w0 c hk b off
    have h3 : 0 < 8 ^ k := Nat.pos_of_ne_zero (by simp)
    unfold Co.nd
    rcases hk with ⟨hop, hs⟩ | ⟨_, hop, hp⟩
    · have h1 := hs.1.few; have h2 := hs.2.few
      rw [if_pos hop, Nat.pow_succ]; simp at h1 h2 ⊢; omega
    · rw [if_neg (by omega)]
      by_cases hz : c.len = 0
      · rw [hz] at hp; rw [par_zero hp]; simp
      · obtain ⟨k', g, cs, e1, e2, e3, e4, e5, e6, e7⟩ := parts_of hp (by omega)
        obtain rfl : k = k' := by omega
        have h1 := nodesC_length g (200 * 8 ^ k) 0 cs fun c hc off => ih (e6 c hc) g off
        have h2 : cs.length * (200 * 8 ^ k) ≤ 8 * (200 * 8 ^ k) := Nat.mul_le_mul_right _ (by omega)
        rw [e5, Nat.pow_succ]
        omega

/-- The nodes with their proofs. -/
theorem lift_nodes {w0 : World} : ∀ {L : List Nd}, (∀ x ∈ L, NdOk w0 x) → ∃ L' : List (NdA w0), L'.map (·.1) = L
  | [], _ => ⟨[], rfl⟩
  | x :: L, h => by
    obtain ⟨L', hL⟩ := lift_nodes (L := L) fun y hy => h y (List.mem_cons_of_mem _ hy)
    exact ⟨⟨x, h x List.mem_cons_self⟩ :: L', by simp [hL]⟩

/-! Expressions() -/

set_option maxHeartbeats 1000000 in
theorem exprs1_in (F : Fence) (hd : F.depth = none) (n : Nat) (h19 : F.fn 19) (h20 : F.fn 20) (hro : F.round = none) (l Bt : Nat) (w0 : World) (b off : Nat) (L : List (NdA w0)) (J Jx : List (NdA w0) → World → Prop)
    (hw : WalkC F l w0 L.length J Jx b off (L.map (·.1)))
    (W : World) (hBt : W.cell? ⟨Bt, 0, none⟩ = some (.pointer (some ⟨b, off, none⟩))) (hbel : Below w0.heap.size w0 W) (h0 : J [] W) :
    CallsIn F n Yba.prog 19 #[.func (.yield l) #[] #[], .pointer (some ⟨Bt, 0, none⟩)] W fun e W' => (∃ v, e = .returned v) ∧
      ((∃ ys, ys = L ∧ J ys W') ∨ (∃ pre, pre <+: L ∧ Jx pre W')) := by
  have hdd : ∀ k : Nat, (F.depth.isSome = true → 1 ≤ k) := fun k h => by rw [hd] at h; cases h
  have hp := hw (n - 1) L [] W rfl hbel h0 (by simp)
  refine callsIn_of_wp Yba.func19 rfl h19 ?_ hro
  simp only [Yba.ntmps19, List.size_toArray, List.length_cons, List.length_nil, Nat.reduceAdd, Nat.reduceSub, Array.replicate_succ, Array.replicate_zero, List.push_toArray, List.append_toArray, List.nil_append, List.cons_append]
  gi_wp2_with ((try refine ⟨hdd _, ?_⟩); gi_at_call 20; refine hp.mono ?_; clear hp; rintro e W1 (⟨rfl, hJ1, _⟩ | ⟨rfl, q, hq, hx⟩))
  · go_end0
    exact ⟨⟨_, rfl⟩, .inl ⟨_, rfl, by simpa using hJ1⟩⟩
  · go_end0
    exact ⟨⟨_, rfl⟩, .inr ⟨q, hq, by simpa using hx⟩⟩

set_option maxHeartbeats 1000000 in
theorem exprs_in (F : Fence) (n : Nat) (h17 : F.fn 17) (hro : F.round = none) (p0 : Option Addr) (w : World) :
    CallsIn F n Yba.prog 17 #[.pointer p0] w fun e w' => e = .returned (.func (.func 19) #[] #[.pointer (some ⟨w.heap.size, 0, none⟩)]) ∧ w' = w.alloc (.cells #[.pointer p0] 66) := by
  refine callsIn_of_wp Yba.func17 rfl h17 ?_ hro
  simp only [Yba.ntmps17, List.size_toArray, List.length_cons, List.length_nil, Nat.reduceAdd, Nat.reduceSub, Array.replicate_succ, Array.replicate_zero, List.push_toArray, List.append_toArray, List.nil_append, List.cons_append]
  gi_wp2
  go_ret
  exact ⟨rfl, rfl⟩

theorem exprs_stops (F : Fence) (hd : F.depth = none) (n : Nat) (h19 : F.fn 19) (h20 : F.fn 20) (h21 : F.fn 21) (h22 : F.fn 22) (hro : F.round = none) (Bt : Nat) (w0 : World) (k lo b off : Nat) (c : Co) (hl : LiesC w0 b off c) (hk : CoOk k lo w0 c)
    (L : List (NdA w0)) (hL : L.map (·.1) = c.nd b off) (w : World) (hBt : Bt < w.heap.size) (hbel : Below w0.heap.size w0 w)
    (hc : w.cell? ⟨Bt, 0, none⟩ = some (.pointer (some ⟨b, off, none⟩))) :
    SeqStopsK F n Yba.prog 19 #[.pointer (some ⟨Bt, 0, none⟩)] (fun x : NdA w0 => #[Value.pointer (some ⟨x.1.b, x.1.off, none⟩)]) (Below w0.heap.size) (fun ys => ys = L) (fun pre => pre <+: L) L.length w := fun l J Jx W hW _ _ hY h0 =>
  exprs1_in F hd n h19 h20 hro l Bt w0 b off L J Jx (hL ▸ walkC_any F hd h20 h21 h22 hro l w0 L.length J Jx (fun m pre x W hj hlt => yield_any hd m (hY pre x W hj hlt)) lo k b off c hl hk) W ((hW.cell (p := ⟨Bt, 0, none⟩) hBt).trans hc) (hbel.trans (hW.mono hbel.size)) h0

end Go.Proofs.Ybulkbgae

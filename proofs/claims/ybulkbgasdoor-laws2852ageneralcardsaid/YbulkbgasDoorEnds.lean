import Derived.Test.YbulkbgasDoorMap
import Derived.Test.YbulkbgasDoorStrip
namespace Go.Proofs.YbulkbgasDoor
open Go.RowKit Go.Maps
set_option linter.unusedVariables false

open Classical in
/-- An ending in a map: two numbers. -/
noncomputable def R90 (v : Value) : Option (DataW Unit × List MemPlace) := if ∃ x y : Int, v = .agg #[.int .i64 x, .int .i64 y] then some (.nil, []) else none
theorem R90_mk (x y : Int) : R90 (.agg #[.int .i64 x, .int .i64 y]) = some (.nil, []) := by unfold R90; rw [if_pos ⟨x, y, rfl⟩]
theorem R90_inv {v : Value} {z : DataW Unit × List MemPlace} (h : R90 v = some z) : ∃ x y : Int, v = .agg #[.int .i64 x, .int .i64 y] := by
  unfold R90 at h
  split at h
  · assumption
  · cases h

/-- The transactions that S names, as a map's keys. -/
def mTx (S : Int → Bool) : Value → Option (DataW Unit)
  | .int .i64 t => if S t then some .nil else none
  | _ => none

theorem key32 {t : Int} (h1 : 1 ≤ t) (h4 : t ≤ 4) : keyOf Ybad.prog 32 (.int .i64 t) = some (.int .i64 t) := keyOf_int_mk Ybad.underlying32 (by rcases (show t = 1 ∨ t = 2 ∨ t = 3 ∨ t = 4 by omega) with rfl | rfl | rfl | rfl <;> rfl)
theorem keyed32 : Keyed Ybad.prog 32 := int_keyed Ybad.underlying32

section
variable {ops : Array Oper} {rest : List Oper} {Q : Exit → Act → World → Prop} {a : Act} {w : World} {tt : TypeId} {ps : String} {dst : Option Tmp} {aft : Array Edge}

theorem get48 {tm tk : Tmp} (b n : Nat) (S : Int → Bool) (hm : a.eval (.tmp tm) = .map (some b)) (hown : MapV w 32 R90 b n (mTx S)) (t : Int) (h1 : 1 ≤ t) (h4 : t ≤ 4) (hx : a.eval (.tmp tk) = .int .i64 t)
    (hK : ∀ x y, wpList Ybad.prog ops Q rest (a.put dst (.tuple #[.agg #[.int .i64 x, .int .i64 y], .bool (S t)])) w) :
    wpList Ybad.prog ops Q ({ dst := dst, op := .lookup 48 (.tmp tm) (.tmp tk) true, type := tt, pos := ps, after := aft, guard := none } :: rest) a w := by
  refine mapGet keyed32 Ybad.underlying48 R90 (fun w => Ybad.zeroValue90 w) .nil [] (R90_mk 0 0) b n (mTx S) hm hown _ _ hx (key32 h1 h4) ?_
  intro v pl hv
  obtain ⟨x, y, rfl⟩ := R90_inv hv
  have : (mTx S (.int .i64 t)).isSome = S t := by
    show (if S t = true then some DataW.nil else none : Option (DataW Unit)).isSome = S t
    cases S t <;> rfl
  rw [this]
  exact hK x y

theorem put48 {tm tk tv : Tmp} (b n : Nat) (S : Int → Bool) (hm : a.eval (.tmp tm) = .map (some b)) (hown : MapV w 32 R90 b n (mTx S)) (hn : n < 1000000) (t : Int) (h1 : 1 ≤ t) (h4 : t ≤ 4) (hx : a.eval (.tmp tk) = .int .i64 t) (hv : ∃ x y : Int, a.eval (.tmp tv) = .agg #[.int .i64 x, .int .i64 y])
    (hK : ∀ w', MapV w' 32 R90 b (n + 1) (mTx fun u => S u || u == t) → w.grownBy w' (some b) → wpList Ybad.prog ops Q rest (a.put dst undef) w') :
    wpList Ybad.prog ops Q ({ dst := dst, op := .mapUpdate 48 (.tmp tm) (.tmp tk) (.tmp tv), type := tt, pos := ps, after := aft, guard := none } :: rest) a w := by
  obtain ⟨x, y, hv⟩ := hv
  refine mapPut keyed32 Ybad.underlying48 R90 b n (mTx S) hm hown hn _ _ _ hx hv (key32 h1 h4) .nil [] (R90_mk x y) ?_
  intro w' h5 h6
  refine hK w' (h5.congr fun key kl hk => ?_) h6
  obtain ⟨u, rfl, _, _⟩ := keyOf_int_inv Ybad.underlying32 hk
  unfold mset mTx
  by_cases e : u = t
  · subst e; simp
  · simp [e]
end

theorem end_keep {w wr w1 : World} {b : Nat} (hB : Below w.heap.size w wr) (hb : w.heap.size ≤ b) {o1 o2 : Obj} (hg : ((wr.alloc o1).alloc o2).grownBy w1 (some b)) : Below w.heap.size w w1 := by
  have h1 : Below w.heap.size w ((wr.alloc o1).alloc o2) := (hB.alloc (hB.size) _).alloc (by have := hB.size; simp; omega) _
  exact h1.grown hg (by have := hB.size; simp; omega) (fun k e => by cases e; exact hb)

set_option maxRecDepth 100000 in
set_option maxHeartbeats 2000000 in
theorem ends_any (w : World) (v : Value) (l : List Ac) (hn : l.length ≤ 10000) (hs : SlA w v l) (ht : ∀ a ∈ l, 1 ≤ a.t ∧ a.t ≤ 4) :
    Calls Ybad.prog 19 #[v] w fun e w' => ∃ n, e = .returned (.map (some w.heap.size)) ∧ MapV w' 32 R90 w.heap.size n (mTx fun t => l.any fun a => a.t == t) ∧ n ≤ l.length ∧ Below w.heap.size w w' := by
  obtain ⟨a, cap, rfl, hcap, hel⟩ := hs
  have HS := hid hel
  have HT := hid ht
  clear hel ht
  go_enter Ybad.func19, Ybad.ntmps19
  have hmm := @run_makeMap Ybad.prog
  go_wp2
  go_loopw [11] (fun i wr => ∃ k : Nat, k ≤ l.length ∧ i = .int .i64 k ∧ MapV wr 32 R90 w.heap.size k (mTx fun t => (l.take k).any fun a => a.t == t) ∧ Below w.heap.size w wr) (fun i _ => l.length - (intOf i).toNat)
  case atStart => exact ⟨0, Nat.zero_le _, rfl, (MapV.made w 32 R90).congr fun key kl hk => by obtain ⟨u, rfl, _, _⟩ := keyOf_int_inv Ybad.underlying32 hk; rfl, (Below.refl _ w).alloc (Nat.le_refl _) _⟩
  case round =>
    obtain ⟨k, hk, rfl, hmap, hbel⟩ := hrel
    have HM := hid hmap
    have hB := hid hbel
    have hsz := hbel.size
    have hml := hmap.lt
    clear hmap hbel
    by_cases hlt : k < l.length
    · have hki : (k : Int) < (l.length : Int) := by omega
      obtain ⟨b, off, rfl, hbl, c0', c1', c2'⟩ := cells_at HS.out hlt hlt
      obtain ⟨c, hc⟩ : ∃ c, l[k] = c := ⟨_, rfl⟩
      rw [hc] at c0' c1' c2'
      have c0 : wr.cell? ⟨b, off + k * 3, none⟩ = some (.string c.k) := (hB.out.cell (p := ⟨b, off + k * 3, none⟩) hbl).trans c0'
      have c1 : wr.cell? ⟨b, off + k * 3 + 1, none⟩ = some (.int .i64 c.t) := (hB.out.cell (p := ⟨b, off + k * 3 + 1, none⟩) hbl).trans c1'
      have c2 : wr.cell? ⟨b, off + k * 3 + 2, none⟩ = some (.string c.it) := (hB.out.cell (p := ⟨b, off + k * 3 + 2, none⟩) hbl).trans c2'
      clear c0' c1' c2'
      obtain ⟨ht1, ht4⟩ := HT.out c (by rw [← hc]; exact List.getElem_mem _)
      have HST := hid (show (fun t => (l.take (k + 1)).any fun a => a.t == t) = fun u => (((l.take k).any fun a => a.t == u) || u == c.t) from by
        funext u
        rw [List.take_succ_eq_append_getElem hlt, List.any_append, hc]
        simp [BEq.comm (a := c.t)])
      clear hc
      obtain ⟨S, hS⟩ : ∃ S : Int → Bool, (fun t => (l.take k).any fun a => a.t == t) = S := ⟨_, rfl⟩
      have hS2 : ∀ u, ((l.take k).any fun a => a.t == u) = S u := fun u => by rw [← hS]
      simp only [hS2] at HST
      rw [hS] at HM
      clear hS hS2
      obtain ⟨r, hr⟩ : ∃ r, S c.t = r := ⟨_, rfl⟩
      have hmin : ∀ x y : Int, True := fun _ _ => trivial
      by_cases hkc : c.k.toList = [99]
      · have hka : ¬ c.k.toList = [97] := by rw [hkc]; decide
        cases r
        · go_wp2_with (first
              | ((with_reducible refine get48 (tm := 17) (tk := 19) w.heap.size k S ?_ ?_ c.t ht1 ht4 ?_ ?_); (exact rfl); (exact HM.out.alloc _); (exact rfl); (intro x y))
              | ((with_reducible refine put48 (tm := 46) (tk := 48) (tv := 49) w.heap.size k S ?_ ?_ ?_ c.t ht1 ht4 ?_ ?_ ?_); (exact rfl); (exact (HM.out.alloc _).alloc _); omega; (exact rfl); (exact ⟨_, _, rfl⟩); (intro w1 hmap1 hgrow1); (have M1 := hid hmap1); (have B1 := hid (end_keep hB.out (Nat.le_refl _) hgrow1)); clear hmap1 hgrow1))
          go_roundw
          case rel => exact ⟨k + 1, by omega, by go_num, by rw [HST.out]; exact M1.out, B1.out⟩
          case measure => simp [intOf]; omega
        · go_wp2_with (first
              | ((with_reducible refine get48 (tm := 17) (tk := 19) w.heap.size k S ?_ ?_ c.t ht1 ht4 ?_ ?_); (exact rfl); (exact HM.out.alloc _); (exact rfl); (intro x y))
              | ((with_reducible refine put48 (tm := 46) (tk := 48) (tv := 49) w.heap.size k S ?_ ?_ ?_ c.t ht1 ht4 ?_ ?_ ?_); (exact rfl); (exact (HM.out.alloc _).alloc _); omega; (exact rfl); (exact ⟨_, _, rfl⟩); (intro w1 hmap1 hgrow1); (have M1 := hid hmap1); (have B1 := hid (end_keep hB.out (Nat.le_refl _) hgrow1)); clear hmap1 hgrow1))
          go_roundw
          case rel => exact ⟨k + 1, by omega, by go_num, by rw [HST.out]; exact M1.out, B1.out⟩
          case measure => simp [intOf]; omega
      · by_cases hka : c.k.toList = [97]
        · cases r
          · go_wp2_with (first
                | ((with_reducible refine get48 (tm := 17) (tk := 19) w.heap.size k S ?_ ?_ c.t ht1 ht4 ?_ ?_); (exact rfl); (exact HM.out.alloc _); (exact rfl); (intro x y))
                | ((with_reducible refine put48 (tm := 46) (tk := 48) (tv := 49) w.heap.size k S ?_ ?_ ?_ c.t ht1 ht4 ?_ ?_ ?_); (exact rfl); (exact (HM.out.alloc _).alloc _); omega; (exact rfl); (exact ⟨_, _, rfl⟩); (intro w1 hmap1 hgrow1); (have M1 := hid hmap1); (have B1 := hid (end_keep hB.out (Nat.le_refl _) hgrow1)); clear hmap1 hgrow1))
            go_roundw
            case rel => exact ⟨k + 1, by omega, by go_num, by rw [HST.out]; exact M1.out, B1.out⟩
            case measure => simp [intOf]; omega
          · go_wp2_with (first
                | ((with_reducible refine get48 (tm := 17) (tk := 19) w.heap.size k S ?_ ?_ c.t ht1 ht4 ?_ ?_); (exact rfl); (exact HM.out.alloc _); (exact rfl); (intro x y))
                | ((with_reducible refine put48 (tm := 46) (tk := 48) (tv := 49) w.heap.size k S ?_ ?_ ?_ c.t ht1 ht4 ?_ ?_ ?_); (exact rfl); (exact (HM.out.alloc _).alloc _); omega; (exact rfl); (exact ⟨_, _, rfl⟩); (intro w1 hmap1 hgrow1); (have M1 := hid hmap1); (have B1 := hid (end_keep hB.out (Nat.le_refl _) hgrow1)); clear hmap1 hgrow1))
            go_roundw
            case rel => exact ⟨k + 1, by omega, by go_num, by rw [HST.out]; exact M1.out, B1.out⟩
            case measure => simp [intOf]; omega
        · have hkc' : (c.k.toList == [99]) = false := by simpa using hkc
          have hka' : (c.k.toList == [97]) = false := by simpa using hka
          cases r
          · go_wp2_with (first
                | ((with_reducible refine get48 (tm := 17) (tk := 19) w.heap.size k S ?_ ?_ c.t ht1 ht4 ?_ ?_); (exact rfl); (exact HM.out.alloc _); (exact rfl); (intro x y))
                | ((with_reducible refine put48 (tm := 46) (tk := 48) (tv := 49) w.heap.size k S ?_ ?_ ?_ c.t ht1 ht4 ?_ ?_ ?_); (exact rfl); (exact (HM.out.alloc _).alloc _); omega; (exact rfl); (exact ⟨_, _, rfl⟩); (intro w1 hmap1 hgrow1); (have M1 := hid hmap1); (have B1 := hid (end_keep hB.out (Nat.le_refl _) hgrow1)); clear hmap1 hgrow1))
            go_roundw
            case rel => exact ⟨k + 1, by omega, by go_num, by rw [HST.out]; exact M1.out, B1.out⟩
            case measure => simp [intOf]; omega
          · go_wp2_with (first
                | ((with_reducible refine get48 (tm := 17) (tk := 19) w.heap.size k S ?_ ?_ c.t ht1 ht4 ?_ ?_); (exact rfl); (exact HM.out.alloc _); (exact rfl); (intro x y))
                | ((with_reducible refine put48 (tm := 46) (tk := 48) (tv := 49) w.heap.size k S ?_ ?_ ?_ c.t ht1 ht4 ?_ ?_ ?_); (exact rfl); (exact (HM.out.alloc _).alloc _); omega; (exact rfl); (exact ⟨_, _, rfl⟩); (intro w1 hmap1 hgrow1); (have M1 := hid hmap1); (have B1 := hid (end_keep hB.out (Nat.le_refl _) hgrow1)); clear hmap1 hgrow1))
            go_roundw
            case rel => exact ⟨k + 1, by omega, by go_num, by rw [HST.out]; exact M1.out, B1.out⟩
            case measure => simp [intOf]; omega
    · obtain rfl : k = l.length := by omega
      go_wp2
      go_ret
      exact ⟨l.length, rfl, by simpa using HM.out, Nat.le_refl _, hB.out⟩

end Go.Proofs.YbulkbgasDoor

import Derived.Test.YbulkbfzcForget
namespace Go.Proofs.Ybulkbfzc
open Go.RowKit
set_option linter.unusedVariables false

theorem hid {p : Prop} (h : p) : Hid p := h

theorem Yba.info24 : (Yba.prog.info? 24).map (fun i => (i.zero, i.size, i.bytes)) = some (some (.int .u64 0), 1, 8) := by kernel_rfl

theorem make_row (m : Nat) (hm : m ≤ 32) (w : World) : (Instr.makeSlice 23 (.int .i64 m) (.int .i64 m)).run Yba.prog w = .ok (.slice (some ⟨w.heap.size, 0, none⟩) m m) (w.alloc (row (List.replicate m 0))) := by
  obtain ⟨i0, hi, hz0, hz1, hz2⟩ := info_parts Yba.info24
  rw [run_make w 23 24 i0 _ Yba.underlying23 hi hz0 .i64 .i64 m m (by omega) (by omega) (by rw [hz2]; omega) (by omega)]
  congr 2
  rw [hz1]
  simp only [row, madeCells, Int.toNat_natCast, Nat.mul_one]
  congr 1
  apply Array.ext
  · simp
  · intro i h1 h2
    simp [Value.cells, Nat.mod_one]

def fil (z : List Int) (len i : Nat) : Int := if i < len then z.getD i 0 else 18446744073709551615
def fillTo (z : List Int) (len m i : Nat) : List Int := (List.range m).map fun j => if j < i then fil z len j else 0

theorem fillTo_zero (z : List Int) (len m : Nat) : fillTo z len m 0 = List.replicate m 0 := by
  unfold fillTo
  apply List.ext_getElem
  · simp
  · intro i h1 h2
    simp

theorem fillTo_length (z : List Int) (len m i : Nat) : (fillTo z len m i).length = m := by simp [fillTo]

theorem fillTo_set (z : List Int) (len m i : Nat) : (fillTo z len m i).set i (fil z len i) = fillTo z len m (i + 1) := by
  unfold fillTo
  apply List.ext_getElem
  · simp
  · intro j h1 h2
    simp only [List.getElem_set, List.getElem_map, List.getElem_range]
    by_cases e : i = j
    · subst e; simp
    · rw [if_neg e]
      by_cases h : j < i
      · rw [if_pos h, if_pos (by omega)]
      · rw [if_neg h, if_neg (by omega)]

theorem fillTo_u64 (z : List Int) (len m : Nat) (hz : ∀ i, i < len → 0 ≤ z.getD i 0 ∧ z.getD i 0 < 18446744073709551616) : U64 (fillTo z len m m) := by
  intro x hx
  unfold fillTo at hx
  obtain ⟨j, hj, rfl⟩ := List.mem_map.1 hx
  rw [if_pos (by simpa using hj)]
  unfold fil
  split
  · exact hz j ‹_›
  · omega

theorem pow_wrap (k : Nat) (hk : k < 6) : wrap64 (2 ^ k) = ((2 ^ k : Nat) : Int) := by
  have hp : 2 ^ k ≤ 2 ^ 5 := Nat.pow_le_pow_right (by omega) (by omega)
  rw [show ((2 : Int) ^ k) = ((2 ^ k : Nat) : Int) from by simp]
  generalize 2 ^ k = x at *
  simp only [wrap64]
  omega

set_option maxRecDepth 100000 in
set_option maxHeartbeats 1000000 in
theorem law_walk (a0 wd tp : Int) (a3 : Option Addr) (len cap : Nat) (z : List Int) (f l : Nat) (w : World) (h00 : 0 ≤ a0) (h01 : a0 < 256) (hf1 : f < 4294967296) (hl1 : l < 4294967296) (hlen : len ≤ 9223372036854775807)
    (hrow : len = 0 ∨ ∃ b off, a3 = some ⟨b, off, none⟩ ∧ b < w.heap.size ∧ ∀ i, i < len → w.cell? ⟨b, off + i, none⟩ = some (.int .u64 (z.getD i 0)))
    (hz : ∀ i, i < len → 0 ≤ z.getD i 0 ∧ z.getD i 0 < 18446744073709551616) :
    Calls Yba.prog 3 #[.int .u8 a0, .int .u32 wd, .int .u32 tp, .slice a3 len cap, .int .u32 f, .int .u32 l] w fun e w' => e = .returned (.bool true) ∧ Below w.heap.size w w' := by
  obtain ⟨k, hk⟩ : ∃ k, k = (a0 % 6).toNat := ⟨_, rfl⟩
  have hk6 : k < 6 := by omega
  obtain ⟨m, hm⟩ : ∃ m, m = 2 ^ k := ⟨_, rfl⟩
  have hp : 2 ^ k ≤ 2 ^ 5 := Nat.pow_le_pow_right (by omega) (by omega)
  have hm0 : 1 ≤ m := by rw [hm]; exact Nat.one_le_two_pow
  have hm1 : m ≤ 32 := by omega
  have hwm : wrap64 (2 ^ (a0 % 6).toNat) = (m : Int) := by rw [← hk, pow_wrap k hk6, hm]
  have hmake := make_row m hm1
  have HM : Hid (m = 2 ^ k) := hm
  have HZ : Hid (∀ i, i < len → 0 ≤ z.getD i 0 ∧ z.getD i 0 < 18446744073709551616) := hz
  have HR : Hid (len = 0 ∨ ∃ b off, a3 = some ⟨b, off, none⟩ ∧ b < w.heap.size ∧ ∀ i, i < len → w.cell? ⟨b, off + i, none⟩ = some (.int .u64 (z.getD i 0))) := hrow
  have F0 := fillTo_zero z len m
  have g0 := heap_alloc2_old w (row (List.replicate m 0)) (row (List.replicate m 0))
  have g1 := heap_alloc2_new w (row (List.replicate m 0)) (row (List.replicate m 0))
  rw [← F0] at g0 g1 hmake
  have bel0 : Below w.heap.size w ((w.alloc (row (fillTo z len m 0))).alloc (row (fillTo z len m 0))) := ((Below.refl _ _).alloc (Nat.le_refl _) _).alloc (by simp) _
  clear hk hm hp hz hrow F0
  go_enter Yba.func3, Yba.ntmps3
  go_wp2
  rw [hwm]
  go_loopw [17] (fun v wr => ∃ i : Nat, i ≤ m ∧ v = .int .i64 i ∧ Below w.heap.size w wr ∧ wr.heap.size = w.heap.size + 2 ∧ wr.heap[w.heap.size]? = some (row (fillTo z len m i)) ∧ wr.heap[w.heap.size + 1]? = some (row (fillTo z len m i))) (fun v _ => m - (intOf v).toNat)
  case atStart => exact ⟨0, Nat.zero_le _, rfl, bel0, by simp, g0, g1⟩
  case round =>
    obtain ⟨i, hi, rfl, hbel, hsz, hs, hb⟩ := hrel
    clear bel0 g0 g1 hmake
    by_cases hlt : i < m
    · have hcs := row_cell hs (j := i) (by rw [fillTo_length]; exact hlt)
      have hcb := row_cell hb (j := i) (by rw [fillTo_length]; exact hlt)
      have hfs := row_free hs i
      have hfb := row_free hb i
      have hset : ∀ y, y = fil z len i → ((wr.setCell ⟨w.heap.size, i, none⟩ (.int .u64 y)).setCell ⟨w.heap.size + 1, i, none⟩ (.int .u64 y)).heap[w.heap.size]? = some (row (fillTo z len m (i + 1))) ∧ ((wr.setCell ⟨w.heap.size, i, none⟩ (.int .u64 y)).setCell ⟨w.heap.size + 1, i, none⟩ (.int .u64 y)).heap[w.heap.size + 1]? = some (row (fillTo z len m (i + 1))) := by
        rintro y rfl
        constructor
        · rw [heap_setCell_other _ _ _ _ (by simp), row_set hs, fillTo_set]
        · rw [row_set (xs := fillTo z len m i) (by rw [heap_setCell_other _ _ _ _ (by simp)]; exact hb), fillTo_set]
      have HS : Hid (∀ y, y = fil z len i → _ ∧ _) := hset
      clear hset
      by_cases hin : i < len
      · obtain ⟨b, off, rfl, hbw, hcells⟩ := HR.out.resolve_left (by omega)
        have hc0 := hcells i hin
        rw [← hbel.cell (p := ⟨b, off + i, none⟩) hbw] at hc0
        have hfi : z.getD i 0 = fil z len i := by simp [fil, hin]
        have hss := HS.out _ hfi
        clear hfi
        generalize z.getD i 0 = y at *
        go_wp2
        go_roundw
        case rel => exact ⟨i + 1, by omega, by go_num, (hbel.setCell (by simp) _).setCell (by simp) _, by simp [hsz], hss.1, hss.2⟩
        case measure => simp [intOf]; omega
      · have hfi : (18446744073709551615 : Int) = fil z len i := by simp [fil, hin]
        have hss := HS.out _ hfi
        clear hfi
        go_wp2
        go_roundw
        case rel => exact ⟨i + 1, by omega, by go_num, (hbel.setCell (by simp) _).setCell (by simp) _, by simp [hsz], hss.1, hss.2⟩
        case measure => simp [intOf]; omega
    · obtain rfl : i = m := by omega
      have hX := fillTo_u64 z len i HZ.out
      have hXl := fillTo_length z len i i
      generalize fillTo z len i i = X at *
      have hsc : (wr.alloc (Obj.cells #[Value.int IntKind.u32 wd, Value.int IntKind.u32 tp, Value.slice (some { block := w.heap.size, off := 0 }) i i] 26)).heap[w.heap.size + 2]? = some (Obj.cells #[Value.int IntKind.u32 wd, Value.int IntKind.u32 tp, Value.slice (some { block := w.heap.size, off := 0 }) i i] 26) := by rw [← hsz]; exact heap_alloc_new wr _
      have hs1 : (wr.alloc (Obj.cells #[Value.int IntKind.u32 wd, Value.int IntKind.u32 tp, Value.slice (some { block := w.heap.size, off := 0 }) i i] 26)).heap[w.heap.size]? = some (row X) := by rw [Below.heap_alloc wr _ _ (by omega)]; exact hs
      have hb1 : (wr.alloc (Obj.cells #[Value.int IntKind.u32 wd, Value.int IntKind.u32 tp, Value.slice (some { block := w.heap.size, off := 0 }) i i] 26)).heap[w.heap.size + 1]? = some (row X) := by rw [Below.heap_alloc wr _ _ (by omega)]; exact hb
      have bel1 : Below w.heap.size w (wr.alloc (Obj.cells #[Value.int IntKind.u32 wd, Value.int IntKind.u32 tp, Value.slice (some { block := w.heap.size, off := 0 }) i i] 26)) := hbel.alloc (by omega) _
      have HFn := forget_any (w.heap.size + 2) w.heap.size k i f l X _ hf1 hl1 hk6 HM.out hXl hX (by omega) (by rw [cell_of_row _ _ _ _ _ _ hsc]; rfl) hs1
      have HF := hid HFn
      have HB1 := hid hb1
      have HSC := hid hsc
      clear HFn hb1 hsc hs1 hs hb hlt hi
      go_wp2_with fail
      refine Calls.mono HF.out ?_
      rintro e w1 ⟨rfl, hon, ys, hyl, hyu, hyb, hyG⟩
      have hb2 : w1.heap[w.heap.size + 1]? = some (row X) := by rw [hon.block _ (by omega)]; exact HB1.out
      have hsc2 : w1.heap[w.heap.size + 2]? = some (Obj.cells #[Value.int IntKind.u32 wd, Value.int IntKind.u32 tp, Value.slice (some { block := w.heap.size, off := 0 }) i i] 26) := by rw [hon.block _ (by omega)]; exact HSC.out
      have c0 : w1.cell? ⟨w.heap.size + 2, 0, none⟩ = some (Value.int IntKind.u32 wd) := by rw [cell_of_row _ _ _ _ _ _ hsc2]; rfl
      have c1 : w1.cell? ⟨w.heap.size + 2, 1, none⟩ = some (Value.int IntKind.u32 tp) := by rw [cell_of_row _ _ _ _ _ _ hsc2]; rfl
      have c2 : w1.cell? ⟨w.heap.size + 2, 2, none⟩ = some (Value.slice (some { block := w.heap.size, off := 0 }) i i) := by rw [cell_of_row _ _ _ _ _ _ hsc2]; rfl
      have bel2 := bel1.trans (hon.below (Nat.le_refl _))
      have HY : Hid (∀ p, p < 64 * i → bitAt ys p = (bitAt X p && !gone i f l p)) := hyb
      clear hyb hon bel1 hsc2 HF HB1 HSC
      go_wp2
      go_loop [22] (fun v => ∃ q : Nat, q ≤ 64 * i ∧ v = .int .u32 q) (fun v => 64 * i - (intOf v).toNat)
      case atStart => exact ⟨0, Nat.zero_le _, rfl⟩
      case round =>
        obtain ⟨q, hq, rfl⟩ := hrel
        by_cases hlt : q < 64 * i
        · have hcx := row_cell hb2 (j := q / 64) (by omega)
          have hcy := row_cell hyG (j := q / 64) (by omega)
          have hxb := hX.at_ (q / 64)
          have hyb := hyu.at_ (q / 64)
          have hqi : ((q / 64 : Nat) : Int) < (i : Int) := by omega
          have hbq := HY.out q hlt
          unfold bitAt at hbq
          have hrx := bit_read _ (q % 64) hxb.1 hxb.2
          have hry := bit_read _ (q % 64) hyb.1 hyb.2
          rw [hbq] at hry
          clear hbq
          generalize ys.getD (q / 64) 0 = y at *
          generalize X.getD (q / 64) 0 = x at *
          obtain ⟨u, hu⟩ : ∃ u : Nat, (u : Int) = ((q : Int) - (f : Int)) % 4294967296 := ⟨(((q : Int) - (f : Int)) % 4294967296).toNat, by omega⟩
          have hmask := mask_mod u k (by omega) hk6
          rw [← HM.out] at hmask
          obtain ⟨j, hj⟩ : ∃ j, j = u % (64 * i) := ⟨_, rfl⟩
          have hjlt : j < 64 * i := by rw [hj]; exact Nat.mod_lt _ (by omega)
          rw [← hj, hu] at hmask
          have hgone : gone i f l q = (decide (64 * (i : Int) ≤ ((l : Int) - (f : Int)) % 4294967296) || (decide ((f : Int) ≤ (l : Int)) && decide ((j : Int) ≤ ((l : Int) - (f : Int)) % 4294967296))) := by
            unfold gone
            rw [← hu, hj]
            simp
          rw [hgone] at hry
          clear hgone hj hu HM HY
          generalize x.toNat.testBit (q % 64) = bx at *
          obtain ⟨ix, hix⟩ : ∃ ix : Int, ix = if bx = true then 1 else 0 := ⟨_, rfl⟩
          rw [← hix] at hrx
          clear hxb hyb
          by_cases hd : 64 * (i : Int) ≤ ((l : Int) - (f : Int)) % 4294967296
          · have hry0 : bits BinOp.and IntKind.u64 (y / 2 ^ (q % 64)) 1 = 0 := by rw [hry]; simp [hd]
            clear hry hix
            go_wp2
            go_round
            case rel => exact ⟨q + 1, by omega, by go_num⟩
            case measure => simp [intOf]; omega
          · by_cases hfl : (f : Int) ≤ (l : Int)
            · by_cases hjd : (j : Int) ≤ ((l : Int) - (f : Int)) % 4294967296
              · have hry0 : bits BinOp.and IntKind.u64 (y / 2 ^ (q % 64)) 1 = 0 := by rw [hry]; simp [hd, hfl, hjd]
                clear hry hix
                go_wp2
                go_round
                case rel => exact ⟨q + 1, by omega, by go_num⟩
                case measure => simp [intOf]; omega
              · have hry0 : bits BinOp.and IntKind.u64 (y / 2 ^ (q % 64)) 1 = ix := by rw [hry, hix]; simp [hd, hfl, hjd]
                clear hry hix
                go_wp2
                go_round
                case rel => exact ⟨q + 1, by omega, by go_num⟩
                case measure => simp [intOf]; omega
            · have hry0 : bits BinOp.and IntKind.u64 (y / 2 ^ (q % 64)) 1 = ix := by rw [hry, hix]; simp [hd, hfl]
              clear hry hix
              go_wp2
              go_round
              case rel => exact ⟨q + 1, by omega, by go_num⟩
              case measure => simp [intOf]; omega
        · go_wp2
          go_ret
          exact ⟨rfl, bel2⟩

end Go.Proofs.Ybulkbfzc

import Derived.Test.YbulkbgasDoorBase
namespace Go.Proofs.YbulkbgasDoor
open Go.RowKit
set_option linter.unusedVariables false

/-- A drawn step. -/
structure St where
  o : Int
  t : Int
  i : Int

def St.cells (s : St) : List Value := [.int .u8 s.o, .int .u8 s.t, .int .u8 s.i]
def St.Ok (s : St) : Prop := (0 ≤ s.o ∧ s.o ≤ 255) ∧ (0 ≤ s.t ∧ s.t ≤ 255) ∧ (0 ≤ s.i ∧ s.i ≤ 255)

abbrev sX : ByteArray := ⟨#[120]⟩
abbrev sY : ByteArray := ⟨#[121]⟩
abbrev sZ : ByteArray := ⟨#[122]⟩
abbrev kR : ByteArray := ⟨#[114]⟩
abbrev kW : ByteArray := ⟨#[119]⟩
abbrev kC : ByteArray := ⟨#[99]⟩
abbrev kA : ByteArray := ⟨#[97]⟩
abbrev kRl : ByteArray := ⟨#[114, 108]⟩
abbrev kWl : ByteArray := ⟨#[119, 108]⟩
abbrev kL : ByteArray := ⟨#[108]⟩
abbrev kU : ByteArray := ⟨#[117]⟩

def itemS (z : Int) : ByteArray := if z % 3 = 0 then sX else if z % 3 = 1 then sY else sZ
def acOf (s : St) : Ac :=
  if s.o % 8 = 0 ∨ s.o % 8 = 1 then ⟨kR, s.t % 4 + 1, itemS s.i⟩
  else if s.o % 8 = 2 ∨ s.o % 8 = 3 then ⟨kW, s.t % 4 + 1, itemS s.i⟩
  else if s.o % 8 = 4 then ⟨kC, s.t % 4 + 1, ⟨#[]⟩⟩
  else if s.o % 8 = 5 then ⟨kA, s.t % 4 + 1, ⟨#[]⟩⟩
  else if s.o % 8 = 6 then ⟨kRl, s.t % 4 + 1, itemS s.i⟩
  else ⟨kU, s.t % 4 + 1, itemS s.i⟩

abbrev Z34 : Obj := .cells #[.string ⟨#[]⟩, .int .i64 0, .string ⟨#[]⟩] 34
abbrev Z42 : Obj := .cells #[.int .u8 0, .int .u8 0, .int .u8 0] 42

theorem take_map_succ {sts : List St} {k : Nat} (hk : k < sts.length) {st : St} (hst : sts.getD k ⟨0, 0, 0⟩ = st) : (sts.take (k + 1)).map acOf = (sts.take k).map acOf ++ [acOf st] := by
  rw [List.take_succ_eq_append_getElem hk, List.map_append, ← hst]
  simp [List.getD_eq_getElem?_getD, List.getElem?_eq_getElem hk]

theorem build_round {w wr w1 : World} {v : Value} {k : Nat} {xs : List Value} {o1 o2 o3 : Obj} {cs : Array Value} (hX : wr.heap[w.heap.size]? = some (.cells cs 38 (0, 0))) (hB : Below w.heap.size w wr) (hwl : w.heap.size < wr.heap.size)
    (hO : wr.ownsRow w.heap.size 34 3 v k xs) (hg : (((wr.alloc o1).alloc o2).alloc o3).grownBy w1 v.ownBlock) : Below w.heap.size w w1 ∧ w1.heap[w.heap.size]? = some (.cells cs 38 (0, 0)) := by
  have h1 : Below w.heap.size w (((wr.alloc o1).alloc o2).alloc o3) := ((hB.alloc (by omega) _).alloc (by simp; omega) _).alloc (by simp; omega) _
  have hx : (((wr.alloc o1).alloc o2).alloc o3).heap[w.heap.size]? = some (.cells cs 38 (0, 0)) := (Below.heap_alloc _ _ _ (by simp; omega)).trans ((Below.heap_alloc _ _ _ (by simp; omega)).trans ((Below.heap_alloc _ _ _ hwl).trans hX))
  have hne : v.ownBlock ≠ some w.heap.size := own_apart hO hX (by decide)
  refine ⟨h1.grown hg (by simp; omega) (fun j e => ?_), (hg.block _ (Array.getElem?_eq_some_iff.1 hx).1 (fun e => hne e.symm)).trans hx⟩
  rcases hO.2 with ⟨rfl, _⟩ | ⟨g', cap, cur, rfl, hb, _⟩
  · simp [Value.ownBlock] at e
  · simp [Value.ownBlock] at e; omega

set_option maxRecDepth 100000 in
set_option maxHeartbeats 1000000 in
theorem build_any (w : World) (a : Option Addr) (cap : Nat) (sts : List St) (hn : sts.length ≤ 300) (hs : Els w 3 a sts.length fun i => (sts.getD i ⟨0, 0, 0⟩).cells) (hok : ∀ s ∈ sts, s.Ok) :
    Calls Ybad.prog 6 #[.slice a sts.length cap] w fun e w' => ∃ v, e = .returned v ∧ w'.ownsRow w.heap.size 34 3 v sts.length (rowA (sts.map acOf)) ∧ Below w.heap.size w w' := by
  have HS := hid hs
  have HO := hid hok
  clear hs hok
  go_enter Ybad.func6, Ybad.ntmps6
  go_wp2
  go_loopw [4, 13] (fun v i wr => ∃ k : Nat, k ≤ sts.length ∧ i = .int .i64 k ∧ wr.ownsRow w.heap.size 34 3 v k (rowA ((sts.take k).map acOf)) ∧ Below w.heap.size w wr ∧ wr.heap[w.heap.size]? = some (.cells #[.string sX, .string sY, .string sZ] 38 (0, 0))) (fun v i _ => sts.length - (intOf i).toNat)
  case atStart => exact ⟨0, Nat.zero_le _, rfl, World.ownsRow_nil _ _ _ _, (Below.refl _ w).alloc (Nat.le_refl _) _, heap_alloc_new w _⟩
  case round =>
    obtain ⟨k, hk, rfl, hown, hbel, hbx⟩ := hrel
    have hO := hid hown
    have hB := hid hbel
    have hX := hid hbx
    clear hown hbel hbx
    by_cases hlt : k < sts.length
    · have hki : (k : Int) < (sts.length : Int) := by omega
      obtain ⟨b, off, rfl, hbl, hrg⟩ := HS.out k hlt
      have hrg' : wr.rangeAt b (off + k * 3) (sts.getD k ⟨0, 0, 0⟩).cells := rangeAt_below hrg hB.out hbl
      obtain ⟨st, hst⟩ : ∃ st, sts.getD k ⟨0, 0, 0⟩ = st := ⟨_, rfl⟩
      have hmem : st ∈ sts := by rw [← hst]; simp [List.getD_eq_getElem?_getD, List.getElem?_eq_getElem hlt]
      obtain ⟨⟨o0, o1⟩, ⟨t0, t1⟩, ⟨i0, i1⟩⟩ := HO.out st hmem
      rw [hst] at hrg'
      have c0 : wr.cell? ⟨b, off + k * 3, none⟩ = some (.int .u8 st.o) := hrg' 0 _ rfl
      have c1 : wr.cell? ⟨b, off + k * 3 + 1, none⟩ = some (.int .u8 st.t) := hrg' 1 _ rfl
      have c2 : wr.cell? ⟨b, off + k * 3 + 2, none⟩ = some (.int .u8 st.i) := hrg' 2 _ rfl
      clear hrg hrg'
      have hwl : w.heap.size < wr.heap.size := (Array.getElem?_eq_some_iff.1 hX.out).1
      have hbl' : b < wr.heap.size := by omega
      have cI : (wr.alloc (.cells #[.int .u8 st.o, .int .u8 st.t, .int .u8 st.i] 42)).cell? ⟨w.heap.size, (st.i % 3).toNat, none⟩ = some (.string (itemS st.i)) := by
        rw [cell_of_row _ _ _ _ _ _ ((Below.heap_alloc _ _ _ hwl).trans hX.out)]
        unfold itemS
        rcases (show st.i % 3 = 0 ∨ st.i % 3 = 1 ∨ st.i % 3 = 2 from by omega) with e | e | e <;> rw [e] <;> rfl
      rcases (show st.o % 8 = 0 ∨ st.o % 8 = 1 ∨ st.o % 8 = 2 ∨ st.o % 8 = 3 ∨ st.o % 8 = 4 ∨ st.o % 8 = 5 ∨ st.o % 8 = 6 ∨ st.o % 8 = 7 from by omega) with ho | ho | ho | ho | ho | ho | ho | ho
      · have hac := hid (show acOf st = ⟨kR, st.t % 4 + 1, itemS st.i⟩ from by unfold acOf; simp [ho])
        go_wp2_with (first
          | ((with_reducible refine bs34 (t := 59) ⟨kR, st.t % 4 + 1, itemS st.i⟩ ?_ ?_); (exact rfl))
          | ((with_reducible refine apK Ybad.E24 (t := 58) (u := 60) w.heap.size u4 k (rowA ((sts.take k).map acOf)) (Ac.cells ⟨kR, st.t % 4 + 1, itemS st.i⟩) ((wr.alloc (.cells #[.int .u8 st.o, .int .u8 st.t, .int .u8 st.i] 42)).alloc (.cells #[.string kR, .int .i64 (st.t % 4 + 1), .string (itemS st.i)] 34)).heap.size ?_ ?_ ?_ ?_ ?_ ?_ ?_ ?_ ?_); (exact rfl); (exact rfl); (exact ((hO.out.alloc _).alloc _).alloc _); (exact heap_alloc_new _ _); (exact rfl); (exact Ac.one _); omega; (simp; omega); (intro g1 cap1 w1 hown1 hgrow1 _ _); (have H1 := hid (build_round hX.out hB.out hwl hO.out hgrow1)); (have O1 := hid hown1); clear hown1 hgrow1))
        go_roundw
        case rel => exact ⟨k + 1, by omega, by go_num, by rw [take_map_succ hlt hst, hac.out, rowA_append]; exact O1.out, H1.out.1, H1.out.2⟩
        case measure => simp [intOf]; omega
      · have hac := hid (show acOf st = ⟨kR, st.t % 4 + 1, itemS st.i⟩ from by unfold acOf; simp [ho])
        go_wp2_with (first
          | ((with_reducible refine bs34 (t := 59) ⟨kR, st.t % 4 + 1, itemS st.i⟩ ?_ ?_); (exact rfl))
          | ((with_reducible refine apK Ybad.E24 (t := 58) (u := 60) w.heap.size u4 k (rowA ((sts.take k).map acOf)) (Ac.cells ⟨kR, st.t % 4 + 1, itemS st.i⟩) ((wr.alloc (.cells #[.int .u8 st.o, .int .u8 st.t, .int .u8 st.i] 42)).alloc (.cells #[.string kR, .int .i64 (st.t % 4 + 1), .string (itemS st.i)] 34)).heap.size ?_ ?_ ?_ ?_ ?_ ?_ ?_ ?_ ?_); (exact rfl); (exact rfl); (exact ((hO.out.alloc _).alloc _).alloc _); (exact heap_alloc_new _ _); (exact rfl); (exact Ac.one _); omega; (simp; omega); (intro g1 cap1 w1 hown1 hgrow1 _ _); (have H1 := hid (build_round hX.out hB.out hwl hO.out hgrow1)); (have O1 := hid hown1); clear hown1 hgrow1))
        go_roundw
        case rel => exact ⟨k + 1, by omega, by go_num, by rw [take_map_succ hlt hst, hac.out, rowA_append]; exact O1.out, H1.out.1, H1.out.2⟩
        case measure => simp [intOf]; omega
      · have hac := hid (show acOf st = ⟨kW, st.t % 4 + 1, itemS st.i⟩ from by unfold acOf; simp [ho])
        go_wp2_with (first
          | ((with_reducible refine bs34 (t := 59) ⟨kW, st.t % 4 + 1, itemS st.i⟩ ?_ ?_); (exact rfl))
          | ((with_reducible refine apK Ybad.E24 (t := 58) (u := 60) w.heap.size u4 k (rowA ((sts.take k).map acOf)) (Ac.cells ⟨kW, st.t % 4 + 1, itemS st.i⟩) ((wr.alloc (.cells #[.int .u8 st.o, .int .u8 st.t, .int .u8 st.i] 42)).alloc (.cells #[.string kW, .int .i64 (st.t % 4 + 1), .string (itemS st.i)] 34)).heap.size ?_ ?_ ?_ ?_ ?_ ?_ ?_ ?_ ?_); (exact rfl); (exact rfl); (exact ((hO.out.alloc _).alloc _).alloc _); (exact heap_alloc_new _ _); (exact rfl); (exact Ac.one _); omega; (simp; omega); (intro g1 cap1 w1 hown1 hgrow1 _ _); (have H1 := hid (build_round hX.out hB.out hwl hO.out hgrow1)); (have O1 := hid hown1); clear hown1 hgrow1))
        go_roundw
        case rel => exact ⟨k + 1, by omega, by go_num, by rw [take_map_succ hlt hst, hac.out, rowA_append]; exact O1.out, H1.out.1, H1.out.2⟩
        case measure => simp [intOf]; omega
      · have hac := hid (show acOf st = ⟨kW, st.t % 4 + 1, itemS st.i⟩ from by unfold acOf; simp [ho])
        go_wp2_with (first
          | ((with_reducible refine bs34 (t := 59) ⟨kW, st.t % 4 + 1, itemS st.i⟩ ?_ ?_); (exact rfl))
          | ((with_reducible refine apK Ybad.E24 (t := 58) (u := 60) w.heap.size u4 k (rowA ((sts.take k).map acOf)) (Ac.cells ⟨kW, st.t % 4 + 1, itemS st.i⟩) ((wr.alloc (.cells #[.int .u8 st.o, .int .u8 st.t, .int .u8 st.i] 42)).alloc (.cells #[.string kW, .int .i64 (st.t % 4 + 1), .string (itemS st.i)] 34)).heap.size ?_ ?_ ?_ ?_ ?_ ?_ ?_ ?_ ?_); (exact rfl); (exact rfl); (exact ((hO.out.alloc _).alloc _).alloc _); (exact heap_alloc_new _ _); (exact rfl); (exact Ac.one _); omega; (simp; omega); (intro g1 cap1 w1 hown1 hgrow1 _ _); (have H1 := hid (build_round hX.out hB.out hwl hO.out hgrow1)); (have O1 := hid hown1); clear hown1 hgrow1))
        go_roundw
        case rel => exact ⟨k + 1, by omega, by go_num, by rw [take_map_succ hlt hst, hac.out, rowA_append]; exact O1.out, H1.out.1, H1.out.2⟩
        case measure => simp [intOf]; omega
      · have hac := hid (show acOf st = ⟨kC, st.t % 4 + 1, ⟨#[]⟩⟩ from by unfold acOf; simp [ho])
        go_wp2_with (first
          | ((with_reducible refine bs34 (t := 59) ⟨kC, st.t % 4 + 1, ⟨#[]⟩⟩ ?_ ?_); (exact rfl))
          | ((with_reducible refine apK Ybad.E24 (t := 58) (u := 60) w.heap.size u4 k (rowA ((sts.take k).map acOf)) (Ac.cells ⟨kC, st.t % 4 + 1, ⟨#[]⟩⟩) ((wr.alloc (.cells #[.int .u8 st.o, .int .u8 st.t, .int .u8 st.i] 42)).alloc (.cells #[.string kC, .int .i64 (st.t % 4 + 1), .string ⟨#[]⟩] 34)).heap.size ?_ ?_ ?_ ?_ ?_ ?_ ?_ ?_ ?_); (exact rfl); (exact rfl); (exact ((hO.out.alloc _).alloc _).alloc _); (exact heap_alloc_new _ _); (exact rfl); (exact Ac.one _); omega; (simp; omega); (intro g1 cap1 w1 hown1 hgrow1 _ _); (have H1 := hid (build_round hX.out hB.out hwl hO.out hgrow1)); (have O1 := hid hown1); clear hown1 hgrow1))
        go_roundw
        case rel => exact ⟨k + 1, by omega, by go_num, by rw [take_map_succ hlt hst, hac.out, rowA_append]; exact O1.out, H1.out.1, H1.out.2⟩
        case measure => simp [intOf]; omega
      · have hac := hid (show acOf st = ⟨kA, st.t % 4 + 1, ⟨#[]⟩⟩ from by unfold acOf; simp [ho])
        go_wp2_with (first
          | ((with_reducible refine bs34 (t := 59) ⟨kA, st.t % 4 + 1, ⟨#[]⟩⟩ ?_ ?_); (exact rfl))
          | ((with_reducible refine apK Ybad.E24 (t := 58) (u := 60) w.heap.size u4 k (rowA ((sts.take k).map acOf)) (Ac.cells ⟨kA, st.t % 4 + 1, ⟨#[]⟩⟩) ((wr.alloc (.cells #[.int .u8 st.o, .int .u8 st.t, .int .u8 st.i] 42)).alloc (.cells #[.string kA, .int .i64 (st.t % 4 + 1), .string ⟨#[]⟩] 34)).heap.size ?_ ?_ ?_ ?_ ?_ ?_ ?_ ?_ ?_); (exact rfl); (exact rfl); (exact ((hO.out.alloc _).alloc _).alloc _); (exact heap_alloc_new _ _); (exact rfl); (exact Ac.one _); omega; (simp; omega); (intro g1 cap1 w1 hown1 hgrow1 _ _); (have H1 := hid (build_round hX.out hB.out hwl hO.out hgrow1)); (have O1 := hid hown1); clear hown1 hgrow1))
        go_roundw
        case rel => exact ⟨k + 1, by omega, by go_num, by rw [take_map_succ hlt hst, hac.out, rowA_append]; exact O1.out, H1.out.1, H1.out.2⟩
        case measure => simp [intOf]; omega
      · have hac := hid (show acOf st = ⟨kRl, st.t % 4 + 1, itemS st.i⟩ from by unfold acOf; simp [ho])
        go_wp2_with (first
          | ((with_reducible refine bs34 (t := 59) ⟨kRl, st.t % 4 + 1, itemS st.i⟩ ?_ ?_); (exact rfl))
          | ((with_reducible refine apK Ybad.E24 (t := 58) (u := 60) w.heap.size u4 k (rowA ((sts.take k).map acOf)) (Ac.cells ⟨kRl, st.t % 4 + 1, itemS st.i⟩) ((wr.alloc (.cells #[.int .u8 st.o, .int .u8 st.t, .int .u8 st.i] 42)).alloc (.cells #[.string kRl, .int .i64 (st.t % 4 + 1), .string (itemS st.i)] 34)).heap.size ?_ ?_ ?_ ?_ ?_ ?_ ?_ ?_ ?_); (exact rfl); (exact rfl); (exact ((hO.out.alloc _).alloc _).alloc _); (exact heap_alloc_new _ _); (exact rfl); (exact Ac.one _); omega; (simp; omega); (intro g1 cap1 w1 hown1 hgrow1 _ _); (have H1 := hid (build_round hX.out hB.out hwl hO.out hgrow1)); (have O1 := hid hown1); clear hown1 hgrow1))
        go_roundw
        case rel => exact ⟨k + 1, by omega, by go_num, by rw [take_map_succ hlt hst, hac.out, rowA_append]; exact O1.out, H1.out.1, H1.out.2⟩
        case measure => simp [intOf]; omega
      · have hac := hid (show acOf st = ⟨kU, st.t % 4 + 1, itemS st.i⟩ from by unfold acOf; simp [ho])
        go_wp2_with (first
          | ((with_reducible refine bs34 (t := 59) ⟨kU, st.t % 4 + 1, itemS st.i⟩ ?_ ?_); (exact rfl))
          | ((with_reducible refine apK Ybad.E24 (t := 58) (u := 60) w.heap.size u4 k (rowA ((sts.take k).map acOf)) (Ac.cells ⟨kU, st.t % 4 + 1, itemS st.i⟩) ((wr.alloc (.cells #[.int .u8 st.o, .int .u8 st.t, .int .u8 st.i] 42)).alloc (.cells #[.string kU, .int .i64 (st.t % 4 + 1), .string (itemS st.i)] 34)).heap.size ?_ ?_ ?_ ?_ ?_ ?_ ?_ ?_ ?_); (exact rfl); (exact rfl); (exact ((hO.out.alloc _).alloc _).alloc _); (exact heap_alloc_new _ _); (exact rfl); (exact Ac.one _); omega; (simp; omega); (intro g1 cap1 w1 hown1 hgrow1 _ _); (have H1 := hid (build_round hX.out hB.out hwl hO.out hgrow1)); (have O1 := hid hown1); clear hown1 hgrow1))
        go_roundw
        case rel => exact ⟨k + 1, by omega, by go_num, by rw [take_map_succ hlt hst, hac.out, rowA_append]; exact O1.out, H1.out.1, H1.out.2⟩
        case measure => simp [intOf]; omega
    · obtain rfl : k = sts.length := by omega
      go_wp2
      go_ret
      exact ⟨_, rfl, by simpa using hO.out, hB.out⟩

end Go.Proofs.YbulkbgasDoor

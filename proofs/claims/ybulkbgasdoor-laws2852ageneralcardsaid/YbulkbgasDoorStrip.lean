import Derived.Test.YbulkbgasDoorBuildA
namespace Go.Proofs.YbulkbgasDoor
open Go.RowKit
set_option linter.unusedVariables false

/-- Is it a lock action? -/
def isLk (k : ByteArray) : Bool := k.toList == [114, 108] || k.toList == [119, 108] || k.toList == [108] || k.toList == [117]

set_option maxHeartbeats 1000000 in
theorem isLock_any (k : ByteArray) (w : World) : Calls Ybad.prog 15 #[.string k] w fun e w' => e = .returned (.bool (isLk k)) ∧ w' = w := by
  have hk : isLk k = (k.toList == [114, 108] || k.toList == [119, 108] || k.toList == [108] || k.toList == [117]) := rfl
  generalize isLk k = r at *
  have HK := hid hk
  clear hk
  go_enter Ybad.func15, Ybad.ntmps15
  go_wp2
  all_goals go_ret
  all_goals refine ⟨?_, rfl⟩
  all_goals have hk := HK.out
  all_goals simp_all

theorem keep_strip {wr w1 : World} {v : Value} {base k : Nat} {xs : List Value} {o1 o2 : Obj} {w : World} (hB : Below base w wr) (hbs : base ≤ wr.heap.size) (hO : wr.ownsRow base 34 3 v k xs) (hg : ((wr.alloc o1).alloc o2).grownBy w1 v.ownBlock) : Below base w w1 := by
  have h1 : Below base w ((wr.alloc o1).alloc o2) := (hB.alloc (by omega) _).alloc (by simp; omega) _
  refine h1.grown hg (by simp; omega) (fun j e => ?_)
  rcases hO.2 with ⟨rfl, _⟩ | ⟨g', cap, cur, rfl, hb, _⟩
  · simp [Value.ownBlock] at e
  · simp [Value.ownBlock] at e; omega

theorem cells_at {W : World} {a : Option Addr} {n : Nat} {l : List Ac} (h : Els W 3 a n fun i => (l.getD i ⟨⟨#[]⟩, 0, ⟨#[]⟩⟩).cells) {k : Nat} (hk : k < n) (hl : k < l.length) :
    ∃ b off, a = some ⟨b, off, none⟩ ∧ b < W.heap.size ∧ W.cell? ⟨b, off + k * 3, none⟩ = some (.string l[k].k) ∧ W.cell? ⟨b, off + k * 3 + 1, none⟩ = some (.int .i64 l[k].t) ∧ W.cell? ⟨b, off + k * 3 + 2, none⟩ = some (.string l[k].it) := by
  obtain ⟨b, off, h1, h2, h3⟩ := h k hk
  have e : l.getD k ⟨⟨#[]⟩, 0, ⟨#[]⟩⟩ = l[k] := by simp [List.getD_eq_getElem?_getD, List.getElem?_eq_getElem hl]
  dsimp only at h3
  rw [e] at h3
  exact ⟨b, off, h1, h2, h3 0 _ rfl, h3 1 _ rfl, h3 2 _ rfl⟩

set_option maxRecDepth 100000 in
set_option maxHeartbeats 1000000 in
theorem strip_any (w : World) (v : Value) (l : List Ac) (hn : l.length ≤ 10000) (hs : SlA w v l) :
    Calls Ybad.prog 10 #[v] w fun e w' => ∃ v', e = .returned v' ∧ w'.ownsRow w.heap.size 34 3 v' (l.filter fun x => !isLk x.k).length (rowA (l.filter fun x => !isLk x.k)) ∧ Below w.heap.size w w' := by
  obtain ⟨a, cap, rfl, hcap, hel⟩ := hs
  have HS := hid hel
  clear hel
  go_enter Ybad.func10, Ybad.ntmps10
  go_wp2
  go_loopw [3, 8] (fun v i wr => ∃ k : Nat, k ≤ l.length ∧ i = .int .i64 k ∧ wr.ownsRow w.heap.size 34 3 v ((l.take k).filter fun x => !isLk x.k).length (rowA ((l.take k).filter fun x => !isLk x.k)) ∧ Below w.heap.size w wr) (fun v i _ => l.length - (intOf i).toNat)
  case atStart => exact ⟨0, Nat.zero_le _, rfl, World.ownsRow_nil _ _ _ _, Below.refl _ _⟩
  case round =>
    obtain ⟨k, hk, rfl, hown, hbel⟩ := hrel
    have hO := hid hown
    have hB := hid hbel
    clear hown hbel
    by_cases hlt : k < l.length
    · have hki : (k : Int) < (l.length : Int) := by omega
      obtain ⟨b, off, rfl, hbl, c0', c1', c2'⟩ := cells_at HS.out hlt hlt
      obtain ⟨c, hc⟩ : ∃ c, l[k] = c := ⟨_, rfl⟩
      rw [hc] at c0' c1' c2'
      have c0 : wr.cell? ⟨b, off + k * 3, none⟩ = some (.string c.k) := (hB.out.cell (p := ⟨b, off + k * 3, none⟩) hbl).trans c0'
      have c1 : wr.cell? ⟨b, off + k * 3 + 1, none⟩ = some (.int .i64 c.t) := (hB.out.cell (p := ⟨b, off + k * 3 + 1, none⟩) hbl).trans c1'
      have c2 : wr.cell? ⟨b, off + k * 3 + 2, none⟩ = some (.string c.it) := (hB.out.cell (p := ⟨b, off + k * 3 + 2, none⟩) hbl).trans c2'
      clear c0' c1' c2'
      have hsz := hB.out.size
      have hfl : ((l.take k).filter fun x => !isLk x.k).length ≤ 10000 := Nat.le_trans (List.length_filter_le _ _) (by simp; omega)
      have htk : (l.take (k + 1)) = l.take k ++ [c] := by rw [List.take_succ_eq_append_getElem hlt, hc]
      have HT := hid htk
      clear htk hc
      obtain ⟨xs, hxs⟩ : ∃ xs, ((l.take k).filter fun x => !isLk x.k) = xs := ⟨_, rfl⟩
      rw [hxs] at hO hfl
      have HX := hid hxs
      clear hxs
      have HI := hid (isLock_any c.k)
      obtain ⟨r, hr⟩ : ∃ r, isLk c.k = r := ⟨_, rfl⟩
      rw [hr] at HI
      have HR := hid hr
      clear hr
      cases r
      · go_wp2_with (first
          | (go_at_call 15; refine Calls.mono (HI.out _) ?_; rintro e w' ⟨rfl, rfl⟩)
          | ((with_reducible refine bs34 (t := 17) c ?_ ?_); (exact rfl))
          | ((with_reducible refine apK Ybad.E24 (t := 16) (u := 18) w.heap.size u3 xs.length (rowA xs) c.cells (wr.alloc (.cells #[.string c.k, .int .i64 c.t, .string c.it] 34)).heap.size ?_ ?_ ?_ ?_ ?_ ?_ ?_ ?_ ?_); (exact rfl); (exact rfl); (exact (hO.out.alloc _).alloc _); (exact heap_alloc_new _ _); (exact rfl); (exact Ac.one _); omega; (simp; omega); (intro g1 cap1 w1 hown1 hgrow1 _ _); (have H1 := hid (keep_strip hB.out hsz hO.out hgrow1)); (have O1 := hid hown1); clear hown1 hgrow1))
        go_roundw
        case rel =>
          refine ⟨k + 1, by omega, by go_num, ?_, H1.out⟩
          have := O1.out
          rw [HT.out, List.filter_append, HX.out, show [c].filter (fun x => !isLk x.k) = [c] from by simp [HR.out], rowA_append, List.length_append]
          simpa [rowA] using this
        case measure => simp [intOf]; omega
      · go_wp2_with (go_at_call 15; refine Calls.mono (HI.out _) ?_; rintro e w' ⟨rfl, rfl⟩)
        go_roundw
        case rel =>
          refine ⟨k + 1, by omega, by go_num, ?_, hB.out.alloc hsz _⟩
          rw [HT.out, List.filter_append, HX.out, show [c].filter (fun x => !isLk x.k) = [] from by simp [HR.out], List.append_nil]
          exact hO.out.alloc _
        case measure => simp [intOf]; omega
    · obtain rfl : k = l.length := by omega
      go_wp2
      go_ret
      exact ⟨_, rfl, by simpa using hO.out, hB.out⟩

end Go.Proofs.YbulkbgasDoor

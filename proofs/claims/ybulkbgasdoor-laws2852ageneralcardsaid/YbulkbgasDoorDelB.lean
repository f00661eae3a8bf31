import Derived.Lib.SliceRun
import Derived.Test.YbulkbgasDoorDelA
namespace Go.Proofs.YbulkbgasDoor
open Go.RowKit
set_option linter.unusedVariables false
set_option linter.unusedSimpArgs false

theorem setCells_grown (b : Nat) : ∀ (vs : List Value) (o : Nat) (w : World), w.grownBy (w.setCells b o vs) (some b)
  | [], _, w => ⟨rfl, rfl, rfl, Nat.le_refl _, fun _ _ _ => rfl⟩
  | v :: r, o, w => by
    have h := setCells_grown b r (o + 1) (w.setCell ⟨b, o, none⟩ v)
    have hz : (w.setCell ⟨b, o, none⟩ v).heap.size = w.heap.size := by simp [World.setCell]
    refine ⟨h.os, h.tape, h.output, by have := h.size; rw [hz] at this; exact this, fun k hk hne => ?_⟩
    show ((w.setCell ⟨b, o, none⟩ v).setCells b (o + 1) r).heap[k]? = _
    rw [h.block k (by simpa [World.setCell] using hk) hne, heap_setCell_other w _ k v (fun e => hne (by rw [e]))]

theorem grown_trans {a b c : World} {row : Option Nat} (h : a.grownBy b row) (k : b.grownBy c row) : a.grownBy c row :=
  ⟨k.os.trans h.os, k.tape.trans h.tape, k.output.trans h.output, Nat.le_trans h.size k.size, fun i hi hne => (k.block i (Nat.lt_of_lt_of_le hi h.size) hne).trans (h.block i hi hne)⟩
theorem grown_alloc {a b : World} {row : Option Nat} (h : a.grownBy b row) (o : Obj) : a.grownBy (b.alloc o) row := grown_trans h (World.grownBy_alloc b o row)

theorem rangeAt_grown {w w' : World} {g b o : Nat} {cs : List Value} (h : w.rangeAt b o cs) (hg : w.grownBy w' (some g)) (hne : b ≠ g) (hb : b < w.heap.size) : w'.rangeAt b o cs := fun j v hv => by
  have := h j v hv
  unfold World.cell? at this ⊢
  rw [hg.block b hb (fun e => hne (by cases e; rfl))]
  exact this
theorem rangeAt_alloc {w : World} {b o : Nat} {cs : List Value} (h : w.rangeAt b o cs) (ob : Obj) (hb : b < w.heap.size) : (w.alloc ob).rangeAt b o cs := fun j v hv => by
  have := h j v hv
  unfold World.cell? at this ⊢
  rw [Below.heap_alloc _ _ _ hb]
  exact this
theorem there_alloc {w : World} {b o n : Nat} (h : w.there b o n) (ob : Obj) (hb : b < w.heap.size) : (w.alloc ob).there b o n := fun j hj => by
  have := h j hj
  unfold World.cell? World.frozen? at this ⊢
  rw [Below.heap_alloc _ _ _ hb]
  exact this
theorem there_part {w : World} {b n : Nat} (h : w.there b 0 n) {o m : Nat} (hle : o + m ≤ n) : w.there b o m := fun j hj => by simpa using h (o + j) (by omega)

set_option maxRecDepth 100000 in
set_option maxHeartbeats 1000000 in
theorem clone_any (w : World) (v : Value) (l : List Ac) (hl : 0 < l.length) (hn : l.length ≤ 10000) (hs : SlA w v l) :
    Calls Ybad.prog 17 #[v] w fun e w' => ∃ g cap, e = .returned (.slice (some ⟨g, 0, none⟩) l.length cap) ∧ w'.ownsRow w.heap.size 34 3 (.slice (some ⟨g, 0, none⟩) l.length cap) l.length (rowA l) ∧ Below w.heap.size w w' := by
  obtain ⟨a, cap, rfl, hcap, hel⟩ := hs
  obtain ⟨b, off, rfl, hbl, _⟩ := hel 0 hl
  have HS := hid (hel.below ((Below.refl _ w).alloc (Nat.le_refl _) (.cells #[] 34)))
  clear hel
  have hown : (w.alloc (.cells #[] 34)).ownsRow w.heap.size 34 3 (.slice (some ⟨w.heap.size, 0, none⟩) 0 0) 0 [] :=
    ⟨rfl, .inr ⟨w.heap.size, 0, #[], rfl, Nat.le_refl _, heap_alloc_new w _, by simp, by simp, by simp, by simp⟩⟩
  have HO := hid hown
  clear hown
  have hnil : ∀ w', (binOp .eql 24 (.slice (some ⟨b, off, none⟩) l.length cap) (.slice none 0 0)).run Ybad.prog w' = .ok (.bool false) w' := fun w' => Lib.run_eql_slice_nil w' 24 34 _ _ _ _ _ Ybad.underlying24
  go_enter Ybad.func17, Ybad.ntmps17
  go_wp2_with (((with_reducible refine apAll (t := 5) (u := 6) w.heap.size (.slice (some ⟨w.heap.size, 0, none⟩) 0 0) ⟨b, off, none⟩ cap l ?_ ?_ ?_ ?_ ?_ ?_ ?_ ?_); (exact rfl); (exact rfl); (exact HO.out); (exact HS.out); (exact hl); omega; (simp); (intro g1 cap1 w1 hown1 hgrow1); (have O1 := hid hown1); (have G1 := hid hgrow1); clear hown1 hgrow1))
  go_ret
  refine ⟨g1, cap1, rfl, O1.out, ?_⟩
  exact ((Below.refl _ w).alloc (Nat.le_refl _) _).grown G1.out (by simp) (fun k e => by simp [Value.ownBlock] at e; omega)

section
variable {ops : Array Oper} {rest : List Oper} {Q : Exit → Act → World → Prop} {a : Act} {w : World} {tt : TypeId} {ps : String} {dst : Option Tmp} {aft : Array Edge}

/-- 's[i] = v' -/
theorem st34m {t u : Tmp} (b o : Nat) (c : Ac) (hx : a.eval (.tmp t) = .pointer (some ⟨b, o, none⟩)) (hy : a.eval (.tmp u) = .agg c.cells.toArray) (ht : w.there b o 3)
    (h : wpList Ybad.prog ops Q rest (a.put dst undef) (w.setCells b o c.cells)) : wpList Ybad.prog ops Q ({ dst := dst, op := .store 34 (.tmp t) (.tmp u), type := tt, pos := ps, after := aft, guard := none } :: rest) a w :=
  wpList_store_mid rfl 34 (.tmp t) (.tmp u) rfl b o c.cells.toArray hx hy ht Ybad.size34 (all_oneCell_toArray c.one) h

theorem zero34 (w : World) : (zeroValue 34).run Ybad.prog w = .ok (.agg #[.string ⟨#[]⟩, .int .i64 0, .string ⟨#[]⟩]) w := Ybad.zeroValue34 w

/-- 'clear(s[i:])' -/
theorem clr34 {t : Tmp} (b o n c : Nat) (hx : a.eval (.tmp t) = .slice (some ⟨b, o, none⟩) n c) (ht : w.there b o (n * 3))
    (h : ∀ vs : List Value, wpList Ybad.prog ops Q rest (a.put dst (.tuple #[])) (w.setCells b o vs)) : wpList Ybad.prog ops Q ({ dst := dst, op := .call { callee := .builtin .clear, args := #[.tmp t], argTypes := #[24] }, type := tt, pos := ps, after := aft, guard := none } :: rest) a w := by
  have hrun : ∃ vs, (Builtin.clear_ #[24] tt #[.slice (some ⟨b, o, none⟩) n c]).run Ybad.prog w = .ok (.tuple #[]) (w.setCells b o vs) := by
    cases n with
    | zero => exact ⟨[], by simp [Builtin.clear_, go_sem, Ybad.underlying24, World.setCells]⟩
    | succ n =>
      refine ⟨(Builtin.zeroCells #[.string ⟨#[]⟩, .int .i64 0, .string ⟨#[]⟩] (n + 1)).toList, ?_⟩
      have hsz : (Builtin.zeroCells #[.string ⟨#[]⟩, .int .i64 0, .string ⟨#[]⟩] (n + 1)).toList.length = (n + 1) * 3 := by simp [Builtin.zeroCells]
      have hst := run_storeCells_cells (P := Ybad.prog) b o (Builtin.zeroCells #[.string ⟨#[]⟩, .int .i64 0, .string ⟨#[]⟩] (n + 1)).toList 0 w (fun j hj => by simpa using (ht j (by omega)).1) (fun j hj => by simpa using (ht j (by omega)).2) (fun v hv => by
        simp only [Builtin.zeroCells, Array.toList_map, List.mem_map] at hv
        obtain ⟨i, _, rfl⟩ := hv
        rcases (show i % 3 = 0 ∨ i % 3 = 1 ∨ i % 3 = 2 from by omega) with e | e | e <;> simp [e, Value.oneCell'])
      rw [Nat.add_zero] at hst
      simp [Builtin.clear_, go_sem, Ybad.underlying24, zero34, Value.cells, hst]
  obtain ⟨vs, hr⟩ := hrun
  refine wpList_plain rfl fun K hK => ?_
  unfold Oper.wp execOp
  simp only [resolve, invoke, builtin, Sem.run_bind, Sem.run_pure, Result.andThen_ok, List.map_toArray, List.map_cons, List.map_nil, hx, hr]
  exact hK _ _ (h vs)
end

/-- What is kept of the first j. -/
abbrev keptA (l : List Ac) : List Ac := l.filter fun x => !isLk x.k

theorem kept_take_le (l : List Ac) (j : Nat) : (keptA (l.take j)).length ≤ j := Nat.le_trans (List.length_filter_le _ _) (by simp; omega)

/-- How it stands in the row while DeleteFunc is at its j-th. -/
structure DelAt (w wr : World) (g n : Nat) (l : List Ac) (j : Nat) : Prop where
  kept : ∀ x (hx : x < (keptA (l.take j)).length), wr.rangeAt g (x * 3) ((keptA (l.take j))[x]).cells
  rest : ∀ x (hx : x < l.length), j ≤ x → wr.rangeAt g (x * 3) l[x].cells
  there : wr.there g 0 (n * 3)
  grown : w.grownBy wr (some g)

theorem DelAt.alloc {w wr : World} {g n : Nat} {l : List Ac} {j : Nat} (h : DelAt w wr g n l j) (hg : g < wr.heap.size) (o : Obj) : DelAt w (wr.alloc o) g n l j :=
  ⟨fun x hx => rangeAt_alloc (h.kept x hx) o hg, fun x hx hj => rangeAt_alloc (h.rest x hx hj) o hg, there_alloc h.there o hg, grown_alloc h.grown o⟩

theorem DelAt.skip {w wr : World} {g n : Nat} {l : List Ac} {j : Nat} (h : DelAt w wr g n l j) (hj : j < l.length) (hl : isLk l[j].k = true) : DelAt w wr g n l (j + 1) ∧ (keptA (l.take (j + 1))).length = (keptA (l.take j)).length := by
  have e : keptA (l.take (j + 1)) = keptA (l.take j) := by
    unfold keptA
    rw [List.take_succ_eq_append_getElem hj, List.filter_append]
    simp [hl]
  refine ⟨⟨fun x hx => ?_, fun x hx hjx => h.rest x hx (by omega), h.there, h.grown⟩, by rw [e]⟩
  have hx' : x < (keptA (l.take j)).length := by rw [← e]; exact hx
  have := h.kept x hx'
  simp only [e]; exact this

theorem DelAt.put {w wr : World} {g : Nat} {l : List Ac} {j : Nat} (h : DelAt w wr g l.length l j) (hj : j < l.length) (hl : isLk l[j].k = false) :
    DelAt w (wr.setCells g ((keptA (l.take j)).length * 3) l[j].cells) g l.length l (j + 1) ∧ (keptA (l.take (j + 1))).length = (keptA (l.take j)).length + 1 := by
  have e : keptA (l.take (j + 1)) = keptA (l.take j) ++ [l[j]] := by
    unfold keptA
    rw [List.take_succ_eq_append_getElem hj, List.filter_append]
    simp [hl]
  have hle := kept_take_le l j
  refine ⟨⟨fun x hx => ?_, fun x hx hjx => ?_, World.there_setCells h.there _ _ _, grown_trans h.grown (setCells_grown _ _ _ _)⟩, by rw [e]; simp⟩
  · have hx2 : x < (keptA (l.take j)).length + 1 := by have := hx; rw [e] at this; simpa using this
    rcases Nat.lt_or_ge x (keptA (l.take j)).length with h1 | h1
    · have := World.rangeAt_setCells_apart (h.kept x h1) g ((keptA (l.take j)).length * 3) l[j].cells (.inr (.inl (by show x * 3 + 3 ≤ _; omega)))
      simp only [e, List.getElem_append_left h1]; exact this
    · obtain rfl : x = (keptA (l.take j)).length := by omega
      have := World.rangeAt_setCells_same wr g ((keptA (l.take j)).length * 3) l[j].cells (there_part h.there (by show _ + 3 ≤ _; omega))
      simp only [e]
      rw [List.getElem_append_right (Nat.le_refl _)]
      simpa using this
  · exact World.rangeAt_setCells_apart (h.rest x hx (by omega)) g _ _ (.inr (.inr (by show _ + 3 ≤ _; omega)))

set_option maxRecDepth 100000 in
set_option maxHeartbeats 1000000 in
theorem del_any (w : World) (g cap : Nat) (l : List Ac) (hcap : l.length ≤ cap) (hn : l.length ≤ 10000) (hlk : 0 ≤ idxLk l) (hg : g < w.heap.size) (hr : ∀ x (hx : x < l.length), w.rangeAt g (x * 3) l[x].cells) (ht : w.there g 0 (l.length * 3)) :
    Calls Ybad.prog 16 #[.slice (some ⟨g, 0, none⟩) l.length cap, .func (.func 18) #[] #[]] w fun e w' => e = .returned (.slice (some ⟨g, 0, none⟩) (keptA l).length cap) ∧ (∀ x (hx : x < (keptA l).length), w'.rangeAt g (x * 3) (keptA l)[x].cells) ∧ w.grownBy w' (some g) := by
  have hsl : SlA w (.slice (some ⟨g, 0, none⟩) l.length cap) l := ⟨_, cap, rfl, hcap, fun i hi => ⟨g, 0, rfl, hg, by
    have := hr i hi
    simpa [List.getD_eq_getElem?_getD, List.getElem?_eq_getElem hi] using this⟩⟩
  have HI := hid (index_18 w _ l hn hsl)
  obtain ⟨i0, hi0, hlt0, hl0, hbefore⟩ : ∃ i0 : Nat, idxLk l = (i0 : Int) ∧ ∃ h : i0 < l.length, isLk l[i0].k = true ∧ ∀ j (hj : j < i0), isLk (l[j]'(by omega)).k = false := by
    unfold idxLk at hlk ⊢
    split at hlk
    · rename_i k hk
      rw [List.findIdx?_eq_some_iff_getElem] at hk
      obtain ⟨h1, h2, h3⟩ := hk
      exact ⟨k, rfl, h1, h2, fun j hj => by simpa using h3 j hj⟩
    · omega
  rw [hi0] at HI
  have hkeep : keptA (l.take i0) = l.take i0 := by
    unfold keptA
    rw [List.filter_eq_self]
    intro a ha
    obtain ⟨j, hj, rfl⟩ := List.getElem_of_mem ha
    have hj' : j < i0 := by simp at hj; omega
    simpa using hbefore j hj'
  have hlen0 : (keptA (l.take i0)).length = i0 := by rw [hkeep]; simp; omega
  have hD0 : DelAt w w g l.length l i0 := ⟨fun x hx => by
    have hx' : x < l.length := by rw [hlen0] at hx; omega
    have := hr x hx'
    simp only [hkeep, List.getElem_take]; exact this, fun x hx _ => hr x hx, ht, ⟨rfl, rfl, rfl, Nat.le_refl _, fun _ _ _ => rfl⟩⟩
  obtain ⟨hD1, hlen1⟩ := hD0.skip hlt0 hl0
  have HD1 := hid hD1
  have HL1 := hid (hlen1.trans hlen0)
  clear hD0 hD1 hlen1 hlen0 hkeep hbefore hr ht hsl hl0 hi0 hlk
  have hi0i : ¬ (i0 : Int) = -1 := by omega
  go_enter Ybad.func16, Ybad.ntmps16
  go_wp2_with fail
  refine Calls.mono HI.out ?_
  clear HI
  rintro e w1 ⟨rfl, hb1⟩
  have hgr1 : w.grownBy w1 (some g) := ⟨hb1.os, hb1.tape, hb1.output, hb1.size, fun k hk _ => hb1.block k hk⟩
  have hsz1 := hb1.size
  have HD2 := hid (show DelAt w w1 g l.length l (i0 + 1) from ⟨fun x hx => rangeAt_below (HD1.out.kept x hx) hb1 hg, fun x hx hj => rangeAt_below (HD1.out.rest x hx hj) hb1 hg, fun j hj => by
    have := HD1.out.there j hj
    unfold World.cell? World.frozen? at this ⊢
    rw [hb1.block g hg]; exact this, hgr1⟩)
  clear HD1 hb1 hgr1
  go_wp2_with fail
  rw [show ((i0 : Int) == -1) = false from by simp]
  go_loopw [5, 6] (fun i j wr => ∃ n : Nat, n ≤ l.length ∧ j = .int .i64 n ∧ i = .int .i64 (keptA (l.take n)).length ∧ (keptA (l.take n)).length < n ∧ DelAt w wr g l.length l n) (fun i j _ => l.length - (intOf j).toNat)
  case atStart => exact ⟨i0 + 1, by omega, by go_num, by rw [HL1.out], by rw [HL1.out]; omega, HD2.out⟩
  case round =>
    obtain ⟨n, hnn, rfl, rfl, hkn, hD⟩ := hrel
    have HD := hid hD
    have hgw : g < wr.heap.size := Nat.lt_of_lt_of_le hg hD.grown.size
    have hkl := kept_take_le l n
    obtain ⟨kl, hkl'⟩ : ∃ kl, (keptA (l.take n)).length = kl := ⟨_, rfl⟩
    have HKL := hid hkl'
    rw [hkl'] at hkl hkn ⊢
    clear hD hkl'
    by_cases hlt : n < l.length
    · have hki : (n : Int) < (l.length : Int) := by omega
      have hrg := HD.out.rest n hlt (Nat.le_refl _)
      obtain ⟨c, hc⟩ : ∃ c, l[n] = c := ⟨_, rfl⟩
      rw [hc] at hrg
      have c0 : wr.cell? ⟨g, n * 3, none⟩ = some (.string c.k) := hrg 0 _ rfl
      have c1 : wr.cell? ⟨g, n * 3 + 1, none⟩ = some (.int .i64 c.t) := hrg 1 _ rfl
      have c2 : wr.cell? ⟨g, n * 3 + 2, none⟩ = some (.string c.it) := hrg 2 _ rfl
      have HP := hid (pred_any 18 (.inr rfl) c)
      obtain ⟨r, hr⟩ : ∃ r, isLk c.k = r := ⟨_, rfl⟩
      rw [hr] at HP
      have HR := hid hr
      have HC := hid hc
      clear hr hc hrg
      cases r
      · go_wp2_with (first
          | (go_at_call 18; refine Calls.mono (HP.out _) ?_; rintro e w' ⟨rfl, rfl⟩)
          | ((with_reducible refine st34m (t := 33) (u := 32) g (kl * 3) c ?_ ?_ ?_ ?_); (exact rfl); (exact rfl); (exact there_part (there_alloc (there_alloc HD.out.there _ hgw) _ (by simp; omega)) (by omega))))
        go_roundw
        case rel =>
          have h1 := ((HD.out.alloc hgw (.cells #[.string c.k, .int .i64 c.t, .string c.it] 34)).alloc (by simp; omega) (.cells c.cells.toArray 34)).put hlt (by rw [HC.out]; exact HR.out)
          rw [HC.out, HKL.out] at h1
          exact ⟨n + 1, by omega, by go_num, by rw [h1.2]; go_num, by rw [h1.2]; omega, h1.1⟩
        case measure => simp [intOf]; omega
      · go_wp2_with (go_at_call 18; refine Calls.mono (HP.out _) ?_; rintro e w' ⟨rfl, rfl⟩)
        go_roundw
        case rel =>
          have h1 := ((HD.out.alloc hgw (.cells #[.string c.k, .int .i64 c.t, .string c.it] 34)).alloc (by simp; omega) (.cells c.cells.toArray 34)).skip hlt (by rw [HC.out]; exact HR.out)
          exact ⟨n + 1, by omega, by go_num, by rw [h1.2, HKL.out], by rw [h1.2, HKL.out]; omega, h1.1⟩
        case measure => simp [intOf]; omega
    · obtain rfl : n = l.length := by omega
      have hke : keptA (l.take l.length) = keptA l := by rw [List.take_length]
      have hkc : (kl : Int) ≤ (l.length : Int) := by omega
      have hkc2 : (kl : Int) ≤ (cap : Int) := by omega
      have hkc4 : ¬ (cap : Int) = (kl : Int) := by omega
      go_wp2_with ((with_reducible refine clr34 (t := 38) g (kl * 3) (l.length - kl) (cap - kl) ?_ ?_ ?_); (exact rfl); (exact there_part HD.out.there (by omega)); (intro vs))
      go_ret
      have hkl2 : (keptA l).length = kl := by rw [← hke]; exact HKL.out
      refine ⟨by rw [hkl2]; rfl, fun x hx => ?_, grown_trans HD.out.grown (setCells_grown _ _ _ _)⟩
      have hx' : x < kl := by rw [← hkl2]; exact hx
      have h1 := World.rangeAt_setCells_apart (HD.out.kept x (by rw [HKL.out]; exact hx')) g (kl * 3) vs (.inr (.inl (by show x * 3 + 3 ≤ _; omega)))
      simp only [hke] at h1
      exact h1

end Go.Proofs.YbulkbgasDoor

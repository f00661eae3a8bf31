import Derived.Test.YbulkbgasDoorSp2
namespace Go.Proofs.YbulkbgasDoor
open Go.RowKit Go.Maps
set_option linter.unusedVariables false

theorem Ybad.size57 : (Ybad.prog.info? 57).map (·.size) = some 3 := by kernel_rfl

theorem acc_at {W : World} {a : Option Addr} {n : Nat} {l : List Acc} (h : Els W 4 a n fun i => (l.getD i a0).cells) {k : Nat} (hk : k < n) (hl : k < l.length) :
    ∃ b off, a = some ⟨b, off, none⟩ ∧ b < W.heap.size ∧ W.cell? ⟨b, off + k * 4, none⟩ = some (.int .i64 (l[k].x : Int)) ∧ W.cell? ⟨b, off + k * 4 + 1, none⟩ = some (.int .i64 (l[k].i : Int)) ∧ W.cell? ⟨b, off + k * 4 + 2, none⟩ = some (.int .i64 (l[k].p : Int)) ∧ W.cell? ⟨b, off + k * 4 + 3, none⟩ = some (.bool l[k].w) := by
  obtain ⟨b, off, h1, h2, h3⟩ := h k hk
  have e : l.getD k a0 = l[k] := by simp [List.getD_eq_getElem?_getD, List.getElem?_eq_getElem hl]
  dsimp only at h3
  rw [e] at h3
  exact ⟨b, off, h1, h2, h3 0 _ rfl, h3 1 _ rfl, h3 2 _ rfl, h3 3 _ rfl⟩

theorem modify_set {α : Type} {l : List α} {k : Nat} (hk : k < l.length) {f : α → α} : l.modify k f = l.set k (f l[k]) := by
  apply List.ext_getElem?
  intro j
  simp only [List.getElem?_modify, List.getElem?_set]
  by_cases e : k = j
  · subst e; simp [hk]
  · simp [e]
theorem spF_length_le (A : List Acc) : (spF A).length ≤ A.length := by
  suffices ∀ (A : List Acc) (S : List Sp), (A.foldl spStep S).length ≤ S.length + A.length by have := this A []; simpa [spF] using this
  intro A
  induction A with
  | nil => intro S; simp
  | cons a A ih =>
    intro S
    rw [List.foldl_cons]
    have h1 := ih (spStep S a)
    have h2 : (spStep S a).length ≤ S.length + 1 := by unfold spStep; split <;> simp
    simp only [List.length_cons]; omega

section
variable {ops : Array Oper} {rest : List Oper} {Q : Exit → Act → World → Prop} {a : Act} {w : World} {tt : TypeId} {ps : String} {dst : Option Tmp} {aft : Array Edge}
theorem st57r {t u : Tmp} (g : Nat) (cells : Array Value) (hx : a.eval (.tmp t) = .pointer (some ⟨g, 0, none⟩)) (hy : a.eval (.tmp u) = .agg cells) (hg : w.heap[g]? = some Z57) (hs : cells.size = 3) (h1 : cells.all (·.oneCell') = true)
    (h : wpList Ybad.prog ops Q rest (a.put dst undef) (w.setRow g cells)) : wpList Ybad.prog ops Q ({ dst := dst, op := .store 57 (.tmp t) (.tmp u), type := tt, pos := ps, after := aft, guard := none } :: rest) a w :=
  wpList_store_row rfl 57 (.tmp t) (.tmp u) rfl g cells hx hy 57 _ hg (by rw [Ybad.size57, hs]) (by rw [hs]; rfl) h1 h
end

/-- The spans' numbers. -/
noncomputable def ofs (A : List Acc) : List Int := A.map fun a => (ix (keysF A) a.key : Int)

/-- The world where accessSpans' loop begins. -/
abbrev W4 (w : World) (n : Nat) : World := (((w.alloc Z57).alloc (.cells (rowF n (fun _ => .int .i64 0)) 3)).alloc (.map #[] 0)).alloc (.cells #[.slice none 0 0, .slice (some ⟨w.heap.size + 1, 0, none⟩) n n, .map (some (w.heap.size + 1 + 1))] 57)

theorem w4_below (w : World) (n : Nat) : Below w.heap.size w (W4 w n) := ((((Below.refl _ w).alloc (Nat.le_refl _) _).alloc (by simp) _).alloc (by simp only [World.size_alloc]; omega) _).alloc (by simp only [World.size_alloc]; omega) _
theorem w4_st (w : World) (A : List Acc) : SpSt w (W4 w A.length) A 0 0 [] (.slice none 0 0) := by
  have h98 := MapF.made F98 ((w.alloc Z57).alloc (.cells (rowF A.length (fun _ => .int .i64 0)) 3)) (plainElem Ybad.prog 3)
  simp only [World.size_alloc] at h98
  have e9 : (fun i => ((loc (([] : List Sp).map Sp.key) i).map fun c => (DataW.lit (.int .i64 c) : DataW Unit))) = fun _ => none := by funext i; rw [loc_not (by simp)]; rfl
  refine ⟨?_, ?_, ?_, alloc_at (by simp only [World.size_alloc]), World.ownsRow_nil _ _ _ _, w4_below w _⟩
  · exact (Below.heap_alloc _ _ _ (by simp only [World.size_alloc]; omega)).trans ((Below.heap_alloc _ _ _ (by simp only [World.size_alloc]; omega)).trans ((Below.heap_alloc _ _ _ (by simp)).trans (heap_alloc_new w _)))
  · have h1 : Fix ((w.alloc Z57).alloc (.cells (rowF A.length (fun _ => .int .i64 0)) 3)) (w.heap.size + 1) 3 A.length (fun _ => .int .i64 0) := alloc_at (by simp)
    exact (((h1.alloc _).alloc _)).congr fun i _ => by unfold ofN; rw [if_neg (by omega)]
  · unfold MapI; rw [e9]; exact MapF.alloc h98 _

set_option maxRecDepth 100000 in
set_option maxHeartbeats 2000000 in
theorem spans_any (w : World) (Bc : Nat) (vt vi va : Value) (A : List Acc) (hn : A.length ≤ 10000) (hB : Bc < w.heap.size) (hbx : w.heap[Bc]? = some (.cells #[vt, vi, va] 63 (0, 0))) (hs : SlX w va A) (hsm : ∀ a ∈ A, a.x ≤ 1000 ∧ a.i ≤ 100000 ∧ a.p ≤ 100000) :
    Calls Ybad.prog 22 #[.pointer (some ⟨Bc, 0, none⟩)] w fun e w' => ∃ vl, e = .returned (.agg #[vl, .slice (some ⟨w.heap.size + 1, 0, none⟩) A.length A.length, .map (some (w.heap.size + 2))]) ∧ SlS w' vl (spF A) ∧ Fix w' (w.heap.size + 1) 3 A.length (ofN A A.length) ∧ MapI F98 w' (w.heap.size + 2) A.length (keysF A).length (loc (keysF A)) ∧ Below w.heap.size w w' := by
  obtain ⟨a, cap, rfl, hcap, hel⟩ := hs
  have HS := hid hel
  have HM := hid hsm
  have cc2 : ∀ o, (w.alloc o).cell? ⟨Bc, 2, none⟩ = some (.slice a A.length cap) := fun o => by rw [cell_of_row _ _ _ _ _ _ ((Below.heap_alloc _ _ _ hB).trans hbx)]; rfl
  clear hel hsm
  have hmm := @run_makeMap Ybad.prog
  have hmk := fun (W : World) => mkRow1 Ybad.E54 rfl A.length (by omega) W
  go_enter Ybad.func22, Ybad.ntmps22
  have cc4 : (W4 w A.length).cell? ⟨Bc, 2, none⟩ = some (.slice a A.length cap) := ((w4_below w A.length).cell (p := ⟨Bc, 2, none⟩) hB).trans (by rw [cell_of_row _ _ _ _ _ _ hbx]; rfl)
  go_wp2_with fail
  go_loopw [23] (fun i wr => ∃ (q : Nat) (vl : Value), q ≤ A.length ∧ i = .int .i64 q ∧ SpSt w wr A q q (spF (A.take q)) vl) (fun i _ => A.length - (intOf i).toNat)
  case atStart => exact ⟨0, _, Nat.zero_le _, rfl, w4_st w A⟩
  case round =>
    obtain ⟨q, vl, hq, rfl, hst⟩ := hrel
    have ST := hid hst
    have hlt3 := hst.lt
    clear hst
    by_cases hlt : q < A.length
    · have hki : (q : Int) < (A.length : Int) := by omega
      obtain ⟨b, off, rfl, hbl, c0', c1', c2', c3'⟩ := acc_at HS.out hlt hlt
      obtain ⟨c, hc⟩ : ∃ c, A[q] = c := ⟨_, rfl⟩
      have hsm := HM.out c (by rw [← hc]; exact List.getElem_mem _)
      rw [hc] at c0' c1' c2' c3'
      have c0 : wr.cell? ⟨b, off + q * 4, none⟩ = some (.int .i64 (c.x : Int)) := (ST.out.bel.cell (p := ⟨b, off + q * 4, none⟩) hbl).trans c0'
      have c1 : wr.cell? ⟨b, off + q * 4 + 1, none⟩ = some (.int .i64 (c.i : Int)) := (ST.out.bel.cell (p := ⟨b, off + q * 4 + 1, none⟩) hbl).trans c1'
      have c2 : wr.cell? ⟨b, off + q * 4 + 2, none⟩ = some (.int .i64 (c.p : Int)) := (ST.out.bel.cell (p := ⟨b, off + q * 4 + 2, none⟩) hbl).trans c2'
      have c3 : wr.cell? ⟨b, off + q * 4 + 3, none⟩ = some (.bool c.w) := (ST.out.bel.cell (p := ⟨b, off + q * 4 + 3, none⟩) hbl).trans c3'
      clear c0' c1' c2' c3' HM
      have HC := hid hc
      have HSP := hid (show spF (A.take (q + 1)) = spStep (spF (A.take q)) c from by rw [List.take_succ_eq_append_getElem hlt, spF_snoc, hc])
      have HKX := hid (show ix (keysF A) c.key = ix (keysF (A.take (q + 1))) c.key from ix_prefix (keysF_prefix A (q + 1)) (by rw [← hc]; exact key_mem hlt (by omega)))
      clear hc
      obtain ⟨S, hS⟩ : ∃ S, spF (A.take q) = S := ⟨_, rfl⟩
      have hSl : S.length ≤ q := by rw [← hS]; exact Nat.le_trans (spF_length_le _) (by simp; omega)
      rw [hS] at ST HSP
      have HS0 := hid hS
      clear hS
      have S2 := hid ((ST.out.alloc (.cells #[.int .i64 (c.x : Int), .int .i64 (c.i : Int), .int .i64 (c.p : Int), .bool c.w] 100)).alloc (.cells #[.int .i64 (c.i : Int), .int .i64 (c.x : Int)] 98))
      have rb0 := S2.out.b0
      have rb1 := S2.out.b1
      have rb2 := S2.out.b2
      have HV := hid (show F98.V c.key from ⟨by show c.i ≤ _; omega, by show c.x ≤ _; omega⟩)
      obtain ⟨cw, hcw⟩ : ∃ cw, c.w = cw := ⟨_, rfl⟩
      rw [hcw] at c3 S2 rb0 rb1 rb2
      have HCW := hid hcw
      clear hcw
      by_cases hm : c.key ∈ S.map Sp.key
      · have hkl := ix_lt hm
        obtain ⟨k, hk⟩ : ∃ k, ix (S.map Sp.key) c.key = k := ⟨_, rfl⟩
        have hkS : k < S.length := by rw [← hk]; simpa using hkl
        have hl1 : (loc (S.map Sp.key) c.key).getD 0 = (k : Int) := by rw [loc_mem hm, hk]; rfl
        have hl2 : (loc (S.map Sp.key) c.key).isSome = true := by rw [loc_mem hm]; rfl
        have hkk : ix (keysF A) c.key = k := by rw [HKX.out]; unfold keysF; rw [HSP.out, keys_old hm]; exact hk
        have HKK := hid hkk
        have HST := hid (show spStep S c = S.set k { S[k] with w := if c.w = true ∧ S[k].w < 0 then (c.p : Int) else S[k].w, la := c.p } from by
          unfold spStep
          rw [if_pos hm, hk, modify_set hkS])
        have hkeyk : S[k].key = c.key := by have := ix_get hm; simp only [hk] at this; simpa using this
        have HKY := hid hkeyk
        clear hm hk hkk hkl hkeyk
        obtain ⟨g, capg, rfl, _, _⟩ := S2.out.own.form (by omega)
        obtain ⟨sw, hsw⟩ : ∃ sw, S[k].w = sw := ⟨_, rfl⟩
        obtain ⟨d3, f3, d4, f4⟩ := S2.out.at hkS
        rw [hsw] at d3
        have HSW := hid hsw
        clear hsw
        cases cw
        · have T1 := hid (S2.out.setS (j := 4) hkS (by decide) (.int .i64 (c.p : Int)) { S[k] with la := c.p } rfl rfl)
          have rc1 := T1.out.b1
          have ro := T1.out.of.cell hlt
          have rf := T1.out.of.free q
          go_wp2_with ((with_reducible refine mapGetI (F := F98) keyed98 Ybad.underlying55 (tm := 35) (tk := 36) (w.heap.size + 2) q (S.map Sp.key).length (loc (S.map Sp.key)) ?_ ?_ c.key ?_ ?_ ?_); (exact rfl); (exact S2.out.mp); (exact HV.out); (exact rfl))
          go_roundw
          case rel =>
            have T2 := (T1.out.setOf hlt (k := k) (by rw [HC.out]; exact HKK.out)).few (Nat.le_succ q)
            have e : (if false = true ∧ S[k].w < 0 then (c.p : Int) else S[k].w) = S[k].w := by simp
            have heq : spF (A.take (q + 1)) = S.set k { S[k] with la := c.p } := by rw [HSP.out, HST.out, HCW.out, e]
            rw [← heq] at T2
            exact ⟨q + 1, _, by omega, by go_num, T2⟩
          case measure => simp [intOf]; omega
        · by_cases hneg : sw < 0
          · have T0 := hid (S2.out.setS (j := 3) hkS (by decide) (.int .i64 (c.p : Int)) { S[k] with w := (c.p : Int) } rfl rfl)
            have T1 := hid (T0.out.setS (k := k) (j := 4) (by simpa using hkS) (by decide) (.int .i64 (c.p : Int)) { S[k] with w := (c.p : Int), la := c.p } (by simp [Sp.cells]) (by simp [Sp.key]))
            have e4 := T0.out.at (k := k) (by simpa using hkS)
            have d4' := e4.2.2.1
            have f4' := e4.2.2.2
            have rc1 := T1.out.b1
            have ro := T1.out.of.cell hlt
            have rf := T1.out.of.free q
            go_wp2_with ((with_reducible refine mapGetI (F := F98) keyed98 Ybad.underlying55 (tm := 35) (tk := 36) (w.heap.size + 2) q (S.map Sp.key).length (loc (S.map Sp.key)) ?_ ?_ c.key ?_ ?_ ?_); (exact rfl); (exact S2.out.mp); (exact HV.out); (exact rfl))
            go_roundw
            case rel =>
              have T2 := (T1.out.setOf hlt (k := k) (by rw [HC.out]; exact HKK.out)).few (Nat.le_succ q)
              rw [List.set_set] at T2
              have heq : spF (A.take (q + 1)) = S.set k { S[k] with w := (c.p : Int), la := c.p } := by rw [HSP.out, HST.out, HCW.out, if_pos ⟨rfl, by rw [HSW.out]; exact hneg⟩]
              rw [← heq] at T2
              exact ⟨q + 1, _, by omega, by go_num, T2⟩
            case measure => simp [intOf]; omega
          · have T1 := hid (S2.out.setS (j := 4) hkS (by decide) (.int .i64 (c.p : Int)) { S[k] with la := c.p } rfl rfl)
            have rc1 := T1.out.b1
            have ro := T1.out.of.cell hlt
            have rf := T1.out.of.free q
            go_wp2_with ((with_reducible refine mapGetI (F := F98) keyed98 Ybad.underlying55 (tm := 35) (tk := 36) (w.heap.size + 2) q (S.map Sp.key).length (loc (S.map Sp.key)) ?_ ?_ c.key ?_ ?_ ?_); (exact rfl); (exact S2.out.mp); (exact HV.out); (exact rfl))
            go_roundw
            case rel =>
              have T2 := (T1.out.setOf hlt (k := k) (by rw [HC.out]; exact HKK.out)).few (Nat.le_succ q)
              have e : (if true = true ∧ S[k].w < 0 then (c.p : Int) else S[k].w) = S[k].w := if_neg (fun h => hneg (by rw [← HSW.out]; exact h.2))
              have heq : spF (A.take (q + 1)) = S.set k { S[k] with la := c.p } := by rw [HSP.out, HST.out, HCW.out, e]
              rw [← heq] at T2
              exact ⟨q + 1, _, by omega, by go_num, T2⟩
            case measure => simp [intOf]; omega
      · have hl1 : (loc (S.map Sp.key) c.key).getD 0 = (0 : Int) := by rw [loc_not hm]; rfl
        have hl2 : (loc (S.map Sp.key) c.key).isSome = false := by rw [loc_not hm]; rfl
        have hkk : ix (keysF A) c.key = S.length := by rw [HKX.out]; unfold keysF; rw [HSP.out, keys_new hm, ix_new hm]; simp
        have HKK := hid hkk
        have HST := hid (show spStep S c = S ++ [⟨c.x, c.i, c.p, if c.w = true then (c.p : Int) else -1, c.p⟩] from by unfold spStep; rw [if_neg hm])
        have HNW := hid hm
        clear hm hkk
        obtain ⟨al, capl, rfl, _, _⟩ := els_own S2.out.own
        have ECP := hid (show ((wr.alloc (.cells #[.int .i64 (c.x : Int), .int .i64 (c.i : Int), .int .i64 (c.p : Int), .bool cw] 100)).alloc (.cells #[.int .i64 (c.i : Int), .int .i64 (c.x : Int)] 98)).heap[wr.heap.size]? = some (.cells #[.int .i64 (c.x : Int), .int .i64 (c.i : Int), .int .i64 (c.p : Int), .bool cw] 100 (0, 0)) from (Below.heap_alloc _ _ _ (by simp)).trans (heap_alloc_new wr _))
        cases cw
        · go_wp2_with (first
            | ((with_reducible refine mapGetI (F := F98) keyed98 Ybad.underlying55 (tm := 35) (tk := 36) (w.heap.size + 2) q (S.map Sp.key).length (loc (S.map Sp.key)) ?_ ?_ c.key ?_ ?_ ?_); (exact rfl); (exact S2.out.mp); (exact HV.out); (exact rfl))
            | ((with_reducible refine mapPutI (F := F98) keyed98 Ybad.underlying55 (tm := 46) (tk := 47) (tv := 48) (w.heap.size + 2) q (S.map Sp.key).length (loc (S.map Sp.key)) ?_ ?_ ?_ c.key ?_ ?_ (S.length : Int) ?_ ?_ ?_); (exact rfl); (exact S2.out.mp); omega; (exact HV.out); (exact rfl); (exact ⟨by omega, by omega⟩); (exact rfl); (intro w1 hmap1 hgrow1 hsz1); (rw [hl2] at hmap1); (have e100 : w1.heap[wr.heap.size]? = some (.cells #[.int .i64 (c.x : Int), .int .i64 (c.i : Int), .int .i64 (c.p : Int), .bool false] 100 (0, 0)) := (hgrow1.block wr.heap.size (by simp; omega) (by simp; omega)).trans ((Below.heap_alloc _ _ _ (by simp)).trans (heap_alloc_new wr _))); (have k0 : w1.cell? ⟨wr.heap.size, 0, none⟩ = some (.int .i64 (c.x : Int)) := by rw [cell_of_row _ _ _ _ _ _ e100]; rfl); (have k1 : w1.cell? ⟨wr.heap.size, 1, none⟩ = some (.int .i64 (c.i : Int)) := by rw [cell_of_row _ _ _ _ _ _ e100]; rfl); (have k2 : w1.cell? ⟨wr.heap.size, 2, none⟩ = some (.int .i64 (c.p : Int)) := by rw [cell_of_row _ _ _ _ _ _ e100]; rfl); (have E100 := hid e100); (have kl := (S2.out.own1 hgrow1).2.2); (have M1 := hid hmap1); (have G1 := hid hgrow1); clear hmap1 hgrow1 e100)
            | ((with_reducible refine bs102 (t := 57) ⟨c.x, c.i, c.p, -1, 0⟩ ?_ ?_); (exact rfl))
            | ((with_reducible refine apK Ybad.E53 (t := 50) (u := 58) (w.heap.size + 4) (.slice al S.length capl) S.length (rowS S) (Sp.cells ⟨c.x, c.i, c.p, -1, 0⟩) w1.heap.size ?_ ?_ ?_ ?_ ?_ ?_ ?_ ?_ ?_); (exact rfl); (exact rfl); (exact (S2.out.own1 G1.out).1.alloc _); (exact heap_alloc_new _ _); (exact rfl); (exact Sp.one _); omega; (have := (S2.out.own1 G1.out).2.1; simp; omega); (intro g1 cap1 wE hownE hgE _ _); (obtain ⟨d0, f0, H9⟩ := S2.out.grow HNW.out (sp := ⟨c.x, c.i, c.p, -1, 0⟩) rfl M1.out G1.out hownE hgE); (have EUX := (S2.out.copy ECP.out hlt3 G1.out hgE (.slice (some ⟨g1, 0, none⟩) (S.length + 1) cap1)).2); (have m2 : (wE.setCell ⟨w.heap.size + 3, 0, none⟩ (.slice (some ⟨g1, 0, none⟩) (S.length + 1) cap1)).cell? ⟨wr.heap.size, 2, none⟩ = some (.int .i64 (c.p : Int)) := by rw [cell_of_row _ _ _ _ _ _ EUX]; rfl); (have m3 : (wE.setCell ⟨w.heap.size + 3, 0, none⟩ (.slice (some ⟨g1, 0, none⟩) (S.length + 1) cap1)).cell? ⟨wr.heap.size, 3, none⟩ = some (.bool false) := by rw [cell_of_row _ _ _ _ _ _ EUX]; rfl); (have T0 := hid (SpSt.len H9.out (by simp))); (have tb0 := H9.out.b0); (obtain ⟨d3, f3, d4, f4⟩ := T0.out.at_new); (have T1 := hid (T0.out.setS (k := S.length) (j := 4) (by simp) (by decide) (.int .i64 (c.p : Int)) ⟨c.x, c.i, c.p, -1, c.p⟩ (by simp [Sp.cells]) (by simp [Sp.key]))); (have rc1 := T1.out.b1); (have ro := T1.out.of.cell hlt); (have rf := T1.out.of.free q); clear hownE hgE EUX))
          go_roundw
          case rel =>
            have T2 := T1.out.setOf hlt (k := S.length) (by rw [HC.out]; exact HKK.out)
            have e : (S ++ [(⟨c.x, c.i, c.p, -1, 0⟩ : Sp)]).set S.length ⟨c.x, c.i, c.p, -1, c.p⟩ = S ++ [⟨c.x, c.i, c.p, if false = true then (c.p : Int) else -1, c.p⟩] := by simp
            have heq : spF (A.take (q + 1)) = S ++ [⟨c.x, c.i, c.p, if false = true then (c.p : Int) else -1, c.p⟩] := by rw [HSP.out, HST.out, HCW.out]
            rw [e, ← heq] at T2
            exact ⟨q + 1, _, by omega, by go_num, T2⟩
          case measure => simp [intOf]; omega
        · go_wp2_with (first
            | ((with_reducible refine mapGetI (F := F98) keyed98 Ybad.underlying55 (tm := 35) (tk := 36) (w.heap.size + 2) q (S.map Sp.key).length (loc (S.map Sp.key)) ?_ ?_ c.key ?_ ?_ ?_); (exact rfl); (exact S2.out.mp); (exact HV.out); (exact rfl))
            | ((with_reducible refine mapPutI (F := F98) keyed98 Ybad.underlying55 (tm := 46) (tk := 47) (tv := 48) (w.heap.size + 2) q (S.map Sp.key).length (loc (S.map Sp.key)) ?_ ?_ ?_ c.key ?_ ?_ (S.length : Int) ?_ ?_ ?_); (exact rfl); (exact S2.out.mp); omega; (exact HV.out); (exact rfl); (exact ⟨by omega, by omega⟩); (exact rfl); (intro w1 hmap1 hgrow1 hsz1); (rw [hl2] at hmap1); (have e100 : w1.heap[wr.heap.size]? = some (.cells #[.int .i64 (c.x : Int), .int .i64 (c.i : Int), .int .i64 (c.p : Int), .bool true] 100 (0, 0)) := (hgrow1.block wr.heap.size (by simp; omega) (by simp; omega)).trans ((Below.heap_alloc _ _ _ (by simp)).trans (heap_alloc_new wr _))); (have k0 : w1.cell? ⟨wr.heap.size, 0, none⟩ = some (.int .i64 (c.x : Int)) := by rw [cell_of_row _ _ _ _ _ _ e100]; rfl); (have k1 : w1.cell? ⟨wr.heap.size, 1, none⟩ = some (.int .i64 (c.i : Int)) := by rw [cell_of_row _ _ _ _ _ _ e100]; rfl); (have k2 : w1.cell? ⟨wr.heap.size, 2, none⟩ = some (.int .i64 (c.p : Int)) := by rw [cell_of_row _ _ _ _ _ _ e100]; rfl); (have E100 := hid e100); (have kl := (S2.out.own1 hgrow1).2.2); (have M1 := hid hmap1); (have G1 := hid hgrow1); clear hmap1 hgrow1 e100)
            | ((with_reducible refine bs102 (t := 57) ⟨c.x, c.i, c.p, -1, 0⟩ ?_ ?_); (exact rfl))
            | ((with_reducible refine apK Ybad.E53 (t := 50) (u := 58) (w.heap.size + 4) (.slice al S.length capl) S.length (rowS S) (Sp.cells ⟨c.x, c.i, c.p, -1, 0⟩) w1.heap.size ?_ ?_ ?_ ?_ ?_ ?_ ?_ ?_ ?_); (exact rfl); (exact rfl); (exact (S2.out.own1 G1.out).1.alloc _); (exact heap_alloc_new _ _); (exact rfl); (exact Sp.one _); omega; (have := (S2.out.own1 G1.out).2.1; simp; omega); (intro g1 cap1 wE hownE hgE _ _); (obtain ⟨d0, f0, H9⟩ := S2.out.grow HNW.out (sp := ⟨c.x, c.i, c.p, -1, 0⟩) rfl M1.out G1.out hownE hgE); (have EUX := (S2.out.copy ECP.out hlt3 G1.out hgE (.slice (some ⟨g1, 0, none⟩) (S.length + 1) cap1)).2); (have m2 : (wE.setCell ⟨w.heap.size + 3, 0, none⟩ (.slice (some ⟨g1, 0, none⟩) (S.length + 1) cap1)).cell? ⟨wr.heap.size, 2, none⟩ = some (.int .i64 (c.p : Int)) := by rw [cell_of_row _ _ _ _ _ _ EUX]; rfl); (have m3 : (wE.setCell ⟨w.heap.size + 3, 0, none⟩ (.slice (some ⟨g1, 0, none⟩) (S.length + 1) cap1)).cell? ⟨wr.heap.size, 3, none⟩ = some (.bool true) := by rw [cell_of_row _ _ _ _ _ _ EUX]; rfl); (have T0 := hid (SpSt.len H9.out (by simp))); (have tb0 := H9.out.b0); (obtain ⟨d3, f3, d4, f4⟩ := T0.out.at_new); (have T0b := hid (T0.out.setS (k := S.length) (j := 3) (by simp) (by decide) (.int .i64 (c.p : Int)) ⟨c.x, c.i, c.p, (c.p : Int), 0⟩ (by simp [Sp.cells]) (by simp [Sp.key]))); (have T1 := hid (T0b.out.setS (k := S.length) (j := 4) (by simp) (by decide) (.int .i64 (c.p : Int)) ⟨c.x, c.i, c.p, (c.p : Int), c.p⟩ (by simp [Sp.cells]) (by simp [Sp.key]))); (have e4 := T0b.out.at (k := S.length) (by simp)); (have d4' := e4.2.2.1); (have f4' := e4.2.2.2); (have rc1 := T1.out.b1); (have ro := T1.out.of.cell hlt); (have rf := T1.out.of.free q); clear hownE hgE EUX))
          go_roundw
          case rel =>
            have T2 := T1.out.setOf hlt (k := S.length) (by rw [HC.out]; exact HKK.out)
            have e : ((S ++ [(⟨c.x, c.i, c.p, -1, 0⟩ : Sp)]).set S.length ⟨c.x, c.i, c.p, (c.p : Int), 0⟩).set S.length ⟨c.x, c.i, c.p, (c.p : Int), c.p⟩ = S ++ [⟨c.x, c.i, c.p, if true = true then (c.p : Int) else -1, c.p⟩] := by simp
            have heq : spF (A.take (q + 1)) = S ++ [⟨c.x, c.i, c.p, if true = true then (c.p : Int) else -1, c.p⟩] := by rw [HSP.out, HST.out, HCW.out]
            rw [e, ← heq] at T2
            exact ⟨q + 1, _, by omega, by go_num, T2⟩
          case measure => simp [intOf]; omega
    · obtain rfl : q = A.length := by omega
      rw [List.take_length] at ST
      obtain ⟨al, capl, rfl, _, _⟩ := els_own ST.out.own
      have rb0 := ST.out.b0
      have rb1 := ST.out.b1
      have rb2 := ST.out.b2
      go_wp2_with ((with_reducible refine st57r (t := 2) (u := 90) w.heap.size #[.slice al (spF A).length capl, .slice (some ⟨w.heap.size + 1, 0, none⟩) A.length A.length, .map (some (w.heap.size + 2))] ?_ ?_ ?_ ?_ ?_ ?_); (exact rfl); (exact rfl); (exact ST.out.res); (exact rfl); (simp [Value.oneCell']))
      refine bodyPost_ret (results_cell_row rfl _ _ w.heap.size 57 #[.slice al (spF A).length capl, .slice (some ⟨w.heap.size + 1, 0, none⟩) A.length A.length, .map (some (w.heap.size + 2))] (0, 0) _ rfl (setRow_heap _ _ _ _ _ _ ST.out.res) Ybad.underlying57 rfl Ybad.size57) rfl ?_
      have hg : wr.grownBy (wr.setRow w.heap.size #[.slice al (spF A).length capl, .slice (some ⟨w.heap.size + 1, 0, none⟩) A.length A.length, .map (some (w.heap.size + 2))]) (some w.heap.size) := ⟨rfl, rfl, rfl, by simp, fun k _ hk => setRow_other _ _ _ _ (by intro e; exact hk (by rw [e]))⟩
      exact ⟨_, rfl, SlS.of_own (ST.out.own.kept hg (.inr (own_apart ST.out.own ST.out.res (by decide)))), ST.out.of.grown hg (by simp), by have := MapF.kept ST.out.mp hg (by simp); exact this, ST.out.bel.grown hg ST.out.bel.size (fun k e => by cases e; exact Nat.le_refl _)⟩

end Go.Proofs.YbulkbgasDoor
